import JvmDerived
import JvmDerived.Pilot.@@N@@Statement
import JvmDerived.Pilot.@@N@@Code
set_option linter.unusedVariables false
set_option linter.unusedSimpArgs false
set_option maxHeartbeats 40000000
namespace Jvm.Pilot.@@N@@
open Jvm Jvm.ClassFile Sem Op Lib Jvm.Free Jvm.Stand Jvm.LawKit Jvm.RoadKit Bundle Jvm.Pilot.@@N@@.Jvm.D
/-! ## own kit: a small logic of walks -/
/-- the walk's fixed surroundings -/
def Cx (p : Program) (s : State) (m : MethodId) (meth : Method) (c : Code) (Z : State) (own : String) (bytes : ByteArray) (maxL : Nat) (ret : Option FieldType) (nm : String) : Prop :=
  p.tables.exec = Jvm.exec ∧ c.code = bytes ∧ c.maxLocals = maxL ∧ Z.Warmed39 s.vm ∧ s.vm.findClass own = some m.cls ∧ meth.sig.returnType = ret ∧ meth.locks = false ∧ meth.name = nm
/-- from every state that stands at heap h with frame g, having made at most so many cells and slots, the walk comes to a good end -/
def AtW (p : Program) (l : Launch) (e : Env) (R : Room) (s : State) (m : MethodId) (args : Array Value) (below : List Frame) (meth : Method) (c : Code) (n0 : Nat) (Q : Option Value → Heap → Prop) (h : Heap) (cells slots : Nat) (g : JFrame) : Prop :=
  ∀ (T : State) (locs : List Loc) (k n : Nat), Stand p l e R s m args below meth c T locs k n → k ≤ cells → n ≤ slots → T.heap = h → Fr n0 locs →
    ∃ t o, Steps p.tables e below (T.setTop g) t ∧ t.status = .running ∧ Ended t below o ∧ ∃ v L, o = .returned v ∧ (Fr n0 L ∧ Q v t.heap) ∧ FrameEnd s o t L R.cells R.slots
/-- a body's contract: called with 'as' at heap h0 it returns some v at some h with Q v h, and writes nothing below n0 -/
def Ct (ws : List Jvm.Cond) (l : Launch) (Z : State) (n0 : Nat) (y : MethodName) (bytes : ByteArray) (maxL : Nat) (ret : Option FieldType) (rm : Room) (as : Array Value) (h0 : Heap) (Q : Option Value → Heap → Prop) : Prop :=
  MetFree l y (head1 (Jvm.Cond.code y bytes maxL ret :: ws) rm) (fun a U => a = as ∧ Z.Warmed39 U.vm ∧ U.heap = h0) (fun _ _ _ _ _ => True)
    (fun _ U o U' => ∃ v L, o = .returned v ∧ (Fr n0 L ∧ Q v U'.heap) ∧ FrameEnd U o U' L rm.cells rm.slots)
theorem own_leb {a b : Nat} (h : Nat.ble a b = true) : a ≤ b := Nat.le_of_ble_eq_true h
theorem own_ltb {a b : Nat} (h : Nat.ble (a + 1) b = true) : a < b := Nat.le_of_ble_eq_true h
/-- the class is found and is no interface -/
def NI (s : State) (C : String) : Prop := ∃ c k, s.vm.findClass C = some c ∧ s.vm.classes[c]? = some k ∧ k.isInterface = false
theorem NI.of_inst {s : State} {args : Array Value} {C : String} {n : Nat} (w : (Jvm.Cond.instantiable C n).before args s = true) : NI s C := by
  obtain ⟨c, k, hc, hk, -, h, -⟩ := Cond.instantiable_spec w
  exact ⟨c, k, hc, hk, (Bool.or_eq_false_iff.mp h).1⟩
theorem NI.of_sel {s : State} {args : Array Value} {C : String} {y z : MethodName} (w : (Jvm.Cond.selects C y z).before args s = true) : NI s z.cls := by
  obtain ⟨c, r, m, -, -, hn, -, k, hk, hi⟩ := Cond.selects_spec w
  exact ⟨m.cls, k, findClass_of_methodNamed hn, hk, hi⟩
theorem NI.nf {s : State} {y : MethodName} (w : NI s y.cls) : NotFace s y := fun r0 h0 => by
  obtain ⟨c, k, hc, hk, hi⟩ := w
  cases (findClass_of_methodNamed h0).symm.trans hc
  exact ⟨k, hk, hi⟩
section Wk
variable {p : Program} {l : Launch} {e : Env} {R : Room} {s : State} {m : MethodId} {args : Array Value} {below : List Frame} {meth : Method} {c : Code} {n0 : Nat} {Q : Option Value → Heap → Prop} {h : Heap} {cells slots : Nat} {Z : State} {own : String} {bytes : ByteArray} {maxL : Nat} {ret : Option FieldType} {nm : String} {a0 : Array Value} {pc q : Nat} {L L' : Array Slot} {S : List Value}
theorem Ct.intro {ws : List Jvm.Cond} {y : MethodName} {rm : Room} {as : Array Value} (hp : plainFor y = true)
    (k : ∀ p e s m below meth c, Cx p s m meth c Z y.cls bytes maxL ret y.name → AtW p l e rm s m as below meth c n0 Q h 0 0 (entryFrame m as maxL)) : Ct ws l Z n0 y bytes maxL ret rm as h Q := by
  refine MetFree.of_bodySF hp hisR ?_
  intro p e s m args below meth c s₁ Bd hml0 hP hK
  obtain ⟨rfl, hZ, hh⟩ := hP
  have X0 := Stand.of_body Bd
  refine k p e s m below meth c ⟨Bd.exec, Bd.bytes, hml0, hZ, findClass_of_methodNamed Bd.named, Bd.returns, Bd.notSynchronized, (name_of_methodNamed Bd.named Bd.method).1⟩ s₁ [] 0 0 X0 (Nat.le_refl _) (Nat.le_refl _) ?_ (Fr.nil n0)
  rw [← hh, Bd.state]; rfl
theorem AtW.mono {g : JFrame} {cells' slots' : Nat} (K : AtW p l e R s m args below meth c n0 Q h cells' slots' g) (h1 : cells ≤ cells') (h2 : slots ≤ slots') : AtW p l e R s m args below meth c n0 Q h cells slots g :=
  fun T locs k n X hk hn eT N => K T locs k n X (Nat.le_trans hk h1) (Nat.le_trans hn h2) eT N
theorem AtW.go {g g' : JFrame} (K : AtW p l e R s m args below meth c n0 Q h cells slots g') (st : ∀ T, At T m c below → ∀ t, Steps p.tables e below (T.setTop g') t → Steps p.tables e below (T.setTop g) t) : AtW p l e R s m args below meth c n0 Q h cells slots g :=
  fun T locs k n X hk hn eT N => by
    obtain ⟨t, o, r1, r⟩ := K T locs k n X hk hn eT N
    exact ⟨t, o, st T X.here t r1, r⟩
theorem AtW.goX {g g' : JFrame} (K : AtW p l e R s m args below meth c n0 Q h cells slots g') (st : ∀ T locs k n, Stand p l e R s m args below meth c T locs k n → T.heap = h → ∀ t, Steps p.tables e below (T.setTop g') t → Steps p.tables e below (T.setTop g) t) : AtW p l e R s m args below meth c n0 Q h cells slots g :=
  fun T locs k n X hk hn eT N => by
    obtain ⟨t, o, r1, r⟩ := K T locs k n X hk hn eT N
    exact ⟨t, o, st T locs k n X eT t r1, r⟩
theorem AtW.cast {g g' : JFrame} (K : AtW p l e R s m args below meth c n0 Q h cells slots g') (q : g = g') : AtW p l e R s m args below meth c n0 Q h cells slots g := by rw [q]; exact K

theorem w_iload (C : Cx p s m meth c Z own bytes maxL ret nm) {k : Nat} {v : Int32} (hl : L[k]? = some (.val (.int v))) (hd : decode bytes pc = .ok (.iload k, 2)) (hq : pc + 2 = q) (K : AtW p l e R s m args below meth c n0 Q h cells slots (mkF m q L (.int v :: S))) : AtW p l e R s m args below meth c n0 Q h cells slots (mkF m pc L S) := by
  subst hq
  exact K.go fun T hA t st => XS.iload hA C.1 rfl (hb C.2.1 hd) hl st
theorem w_iloadN (C : Cx p s m meth c Z own bytes maxL ret nm) {k : Fin 4} {v : Int32} (hl : L[k.val]? = some (.val (.int v))) (hd : decode bytes pc = .ok (.iload_n k, 1)) (hq : pc + 1 = q) (K : AtW p l e R s m args below meth c n0 Q h cells slots (mkF m q L (.int v :: S))) : AtW p l e R s m args below meth c n0 Q h cells slots (mkF m pc L S) := by
  subst hq
  exact K.go fun T hA t st => XS.iloadN hA C.1 rfl (hb C.2.1 hd) hl st
theorem w_istore (C : Cx p s m meth c Z own bytes maxL ret nm) {k : Nat} {v : Int32} (hl : storeLocals L k (.int v) = some L') (hd : decode bytes pc = .ok (.istore k, 2)) (hq : pc + 2 = q) (K : AtW p l e R s m args below meth c n0 Q h cells slots (mkF m q L' S)) : AtW p l e R s m args below meth c n0 Q h cells slots (mkF m pc L (.int v :: S)) := by
  subst hq
  exact K.go fun T hA t st => XS.istore hA C.1 rfl (hb C.2.1 hd) rfl hl st
theorem w_istoreN (C : Cx p s m meth c Z own bytes maxL ret nm) {k : Fin 4} {v : Int32} (hl : storeLocals L k.val (.int v) = some L') (hd : decode bytes pc = .ok (.istore_n k, 1)) (hq : pc + 1 = q) (K : AtW p l e R s m args below meth c n0 Q h cells slots (mkF m q L' S)) : AtW p l e R s m args below meth c n0 Q h cells slots (mkF m pc L (.int v :: S)) := by
  subst hq
  exact K.go fun T hA t st => XS.istoreN hA C.1 rfl (hb C.2.1 hd) rfl hl st
theorem w_lload (C : Cx p s m meth c Z own bytes maxL ret nm) {k : Nat} {v : Int64} (hl : L[k]? = some (.val (.long v))) (hd : decode bytes pc = .ok (.lload k, 2)) (hq : pc + 2 = q) (K : AtW p l e R s m args below meth c n0 Q h cells slots (mkF m q L (.long v :: S))) : AtW p l e R s m args below meth c n0 Q h cells slots (mkF m pc L S) := by
  subst hq
  exact K.go fun T hA t st => XS.lload hA C.1 rfl (hb C.2.1 hd) hl st
theorem w_lloadN (C : Cx p s m meth c Z own bytes maxL ret nm) {k : Fin 4} {v : Int64} (hl : L[k.val]? = some (.val (.long v))) (hd : decode bytes pc = .ok (.lload_n k, 1)) (hq : pc + 1 = q) (K : AtW p l e R s m args below meth c n0 Q h cells slots (mkF m q L (.long v :: S))) : AtW p l e R s m args below meth c n0 Q h cells slots (mkF m pc L S) := by
  subst hq
  exact K.go fun T hA t st => XS.lloadN hA C.1 rfl (hb C.2.1 hd) hl st
theorem w_lstore (C : Cx p s m meth c Z own bytes maxL ret nm) {k : Nat} {v : Int64} (hl : storeLocals L k (.long v) = some L') (hd : decode bytes pc = .ok (.lstore k, 2)) (hq : pc + 2 = q) (K : AtW p l e R s m args below meth c n0 Q h cells slots (mkF m q L' S)) : AtW p l e R s m args below meth c n0 Q h cells slots (mkF m pc L (.long v :: S)) := by
  subst hq
  exact K.go fun T hA t st => XS.lstore hA C.1 rfl (hb C.2.1 hd) rfl hl st
theorem w_lstoreN (C : Cx p s m meth c Z own bytes maxL ret nm) {k : Fin 4} {v : Int64} (hl : storeLocals L k.val (.long v) = some L') (hd : decode bytes pc = .ok (.lstore_n k, 1)) (hq : pc + 1 = q) (K : AtW p l e R s m args below meth c n0 Q h cells slots (mkF m q L' S)) : AtW p l e R s m args below meth c n0 Q h cells slots (mkF m pc L (.long v :: S)) := by
  subst hq
  exact K.go fun T hA t st => XS.lstoreN hA C.1 rfl (hb C.2.1 hd) rfl hl st
theorem w_aload (C : Cx p s m meth c Z own bytes maxL ret nm) {k : Nat} {v : Value} (hl : L[k]? = some (.val v)) (hv : v.isRef = true) (hd : decode bytes pc = .ok (.aload k, 2)) (hq : pc + 2 = q) (K : AtW p l e R s m args below meth c n0 Q h cells slots (mkF m q L (v :: S))) : AtW p l e R s m args below meth c n0 Q h cells slots (mkF m pc L S) := by
  subst hq
  exact K.go fun T hA t st => XS.aload hA C.1 rfl (hb C.2.1 hd) hl hv st
theorem w_aloadN (C : Cx p s m meth c Z own bytes maxL ret nm) {k : Fin 4} {v : Value} (hl : L[k.val]? = some (.val v)) (hv : v.isRef = true) (hd : decode bytes pc = .ok (.aload_n k, 1)) (hq : pc + 1 = q) (K : AtW p l e R s m args below meth c n0 Q h cells slots (mkF m q L (v :: S))) : AtW p l e R s m args below meth c n0 Q h cells slots (mkF m pc L S) := by
  subst hq
  exact K.go fun T hA t st => XS.aloadN hA C.1 rfl (hb C.2.1 hd) hl hv st
theorem w_astore (C : Cx p s m meth c Z own bytes maxL ret nm) {k : Nat} {v : Value} (hv : v.isRef = true) (hl : storeLocals L k v = some L') (hd : decode bytes pc = .ok (.astore k, 2)) (hq : pc + 2 = q) (K : AtW p l e R s m args below meth c n0 Q h cells slots (mkF m q L' S)) : AtW p l e R s m args below meth c n0 Q h cells slots (mkF m pc L (v :: S)) := by
  subst hq
  exact K.go fun T hA t st => XS.astore hA C.1 rfl (hb C.2.1 hd) rfl hv hl st
theorem w_astoreN (C : Cx p s m meth c Z own bytes maxL ret nm) {k : Fin 4} {v : Value} (hv : v.isRef = true) (hl : storeLocals L k.val v = some L') (hd : decode bytes pc = .ok (.astore_n k, 1)) (hq : pc + 1 = q) (K : AtW p l e R s m args below meth c n0 Q h cells slots (mkF m q L' S)) : AtW p l e R s m args below meth c n0 Q h cells slots (mkF m pc L (v :: S)) := by
  subst hq
  exact K.go fun T hA t st => XS.astoreN hA C.1 rfl (hb C.2.1 hd) rfl hv hl st
theorem w_iconst (C : Cx p s m meth c Z own bytes maxL ret nm) {i : Int} {v : Int32} (hv : Int32.ofInt i = v) (hd : decode bytes pc = .ok (.iconst i, 1)) (hq : pc + 1 = q) (K : AtW p l e R s m args below meth c n0 Q h cells slots (mkF m q L (.int v :: S))) : AtW p l e R s m args below meth c n0 Q h cells slots (mkF m pc L S) := by
  subst hq
  exact K.go fun T hA t st => by subst hv; exact XS.iconst hA C.1 rfl (hb C.2.1 hd) st
theorem w_bipush (C : Cx p s m meth c Z own bytes maxL ret nm) {i : Int} {v : Int32} (hv : (Int8.ofInt i).toInt32 = v) (hd : decode bytes pc = .ok (.bipush i, 2)) (hq : pc + 2 = q) (K : AtW p l e R s m args below meth c n0 Q h cells slots (mkF m q L (.int v :: S))) : AtW p l e R s m args below meth c n0 Q h cells slots (mkF m pc L S) := by
  subst hq
  exact K.go fun T hA t st => by subst hv; exact XS.bipush hA C.1 rfl (hb C.2.1 hd) st
theorem w_sipush (C : Cx p s m meth c Z own bytes maxL ret nm) {i : Int} {v : Int32} (hv : (Int16.ofInt i).toInt32 = v) (hd : decode bytes pc = .ok (.sipush i, 3)) (hq : pc + 3 = q) (K : AtW p l e R s m args below meth c n0 Q h cells slots (mkF m q L (.int v :: S))) : AtW p l e R s m args below meth c n0 Q h cells slots (mkF m pc L S) := by
  subst hq
  exact K.go fun T hA t st => by subst hv; exact XS.sipush hA C.1 rfl (hb C.2.1 hd) st
theorem w_lconst (C : Cx p s m meth c Z own bytes maxL ret nm) {k : Fin 2} {v : Int64} (hv : Int64.ofNat k = v) (hd : decode bytes pc = .ok (.lconst k, 1)) (hq : pc + 1 = q) (K : AtW p l e R s m args below meth c n0 Q h cells slots (mkF m q L (.long v :: S))) : AtW p l e R s m args below meth c n0 Q h cells slots (mkF m pc L S) := by
  subst hq
  exact K.go fun T hA t st => by subst hv; exact XS.lconst hA C.1 rfl (hb C.2.1 hd) st
theorem w_aconst_null (C : Cx p s m meth c Z own bytes maxL ret nm)  (hd : decode bytes pc = .ok (.aconst_null, 1)) (hq : pc + 1 = q) (K : AtW p l e R s m args below meth c n0 Q h cells slots (mkF m q L (.null :: S))) : AtW p l e R s m args below meth c n0 Q h cells slots (mkF m pc L S) := by
  subst hq
  exact K.go fun T hA t st => XS.aconstNull hA C.1 rfl (hb C.2.1 hd) st
theorem w_iadd (C : Cx p s m meth c Z own bytes maxL ret nm) {x y z : Int32} (hz : x + y = z) (hd : decode bytes pc = .ok (.iadd, 1)) (hq : pc + 1 = q) (K : AtW p l e R s m args below meth c n0 Q h cells slots (mkF m q L (.int z :: S))) : AtW p l e R s m args below meth c n0 Q h cells slots (mkF m pc L (.int y :: .int x :: S)) := by
  subst hq
  exact K.go fun T hA t st => by subst hz; exact XS.iadd hA C.1 rfl (hb C.2.1 hd) rfl st
theorem w_isub (C : Cx p s m meth c Z own bytes maxL ret nm) {x y z : Int32} (hz : x - y = z) (hd : decode bytes pc = .ok (.isub, 1)) (hq : pc + 1 = q) (K : AtW p l e R s m args below meth c n0 Q h cells slots (mkF m q L (.int z :: S))) : AtW p l e R s m args below meth c n0 Q h cells slots (mkF m pc L (.int y :: .int x :: S)) := by
  subst hq
  exact K.go fun T hA t st => by subst hz; exact XS.isub hA C.1 rfl (hb C.2.1 hd) rfl st
theorem w_imul (C : Cx p s m meth c Z own bytes maxL ret nm) {x y z : Int32} (hz : x * y = z) (hd : decode bytes pc = .ok (.imul, 1)) (hq : pc + 1 = q) (K : AtW p l e R s m args below meth c n0 Q h cells slots (mkF m q L (.int z :: S))) : AtW p l e R s m args below meth c n0 Q h cells slots (mkF m pc L (.int y :: .int x :: S)) := by
  subst hq
  exact K.go fun T hA t st => by subst hz; exact XS.imul hA C.1 rfl (hb C.2.1 hd) rfl st
theorem w_iand (C : Cx p s m meth c Z own bytes maxL ret nm) {x y z : Int32} (hz : x &&& y = z) (hd : decode bytes pc = .ok (.iand, 1)) (hq : pc + 1 = q) (K : AtW p l e R s m args below meth c n0 Q h cells slots (mkF m q L (.int z :: S))) : AtW p l e R s m args below meth c n0 Q h cells slots (mkF m pc L (.int y :: .int x :: S)) := by
  subst hq
  exact K.go fun T hA t st => by subst hz; exact XS.iand hA C.1 rfl (hb C.2.1 hd) rfl st
theorem w_ior (C : Cx p s m meth c Z own bytes maxL ret nm) {x y z : Int32} (hz : x ||| y = z) (hd : decode bytes pc = .ok (.ior, 1)) (hq : pc + 1 = q) (K : AtW p l e R s m args below meth c n0 Q h cells slots (mkF m q L (.int z :: S))) : AtW p l e R s m args below meth c n0 Q h cells slots (mkF m pc L (.int y :: .int x :: S)) := by
  subst hq
  exact K.go fun T hA t st => by subst hz; exact XS.ior hA C.1 rfl (hb C.2.1 hd) rfl st
theorem w_ixor (C : Cx p s m meth c Z own bytes maxL ret nm) {x y z : Int32} (hz : x ^^^ y = z) (hd : decode bytes pc = .ok (.ixor, 1)) (hq : pc + 1 = q) (K : AtW p l e R s m args below meth c n0 Q h cells slots (mkF m q L (.int z :: S))) : AtW p l e R s m args below meth c n0 Q h cells slots (mkF m pc L (.int y :: .int x :: S)) := by
  subst hq
  exact K.go fun T hA t st => by subst hz; exact XS.ixor hA C.1 rfl (hb C.2.1 hd) rfl st
theorem w_ladd (C : Cx p s m meth c Z own bytes maxL ret nm) {x y z : Int64} (hz : x + y = z) (hd : decode bytes pc = .ok (.ladd, 1)) (hq : pc + 1 = q) (K : AtW p l e R s m args below meth c n0 Q h cells slots (mkF m q L (.long z :: S))) : AtW p l e R s m args below meth c n0 Q h cells slots (mkF m pc L (.long y :: .long x :: S)) := by
  subst hq
  exact K.go fun T hA t st => by subst hz; exact XS.ladd hA C.1 rfl (hb C.2.1 hd) rfl st
theorem w_lsub (C : Cx p s m meth c Z own bytes maxL ret nm) {x y z : Int64} (hz : x - y = z) (hd : decode bytes pc = .ok (.lsub, 1)) (hq : pc + 1 = q) (K : AtW p l e R s m args below meth c n0 Q h cells slots (mkF m q L (.long z :: S))) : AtW p l e R s m args below meth c n0 Q h cells slots (mkF m pc L (.long y :: .long x :: S)) := by
  subst hq
  exact K.go fun T hA t st => by subst hz; exact XS.lsub hA C.1 rfl (hb C.2.1 hd) rfl st
theorem w_lmul (C : Cx p s m meth c Z own bytes maxL ret nm) {x y z : Int64} (hz : x * y = z) (hd : decode bytes pc = .ok (.lmul, 1)) (hq : pc + 1 = q) (K : AtW p l e R s m args below meth c n0 Q h cells slots (mkF m q L (.long z :: S))) : AtW p l e R s m args below meth c n0 Q h cells slots (mkF m pc L (.long y :: .long x :: S)) := by
  subst hq
  exact K.go fun T hA t st => by subst hz; exact XS.lmul hA C.1 rfl (hb C.2.1 hd) rfl st
theorem w_land (C : Cx p s m meth c Z own bytes maxL ret nm) {x y z : Int64} (hz : x &&& y = z) (hd : decode bytes pc = .ok (.land, 1)) (hq : pc + 1 = q) (K : AtW p l e R s m args below meth c n0 Q h cells slots (mkF m q L (.long z :: S))) : AtW p l e R s m args below meth c n0 Q h cells slots (mkF m pc L (.long y :: .long x :: S)) := by
  subst hq
  exact K.go fun T hA t st => by subst hz; exact XS.land hA C.1 rfl (hb C.2.1 hd) rfl st
theorem w_lor (C : Cx p s m meth c Z own bytes maxL ret nm) {x y z : Int64} (hz : x ||| y = z) (hd : decode bytes pc = .ok (.lor, 1)) (hq : pc + 1 = q) (K : AtW p l e R s m args below meth c n0 Q h cells slots (mkF m q L (.long z :: S))) : AtW p l e R s m args below meth c n0 Q h cells slots (mkF m pc L (.long y :: .long x :: S)) := by
  subst hq
  exact K.go fun T hA t st => by subst hz; exact XS.lor hA C.1 rfl (hb C.2.1 hd) rfl st
theorem w_lxor (C : Cx p s m meth c Z own bytes maxL ret nm) {x y z : Int64} (hz : x ^^^ y = z) (hd : decode bytes pc = .ok (.lxor, 1)) (hq : pc + 1 = q) (K : AtW p l e R s m args below meth c n0 Q h cells slots (mkF m q L (.long z :: S))) : AtW p l e R s m args below meth c n0 Q h cells slots (mkF m pc L (.long y :: .long x :: S)) := by
  subst hq
  exact K.go fun T hA t st => by subst hz; exact XS.lxor hA C.1 rfl (hb C.2.1 hd) rfl st
theorem w_ishl (C : Cx p s m meth c Z own bytes maxL ret nm) {x y z : Int32} (hz : x <<< (y &&& 31) = z) (hd : decode bytes pc = .ok (.ishl, 1)) (hq : pc + 1 = q) (K : AtW p l e R s m args below meth c n0 Q h cells slots (mkF m q L (.int z :: S))) : AtW p l e R s m args below meth c n0 Q h cells slots (mkF m pc L (.int y :: .int x :: S)) := by
  subst hq
  exact K.go fun T hA t st => by subst hz; exact XS.ishl hA C.1 rfl (hb C.2.1 hd) rfl st
theorem w_ishr (C : Cx p s m meth c Z own bytes maxL ret nm) {x y z : Int32} (hz : x >>> (y &&& 31) = z) (hd : decode bytes pc = .ok (.ishr, 1)) (hq : pc + 1 = q) (K : AtW p l e R s m args below meth c n0 Q h cells slots (mkF m q L (.int z :: S))) : AtW p l e R s m args below meth c n0 Q h cells slots (mkF m pc L (.int y :: .int x :: S)) := by
  subst hq
  exact K.go fun T hA t st => by subst hz; exact XS.ishr hA C.1 rfl (hb C.2.1 hd) rfl st
theorem w_iushr (C : Cx p s m meth c Z own bytes maxL ret nm) {x y z : Int32} (hz : (x.toUInt32 >>> (y &&& 31).toUInt32).toInt32 = z) (hd : decode bytes pc = .ok (.iushr, 1)) (hq : pc + 1 = q) (K : AtW p l e R s m args below meth c n0 Q h cells slots (mkF m q L (.int z :: S))) : AtW p l e R s m args below meth c n0 Q h cells slots (mkF m pc L (.int y :: .int x :: S)) := by
  subst hq
  exact K.go fun T hA t st => by subst hz; exact XS.iushr hA C.1 rfl (hb C.2.1 hd) rfl st
theorem w_lshl (C : Cx p s m meth c Z own bytes maxL ret nm) {x z : Int64} {y : Int32} (hz : x <<< (y &&& 0x3f).toInt64 = z) (hd : decode bytes pc = .ok (.lshl, 1)) (hq : pc + 1 = q) (K : AtW p l e R s m args below meth c n0 Q h cells slots (mkF m q L (.long z :: S))) : AtW p l e R s m args below meth c n0 Q h cells slots (mkF m pc L (.int y :: .long x :: S)) := by
  subst hq
  exact K.go fun T hA t st => by subst hz; exact XS.lshl hA C.1 rfl (hb C.2.1 hd) rfl st
theorem w_lshr (C : Cx p s m meth c Z own bytes maxL ret nm) {x z : Int64} {y : Int32} (hz : x >>> (y &&& 0x3f).toInt64 = z) (hd : decode bytes pc = .ok (.lshr, 1)) (hq : pc + 1 = q) (K : AtW p l e R s m args below meth c n0 Q h cells slots (mkF m q L (.long z :: S))) : AtW p l e R s m args below meth c n0 Q h cells slots (mkF m pc L (.int y :: .long x :: S)) := by
  subst hq
  exact K.go fun T hA t st => by subst hz; exact XS.lshr hA C.1 rfl (hb C.2.1 hd) rfl st
theorem w_lushr (C : Cx p s m meth c Z own bytes maxL ret nm) {x z : Int64} {y : Int32} (hz : (x.toUInt64 >>> (y &&& 0x3f).toInt64.toUInt64).toInt64 = z) (hd : decode bytes pc = .ok (.lushr, 1)) (hq : pc + 1 = q) (K : AtW p l e R s m args below meth c n0 Q h cells slots (mkF m q L (.long z :: S))) : AtW p l e R s m args below meth c n0 Q h cells slots (mkF m pc L (.int y :: .long x :: S)) := by
  subst hq
  exact K.go fun T hA t st => by subst hz; exact XS.lushr hA C.1 rfl (hb C.2.1 hd) rfl st
theorem w_idiv (C : Cx p s m meth c Z own bytes maxL ret nm) {x y z : Int32} (hy : y ≠ 0) (hz : x / y = z) (hd : decode bytes pc = .ok (.idiv, 1)) (hq : pc + 1 = q) (K : AtW p l e R s m args below meth c n0 Q h cells slots (mkF m q L (.int z :: S))) : AtW p l e R s m args below meth c n0 Q h cells slots (mkF m pc L (.int y :: .int x :: S)) := by
  subst hq
  exact K.go fun T hA t st => by subst hz; exact XS.idiv hA C.1 rfl (hb C.2.1 hd) rfl hy st
theorem w_ldiv (C : Cx p s m meth c Z own bytes maxL ret nm) {x y z : Int64} (hy : y ≠ 0) (hz : x / y = z) (hd : decode bytes pc = .ok (.ldiv, 1)) (hq : pc + 1 = q) (K : AtW p l e R s m args below meth c n0 Q h cells slots (mkF m q L (.long z :: S))) : AtW p l e R s m args below meth c n0 Q h cells slots (mkF m pc L (.long y :: .long x :: S)) := by
  subst hq
  exact K.go fun T hA t st => by subst hz; exact XS.ldiv hA C.1 rfl (hb C.2.1 hd) rfl hy st
theorem w_irem (C : Cx p s m meth c Z own bytes maxL ret nm) {x y z : Int32} (hy : y ≠ 0) (hz : x % y = z) (hd : decode bytes pc = .ok (.irem, 1)) (hq : pc + 1 = q) (K : AtW p l e R s m args below meth c n0 Q h cells slots (mkF m q L (.int z :: S))) : AtW p l e R s m args below meth c n0 Q h cells slots (mkF m pc L (.int y :: .int x :: S)) := by
  subst hq
  exact K.go fun T hA t st => by subst hz; rw [← irem_eq_mod x y] at st; exact XS.irem hA C.1 rfl (hb C.2.1 hd) rfl hy st
theorem w_lrem (C : Cx p s m meth c Z own bytes maxL ret nm) {x y z : Int64} (hy : y ≠ 0) (hz : x % y = z) (hd : decode bytes pc = .ok (.lrem, 1)) (hq : pc + 1 = q) (K : AtW p l e R s m args below meth c n0 Q h cells slots (mkF m q L (.long z :: S))) : AtW p l e R s m args below meth c n0 Q h cells slots (mkF m pc L (.long y :: .long x :: S)) := by
  subst hq
  exact K.go fun T hA t st => by subst hz; rw [← lrem_mod x y] at st; exact XS.lrem hA C.1 rfl (hb C.2.1 hd) rfl hy st
theorem w_ineg (C : Cx p s m meth c Z own bytes maxL ret nm) {x : Int32} {z : Int32} (hz : -x = z) (hd : decode bytes pc = .ok (.ineg, 1)) (hq : pc + 1 = q) (K : AtW p l e R s m args below meth c n0 Q h cells slots (mkF m q L (.int z :: S))) : AtW p l e R s m args below meth c n0 Q h cells slots (mkF m pc L (.int x :: S)) := by
  subst hq
  exact K.go fun T hA t st => by subst hz; exact XS.ineg hA C.1 rfl (hb C.2.1 hd) rfl st
theorem w_lneg (C : Cx p s m meth c Z own bytes maxL ret nm) {x : Int64} {z : Int64} (hz : -x = z) (hd : decode bytes pc = .ok (.lneg, 1)) (hq : pc + 1 = q) (K : AtW p l e R s m args below meth c n0 Q h cells slots (mkF m q L (.long z :: S))) : AtW p l e R s m args below meth c n0 Q h cells slots (mkF m pc L (.long x :: S)) := by
  subst hq
  exact K.go fun T hA t st => by subst hz; exact XS.lneg hA C.1 rfl (hb C.2.1 hd) rfl st
theorem w_i2l (C : Cx p s m meth c Z own bytes maxL ret nm) {x : Int32} {z : Int64} (hz : x.toInt64 = z) (hd : decode bytes pc = .ok (.i2l, 1)) (hq : pc + 1 = q) (K : AtW p l e R s m args below meth c n0 Q h cells slots (mkF m q L (.long z :: S))) : AtW p l e R s m args below meth c n0 Q h cells slots (mkF m pc L (.int x :: S)) := by
  subst hq
  exact K.go fun T hA t st => by subst hz; exact XS.i2l hA C.1 rfl (hb C.2.1 hd) rfl st
theorem w_l2i (C : Cx p s m meth c Z own bytes maxL ret nm) {x : Int64} {z : Int32} (hz : x.toInt32 = z) (hd : decode bytes pc = .ok (.l2i, 1)) (hq : pc + 1 = q) (K : AtW p l e R s m args below meth c n0 Q h cells slots (mkF m q L (.int z :: S))) : AtW p l e R s m args below meth c n0 Q h cells slots (mkF m pc L (.long x :: S)) := by
  subst hq
  exact K.go fun T hA t st => by subst hz; exact XS.l2i hA C.1 rfl (hb C.2.1 hd) rfl st
theorem w_i2b (C : Cx p s m meth c Z own bytes maxL ret nm) {x : Int32} {z : Int32} (hz : x.toInt8.toInt32 = z) (hd : decode bytes pc = .ok (.i2b, 1)) (hq : pc + 1 = q) (K : AtW p l e R s m args below meth c n0 Q h cells slots (mkF m q L (.int z :: S))) : AtW p l e R s m args below meth c n0 Q h cells slots (mkF m pc L (.int x :: S)) := by
  subst hq
  exact K.go fun T hA t st => by subst hz; exact XS.i2b hA C.1 rfl (hb C.2.1 hd) rfl st
theorem w_i2s (C : Cx p s m meth c Z own bytes maxL ret nm) {x : Int32} {z : Int32} (hz : x.toInt16.toInt32 = z) (hd : decode bytes pc = .ok (.i2s, 1)) (hq : pc + 1 = q) (K : AtW p l e R s m args below meth c n0 Q h cells slots (mkF m q L (.int z :: S))) : AtW p l e R s m args below meth c n0 Q h cells slots (mkF m pc L (.int x :: S)) := by
  subst hq
  exact K.go fun T hA t st => by subst hz; exact XS.i2s hA C.1 rfl (hb C.2.1 hd) rfl st
theorem w_i2c (C : Cx p s m meth c Z own bytes maxL ret nm) {x : Int32} {z : Int32} (hz : x.toUInt32.toUInt16.toUInt32.toInt32 = z) (hd : decode bytes pc = .ok (.i2c, 1)) (hq : pc + 1 = q) (K : AtW p l e R s m args below meth c n0 Q h cells slots (mkF m q L (.int z :: S))) : AtW p l e R s m args below meth c n0 Q h cells slots (mkF m pc L (.int x :: S)) := by
  subst hq
  exact K.go fun T hA t st => by subst hz; exact XS.i2c hA C.1 rfl (hb C.2.1 hd) rfl st
theorem w_lcmp (C : Cx p s m meth c Z own bytes maxL ret nm) {x y : Int64} {z : Int32} (hz : lcmpW x y = z) (hd : decode bytes pc = .ok (.lcmp, 1)) (hq : pc + 1 = q) (K : AtW p l e R s m args below meth c n0 Q h cells slots (mkF m q L (.int z :: S))) : AtW p l e R s m args below meth c n0 Q h cells slots (mkF m pc L (.long y :: .long x :: S)) := by
  subst hq
  exact K.go fun T hA t st => by subst hz; exact XS.lcmp hA C.1 rfl (hb C.2.1 hd) rfl st
theorem w_dup (C : Cx p s m meth c Z own bytes maxL ret nm) {x : Value} (hc : x.category = 1) (hd : decode bytes pc = .ok (.dup, 1)) (hq : pc + 1 = q) (K : AtW p l e R s m args below meth c n0 Q h cells slots (mkF m q L (x :: x :: S))) : AtW p l e R s m args below meth c n0 Q h cells slots (mkF m pc L (x :: S)) := by
  subst hq
  exact K.go fun T hA t st => XS.dup hA C.1 rfl (hb C.2.1 hd) rfl hc st
theorem w_pop (C : Cx p s m meth c Z own bytes maxL ret nm) {x : Value} (hc : x.category = 1) (hd : decode bytes pc = .ok (.pop, 1)) (hq : pc + 1 = q) (K : AtW p l e R s m args below meth c n0 Q h cells slots (mkF m q L S)) : AtW p l e R s m args below meth c n0 Q h cells slots (mkF m pc L (x :: S)) := by
  subst hq
  exact K.go fun T hA t st => XS.pop hA C.1 rfl (hb C.2.1 hd) rfl hc st
theorem w_dup_x1 (C : Cx p s m meth c Z own bytes maxL ret nm) {x y : Value} (hc : x.category = 1) (hc' : y.category = 1) (hd : decode bytes pc = .ok (.dup_x1, 1)) (hq : pc + 1 = q) (K : AtW p l e R s m args below meth c n0 Q h cells slots (mkF m q L (x :: y :: x :: S))) : AtW p l e R s m args below meth c n0 Q h cells slots (mkF m pc L (x :: y :: S)) := by
  subst hq
  exact K.go fun T hA t st => XS.dupX1 hA C.1 rfl (hb C.2.1 hd) rfl hc hc' st
theorem w_iinc (C : Cx p s m meth c Z own bytes maxL ret nm) {k : Nat} {cst : Int} {x z : Int32} (hl : L[k]? = some (.val (.int x))) (hz : x + Int32.ofInt cst = z) (hl' : storeLocals L k (.int z) = some L') (hd : decode bytes pc = .ok (.iinc k cst, 3)) (hq : pc + 3 = q) (K : AtW p l e R s m args below meth c n0 Q h cells slots (mkF m q L' S)) : AtW p l e R s m args below meth c n0 Q h cells slots (mkF m pc L S) := by
  subst hq
  exact K.go fun T hA t st => by subst hz; exact XS.iinc hA C.1 rfl (hb C.2.1 hd) hl hl' st
theorem w_goto (C : Cx p s m meth c Z own bytes maxL ret nm) {o : Int} (hd : decode bytes pc = .ok (.goto o, 3)) (ho : 0 ≤ (pc : Int) + o) (hp : ((pc : Int) + o).toNat = q) (K : AtW p l e R s m args below meth c n0 Q h cells slots (mkF m q L S)) : AtW p l e R s m args below meth c n0 Q h cells slots (mkF m pc L S) :=
  K.go fun T hA t st => XS.goto hA C.1 rfl (pc0 := pc) (pc' := q) rfl (hb C.2.1 hd) ho hp st
theorem w_icmp_lt_t (C : Cx p s m meth c Z own bytes maxL ret nm) {o : Int} {x y : Int32} (hd : decode bytes pc = .ok (.if_icmp .lt o, 3)) (ho : 0 ≤ (pc : Int) + o) (hp : ((pc : Int) + o).toNat = q) (hc : x < y) (K : AtW p l e R s m args below meth c n0 Q h cells slots (mkF m q L S)) : AtW p l e R s m args below meth c n0 Q h cells slots (mkF m pc L (.int y :: .int x :: S)) :=
  K.go fun T hA t st => XS.icmpYes hA C.1 rfl (pc0 := pc) (pc' := q) rfl (hb C.2.1 hd) rfl (tlt hc).1 ho hp st
theorem w_icmp_lt_f (C : Cx p s m meth c Z own bytes maxL ret nm) {o : Int} {x y : Int32} (hd : decode bytes pc = .ok (.if_icmp .lt o, 3)) (hq : pc + 3 = q) (hc : ¬ x < y) (K : AtW p l e R s m args below meth c n0 Q h cells slots (mkF m q L S)) : AtW p l e R s m args below meth c n0 Q h cells slots (mkF m pc L (.int y :: .int x :: S)) := by
  subst hq
  exact K.go fun T hA t st => XS.icmpNo hA C.1 rfl (hb C.2.1 hd) rfl (flt hc).1 st
theorem w_if_lt_t (C : Cx p s m meth c Z own bytes maxL ret nm) {o : Int} {x : Int32} (hd : decode bytes pc = .ok (.ifCond .lt o, 3)) (ho : 0 ≤ (pc : Int) + o) (hp : ((pc : Int) + o).toNat = q) (hc : x < 0) (K : AtW p l e R s m args below meth c n0 Q h cells slots (mkF m q L S)) : AtW p l e R s m args below meth c n0 Q h cells slots (mkF m pc L (.int x :: S)) :=
  K.go fun T hA t st => XS.ifYes hA C.1 rfl (pc0 := pc) (pc' := q) rfl (hb C.2.1 hd) rfl ((if0 _ _).trans (tlt hc).1) ho hp st
theorem w_if_lt_f (C : Cx p s m meth c Z own bytes maxL ret nm) {o : Int} {x : Int32} (hd : decode bytes pc = .ok (.ifCond .lt o, 3)) (hq : pc + 3 = q) (hc : ¬ x < 0) (K : AtW p l e R s m args below meth c n0 Q h cells slots (mkF m q L S)) : AtW p l e R s m args below meth c n0 Q h cells slots (mkF m pc L (.int x :: S)) := by
  subst hq
  exact K.go fun T hA t st => XS.ifNo hA C.1 rfl (hb C.2.1 hd) rfl ((if0 _ _).trans (flt hc).1) st
theorem w_icmp_ge_t (C : Cx p s m meth c Z own bytes maxL ret nm) {o : Int} {x y : Int32} (hd : decode bytes pc = .ok (.if_icmp .ge o, 3)) (ho : 0 ≤ (pc : Int) + o) (hp : ((pc : Int) + o).toNat = q) (hc : ¬ x < y) (K : AtW p l e R s m args below meth c n0 Q h cells slots (mkF m q L S)) : AtW p l e R s m args below meth c n0 Q h cells slots (mkF m pc L (.int y :: .int x :: S)) :=
  K.go fun T hA t st => XS.icmpYes hA C.1 rfl (pc0 := pc) (pc' := q) rfl (hb C.2.1 hd) rfl (flt hc).2.1 ho hp st
theorem w_icmp_ge_f (C : Cx p s m meth c Z own bytes maxL ret nm) {o : Int} {x y : Int32} (hd : decode bytes pc = .ok (.if_icmp .ge o, 3)) (hq : pc + 3 = q) (hc : x < y) (K : AtW p l e R s m args below meth c n0 Q h cells slots (mkF m q L S)) : AtW p l e R s m args below meth c n0 Q h cells slots (mkF m pc L (.int y :: .int x :: S)) := by
  subst hq
  exact K.go fun T hA t st => XS.icmpNo hA C.1 rfl (hb C.2.1 hd) rfl (tlt hc).2.1 st
theorem w_if_ge_t (C : Cx p s m meth c Z own bytes maxL ret nm) {o : Int} {x : Int32} (hd : decode bytes pc = .ok (.ifCond .ge o, 3)) (ho : 0 ≤ (pc : Int) + o) (hp : ((pc : Int) + o).toNat = q) (hc : ¬ x < 0) (K : AtW p l e R s m args below meth c n0 Q h cells slots (mkF m q L S)) : AtW p l e R s m args below meth c n0 Q h cells slots (mkF m pc L (.int x :: S)) :=
  K.go fun T hA t st => XS.ifYes hA C.1 rfl (pc0 := pc) (pc' := q) rfl (hb C.2.1 hd) rfl ((if0 _ _).trans (flt hc).2.1) ho hp st
theorem w_if_ge_f (C : Cx p s m meth c Z own bytes maxL ret nm) {o : Int} {x : Int32} (hd : decode bytes pc = .ok (.ifCond .ge o, 3)) (hq : pc + 3 = q) (hc : x < 0) (K : AtW p l e R s m args below meth c n0 Q h cells slots (mkF m q L S)) : AtW p l e R s m args below meth c n0 Q h cells slots (mkF m pc L (.int x :: S)) := by
  subst hq
  exact K.go fun T hA t st => XS.ifNo hA C.1 rfl (hb C.2.1 hd) rfl ((if0 _ _).trans (tlt hc).2.1) st
theorem w_icmp_gt_t (C : Cx p s m meth c Z own bytes maxL ret nm) {o : Int} {x y : Int32} (hd : decode bytes pc = .ok (.if_icmp .gt o, 3)) (ho : 0 ≤ (pc : Int) + o) (hp : ((pc : Int) + o).toNat = q) (hc : y < x) (K : AtW p l e R s m args below meth c n0 Q h cells slots (mkF m q L S)) : AtW p l e R s m args below meth c n0 Q h cells slots (mkF m pc L (.int y :: .int x :: S)) :=
  K.go fun T hA t st => XS.icmpYes hA C.1 rfl (pc0 := pc) (pc' := q) rfl (hb C.2.1 hd) rfl (tlt hc).2.2.1 ho hp st
theorem w_icmp_gt_f (C : Cx p s m meth c Z own bytes maxL ret nm) {o : Int} {x y : Int32} (hd : decode bytes pc = .ok (.if_icmp .gt o, 3)) (hq : pc + 3 = q) (hc : ¬ y < x) (K : AtW p l e R s m args below meth c n0 Q h cells slots (mkF m q L S)) : AtW p l e R s m args below meth c n0 Q h cells slots (mkF m pc L (.int y :: .int x :: S)) := by
  subst hq
  exact K.go fun T hA t st => XS.icmpNo hA C.1 rfl (hb C.2.1 hd) rfl (flt hc).2.2.1 st
theorem w_if_gt_t (C : Cx p s m meth c Z own bytes maxL ret nm) {o : Int} {x : Int32} (hd : decode bytes pc = .ok (.ifCond .gt o, 3)) (ho : 0 ≤ (pc : Int) + o) (hp : ((pc : Int) + o).toNat = q) (hc : 0 < x) (K : AtW p l e R s m args below meth c n0 Q h cells slots (mkF m q L S)) : AtW p l e R s m args below meth c n0 Q h cells slots (mkF m pc L (.int x :: S)) :=
  K.go fun T hA t st => XS.ifYes hA C.1 rfl (pc0 := pc) (pc' := q) rfl (hb C.2.1 hd) rfl ((if0 _ _).trans (tlt hc).2.2.1) ho hp st
theorem w_if_gt_f (C : Cx p s m meth c Z own bytes maxL ret nm) {o : Int} {x : Int32} (hd : decode bytes pc = .ok (.ifCond .gt o, 3)) (hq : pc + 3 = q) (hc : ¬ 0 < x) (K : AtW p l e R s m args below meth c n0 Q h cells slots (mkF m q L S)) : AtW p l e R s m args below meth c n0 Q h cells slots (mkF m pc L (.int x :: S)) := by
  subst hq
  exact K.go fun T hA t st => XS.ifNo hA C.1 rfl (hb C.2.1 hd) rfl ((if0 _ _).trans (flt hc).2.2.1) st
theorem w_icmp_le_t (C : Cx p s m meth c Z own bytes maxL ret nm) {o : Int} {x y : Int32} (hd : decode bytes pc = .ok (.if_icmp .le o, 3)) (ho : 0 ≤ (pc : Int) + o) (hp : ((pc : Int) + o).toNat = q) (hc : ¬ y < x) (K : AtW p l e R s m args below meth c n0 Q h cells slots (mkF m q L S)) : AtW p l e R s m args below meth c n0 Q h cells slots (mkF m pc L (.int y :: .int x :: S)) :=
  K.go fun T hA t st => XS.icmpYes hA C.1 rfl (pc0 := pc) (pc' := q) rfl (hb C.2.1 hd) rfl (flt hc).2.2.2 ho hp st
theorem w_icmp_le_f (C : Cx p s m meth c Z own bytes maxL ret nm) {o : Int} {x y : Int32} (hd : decode bytes pc = .ok (.if_icmp .le o, 3)) (hq : pc + 3 = q) (hc : y < x) (K : AtW p l e R s m args below meth c n0 Q h cells slots (mkF m q L S)) : AtW p l e R s m args below meth c n0 Q h cells slots (mkF m pc L (.int y :: .int x :: S)) := by
  subst hq
  exact K.go fun T hA t st => XS.icmpNo hA C.1 rfl (hb C.2.1 hd) rfl (tlt hc).2.2.2 st
theorem w_if_le_t (C : Cx p s m meth c Z own bytes maxL ret nm) {o : Int} {x : Int32} (hd : decode bytes pc = .ok (.ifCond .le o, 3)) (ho : 0 ≤ (pc : Int) + o) (hp : ((pc : Int) + o).toNat = q) (hc : ¬ 0 < x) (K : AtW p l e R s m args below meth c n0 Q h cells slots (mkF m q L S)) : AtW p l e R s m args below meth c n0 Q h cells slots (mkF m pc L (.int x :: S)) :=
  K.go fun T hA t st => XS.ifYes hA C.1 rfl (pc0 := pc) (pc' := q) rfl (hb C.2.1 hd) rfl ((if0 _ _).trans (flt hc).2.2.2) ho hp st
theorem w_if_le_f (C : Cx p s m meth c Z own bytes maxL ret nm) {o : Int} {x : Int32} (hd : decode bytes pc = .ok (.ifCond .le o, 3)) (hq : pc + 3 = q) (hc : 0 < x) (K : AtW p l e R s m args below meth c n0 Q h cells slots (mkF m q L S)) : AtW p l e R s m args below meth c n0 Q h cells slots (mkF m pc L (.int x :: S)) := by
  subst hq
  exact K.go fun T hA t st => XS.ifNo hA C.1 rfl (hb C.2.1 hd) rfl ((if0 _ _).trans (tlt hc).2.2.2) st
theorem w_icmp_eq_t (C : Cx p s m meth c Z own bytes maxL ret nm) {o : Int} {x y : Int32} (hd : decode bytes pc = .ok (.if_icmp .eq o, 3)) (ho : 0 ≤ (pc : Int) + o) (hp : ((pc : Int) + o).toNat = q) (hc : x = y) (K : AtW p l e R s m args below meth c n0 Q h cells slots (mkF m q L S)) : AtW p l e R s m args below meth c n0 Q h cells slots (mkF m pc L (.int y :: .int x :: S)) :=
  K.go fun T hA t st => XS.icmpYes hA C.1 rfl (pc0 := pc) (pc' := q) rfl (hb C.2.1 hd) rfl (teq hc).1 ho hp st
theorem w_icmp_eq_f (C : Cx p s m meth c Z own bytes maxL ret nm) {o : Int} {x y : Int32} (hd : decode bytes pc = .ok (.if_icmp .eq o, 3)) (hq : pc + 3 = q) (hc : ¬ x = y) (K : AtW p l e R s m args below meth c n0 Q h cells slots (mkF m q L S)) : AtW p l e R s m args below meth c n0 Q h cells slots (mkF m pc L (.int y :: .int x :: S)) := by
  subst hq
  exact K.go fun T hA t st => XS.icmpNo hA C.1 rfl (hb C.2.1 hd) rfl (feq hc).1 st
theorem w_if_eq_t (C : Cx p s m meth c Z own bytes maxL ret nm) {o : Int} {x : Int32} (hd : decode bytes pc = .ok (.ifCond .eq o, 3)) (ho : 0 ≤ (pc : Int) + o) (hp : ((pc : Int) + o).toNat = q) (hc : x = 0) (K : AtW p l e R s m args below meth c n0 Q h cells slots (mkF m q L S)) : AtW p l e R s m args below meth c n0 Q h cells slots (mkF m pc L (.int x :: S)) :=
  K.go fun T hA t st => XS.ifYes hA C.1 rfl (pc0 := pc) (pc' := q) rfl (hb C.2.1 hd) rfl ((if0 _ _).trans (teq hc).1) ho hp st
theorem w_if_eq_f (C : Cx p s m meth c Z own bytes maxL ret nm) {o : Int} {x : Int32} (hd : decode bytes pc = .ok (.ifCond .eq o, 3)) (hq : pc + 3 = q) (hc : ¬ x = 0) (K : AtW p l e R s m args below meth c n0 Q h cells slots (mkF m q L S)) : AtW p l e R s m args below meth c n0 Q h cells slots (mkF m pc L (.int x :: S)) := by
  subst hq
  exact K.go fun T hA t st => XS.ifNo hA C.1 rfl (hb C.2.1 hd) rfl ((if0 _ _).trans (feq hc).1) st
theorem w_icmp_ne_t (C : Cx p s m meth c Z own bytes maxL ret nm) {o : Int} {x y : Int32} (hd : decode bytes pc = .ok (.if_icmp .ne o, 3)) (ho : 0 ≤ (pc : Int) + o) (hp : ((pc : Int) + o).toNat = q) (hc : ¬ x = y) (K : AtW p l e R s m args below meth c n0 Q h cells slots (mkF m q L S)) : AtW p l e R s m args below meth c n0 Q h cells slots (mkF m pc L (.int y :: .int x :: S)) :=
  K.go fun T hA t st => XS.icmpYes hA C.1 rfl (pc0 := pc) (pc' := q) rfl (hb C.2.1 hd) rfl (feq hc).2 ho hp st
theorem w_icmp_ne_f (C : Cx p s m meth c Z own bytes maxL ret nm) {o : Int} {x y : Int32} (hd : decode bytes pc = .ok (.if_icmp .ne o, 3)) (hq : pc + 3 = q) (hc : x = y) (K : AtW p l e R s m args below meth c n0 Q h cells slots (mkF m q L S)) : AtW p l e R s m args below meth c n0 Q h cells slots (mkF m pc L (.int y :: .int x :: S)) := by
  subst hq
  exact K.go fun T hA t st => XS.icmpNo hA C.1 rfl (hb C.2.1 hd) rfl (teq hc).2 st
theorem w_if_ne_t (C : Cx p s m meth c Z own bytes maxL ret nm) {o : Int} {x : Int32} (hd : decode bytes pc = .ok (.ifCond .ne o, 3)) (ho : 0 ≤ (pc : Int) + o) (hp : ((pc : Int) + o).toNat = q) (hc : ¬ x = 0) (K : AtW p l e R s m args below meth c n0 Q h cells slots (mkF m q L S)) : AtW p l e R s m args below meth c n0 Q h cells slots (mkF m pc L (.int x :: S)) :=
  K.go fun T hA t st => XS.ifYes hA C.1 rfl (pc0 := pc) (pc' := q) rfl (hb C.2.1 hd) rfl ((if0 _ _).trans (feq hc).2) ho hp st
theorem w_if_ne_f (C : Cx p s m meth c Z own bytes maxL ret nm) {o : Int} {x : Int32} (hd : decode bytes pc = .ok (.ifCond .ne o, 3)) (hq : pc + 3 = q) (hc : x = 0) (K : AtW p l e R s m args below meth c n0 Q h cells slots (mkF m q L S)) : AtW p l e R s m args below meth c n0 Q h cells slots (mkF m pc L (.int x :: S)) := by
  subst hq
  exact K.go fun T hA t st => XS.ifNo hA C.1 rfl (hb C.2.1 hd) rfl ((if0 _ _).trans (teq hc).2) st
theorem w_ifnull_t (C : Cx p s m meth c Z own bytes maxL ret nm) {o : Int} (hd : decode bytes pc = .ok (.ifnull o, 3)) (ho : 0 ≤ (pc : Int) + o) (hp : ((pc : Int) + o).toNat = q) (K : AtW p l e R s m args below meth c n0 Q h cells slots (mkF m q L S)) : AtW p l e R s m args below meth c n0 Q h cells slots (mkF m pc L (.null :: S)) :=
  K.go fun T hA t st => XS.ifnullYes hA C.1 rfl (pc0 := pc) (pc' := q) rfl (hb C.2.1 hd) rfl ho hp st
theorem w_ifnull_f (C : Cx p s m meth c Z own bytes maxL ret nm) {o : Int} {b : Addr} (hd : decode bytes pc = .ok (.ifnull o, 3)) (hq : pc + 3 = q) (K : AtW p l e R s m args below meth c n0 Q h cells slots (mkF m q L S)) : AtW p l e R s m args below meth c n0 Q h cells slots (mkF m pc L ((.ref b) :: S)) := by
  subst hq
  exact K.go fun T hA t st => XS.ifnullNo hA C.1 rfl (hb C.2.1 hd) rfl st
theorem w_ifnonnull_t (C : Cx p s m meth c Z own bytes maxL ret nm) {o : Int} {b : Addr} (hd : decode bytes pc = .ok (.ifnonnull o, 3)) (ho : 0 ≤ (pc : Int) + o) (hp : ((pc : Int) + o).toNat = q) (K : AtW p l e R s m args below meth c n0 Q h cells slots (mkF m q L S)) : AtW p l e R s m args below meth c n0 Q h cells slots (mkF m pc L ((.ref b) :: S)) :=
  K.go fun T hA t st => XS.ifnonnullYes hA C.1 rfl (pc0 := pc) (pc' := q) rfl (hb C.2.1 hd) rfl ho hp st
theorem w_ifnonnull_f (C : Cx p s m meth c Z own bytes maxL ret nm) {o : Int} (hd : decode bytes pc = .ok (.ifnonnull o, 3)) (hq : pc + 3 = q) (K : AtW p l e R s m args below meth c n0 Q h cells slots (mkF m q L S)) : AtW p l e R s m args below meth c n0 Q h cells slots (mkF m pc L (.null :: S)) := by
  subst hq
  exact K.go fun T hA t st => XS.ifnonnullNo hA C.1 rfl (hb C.2.1 hd) rfl st
theorem w_acmp_t (C : Cx p s m meth c Z own bytes maxL ret nm) {cd : ACond} {o : Int} {x y : Value} (hd : decode bytes pc = .ok (.if_acmp cd o, 3)) (h1 : x.isRef = true) (h2 : y.isRef = true) {same : Bool} (hs : decide (x = y) = same) (hcd : acV cd same = true) (ho : 0 ≤ (pc : Int) + o) (hp : ((pc : Int) + o).toNat = q) (K : AtW p l e R s m args below meth c n0 Q h cells slots (mkF m q L S)) : AtW p l e R s m args below meth c n0 Q h cells slots (mkF m pc L (y :: x :: S)) :=
  K.goX fun T locs k n X eT t st => Jvm.RoadKit.acmp (g := mkF m pc L (y :: x :: S)) X C.1 rfl h1 h2 (pc0 := pc) (pc' := q) (same := same) rfl (hb C.2.1 hd) rfl hs ho (by rw [if_pos hcd]; exact hp.symm) st
theorem w_acmp_f (C : Cx p s m meth c Z own bytes maxL ret nm) {cd : ACond} {o : Int} {x y : Value} (hd : decode bytes pc = .ok (.if_acmp cd o, 3)) (h1 : x.isRef = true) (h2 : y.isRef = true) {same : Bool} (hs : decide (x = y) = same) (hcd : acV cd same = false) (ho : 0 ≤ (pc : Int) + o) (hq : pc + 3 = q) (K : AtW p l e R s m args below meth c n0 Q h cells slots (mkF m q L S)) : AtW p l e R s m args below meth c n0 Q h cells slots (mkF m pc L (y :: x :: S)) :=
  K.goX fun T locs k n X eT t st => Jvm.RoadKit.acmp (g := mkF m pc L (y :: x :: S)) X C.1 rfl h1 h2 (pc0 := pc) (pc' := q) (same := same) rfl (hb C.2.1 hd) rfl hs ho (by rw [if_neg (by rw [hcd]; exact Bool.false_ne_true)]; exact hq.symm) st
theorem w_ldcI (C : Cx p s m meth c Z own bytes maxL ret nm) {i : Nat} {v : Int32} (w : (Jvm.Cond.constant own i v).before a0 Z = true) (hd : decode bytes pc = .ok (.ldc i, 2)) (hq : pc + 2 = q) (K : AtW p l e R s m args below meth c n0 Q h cells slots (mkF m q L (.int v :: S))) : AtW p l e R s m args below meth c n0 Q h cells slots (mkF m pc L S) := by
  subst hq
  exact K.goX fun T locs k n X eT t st => X.ldcInt C.1 C.2.2.2.2.1 (mvT C.2.2.2.1 w) (g := mkF m pc L S) rfl (hb C.2.1 hd) t st
theorem w_ldcwI (C : Cx p s m meth c Z own bytes maxL ret nm) {i : Nat} {v : Int32} (w : (Jvm.Cond.constant own i v).before a0 Z = true) (hd : decode bytes pc = .ok (.ldc_w i, 3)) (hq : pc + 3 = q) (K : AtW p l e R s m args below meth c n0 Q h cells slots (mkF m q L (.int v :: S))) : AtW p l e R s m args below meth c n0 Q h cells slots (mkF m pc L S) := by
  subst hq
  exact K.goX fun T locs k n X eT t st => X.ldcwInt C.1 C.2.2.2.2.1 (mvT C.2.2.2.1 w) (g := mkF m pc L S) rfl (hb C.2.1 hd) t st
theorem w_ldc2J (C : Cx p s m meth c Z own bytes maxL ret nm) {i : Nat} {v : Int64} (w : (Jvm.Cond.constantLong own i v).before a0 Z = true) (hd : decode bytes pc = .ok (.ldc2_w i, 3)) (hq : pc + 3 = q) (K : AtW p l e R s m args below meth c n0 Q h cells slots (mkF m q L (.long v :: S))) : AtW p l e R s m args below meth c n0 Q h cells slots (mkF m pc L S) := by
  subst hq
  exact K.goX fun T locs k n X eT t st => X.ldc2Long C.1 C.2.2.2.2.1 (mvT C.2.2.2.1 w) (g := mkF m pc L S) rfl (hb C.2.1 hd) t st

theorem w_getF (C : Cx p s m meth c Z own bytes maxL ret nm) {R0 O n d host : String} {i : Nat} {a : Addr} {v : Value} (w : (Jvm.Cond.fieldLink own i R0 n d).before a0 Z = true ∨ (Jvm.Cond.fieldLinkNest own i R0 n d host).before a0 Z = true) (via : Via Z R0 O n d) (F : Fld Z h a O n d v) (hd : decode bytes pc = .ok (.getfield i, 3)) (hq : pc + 3 = q) (K : AtW p l e R s m args below meth c n0 Q h cells slots (mkF m q L (v :: S))) : AtW p l e R s m args below meth c n0 Q h cells slots (mkF m pc L (.ref a :: S)) := by
  subst hq
  intro T locs k n X hk hn eT N
  obtain ⟨T', X', e', st⟩ := getF X C.1 C.2.2.2.1 (host := host) C.2.2.2.2.1 w via eT F (g := mkF m pc L (.ref a :: S)) rfl rfl (hb C.2.1 hd)
  obtain ⟨t, o, r1, r⟩ := K T' locs k n X' hk hn e' N
  exact ⟨t, o, st _ r1, r⟩
theorem w_getS (C : Cx p s m meth c Z own bytes maxL ret nm) {R0 O n d host : String} {i : Nat} {v : Value} (w : (Jvm.Cond.fieldLink own i R0 n d).before a0 Z = true ∨ (Jvm.Cond.fieldLinkNest own i R0 n d host).before a0 Z = true) (via : Via Z R0 O n d) (F : Sta Z h O n d v) (hd : decode bytes pc = .ok (.getstatic i, 3)) (hq : pc + 3 = q) (K : AtW p l e R s m args below meth c n0 Q h cells slots (mkF m q L (v :: S))) : AtW p l e R s m args below meth c n0 Q h cells slots (mkF m pc L S) := by
  subst hq
  intro T locs k n X hk hn eT N
  obtain ⟨T', X', e', st⟩ := getS2 X C.1 C.2.2.2.1 (host := host) C.2.2.2.2.1 w via eT F (g := mkF m pc L S) rfl (hb C.2.1 hd)
  obtain ⟨t, o, r1, r⟩ := K T' locs k n X' hk hn e' N
  exact ⟨t, o, st _ r1, r⟩
theorem w_cast (C : Cx p s m meth c Z own bytes maxL ret nm) {K : String} {i : Nat} {a : Addr} (w : (Jvm.Cond.classLink own i K).before a0 Z = true) (F : Ins Z h a K true) (hd : decode bytes pc = .ok (.checkcast i, 3)) (hq : pc + 3 = q) (K : AtW p l e R s m args below meth c n0 Q h cells slots (mkF m q L (.ref a :: S))) : AtW p l e R s m args below meth c n0 Q h cells slots (mkF m pc L (.ref a :: S)) := by
  subst hq
  intro T locs k n X hk hn eT N
  obtain ⟨T', X', e', st⟩ := castY X C.1 C.2.2.2.1 C.2.2.2.2.1 w eT F (g := mkF m pc L (.ref a :: S)) rfl rfl (hb C.2.1 hd)
  obtain ⟨t, o, r1, r⟩ := K T' locs k n X' hk hn e' N
  exact ⟨t, o, st _ r1, r⟩
theorem w_inst (C : Cx p s m meth c Z own bytes maxL ret nm) {K : String} {i : Nat} {a : Addr} (w : (Jvm.Cond.classLink own i K).before a0 Z = true) (F : Ins Z h a K true) (hd : decode bytes pc = .ok (.instanceof i, 3)) (hq : pc + 3 = q) (K : AtW p l e R s m args below meth c n0 Q h cells slots (mkF m q L (.int 1 :: S))) : AtW p l e R s m args below meth c n0 Q h cells slots (mkF m pc L (.ref a :: S)) := by
  subst hq
  intro T locs k n X hk hn eT N
  obtain ⟨T', X', e', st⟩ := instY X C.1 C.2.2.2.1 C.2.2.2.2.1 w eT F (g := mkF m pc L (.ref a :: S)) rfl rfl (hb C.2.1 hd)
  obtain ⟨t, o, r1, r⟩ := K T' locs k n X' hk hn e' N
  exact ⟨t, o, st _ r1, r⟩
theorem w_initO (C : Cx p s m meth c Z own bytes maxL ret nm) {i : Nat} {a : Addr} (w1 : (Jvm.Cond.methodLink own i Lib.objectInit).before a0 Z = true) (w2 : (Jvm.Cond.instanceMethod Lib.objectInit).before a0 Z = true) (w3 : (Jvm.Cond.code Lib.objectInit object_method_1_code 1 none).before a0 Z = true) (hL : L.size = maxL) (hf : 1 ≤ R.frames) {W : Nat} (hW : (S.map fun v => v.category).sum ≤ W) (hlo : W + 12 ≤ R.locals) (hd : decode bytes pc = .ok (.invokespecial i, 3)) (hq : pc + 3 = q) (K : AtW p l e R s m args below meth c n0 Q h cells slots (mkF m q L S)) : AtW p l e R s m args below meth c n0 Q h cells slots (mkF m pc L (.ref a :: S)) := by
  subst hq
  intro T locs k n X hk hn eT N
  obtain ⟨T', X', e', st⟩ := initO X C.1 C.2.2.2.1 C.2.2.2.2.1 w1 w2 w3 eT (g := mkF m pc L (.ref a :: S)) rfl (hL.trans C.2.2.1.symm) rfl (hb C.2.1 hd) hf (W := W) (by show 2 * 0 + _ ≤ _; omega) hlo
  obtain ⟨t, o, r1, r⟩ := K T' locs k n X' hk hn e' N
  exact ⟨t, o, st _ r1, r⟩
theorem w_putF (C : Cx p s m meth c Z own bytes maxL ret nm) {R0 O n d host Cl : String} {i kk : Nat} {ty : FieldType} {a : Addr} {v v' old : Value} (w : (Jvm.Cond.fieldLink own i R0 n d).before a0 Z = true) (via : Via Z R0 O n d) (F : Fld Z h a O n d old) (E : Exa Z h a Cl)
    (hL : (Jvm.Cond.lays Cl O n d).before a0 Z = true ∨ ((Jvm.Cond.laysFinal Cl O n d).before a0 Z = true ∧ own = O ∧ nm = "<init>")) (wi : (Jvm.Cond.instantiable Cl kk).before a0 Z = true) (hty : parseFieldDescriptor d = some ty) (hn : narrow ty v = v') (hf : fits ty v' = true) (hge : n0 ≤ a)
    (hd : decode bytes pc = .ok (.putfield i, 3)) (hq : pc + 3 = q) (K : ∀ h', Wr h h' a (Jvm.RoadKit.slotOf Z O n d) v' → AtW p l e R s m args below meth c n0 Q h' cells slots (mkF m q L S)) : AtW p l e R s m args below meth c n0 Q h cells slots (mkF m pc L (v :: .ref a :: S)) := by
  subst hq
  intro T locs k n' X hk hn' eT N
  have hL' : (Jvm.Cond.lays Cl O n d).before a0 Z = true ∨ ((Jvm.Cond.laysFinal Cl O n d).before a0 Z = true ∧ own = O ∧ meth.name = "<init>") := hL.imp id fun x => ⟨x.1, x.2.1, C.2.2.2.2.2.2.2.trans x.2.2⟩
  obtain ⟨T', h', X', e', W, st⟩ := putFN X C.1 C.2.2.2.1 C.2.2.2.2.1 w via eT F E hL' wi hty hn hf (g := mkF m pc L (v :: .ref a :: S)) rfl rfl (hb C.2.1 hd)
  obtain ⟨t, o, r1, r⟩ := K h' W T' _ k n' X' hk hn' e' (Fr.snoc X' N hge)
  exact ⟨t, o, st _ r1, r⟩
theorem w_new (C : Cx p s m meth c Z own bytes maxL ret nm) {Cl : String} {i n : Nat} (w : (Jvm.Cond.classLink own i Cl).before a0 Z = true) (wi : (Jvm.Cond.instantiable Cl n).before a0 Z = true) (wz : (Jvm.Cond.initialized Cl).before a0 Z = true) {cells' slots' : Nat} (hc1 : cells + 1 = cells') (hs1 : slots + n = slots') (hc : cells' ≤ R.cells) (hl : slots' ≤ R.slots)
    (hd : decode bytes pc = .ok (.new i, 3)) (hq : pc + 3 = q) (K : ∀ h' a, a = h.size → Ext h h' → Exa Z h' a Cl → (∀ {O nm d : String} {ty : FieldType}, RoadKit.Laid Z a0 Cl O nm d → parseFieldDescriptor d = some ty → Fld Z h' a O nm d (defaultValue ty)) → AtW p l e R s m args below meth c n0 Q h' cells' slots' (mkF m q L (.ref a :: S))) : AtW p l e R s m args below meth c n0 Q h cells slots (mkF m pc L S) := by
  subst hq hc1 hs1
  intro T locs k n' X hk hn' eT N
  obtain ⟨T', h', X', e', E, A, D, -, st⟩ := newO X C.1 C.2.2.2.1 C.2.2.2.2.1 w wi wz eT (g := mkF m pc L S) rfl (hb C.2.1 hd) (by omega) (by omega)
  obtain ⟨t, o, r1, r⟩ := K h' h.size rfl E A D T' _ (k + 1) (n' + n) X' (by omega) (by omega) e' N
  exact ⟨t, o, st _ r1, r⟩
/-- an array that holds just vs -/
def Ar (Z : State) (h : Heap) (a : Addr) (ty : FieldType) (vs : List Value) : Prop := vs.length < 2 ^ 31 ∧ ∃ k, Arv Z h a k ty (Int32.ofNat vs.length) vs (defaultValue ty)
theorem ofNat_neg {n : Nat} (h : n < 2 ^ 31) : ¬ Int32.ofNat n < 0 := by
  intro q
  have := Int32.lt_iff_toInt_lt.mp q
  rw [Int32.toInt_ofNat_small h] at this
  simp at this
  omega
theorem ofNat_nat {n : Nat} (h : n < 2 ^ 31) : (Int32.ofNat n).toNatClampNeg = n := by
  simp only [Int32.toNatClampNeg, Int32.toInt_ofNat_small h]; rfl
theorem nat_of_nonneg {x : Int32} (h : ¬ x < 0) : Int32.ofNat x.toNatClampNeg = x ∧ x.toNatClampNeg < 2 ^ 31 := by
  obtain ⟨h1, h2⟩ := back32 h
  exact ⟨h1, h2⟩
theorem Ar.keep {a : Addr} {ty : FieldType} {vs : List Value} {h' : Heap} {ws : List Addr} (F : Ar Z h a ty vs) (K : Keep h h' ws) (q : a ∉ ws) : Ar Z h' a ty vs := ⟨F.1, F.2.imp fun k V => V.keep K q⟩
theorem Ar.ext {a : Addr} {ty : FieldType} {vs : List Value} {h' : Heap} (F : Ar Z h a ty vs) (E : Ext h h') : Ar Z h' a ty vs := ⟨F.1, F.2.imp fun k V => V.ext E⟩
theorem Ar.other {a b : Addr} {ty : FieldType} {vs : List Value} {h' : Heap} {sl : Nat} {v : Value} (F : Ar Z h b ty vs) (W : Wr h h' a sl v) (q : b ≠ a) : Ar Z h' b ty vs := ⟨F.1, F.2.imp fun k V => V.other W q⟩
theorem Ar.lt {a : Addr} {ty : FieldType} {vs : List Value} (F : Ar Z h a ty vs) : a < h.size := F.2.elim fun k V => V.lt
theorem Ar.eq {a : Addr} {ty : FieldType} {vs vs' : List Value} (F : Ar Z h a ty vs) (q : vs = vs') : Ar Z h a ty vs' := q ▸ F
theorem Keep.of_ext {h' : Heap} (E : Ext h h') : Keep h h' [] := (Keep.refl h []).ext E
theorem Keep.to_ext {h' : Heap} (K : Keep h h' []) : Ext h h' := ⟨K.1, fun a c q => K.2.1 a c q (by simp)⟩
theorem w_newArr (C : Cx p s m meth c Z own bytes maxL ret nm) {aty : ArrayType} {ty : FieldType} {n : Int32} (w : (Jvm.Cond.arrayClass ty).before a0 Z = true) (hty : newarray.typeOf aty = ty) (hn : ¬ n < 0) {cap : Nat} (hcap : n.toNatClampNeg ≤ cap) (hb' : cap * 8 ≤ 536870912) {cells' slots' : Nat} (hc1 : cells + 1 = cells') (hs1 : slots + cap = slots') (hc : cells' ≤ R.cells) (hl : slots' ≤ R.slots)
    (hd : decode bytes pc = .ok (.newarray aty, 2)) (hq : pc + 2 = q) (K : ∀ h' a, a = h.size → Ext h h' → Ar Z h' a ty (List.replicate n.toNatClampNeg (defaultValue ty)) → AtW p l e R s m args below meth c n0 Q h' cells' slots' (mkF m q L (.ref a :: S))) : AtW p l e R s m args below meth c n0 Q h cells slots (mkF m pc L (.int n :: S)) := by
  subst hq hc1 hs1 hty
  intro T locs k n' X hk hn' eT N
  obtain ⟨T', h', cA, X', e', E, A, st⟩ := newP X C.1 C.2.2.2.1 w eT (g := mkF m pc L (.int n :: S)) rfl (hb C.2.1 hd) rfl hn hcap hb' (by omega) (by omega)
  have q := nat_of_nonneg hn
  have V := (Arv.new A hn).pad (pad_rep [] (defaultValue (newarray.typeOf aty)) n.toNatClampNeg)
  obtain ⟨t, o, r1, r⟩ := K h' h.size rfl E ⟨by simpa using q.2, cA, by simpa [q.1] using V⟩ T' _ (k + 1) (n' + cap) X' (by omega) (by omega) e' N
  exact ⟨t, o, st _ r1, r⟩
theorem w_len (C : Cx p s m meth c Z own bytes maxL ret nm) {a : Addr} {ty : FieldType} {vs : List Value} {z : Int32} (A : Ar Z h a ty vs) (hz : Int32.ofNat vs.length = z) (hd : decode bytes pc = .ok (.arraylength, 1)) (hq : pc + 1 = q) (K : AtW p l e R s m args below meth c n0 Q h cells slots (mkF m q L (.int z :: S))) : AtW p l e R s m args below meth c n0 Q h cells slots (mkF m pc L (.ref a :: S)) := by
  subst hq hz
  obtain ⟨hlt, k, cl, Ar, -, hS, hM, -, -⟩ := A
  refine K.goX fun T locs k n X eT t st => X.arraylength C.1 (by rw [eT]; exact Ar.1) (State.isArrayOf_alike C.2.2.2.1.alike Ar.2.1) (g := mkF m pc L (.ref a :: S)) rfl rfl (hb C.2.1 hd) t ?_
  rw [len_of hS hM]; exact st

theorem w_iaload (C : Cx p s m meth c Z own bytes maxL ret nm) {a : Addr} {vs : List Value} {j : Int32} {i : Nat} {v : Value} (A : Ar Z h a .int vs) (hj : j = Int32.ofNat i) (hv : vs[i]? = some v) (hd : decode bytes pc = .ok (.iaload, 1)) (hq : pc + 1 = q) (K : AtW p l e R s m args below meth c n0 Q h cells slots (mkF m q L (v :: S))) : AtW p l e R s m args below meth c n0 Q h cells slots (mkF m pc L (.int j :: .ref a :: S)) := by
  subst hq hj
  obtain ⟨hlt, k, cl, Ar, -, hS, hM, H, -⟩ := A
  obtain ⟨hi, hg⟩ := List.getElem?_eq_some_iff.mp hv
  have e1 := ofNat_nat (n := i) (by omega)
  have e2 := ofNat_nat hlt
  have hin : ¬ (Int32.ofNat i < 0 ∨ cl.slots.size ≤ (Int32.ofNat i).toNatClampNeg) := by
    rw [e1, hS, e2]; exact fun q => q.elim (ofNat_neg (by omega)) (by omega)
  refine K.goX fun T locs k n X eT t st => X.iaload C.1 (j := Int32.ofNat i) (v := v) (by rw [eT]; exact Ar.1) (State.isArrayOf_alike C.2.2.2.1.alike Ar.2.1) Ar.2.2 hin (by rw [e1, H i (by rw [hS, e2]; exact hi)]; simp [List.getD, hv]) (g := mkF m pc L (.int (Int32.ofNat i) :: .ref a :: S)) rfl rfl (hb C.2.1 hd) t st
theorem w_caload (C : Cx p s m meth c Z own bytes maxL ret nm) {a : Addr} {vs : List Value} {j : Int32} {i : Nat} {v : Value} (A : Ar Z h a .char vs) (hj : j = Int32.ofNat i) (hv : vs[i]? = some v) (hd : decode bytes pc = .ok (.caload, 1)) (hq : pc + 1 = q) (K : AtW p l e R s m args below meth c n0 Q h cells slots (mkF m q L (v :: S))) : AtW p l e R s m args below meth c n0 Q h cells slots (mkF m pc L (.int j :: .ref a :: S)) := by
  subst hq hj
  obtain ⟨hlt, k, cl, Ar, -, hS, hM, H, -⟩ := A
  obtain ⟨hi, hg⟩ := List.getElem?_eq_some_iff.mp hv
  have e1 := ofNat_nat (n := i) (by omega)
  have e2 := ofNat_nat hlt
  have hin : ¬ (Int32.ofNat i < 0 ∨ cl.slots.size ≤ (Int32.ofNat i).toNatClampNeg) := by
    rw [e1, hS, e2]; exact fun q => q.elim (ofNat_neg (by omega)) (by omega)
  refine K.goX fun T locs k n X eT t st => X.caload C.1 (j := Int32.ofNat i) (v := v) (by rw [eT]; exact Ar.1) (State.isArrayOf_alike C.2.2.2.1.alike Ar.2.1) Ar.2.2 hin (by rw [e1, H i (by rw [hS, e2]; exact hi)]; simp [List.getD, hv]) (g := mkF m pc L (.int (Int32.ofNat i) :: .ref a :: S)) rfl rfl (hb C.2.1 hd) t st
theorem w_baload (C : Cx p s m meth c Z own bytes maxL ret nm) {a : Addr} {vs : List Value} {j : Int32} {i : Nat} {v : Value} (A : Ar Z h a .byte vs) (hj : j = Int32.ofNat i) (hv : vs[i]? = some v) (hd : decode bytes pc = .ok (.baload, 1)) (hq : pc + 1 = q) (K : AtW p l e R s m args below meth c n0 Q h cells slots (mkF m q L (v :: S))) : AtW p l e R s m args below meth c n0 Q h cells slots (mkF m pc L (.int j :: .ref a :: S)) := by
  subst hq hj
  obtain ⟨hlt, k, cl, Ar, -, hS, hM, H, -⟩ := A
  obtain ⟨hi, hg⟩ := List.getElem?_eq_some_iff.mp hv
  have e1 := ofNat_nat (n := i) (by omega)
  have e2 := ofNat_nat hlt
  have hin : ¬ (Int32.ofNat i < 0 ∨ cl.slots.size ≤ (Int32.ofNat i).toNatClampNeg) := by
    rw [e1, hS, e2]; exact fun q => q.elim (ofNat_neg (by omega)) (by omega)
  refine K.goX fun T locs k n X eT t st => X.baloadBytes C.1 (j := Int32.ofNat i) (v := v) (by rw [eT]; exact Ar.1) (State.isArrayOf_alike C.2.2.2.1.alike Ar.2.1) Ar.2.2 hin (by rw [e1, H i (by rw [hS, e2]; exact hi)]; simp [List.getD, hv]) (g := mkF m pc L (.int (Int32.ofNat i) :: .ref a :: S)) rfl rfl (hb C.2.1 hd) t st
theorem w_laload (C : Cx p s m meth c Z own bytes maxL ret nm) {a : Addr} {vs : List Value} {j : Int32} {i : Nat} {v : Value} (A : Ar Z h a .long vs) (hj : j = Int32.ofNat i) (hv : vs[i]? = some v) (hd : decode bytes pc = .ok (.laload, 1)) (hq : pc + 1 = q) (K : AtW p l e R s m args below meth c n0 Q h cells slots (mkF m q L (v :: S))) : AtW p l e R s m args below meth c n0 Q h cells slots (mkF m pc L (.int j :: .ref a :: S)) := by
  subst hq hj
  obtain ⟨hlt, k, cl, Ar, -, hS, hM, H, -⟩ := A
  obtain ⟨hi, hg⟩ := List.getElem?_eq_some_iff.mp hv
  have e1 := ofNat_nat (n := i) (by omega)
  have e2 := ofNat_nat hlt
  have hin : ¬ (Int32.ofNat i < 0 ∨ cl.slots.size ≤ (Int32.ofNat i).toNatClampNeg) := by
    rw [e1, hS, e2]; exact fun q => q.elim (ofNat_neg (by omega)) (by omega)
  refine K.goX fun T locs k n X eT t st => X.laload C.1 (j := Int32.ofNat i) (v := v) (by rw [eT]; exact Ar.1) (State.isArrayOf_alike C.2.2.2.1.alike Ar.2.1) Ar.2.2 hin (by rw [e1, H i (by rw [hS, e2]; exact hi)]; simp [List.getD, hv]) (g := mkF m pc L (.int (Int32.ofNat i) :: .ref a :: S)) rfl rfl (hb C.2.1 hd) t st
theorem w_aaload (C : Cx p s m meth c Z own bytes maxL ret nm) {a : Addr} {ty : FieldType} {vs : List Value} {j : Int32} {i : Nat} {v : Value} (A : Ar Z h a ty vs) (hj : j = Int32.ofNat i) (hv : vs[i]? = some v) (hr : ty.isReference = true) (hd : decode bytes pc = .ok (.aaload, 1)) (hq : pc + 1 = q) (K : AtW p l e R s m args below meth c n0 Q h cells slots (mkF m q L (v :: S))) : AtW p l e R s m args below meth c n0 Q h cells slots (mkF m pc L (.int j :: .ref a :: S)) := by
  subst hq hj
  obtain ⟨hlt, k, cl, Ar, -, hS, hM, H, -⟩ := A
  obtain ⟨hi, hg⟩ := List.getElem?_eq_some_iff.mp hv
  have e1 := ofNat_nat (n := i) (by omega)
  have e2 := ofNat_nat hlt
  have hin : ¬ (Int32.ofNat i < 0 ∨ cl.slots.size ≤ (Int32.ofNat i).toNatClampNeg) := by
    rw [e1, hS, e2]; exact fun q => q.elim (ofNat_neg (by omega)) (by omega)
  refine K.goX fun T locs k n X eT t st => X.aaload C.1 (j := Int32.ofNat i) (v := v) (by rw [eT]; exact Ar.1) (State.isArrayOf_alike C.2.2.2.1.alike Ar.2.1) hr Ar.2.2 hin (by rw [e1, H i (by rw [hS, e2]; exact hi)]; simp [List.getD, hv]) (g := mkF m pc L (.int (Int32.ofNat i) :: .ref a :: S)) rfl rfl (hb C.2.1 hd) t st
theorem w_iastore (C : Cx p s m meth c Z own bytes maxL ret nm) {a : Addr} {vs : List Value} {j : Int32} {i : Nat} {x : Int32} (A : Ar Z h a .int vs) (hj : j = Int32.ofNat i) (hi : i < vs.length) (hge : n0 ≤ a) (hd : decode bytes pc = .ok (.iastore, 1)) (hq : pc + 1 = q)
    (K : ∀ h', Wr h h' a i (.int x) → Ar Z h' a .int (vs.set i (.int x)) → AtW p l e R s m args below meth c n0 Q h' cells slots (mkF m q L S)) : AtW p l e R s m args below meth c n0 Q h cells slots (mkF m pc L (.int x :: .int j :: .ref a :: S)) := by
  subst hq hj
  intro T locs k n' X hk hn' eT N
  obtain ⟨hlt, k', cl, Ar, q1, hS, hM, H, G⟩ := A
  have e1 := ofNat_nat (n := i) (by omega)
  have e2 := ofNat_nat hlt
  have hin : ¬ (Int32.ofNat i < 0 ∨ cl.slots.size ≤ (Int32.ofNat i).toNatClampNeg) := by
    rw [e1, hS, e2]; exact fun q => q.elim (ofNat_neg (by omega)) (by omega)
  obtain ⟨T', h', X', e', W, st⟩ := stI X C.1 C.2.2.2.1 eT Ar (j := Int32.ofNat i) (x := x) hin (g := mkF m pc L (.int x :: .int (Int32.ofNat i) :: .ref a :: S)) rfl rfl (hb C.2.1 hd)
  have V := Arv.set Ar q1 hS hM H G (rfl) W i e1 hi
  obtain ⟨t, o, r1, r⟩ := K h' (by rw [e1] at W; exact W) ⟨by simpa using hlt, k', by rw [List.length_set]; exact V⟩ T' _ k n' X' hk hn' e' (Fr.snoc X' N hge)
  exact ⟨t, o, st _ r1, r⟩
theorem w_castore (C : Cx p s m meth c Z own bytes maxL ret nm) {a : Addr} {vs : List Value} {j : Int32} {i : Nat} {x : Int32} {z : Int32} (hz : nar .char x = z) (A : Ar Z h a .char vs) (hj : j = Int32.ofNat i) (hi : i < vs.length) (hge : n0 ≤ a) (hd : decode bytes pc = .ok (.castore, 1)) (hq : pc + 1 = q)
    (K : ∀ h', Wr h h' a i (.int z) → Ar Z h' a .char (vs.set i (.int z)) → AtW p l e R s m args below meth c n0 Q h' cells slots (mkF m q L S)) : AtW p l e R s m args below meth c n0 Q h cells slots (mkF m pc L (.int x :: .int j :: .ref a :: S)) := by
  subst hq hj hz
  intro T locs k n' X hk hn' eT N
  obtain ⟨hlt, k', cl, Ar, q1, hS, hM, H, G⟩ := A
  have e1 := ofNat_nat (n := i) (by omega)
  have e2 := ofNat_nat hlt
  have hin : ¬ (Int32.ofNat i < 0 ∨ cl.slots.size ≤ (Int32.ofNat i).toNatClampNeg) := by
    rw [e1, hS, e2]; exact fun q => q.elim (ofNat_neg (by omega)) (by omega)
  obtain ⟨T', h', X', e', W, st⟩ := stC X C.1 C.2.2.2.1 eT Ar (j := Int32.ofNat i) (x := x) hin (g := mkF m pc L (.int x :: .int (Int32.ofNat i) :: .ref a :: S)) rfl rfl (hb C.2.1 hd)
  have V := Arv.set Ar q1 hS hM H G (fits_nar_char _) W i e1 hi
  obtain ⟨t, o, r1, r⟩ := K h' (by rw [e1] at W; exact W) ⟨by simpa using hlt, k', by rw [List.length_set]; exact V⟩ T' _ k n' X' hk hn' e' (Fr.snoc X' N hge)
  exact ⟨t, o, st _ r1, r⟩
theorem w_bastore (C : Cx p s m meth c Z own bytes maxL ret nm) {a : Addr} {vs : List Value} {j : Int32} {i : Nat} {x : Int32} {z : Int32} (hz : nar .byte x = z) (A : Ar Z h a .byte vs) (hj : j = Int32.ofNat i) (hi : i < vs.length) (hge : n0 ≤ a) (hd : decode bytes pc = .ok (.bastore, 1)) (hq : pc + 1 = q)
    (K : ∀ h', Wr h h' a i (.int z) → Ar Z h' a .byte (vs.set i (.int z)) → AtW p l e R s m args below meth c n0 Q h' cells slots (mkF m q L S)) : AtW p l e R s m args below meth c n0 Q h cells slots (mkF m pc L (.int x :: .int j :: .ref a :: S)) := by
  subst hq hj hz
  intro T locs k n' X hk hn' eT N
  obtain ⟨hlt, k', cl, Ar, q1, hS, hM, H, G⟩ := A
  have e1 := ofNat_nat (n := i) (by omega)
  have e2 := ofNat_nat hlt
  have hin : ¬ (Int32.ofNat i < 0 ∨ cl.slots.size ≤ (Int32.ofNat i).toNatClampNeg) := by
    rw [e1, hS, e2]; exact fun q => q.elim (ofNat_neg (by omega)) (by omega)
  obtain ⟨T', h', X', e', W, st⟩ := stB X C.1 C.2.2.2.1 eT Ar (j := Int32.ofNat i) (x := x) hin (g := mkF m pc L (.int x :: .int (Int32.ofNat i) :: .ref a :: S)) rfl rfl (hb C.2.1 hd)
  have V := Arv.set Ar q1 hS hM H G (fits_nar_byte _) W i e1 hi
  obtain ⟨t, o, r1, r⟩ := K h' (by rw [e1] at W; exact W) ⟨by simpa using hlt, k', by rw [List.length_set]; exact V⟩ T' _ k n' X' hk hn' e' (Fr.snoc X' N hge)
  exact ⟨t, o, st _ r1, r⟩
theorem w_lastore (C : Cx p s m meth c Z own bytes maxL ret nm) {a : Addr} {vs : List Value} {j : Int32} {i : Nat} {x : Int64} (A : Ar Z h a .long vs) (hj : j = Int32.ofNat i) (hi : i < vs.length) (hge : n0 ≤ a) (hd : decode bytes pc = .ok (.lastore, 1)) (hq : pc + 1 = q)
    (K : ∀ h', Wr h h' a i (.long x) → Ar Z h' a .long (vs.set i (.long x)) → AtW p l e R s m args below meth c n0 Q h' cells slots (mkF m q L S)) : AtW p l e R s m args below meth c n0 Q h cells slots (mkF m pc L (.long x :: .int j :: .ref a :: S)) := by
  subst hq hj
  intro T locs k n' X hk hn' eT N
  obtain ⟨hlt, k', cl, Ar, q1, hS, hM, H, G⟩ := A
  have e1 := ofNat_nat (n := i) (by omega)
  have e2 := ofNat_nat hlt
  have hin : ¬ (Int32.ofNat i < 0 ∨ cl.slots.size ≤ (Int32.ofNat i).toNatClampNeg) := by
    rw [e1, hS, e2]; exact fun q => q.elim (ofNat_neg (by omega)) (by omega)
  obtain ⟨T', h', X', e', W, st⟩ := stJ X C.1 C.2.2.2.1 eT Ar (j := Int32.ofNat i) (x := x) hin (g := mkF m pc L (.long x :: .int (Int32.ofNat i) :: .ref a :: S)) rfl rfl (hb C.2.1 hd)
  have V := Arv.set Ar q1 hS hM H G (rfl) W i e1 hi
  obtain ⟨t, o, r1, r⟩ := K h' (by rw [e1] at W; exact W) ⟨by simpa using hlt, k', by rw [List.length_set]; exact V⟩ T' _ k n' X' hk hn' e' (Fr.snoc X' N hge)
  exact ⟨t, o, st _ r1, r⟩
theorem w_retZ (C : Cx p s m meth c Z own bytes maxL ret nm) {t : FieldType} {x z : Int32} (hret : ret = some t) (ht : t = .boolean ∨ t = .byte ∨ t = .char ∨ t = .short) (hz : nar t x = z) (hd : decode bytes pc = .ok (.ireturn, 1)) (hc : cells ≤ R.cells) (hs : slots ≤ R.slots) (hQ : Q (some (.int z)) h) : AtW p l e R s m args below meth c n0 Q h cells slots (mkF m pc L (.int x :: S)) := by
  subst hz
  intro T locs k n X hk hn eT N
  obtain ⟨fs, hr, hrun, hended, hW, hsame⟩ := X.leave (v := some (.int (nar t x))) (fun h => by rw [C.2.2.2.2.2.1, hret] at h; cases h) C.2.2.2.2.2.2.1
  refine ⟨_, _, retN X C.1 (t := t) (C.2.2.2.2.2.1.trans hret) ht (hb C.2.1 hd) hr, hrun, hended, _, _, rfl, ⟨N, ?_⟩, ⟨_, rfl⟩, hW, hsame.mono (Nat.le_trans hk hc) (Nat.le_trans hn hs)⟩
  show Q _ T.heap
  rw [eT]; exact hQ
theorem w_ret (C : Cx p s m meth c Z own bytes maxL ret nm) {t : FieldType} {v : Value} {i : Instr} (hret : ret = some t) (hn' : narrow t v = v)
    (hi : (i = .ireturn ∧ (t = .int ∨ t = .boolean ∨ t = .byte ∨ t = .char ∨ t = .short) ∧ ∃ z, v = .int z) ∨ (i = .lreturn ∧ t = .long ∧ ∃ z, v = .long z) ∨ (i = .dreturn ∧ t = .double ∧ ∃ z, v = .double z) ∨ (i = .freturn ∧ t = .float ∧ ∃ z, v = .float z) ∨ (i = .areturn ∧ t.isReference = true ∧ v.isRef = true))
    (hd : decode bytes pc = .ok (i, 1)) (hc : cells ≤ R.cells) (hs : slots ≤ R.slots) (hQ : Q (some v) h) : AtW p l e R s m args below meth c n0 Q h cells slots (mkF m pc L (v :: S)) := by
  intro T locs k n X hk hn eT N
  obtain ⟨fs, hr, hrun, hended, hW, hsame⟩ := X.leave (v := some v) (fun h => by rw [C.2.2.2.2.2.1, hret] at h; cases h) C.2.2.2.2.2.2.1
  refine ⟨_, _, retOut X C.1 (t := t) (C.2.2.2.2.2.1.trans hret) hn' hi (hb C.2.1 hd) hr, hrun, hended, _, _, rfl, ⟨N, ?_⟩, ⟨_, rfl⟩, hW, hsame.mono (Nat.le_trans hk hc) (Nat.le_trans hn hs)⟩
  show Q _ T.heap
  rw [eT]; exact hQ
theorem w_retI (C : Cx p s m meth c Z own bytes maxL ret nm) {x : Int32} (hret : ret = some .int) (hd : decode bytes pc = .ok (.ireturn, 1)) (hc : cells ≤ R.cells) (hs : slots ≤ R.slots) (hQ : Q (some (.int x)) h) : AtW p l e R s m args below meth c n0 Q h cells slots (mkF m pc L (.int x :: S)) :=
  w_ret C hret rfl (Or.inl ⟨rfl, Or.inl rfl, _, rfl⟩) hd hc hs hQ
theorem w_retJ (C : Cx p s m meth c Z own bytes maxL ret nm) {x : Int64} (hret : ret = some .long) (hd : decode bytes pc = .ok (.lreturn, 1)) (hc : cells ≤ R.cells) (hs : slots ≤ R.slots) (hQ : Q (some (.long x)) h) : AtW p l e R s m args below meth c n0 Q h cells slots (mkF m pc L (.long x :: S)) :=
  w_ret C hret rfl (Or.inr (Or.inl ⟨rfl, rfl, _, rfl⟩)) hd hc hs hQ
theorem w_retA (C : Cx p s m meth c Z own bytes maxL ret nm) {t : FieldType} {v : Value} (hret : ret = some t) (ht : t.isReference = true) (hv : v.isRef = true) (hd : decode bytes pc = .ok (.areturn, 1)) (hc : cells ≤ R.cells) (hs : slots ≤ R.slots) (hQ : Q (some v) h) : AtW p l e R s m args below meth c n0 Q h cells slots (mkF m pc L (v :: S)) :=
  w_ret C hret (by rcases ref_cases hv with rfl | ⟨a, rfl⟩ <;> cases t <;> first | rfl | cases ht) (Or.inr (Or.inr (Or.inr (Or.inr ⟨rfl, ht, hv⟩)))) hd hc hs hQ
theorem w_retV (C : Cx p s m meth c Z own bytes maxL ret nm) (hret : ret = none) (hd : decode bytes pc = .ok (.return_, 1)) (hc : cells ≤ R.cells) (hs : slots ≤ R.slots) (hQ : Q none h) : AtW p l e R s m args below meth c n0 Q h cells slots (mkF m pc L []) := by
  intro T locs k n X hk hn eT N
  obtain ⟨fs, hr, hrun, hended, hW, hsame⟩ := X.leave (v := none) (fun _ => rfl) C.2.2.2.2.2.2.1
  refine ⟨_, _, X.returnOut C.1 (C.2.2.2.2.2.1.trans hret) (hb C.2.1 hd) hr, hrun, hended, _, _, rfl, ⟨N, ?_⟩, ⟨_, rfl⟩, hW, hsame.mono (Nat.le_trans hk hc) (Nat.le_trans hn hs)⟩
  show Q _ T.heap
  rw [eT]; exact hQ

theorem w_callS (C : Cx p s m meth c Z own bytes maxL ret nm) {y : MethodName} {i : Nat} {argsL : List Value} {bytesY : ByteArray} {maxY : Nat} {retY : Option FieldType} {rm : Room} {Qy : Option Value → Heap → Prop} (w1 : (Jvm.Cond.methodLink own i y).before a0 Z = true) (w2 : (Jvm.Cond.static y).before a0 Z = true) (wz : (Jvm.Cond.initialized y.cls).before a0 Z = true) (wc : (Jvm.Cond.code y bytesY maxY retY).before a0 Z = true)
    (hy : y.cls ≠ "java/lang/invoke/MethodHandle" ∧ y.cls ≠ "java/lang/invoke/VarHandle") (ct : Ct [] l Z n0 y bytesY maxY retY rm argsL.toArray h Qy) {S' : List Value} (hS : S' = argsL.reverse ++ S) (hlen : ∀ sig, parseMethodDescriptor y.desc = some sig → argsL.length = sig.parameters.length) (hL : L.size = maxL) (hf : rm.frames + 1 ≤ R.frames) {W : Nat} (hW : (S.map fun v => v.category).sum ≤ W) (hlo : W + (maxY + 11) + rm.locals ≤ R.locals) {cells' slots' : Nat} (hc1 : cells + rm.cells = cells') (hs1 : slots + rm.slots = slots') (hc : cells' ≤ R.cells) (hl : slots' ≤ R.slots)
    (hd : decode bytes pc = .ok (.invokestatic i, 3)) (hq : pc + 3 = q) (K : ∀ v h', Qy v h' → AtW p l e R s m args below meth c n0 Q h' cells' slots' (mkF m q L (v.toList ++ S))) : AtW p l e R s m args below meth c n0 Q h cells slots (mkF m pc L S') := by
  subst hq hc1 hs1
  intro T locs k n' X hk hn' eT N
  obtain ⟨v, _, ⟨T', L', k', n''⟩, -, X', ⟨Lc, hQ, hl', hc', hs'⟩, st⟩ := Jvm.LawKit.callS X C.1 (y := y) C.2.2.2.2.1 (mvT C.2.2.2.1 w1) (mvT C.2.2.2.1 w2) (mvT C.2.2.2.1 wz) (mvT C.2.2.2.1 wc) hy (backOf (W := W) (Q := fun v h L => Fr n0 L ∧ Qy v h) ct C.2.2.2.1 wc wz hf hlo) (g := mkF m pc L S') rfl (hL.trans C.2.2.1.symm) (argsL := argsL) (rest := S) hlen hS (by show 2 * 0 + _ ≤ _; omega) (hb C.2.1 hd) (fun _ _ => ⟨rfl, eT, (by show k + _ ≤ _; omega), (by show n' + _ ≤ _; omega)⟩)
  dsimp only [Pt.U, Pt.locs, Pt.cells, Pt.slots] at X' hl' hc' hs' st hQ
  subst hl' hc' hs'
  obtain ⟨t, o, r1, r⟩ := K v T'.heap hQ.2 T' _ _ _ X' (by omega) (by omega) rfl (Fr.app N hQ.1)
  exact ⟨t, o, st _ r1, r⟩
theorem w_callI (C : Cx p s m meth c Z own bytes maxL ret nm) {y : MethodName} {i : Nat} {a : Addr} {argsL : List Value} {bytesY : ByteArray} {maxY : Nat} {rm : Room} {Qy : Option Value → Heap → Prop} (hnm : y.name = "<init>") (w1 : (Jvm.Cond.methodLink own i y).before a0 Z = true) (w2 : (Jvm.Cond.instanceMethod y).before a0 Z = true) (wz : (Jvm.Cond.initialized y.cls).before a0 Z = true) (wc : (Jvm.Cond.code y bytesY maxY none).before a0 Z = true)
    (hy : y.cls ≠ "java/lang/invoke/MethodHandle" ∧ y.cls ≠ "java/lang/invoke/VarHandle") (ct : Ct [] l Z n0 y bytesY maxY none rm (.ref a :: argsL).toArray h Qy) {S' : List Value} (hS : S' = argsL.reverse ++ .ref a :: S) (hlen : ∀ sig, parseMethodDescriptor y.desc = some sig → argsL.length = sig.parameters.length) (hL : L.size = maxL) (hf : rm.frames + 1 ≤ R.frames) {W : Nat} (hW : (S.map fun v => v.category).sum ≤ W) (hlo : W + (maxY + 11) + rm.locals ≤ R.locals) {cells' slots' : Nat} (hc1 : cells + rm.cells = cells') (hs1 : slots + rm.slots = slots') (hc : cells' ≤ R.cells) (hl : slots' ≤ R.slots)
    (hd : decode bytes pc = .ok (.invokespecial i, 3)) (hq : pc + 3 = q) (K : ∀ v h', Qy v h' → AtW p l e R s m args below meth c n0 Q h' cells' slots' (mkF m q L (v.toList ++ S))) : AtW p l e R s m args below meth c n0 Q h cells slots (mkF m pc L S') := by
  subst hq hc1 hs1
  intro T locs k n' X hk hn' eT N
  obtain ⟨v, _, ⟨T', L', k', n''⟩, -, X', ⟨Lc, hQ, hl', hc', hs'⟩, st⟩ := X.specialBack C.1 (y := y) hnm C.2.2.2.2.1 (mvT C.2.2.2.1 w1) (mvT C.2.2.2.1 w2) (mvT C.2.2.2.1 wc) hy (backOf (W := W) (Q := fun v h L => Fr n0 L ∧ Qy v h) ct C.2.2.2.1 wc wz hf hlo) (g := mkF m pc L S') rfl (hL.trans C.2.2.1.symm) (Steps.refl _) (a := a) (argsL := argsL) (rest := S) hlen hS (by show 2 * 0 + _ ≤ _; omega) (hb C.2.1 hd) (fun _ _ => ⟨rfl, eT, (by show k + _ ≤ _; omega), (by show n' + _ ≤ _; omega)⟩)
  dsimp only [Pt.U, Pt.locs, Pt.cells, Pt.slots] at X' hl' hc' hs' st hQ
  subst hl' hc' hs'
  obtain ⟨t, o, r1, r⟩ := K v T'.heap hQ.2 T' _ _ _ X' (by omega) (by omega) rfl (Fr.app N hQ.1)
  exact ⟨t, o, st.trans r1, r⟩
theorem w_callV (C : Cx p s m meth c Z own bytes maxL ret nm) {y z : MethodName} {Cl : String} {i : Nat} {a : Addr} {argsL : List Value} {bytesY : ByteArray} {maxY : Nat} {retY : Option FieldType} {rm : Room} {Qy : Option Value → Heap → Prop} (E : Exa Z h a Cl) (w1 : (Jvm.Cond.methodLink own i y).before a0 Z = true) (w2 : (Jvm.Cond.declares y).before a0 Z = true) (hnf : NotFace s y) (w3 : (Jvm.Cond.selects Cl y z).before a0 Z = true) (w4 : (Jvm.Cond.instanceMethod z).before a0 Z = true) (wz : (Jvm.Cond.initialized z.cls).before a0 Z = true) (wc : (Jvm.Cond.code z bytesY maxY retY).before a0 Z = true)
    (hy : y.cls ≠ "java/lang/invoke/MethodHandle" ∧ y.cls ≠ "java/lang/invoke/VarHandle") (ct : Ct [] l Z n0 z bytesY maxY retY rm (.ref a :: argsL).toArray h Qy) {S' : List Value} (hS : S' = argsL.reverse ++ .ref a :: S) (hlen : ∀ sig, parseMethodDescriptor y.desc = some sig → argsL.length = sig.parameters.length) (hL : L.size = maxL) (hf : rm.frames + 1 ≤ R.frames) {W : Nat} (hW : (S.map fun v => v.category).sum ≤ W) (hlo : W + (maxY + 11) + rm.locals ≤ R.locals) {cells' slots' : Nat} (hc1 : cells + rm.cells = cells') (hs1 : slots + rm.slots = slots') (hc : cells' ≤ R.cells) (hl : slots' ≤ R.slots)
    (hd : decode bytes pc = .ok (.invokevirtual i, 3)) (hq : pc + 3 = q) (K : ∀ v h', Qy v h' → AtW p l e R s m args below meth c n0 Q h' cells' slots' (mkF m q L (v.toList ++ S))) : AtW p l e R s m args below meth c n0 Q h cells slots (mkF m pc L S') := by
  subst hq hc1 hs1
  intro T locs k n' X hk hn' eT N
  obtain ⟨cB, kB, q1, q2, q3⟩ := isOf C.2.2.2.1 eT E
  obtain ⟨v, _, ⟨T', L', k', n''⟩, -, X', ⟨Lc, hQ, hl', hc', hs'⟩, st⟩ := X.virtualBack C.1 (y := y) (z := z) C.2.2.2.2.1 (mvT C.2.2.2.1 w1) (mvT C.2.2.2.1 w2) hnf (mvT C.2.2.2.1 w3) (mvT C.2.2.2.1 w4) hy (backOf (W := W) (Q := fun v h L => Fr n0 L ∧ Qy v h) ct C.2.2.2.1 wc wz hf hlo) q1 q3 (g := mkF m pc L S') rfl (hL.trans C.2.2.1.symm) (Steps.refl _) (argsL := argsL) (rest := S) hlen hS (by show 2 * 0 + _ ≤ _; omega) (hb C.2.1 hd) (fun _ _ => ⟨rfl, eT, (by show k + _ ≤ _; omega), (by show n' + _ ≤ _; omega)⟩)
  dsimp only [Pt.U, Pt.locs, Pt.cells, Pt.slots] at X' hl' hc' hs' st hQ
  subst hl' hc' hs'
  obtain ⟨t, o, r1, r⟩ := K v T'.heap hQ.2 T' _ _ _ X' (by omega) (by omega) rfl (Fr.app N hQ.1)
  exact ⟨t, o, st.trans r1, r⟩
theorem w_nf (C : Cx p s m meth c Z own bytes maxL ret nm) {y : MethodName} {Cl : String} (w3 : (Jvm.Cond.selects Cl y y).before a0 Z = true) : NotFace s y := notFace_of_selects (args := #[]) (mvT C.2.2.2.1 w3)
theorem w_callP (C : Cx p s m meth c Z own bytes maxL ret nm) {y : MethodName} {Cl : String} {i : Nat} {a : Addr} {argsL : List Value} {bytesY : ByteArray} {maxY : Nat} {retY : Option FieldType} {rm : Room} {Qy : Option Value → Heap → Prop} (E : Exa Z h a Cl) (w1 : (Jvm.Cond.methodLink own i y).before a0 Z = true) (w4 : (Jvm.Cond.instanceMethod y).before a0 Z = true) (hni : NI s y.cls) (w5 : (Jvm.Cond.privateMethod y).before a0 Z = true) (wz : (Jvm.Cond.initialized y.cls).before a0 Z = true) (wc : (Jvm.Cond.code y bytesY maxY retY).before a0 Z = true)
    (hy : y.cls ≠ "java/lang/invoke/MethodHandle" ∧ y.cls ≠ "java/lang/invoke/VarHandle") (ct : Ct [] l Z n0 y bytesY maxY retY rm (.ref a :: argsL).toArray h Qy) {S' : List Value} (hS : S' = argsL.reverse ++ .ref a :: S) (hlen : ∀ sig, parseMethodDescriptor y.desc = some sig → argsL.length = sig.parameters.length) (hL : L.size = maxL) (hf : rm.frames + 1 ≤ R.frames) {W : Nat} (hW : (S.map fun v => v.category).sum ≤ W) (hlo : W + (maxY + 11) + rm.locals ≤ R.locals) {cells' slots' : Nat} (hc1 : cells + rm.cells = cells') (hs1 : slots + rm.slots = slots') (hc : cells' ≤ R.cells) (hl : slots' ≤ R.slots)
    (hd : decode bytes pc = .ok (.invokevirtual i, 3)) (hq : pc + 3 = q) (K : ∀ v h', Qy v h' → AtW p l e R s m args below meth c n0 Q h' cells' slots' (mkF m q L (v.toList ++ S))) : AtW p l e R s m args below meth c n0 Q h cells slots (mkF m pc L S') := by
  subst hq hc1 hs1
  intro T locs k n' X hk hn' eT N
  obtain ⟨cq, q1, q2⟩ := E.cell
  obtain ⟨cN, kN, n1, n2, n3⟩ := hni
  have hpv := Cond.privateMethod_at (mvP C.2.2.2.1 w5 (args := #[]))
  obtain ⟨v, _, ⟨T', L', k', n''⟩, -, X', ⟨Lc, hQ, hl', hc', hs'⟩, st⟩ := X.privateBack C.1 (y := y) C.2.2.2.2.1 (mvT C.2.2.2.1 w1) (mvT C.2.2.2.1 w4) (selects_self_of_private n1 n2 n3 hpv (mvT C.2.2.2.1 w4) hy) hpv (mvT C.2.2.2.1 wc) hy (backOf (W := W) (Q := fun v h L => Fr n0 L ∧ Qy v h) ct C.2.2.2.1 wc wz hf hlo) (g := mkF m pc L S') rfl (hL.trans C.2.2.1.symm) (Steps.refl _) (a := a) (by rw [eT]; exact q1) q2 (argsL := argsL) (rest := S) hlen hS (by show 2 * 0 + _ ≤ _; omega) (hb C.2.1 hd) (fun _ _ => ⟨rfl, eT, (by show k + _ ≤ _; omega), (by show n' + _ ≤ _; omega)⟩)
  dsimp only [Pt.U, Pt.locs, Pt.cells, Pt.slots] at X' hl' hc' hs' st hQ
  subst hl' hc' hs'
  obtain ⟨t, o, r1, r⟩ := K v T'.heap hQ.2 T' _ _ _ X' (by omega) (by omega) rfl (Fr.app N hQ.1)
  exact ⟨t, o, st.trans r1, r⟩
theorem w_callB (C : Cx p s m meth c Z own bytes maxL ret nm) {y : MethodName} {i : Nat} {a : Addr} {argsL : List Value} {bytesY : ByteArray} {maxY : Nat} {W : Nat} {dc ds : Nat} {P : Pt → Array Value → Prop} {Qy : Option Value → Heap → List Loc → Prop} (hnm : y.name = "<init>") (w1 : (Jvm.Cond.methodLink own i y).before a0 Z = true) (w2 : (Jvm.Cond.instanceMethod y).before a0 Z = true) (wc : (Jvm.Cond.code y bytesY maxY none).before a0 Z = true)
    (hy : y.cls ≠ "java/lang/invoke/MethodHandle" ∧ y.cls ≠ "java/lang/invoke/VarHandle") (bk : Back l R p e below s args y 3 W (fun A a' => a' = (Value.ref a :: argsL).toArray ∧ A.U.heap = h ∧ A.cells + dc ≤ R.cells ∧ A.slots + ds ≤ R.slots) (fun A _ v B => ∃ L, Qy v B.U.heap L ∧ B.locs = A.locs ++ L ∧ B.cells = A.cells + dc ∧ B.slots = A.slots + ds))
    {S' : List Value} (hS : S' = argsL.reverse ++ .ref a :: S) (hlen : ∀ sig, parseMethodDescriptor y.desc = some sig → argsL.length = sig.parameters.length) (hL : L.size = maxL) (hW : (S.map fun v => v.category).sum ≤ W) {cells' slots' : Nat} (hc1 : cells + dc = cells') (hs1 : slots + ds = slots') (hc : cells' ≤ R.cells) (hl : slots' ≤ R.slots)
    (hd : decode bytes pc = .ok (.invokespecial i, 3)) (hq : pc + 3 = q) (K : ∀ v h' Lc, Qy v h' Lc → Fr n0 Lc ∧ AtW p l e R s m args below meth c n0 Q h' cells' slots' (mkF m q L (v.toList ++ S))) : AtW p l e R s m args below meth c n0 Q h cells slots (mkF m pc L S') := by
  subst hq hc1 hs1
  intro T locs k n' X hk hn' eT N
  obtain ⟨v, _, ⟨T', L', k', n''⟩, -, X', ⟨Lc, hQ, hl', hc', hs'⟩, st⟩ := X.specialBack C.1 (y := y) hnm C.2.2.2.2.1 (mvT C.2.2.2.1 w1) (mvT C.2.2.2.1 w2) (mvT C.2.2.2.1 wc) hy bk (g := mkF m pc L S') rfl (hL.trans C.2.2.1.symm) (Steps.refl _) (a := a) (argsL := argsL) (rest := S) hlen hS (by show 2 * 0 + _ ≤ _; omega) (hb C.2.1 hd) (fun _ _ => ⟨rfl, eT, (by show k + _ ≤ _; omega), (by show n' + _ ≤ _; omega)⟩)
  dsimp only [Pt.U, Pt.locs, Pt.cells, Pt.slots] at X' hl' hc' hs' st hQ
  subst hl' hc' hs'
  obtain ⟨N2, K2⟩ := K v T'.heap Lc hQ
  obtain ⟨t, o, r1, r⟩ := K2 T' _ _ _ X' (by omega) (by omega) rfl (Fr.app N N2)
  exact ⟨t, o, st.trans r1, r⟩

end Wk
-- CUT
theorem own_lt {x y : Int32} : x < y ↔ x.toInt < y.toInt := Int32.lt_iff_toInt_lt
theorem own_eq {x y : Int32} : x = y ↔ x.toInt = y.toInt := Int32.toInt_inj.symm
theorem own_nat {n : Nat} (h : n < 2 ^ 31) : (Int32.ofNat n).toInt = n := Int32.toInt_ofNat_small h
theorem own_nlt {i n : Nat} (hi : i < 2 ^ 31) (hn : n < 2 ^ 31) : Int32.ofNat i < Int32.ofNat n ↔ i < n := by rw [own_lt, own_nat hi, own_nat hn]; omega
theorem own_neq {i n : Nat} (hi : i < 2 ^ 31) (hn : n < 2 ^ 31) : Int32.ofNat i = Int32.ofNat n ↔ i = n := by rw [own_eq, own_nat hi, own_nat hn]; omega
theorem own_one (i : Nat) : Int32.ofNat i + (1 : Int32) = Int32.ofNat (i + 1) := (Int32.ofNat_add i 1).symm
theorem own_shr0 (x : Int32) : x >>> ((0 : Int32) &&& 31) = x := by
  rw [own_eq, c_ishr x 0 0 (by decide)]; simp
theorem own_b8 {P : Int32 → Prop} (h : ∀ k : Fin 256, P (Int32.ofNat k.val)) {x : Int32} (h0 : ¬ x < 0) (h1 : ¬ 255 < x) : P x := by
  rw [own_lt] at h0 h1
  have e0 : (0 : Int32).toInt = 0 := rfl
  have e1 : (255 : Int32).toInt = 255 := rfl
  obtain ⟨k, hk⟩ : ∃ k : Nat, x.toInt = k := ⟨x.toInt.toNat, by omega⟩
  have hx : x = Int32.ofNat k := own_eq.mpr (by rw [hk, own_nat (by omega)])
  rw [hx]
  exact h ⟨k, by omega⟩
theorem own_lo8 {x : Int32} (h0 : ¬ x < 0) (h1 : ¬ 255 < x) : (x.toInt8.toInt32 &&& 255).toUInt32.toUInt16.toUInt32.toInt32 = x := own_b8 (P := fun x => (x.toInt8.toInt32 &&& 255).toUInt32.toUInt16.toUInt32.toInt32 = x) (by decide +kernel) h0 h1
theorem own_nar {x : Int32} (h0 : ¬ x < 0) (h1 : ¬ 255 < x) : nar .char x = x := own_b8 (P := fun x => nar .char x = x) (by decide +kernel) h0 h1
theorem own_nar8 (x : Int32) : nar .byte x.toInt8.toInt32 = x.toInt8.toInt32 := by show x.toInt8.toInt32.toInt8.toInt32 = x.toInt8.toInt32; simp
/-- chars as a Latin-1 String's bytes -/
def own_bs (cs : List Int32) : List Value := cs.map fun c => .int c.toInt8.toInt32
theorem own_bs_len (cs : List Int32) : (own_bs cs).length = cs.length := by simp [own_bs]
theorem own_bs_get {cs : List Int32} {i : Nat} {c : Int32} (h : cs[i]? = some c) : (own_bs cs)[i]? = some (.int c.toInt8.toInt32) := by simp [own_bs, h]
/-- each is a Latin-1 char -/
def L1 (cs : List Int32) : Prop := ∀ c ∈ cs, ¬ c < 0 ∧ ¬ 255 < c
theorem L1.get {cs : List Int32} (h : L1 cs) {i : Nat} {c : Int32} (q : cs[i]? = some c) : ¬ c < 0 ∧ ¬ 255 < c := h c (List.mem_of_getElem? q)
/-- a String of Latin-1 chars -/
def Str (Z : State) (h : Heap) (a : Addr) (cs : List Int32) : Prop := Exa Z h a "java/lang/String" ∧ L1 cs ∧ ∃ t, Fld Z h a "java/lang/String" "coder" "B" (.int 0) ∧ Fld Z h a "java/lang/String" "value" "[B" (.ref t) ∧ Ar Z h t .byte (own_bs cs)
section K0
variable {Z : State} {h h' : Heap} {a : Addr} {n0 : Nat}
theorem Str_k0 {cs : List Int32} (F : Str Z h a cs) (K : Keep h h' []) : Str Z h' a cs := by
  obtain ⟨E, L, t, f1, f2, A⟩ := F
  exact ⟨E.keep K, L, t, f1.keep K nin0, f2.keep K nin0, A.keep K nin0⟩
theorem Ar_k0 {ty : FieldType} {vs : List Value} (F : Ar Z h a ty vs) (K : Keep h h' []) : Ar Z h' a ty vs := F.keep K nin0
theorem Fld_k0 {C n d : String} {v : Value} (F : Fld Z h a C n d v) (K : Keep h h' []) : Fld Z h' a C n d v := F.keep K nin0
theorem Exa_k0 {C : String} (F : Exa Z h a C) (K : Keep h h' []) : Exa Z h' a C := F.keep K
theorem Old_k0 (O : Old Z n0 h) (K : Keep h h' []) : Old Z n0 h' := O.keep K all0
theorem Old_le (O : Old Z n0 h) : n0 ≤ h.size := by rw [← O.1]; exact O.2.1
theorem Str.lt {cs : List Int32} (F : Str Z h a cs) : a < h.size := F.1.lt
theorem Str.len {cs : List Int32} (F : Str Z h a cs) : cs.length < 2 ^ 31 := by
  obtain ⟨-, -, t, -, -, A⟩ := F
  have := A.1; rw [own_bs_len] at this; exact this
end K0
theorem own_L1c {c : Int32} {cs : List Int32} (h : ¬ c < 0 ∧ ¬ 255 < c) (r : L1 cs) : L1 (c :: cs) := fun x hx => by
  rcases List.mem_cons.mp hx with rfl | hx
  · exact h
  · exact r x hx
theorem own_255 (x : Int32) : ¬ (x &&& 255) < 0 ∧ ¬ 255 < (x &&& 255) := by
  have h := c_mask x 255 8 (by decide) (by decide)
  rw [own_lt, own_lt, h]
  constructor <;> (have e0 : (0 : Int32).toInt = 0 := rfl; have e1 : (255 : Int32).toInt = 255 := rfl; omega)
theorem own_i2c {x : Int32} (h : ¬ x < 0 ∧ ¬ 255 < x) : x.toUInt32.toUInt16.toUInt32.toInt32 = x := own_nar h.1 h.2
theorem own_maskN (x m : Int32) (k : Nat) (hk : k ≤ 30) (hm : m.toBitVec.toNat = 2 ^ k - 1) : ∃ j : Nat, j < 2 ^ k ∧ x &&& m = Int32.ofNat j := by
  have h := c_mask x m k (by omega) hm
  have hp : (2 ^ k : Nat) ≤ 2 ^ 30 := Nat.pow_le_pow_right (by decide) hk
  have h0 : (0 : Int) < ((2 ^ k : Nat) : Int) := by have := Nat.two_pow_pos k; omega
  have h1 : 0 ≤ x.toInt % ((2 ^ k : Nat) : Int) := Int.emod_nonneg _ (by omega)
  have h2 : x.toInt % ((2 ^ k : Nat) : Int) < ((2 ^ k : Nat) : Int) := Int.emod_lt_of_pos _ h0
  refine ⟨(x &&& m).toInt.toNat, by rw [h]; omega, ?_⟩
  rw [own_eq, own_nat (by rw [h]; omega), h]
  omega
theorem own_and3 (x : Int32) : x &&& 3 = 0 ∨ x &&& 3 = 1 ∨ x &&& 3 = 2 ∨ x &&& 3 = 3 := by
  have h := c_mask x 3 2 (by decide) (by decide)
  have h2 : 0 ≤ (x &&& 3).toInt ∧ (x &&& 3).toInt < 4 := by rw [h]; constructor <;> omega
  simp only [own_eq]
  show _ = 0 ∨ _ = 1 ∨ _ = 2 ∨ _ = 3
  omega

-- CUT
/-! ## the same for walks that may load String constants -/
/-- from every state that stands (over the tables vm0 so far) at heap h with frame g; mk: every booked constant lies below it; sf: addresses that no booked constant has -/
def AtS (p : Program) (l : Launch) (e : Env) (R : Room) (s : State) (m : MethodId) (args : Array Value) (below : List Frame) (meth : Method) (c : Code) (Z : State) (EL : List (String × Nat)) (own : String) (n0 : Nat) (Q : Option Value → Heap → Prop) (mk : Nat) (sf : List Addr) (h : Heap) (cells slots : Nat) (g : JFrame) : Prop :=
  ∀ (T : State) (locs : List Loc) (k n : Nat) (vm0 : Vm) (k0 : Nat), Stand p l e R (s.setVm vm0) m args below meth c T locs k n → k ≤ cells → n ≤ slots → T.heap = h → Fr n0 locs →
    Z.Warmed39 vm0 → vm0.findClass own = some m.cls → s.Since vm0 k0 → k0 ≤ h.size → CHr Z EL s.vm s.heap vm0 h → (∀ y, Bk Z EL vm0 h y → y < mk) → (∀ x ∈ sf, x < h.size ∧ Safe Z EL vm0 h x) →
    ∃ t o, Steps p.tables e below (T.setTop g) t ∧ t.status = .running ∧ Ended t below o ∧ ∃ v L, o = .returned v ∧ (Fr n0 L ∧ Q v t.heap) ∧ CHr Z EL s.vm s.heap t.vm t.heap ∧ ReturnedEndW s o t L R.cells R.slots
def Cs (ws : List Jvm.Cond) (l : Launch) (Z : State) (EL : List (String × Nat)) (n0 : Nat) (y : MethodName) (bytes : ByteArray) (maxL : Nat) (ret : Option FieldType) (rm : Room) (as : Array Value) (h0 : Heap) (Q : Option Value → Heap → Prop) : Prop :=
  MetFree l y (head1 (Jvm.Cond.code y bytes maxL ret :: ws) rm) (fun a U => a = as ∧ Z.Warmed39 U.vm ∧ U.heap = h0 ∧ CHv Z EL U.vm h0) (fun _ _ _ _ _ => True)
    (fun _ U o U' => ∃ v L, o = .returned v ∧ (Fr n0 L ∧ Q v U'.heap) ∧ CHr Z EL U.vm U.heap U'.vm U'.heap ∧ ReturnedEndW U o U' L rm.cells rm.slots)
section WkS
variable {p : Program} {l : Launch} {e : Env} {R : Room} {s : State} {m : MethodId} {args : Array Value} {below : List Frame} {meth : Method} {c : Code} {n0 : Nat} {Q : Option Value → Heap → Prop} {h : Heap} {cells slots : Nat} {Z : State} {own : String} {bytes : ByteArray} {maxL : Nat} {ret : Option FieldType} {nm : String} {a0 : Array Value} {pc q : Nat} {L L' : Array Slot} {S : List Value} {EL : List (String × Nat)} {mk : Nat} {sf : List Addr}
theorem bk_lt {vm : Vm} {y : Addr} (B : Bk Z EL vm h y) : y < h.size := by
  obtain ⟨cell, hc⟩ := B.there
  exact (Array.getElem?_eq_some_iff.mp hc).1
theorem Cs.intro {ws : List Jvm.Cond} {y : MethodName} {rm : Room} {as : Array Value} (hp : plainFor y = true)
    (k : ∀ p e s m below meth c, Cx p s m meth c Z y.cls bytes maxL ret y.name → AtS p l e rm s m as below meth c Z EL y.cls n0 Q h.size [] h 0 0 (entryFrame m as maxL)) : Cs ws l Z EL n0 y bytes maxL ret rm as h Q := by
  refine MetFree.of_bodySF hp hisR ?_
  intro p e s m args below meth c s₁ Bd hml0 hP hK
  obtain ⟨rfl, hZ, hh, hC⟩ := hP
  have X0 := Stand.of_body Bd
  have hown := findClass_of_methodNamed Bd.named
  refine k p e s m below meth c ⟨Bd.exec, Bd.bytes, hml0, hZ, hown, Bd.returns, Bd.notSynchronized, (name_of_methodNamed Bd.named Bd.method).1⟩ s₁ [] 0 0 s.vm s.heap.size X0 (Nat.le_refl _) (Nat.le_refl _) ?_ (Fr.nil n0) hZ hown ?_ ?_ ?_ ?_ ?_
  · rw [← hh, Bd.state]; rfl
  · exact ⟨State.Warmed39.refl s, fun j q hj hq => absurd (Array.getElem?_eq_some_iff.mp hq).1 (Nat.not_lt.mpr hj)⟩
  · rw [hh]; exact Nat.le_refl _
  · subst hh; exact CHr.refl hC
  · intro y hy; exact bk_lt hy
  · intro x hx; exact absurd hx (List.not_mem_nil)
theorem AtS.mono {g : JFrame} {cells' slots' : Nat} (K : AtS p l e R s m args below meth c Z EL own n0 Q mk sf h cells' slots' g) (h1 : cells ≤ cells') (h2 : slots ≤ slots') : AtS p l e R s m args below meth c Z EL own n0 Q mk sf h cells slots g :=
  fun T locs k n vm0 k0 X hk hn => K T locs k n vm0 k0 X (Nat.le_trans hk h1) (Nat.le_trans hn h2)
theorem AtS.weak {g : JFrame} {mk' : Nat} {sf' : List Addr} (K : AtS p l e R s m args below meth c Z EL own n0 Q mk' sf' h cells slots g) (h1 : mk ≤ mk') (h2 : ∀ x ∈ sf', x ∈ sf) : AtS p l e R s m args below meth c Z EL own n0 Q mk sf h cells slots g :=
  fun T locs k n vm0 k0 X hk hn eT N hZ hown hS hk0 hC hB hF => K T locs k n vm0 k0 X hk hn eT N hZ hown hS hk0 hC (fun y hy => Nat.lt_of_lt_of_le (hB y hy) h1) (fun x hx => hF x (h2 x hx))
/-- every booked constant lies below the heap's size -/
theorem AtS.mark {g : JFrame} (K : AtS p l e R s m args below meth c Z EL own n0 Q h.size sf h cells slots g) : AtS p l e R s m args below meth c Z EL own n0 Q mk sf h cells slots g :=
  fun T locs k n vm0 k0 X hk hn eT N hZ hown hS hk0 hC hB hF => K T locs k n vm0 k0 X hk hn eT N hZ hown hS hk0 hC (fun y hy => bk_lt hy) hF
theorem AtS.add {g : JFrame} {x : Addr} (h1 : mk ≤ x) (h2 : x < h.size) (K : AtS p l e R s m args below meth c Z EL own n0 Q mk (x :: sf) h cells slots g) : AtS p l e R s m args below meth c Z EL own n0 Q mk sf h cells slots g :=
  fun T locs k n vm0 k0 X hk hn eT N hZ hown hS hk0 hC hB hF => K T locs k n vm0 k0 X hk hn eT N hZ hown hS hk0 hC hB (fun y hy => by
    rcases List.mem_cons.mp hy with rfl | hy
    · exact ⟨h2, fun b => Nat.not_lt.mpr h1 (hB _ b)⟩
    · exact hF y hy)
theorem AtS.go {g g' : JFrame} (K : AtS p l e R s m args below meth c Z EL own n0 Q mk sf h cells slots g') (st : ∀ T, At T m c below → ∀ t, Steps p.tables e below (T.setTop g') t → Steps p.tables e below (T.setTop g) t) : AtS p l e R s m args below meth c Z EL own n0 Q mk sf h cells slots g :=
  fun T locs k n vm0 k0 X hk hn eT N hZ hown hS hk0 hC hB hF => by
    obtain ⟨t, o, r1, r⟩ := K T locs k n vm0 k0 X hk hn eT N hZ hown hS hk0 hC hB hF
    exact ⟨t, o, st T X.here t r1, r⟩
theorem AtS.goX {g g' : JFrame} (K : AtS p l e R s m args below meth c Z EL own n0 Q mk sf h cells slots g') (st : ∀ T locs k n vm0, Stand p l e R (s.setVm vm0) m args below meth c T locs k n → T.heap = h → Z.Warmed39 vm0 → vm0.findClass own = some m.cls → ∀ t, Steps p.tables e below (T.setTop g') t → Steps p.tables e below (T.setTop g) t) : AtS p l e R s m args below meth c Z EL own n0 Q mk sf h cells slots g :=
  fun T locs k n vm0 k0 X hk hn eT N hZ hown hS hk0 hC hB hF => by
    obtain ⟨t, o, r1, r⟩ := K T locs k n vm0 k0 X hk hn eT N hZ hown hS hk0 hC hB hF
    exact ⟨t, o, st T locs k n vm0 X eT hZ hown t r1, r⟩
theorem AtS.cast {g g' : JFrame} (K : AtS p l e R s m args below meth c Z EL own n0 Q mk sf h cells slots g') (q : g = g') : AtS p l e R s m args below meth c Z EL own n0 Q mk sf h cells slots g := by rw [q]; exact K

theorem s_iload (C : Cx p s m meth c Z own bytes maxL ret nm) {k : Nat} {v : Int32} (hl : L[k]? = some (.val (.int v))) (hd : decode bytes pc = .ok (.iload k, 2)) (hq : pc + 2 = q) (K : AtS p l e R s m args below meth c Z EL own n0 Q mk sf h cells slots (mkF m q L (.int v :: S))) : AtS p l e R s m args below meth c Z EL own n0 Q mk sf h cells slots (mkF m pc L S) := by
  subst hq
  exact K.go fun T hA t st => XS.iload hA C.1 rfl (hb C.2.1 hd) hl st
theorem s_iloadN (C : Cx p s m meth c Z own bytes maxL ret nm) {k : Fin 4} {v : Int32} (hl : L[k.val]? = some (.val (.int v))) (hd : decode bytes pc = .ok (.iload_n k, 1)) (hq : pc + 1 = q) (K : AtS p l e R s m args below meth c Z EL own n0 Q mk sf h cells slots (mkF m q L (.int v :: S))) : AtS p l e R s m args below meth c Z EL own n0 Q mk sf h cells slots (mkF m pc L S) := by
  subst hq
  exact K.go fun T hA t st => XS.iloadN hA C.1 rfl (hb C.2.1 hd) hl st
theorem s_istore (C : Cx p s m meth c Z own bytes maxL ret nm) {k : Nat} {v : Int32} (hl : storeLocals L k (.int v) = some L') (hd : decode bytes pc = .ok (.istore k, 2)) (hq : pc + 2 = q) (K : AtS p l e R s m args below meth c Z EL own n0 Q mk sf h cells slots (mkF m q L' S)) : AtS p l e R s m args below meth c Z EL own n0 Q mk sf h cells slots (mkF m pc L (.int v :: S)) := by
  subst hq
  exact K.go fun T hA t st => XS.istore hA C.1 rfl (hb C.2.1 hd) rfl hl st
theorem s_istoreN (C : Cx p s m meth c Z own bytes maxL ret nm) {k : Fin 4} {v : Int32} (hl : storeLocals L k.val (.int v) = some L') (hd : decode bytes pc = .ok (.istore_n k, 1)) (hq : pc + 1 = q) (K : AtS p l e R s m args below meth c Z EL own n0 Q mk sf h cells slots (mkF m q L' S)) : AtS p l e R s m args below meth c Z EL own n0 Q mk sf h cells slots (mkF m pc L (.int v :: S)) := by
  subst hq
  exact K.go fun T hA t st => XS.istoreN hA C.1 rfl (hb C.2.1 hd) rfl hl st
theorem s_lload (C : Cx p s m meth c Z own bytes maxL ret nm) {k : Nat} {v : Int64} (hl : L[k]? = some (.val (.long v))) (hd : decode bytes pc = .ok (.lload k, 2)) (hq : pc + 2 = q) (K : AtS p l e R s m args below meth c Z EL own n0 Q mk sf h cells slots (mkF m q L (.long v :: S))) : AtS p l e R s m args below meth c Z EL own n0 Q mk sf h cells slots (mkF m pc L S) := by
  subst hq
  exact K.go fun T hA t st => XS.lload hA C.1 rfl (hb C.2.1 hd) hl st
theorem s_lloadN (C : Cx p s m meth c Z own bytes maxL ret nm) {k : Fin 4} {v : Int64} (hl : L[k.val]? = some (.val (.long v))) (hd : decode bytes pc = .ok (.lload_n k, 1)) (hq : pc + 1 = q) (K : AtS p l e R s m args below meth c Z EL own n0 Q mk sf h cells slots (mkF m q L (.long v :: S))) : AtS p l e R s m args below meth c Z EL own n0 Q mk sf h cells slots (mkF m pc L S) := by
  subst hq
  exact K.go fun T hA t st => XS.lloadN hA C.1 rfl (hb C.2.1 hd) hl st
theorem s_lstore (C : Cx p s m meth c Z own bytes maxL ret nm) {k : Nat} {v : Int64} (hl : storeLocals L k (.long v) = some L') (hd : decode bytes pc = .ok (.lstore k, 2)) (hq : pc + 2 = q) (K : AtS p l e R s m args below meth c Z EL own n0 Q mk sf h cells slots (mkF m q L' S)) : AtS p l e R s m args below meth c Z EL own n0 Q mk sf h cells slots (mkF m pc L (.long v :: S)) := by
  subst hq
  exact K.go fun T hA t st => XS.lstore hA C.1 rfl (hb C.2.1 hd) rfl hl st
theorem s_lstoreN (C : Cx p s m meth c Z own bytes maxL ret nm) {k : Fin 4} {v : Int64} (hl : storeLocals L k.val (.long v) = some L') (hd : decode bytes pc = .ok (.lstore_n k, 1)) (hq : pc + 1 = q) (K : AtS p l e R s m args below meth c Z EL own n0 Q mk sf h cells slots (mkF m q L' S)) : AtS p l e R s m args below meth c Z EL own n0 Q mk sf h cells slots (mkF m pc L (.long v :: S)) := by
  subst hq
  exact K.go fun T hA t st => XS.lstoreN hA C.1 rfl (hb C.2.1 hd) rfl hl st
theorem s_aload (C : Cx p s m meth c Z own bytes maxL ret nm) {k : Nat} {v : Value} (hl : L[k]? = some (.val v)) (hv : v.isRef = true) (hd : decode bytes pc = .ok (.aload k, 2)) (hq : pc + 2 = q) (K : AtS p l e R s m args below meth c Z EL own n0 Q mk sf h cells slots (mkF m q L (v :: S))) : AtS p l e R s m args below meth c Z EL own n0 Q mk sf h cells slots (mkF m pc L S) := by
  subst hq
  exact K.go fun T hA t st => XS.aload hA C.1 rfl (hb C.2.1 hd) hl hv st
theorem s_aloadN (C : Cx p s m meth c Z own bytes maxL ret nm) {k : Fin 4} {v : Value} (hl : L[k.val]? = some (.val v)) (hv : v.isRef = true) (hd : decode bytes pc = .ok (.aload_n k, 1)) (hq : pc + 1 = q) (K : AtS p l e R s m args below meth c Z EL own n0 Q mk sf h cells slots (mkF m q L (v :: S))) : AtS p l e R s m args below meth c Z EL own n0 Q mk sf h cells slots (mkF m pc L S) := by
  subst hq
  exact K.go fun T hA t st => XS.aloadN hA C.1 rfl (hb C.2.1 hd) hl hv st
theorem s_astore (C : Cx p s m meth c Z own bytes maxL ret nm) {k : Nat} {v : Value} (hv : v.isRef = true) (hl : storeLocals L k v = some L') (hd : decode bytes pc = .ok (.astore k, 2)) (hq : pc + 2 = q) (K : AtS p l e R s m args below meth c Z EL own n0 Q mk sf h cells slots (mkF m q L' S)) : AtS p l e R s m args below meth c Z EL own n0 Q mk sf h cells slots (mkF m pc L (v :: S)) := by
  subst hq
  exact K.go fun T hA t st => XS.astore hA C.1 rfl (hb C.2.1 hd) rfl hv hl st
theorem s_astoreN (C : Cx p s m meth c Z own bytes maxL ret nm) {k : Fin 4} {v : Value} (hv : v.isRef = true) (hl : storeLocals L k.val v = some L') (hd : decode bytes pc = .ok (.astore_n k, 1)) (hq : pc + 1 = q) (K : AtS p l e R s m args below meth c Z EL own n0 Q mk sf h cells slots (mkF m q L' S)) : AtS p l e R s m args below meth c Z EL own n0 Q mk sf h cells slots (mkF m pc L (v :: S)) := by
  subst hq
  exact K.go fun T hA t st => XS.astoreN hA C.1 rfl (hb C.2.1 hd) rfl hv hl st
theorem s_iconst (C : Cx p s m meth c Z own bytes maxL ret nm) {i : Int} {v : Int32} (hv : Int32.ofInt i = v) (hd : decode bytes pc = .ok (.iconst i, 1)) (hq : pc + 1 = q) (K : AtS p l e R s m args below meth c Z EL own n0 Q mk sf h cells slots (mkF m q L (.int v :: S))) : AtS p l e R s m args below meth c Z EL own n0 Q mk sf h cells slots (mkF m pc L S) := by
  subst hq
  exact K.go fun T hA t st => by subst hv; exact XS.iconst hA C.1 rfl (hb C.2.1 hd) st
theorem s_bipush (C : Cx p s m meth c Z own bytes maxL ret nm) {i : Int} {v : Int32} (hv : (Int8.ofInt i).toInt32 = v) (hd : decode bytes pc = .ok (.bipush i, 2)) (hq : pc + 2 = q) (K : AtS p l e R s m args below meth c Z EL own n0 Q mk sf h cells slots (mkF m q L (.int v :: S))) : AtS p l e R s m args below meth c Z EL own n0 Q mk sf h cells slots (mkF m pc L S) := by
  subst hq
  exact K.go fun T hA t st => by subst hv; exact XS.bipush hA C.1 rfl (hb C.2.1 hd) st
theorem s_sipush (C : Cx p s m meth c Z own bytes maxL ret nm) {i : Int} {v : Int32} (hv : (Int16.ofInt i).toInt32 = v) (hd : decode bytes pc = .ok (.sipush i, 3)) (hq : pc + 3 = q) (K : AtS p l e R s m args below meth c Z EL own n0 Q mk sf h cells slots (mkF m q L (.int v :: S))) : AtS p l e R s m args below meth c Z EL own n0 Q mk sf h cells slots (mkF m pc L S) := by
  subst hq
  exact K.go fun T hA t st => by subst hv; exact XS.sipush hA C.1 rfl (hb C.2.1 hd) st
theorem s_lconst (C : Cx p s m meth c Z own bytes maxL ret nm) {k : Fin 2} {v : Int64} (hv : Int64.ofNat k = v) (hd : decode bytes pc = .ok (.lconst k, 1)) (hq : pc + 1 = q) (K : AtS p l e R s m args below meth c Z EL own n0 Q mk sf h cells slots (mkF m q L (.long v :: S))) : AtS p l e R s m args below meth c Z EL own n0 Q mk sf h cells slots (mkF m pc L S) := by
  subst hq
  exact K.go fun T hA t st => by subst hv; exact XS.lconst hA C.1 rfl (hb C.2.1 hd) st
theorem s_aconst_null (C : Cx p s m meth c Z own bytes maxL ret nm)  (hd : decode bytes pc = .ok (.aconst_null, 1)) (hq : pc + 1 = q) (K : AtS p l e R s m args below meth c Z EL own n0 Q mk sf h cells slots (mkF m q L (.null :: S))) : AtS p l e R s m args below meth c Z EL own n0 Q mk sf h cells slots (mkF m pc L S) := by
  subst hq
  exact K.go fun T hA t st => XS.aconstNull hA C.1 rfl (hb C.2.1 hd) st
theorem s_iadd (C : Cx p s m meth c Z own bytes maxL ret nm) {x y z : Int32} (hz : x + y = z) (hd : decode bytes pc = .ok (.iadd, 1)) (hq : pc + 1 = q) (K : AtS p l e R s m args below meth c Z EL own n0 Q mk sf h cells slots (mkF m q L (.int z :: S))) : AtS p l e R s m args below meth c Z EL own n0 Q mk sf h cells slots (mkF m pc L (.int y :: .int x :: S)) := by
  subst hq
  exact K.go fun T hA t st => by subst hz; exact XS.iadd hA C.1 rfl (hb C.2.1 hd) rfl st
theorem s_isub (C : Cx p s m meth c Z own bytes maxL ret nm) {x y z : Int32} (hz : x - y = z) (hd : decode bytes pc = .ok (.isub, 1)) (hq : pc + 1 = q) (K : AtS p l e R s m args below meth c Z EL own n0 Q mk sf h cells slots (mkF m q L (.int z :: S))) : AtS p l e R s m args below meth c Z EL own n0 Q mk sf h cells slots (mkF m pc L (.int y :: .int x :: S)) := by
  subst hq
  exact K.go fun T hA t st => by subst hz; exact XS.isub hA C.1 rfl (hb C.2.1 hd) rfl st
theorem s_imul (C : Cx p s m meth c Z own bytes maxL ret nm) {x y z : Int32} (hz : x * y = z) (hd : decode bytes pc = .ok (.imul, 1)) (hq : pc + 1 = q) (K : AtS p l e R s m args below meth c Z EL own n0 Q mk sf h cells slots (mkF m q L (.int z :: S))) : AtS p l e R s m args below meth c Z EL own n0 Q mk sf h cells slots (mkF m pc L (.int y :: .int x :: S)) := by
  subst hq
  exact K.go fun T hA t st => by subst hz; exact XS.imul hA C.1 rfl (hb C.2.1 hd) rfl st
theorem s_iand (C : Cx p s m meth c Z own bytes maxL ret nm) {x y z : Int32} (hz : x &&& y = z) (hd : decode bytes pc = .ok (.iand, 1)) (hq : pc + 1 = q) (K : AtS p l e R s m args below meth c Z EL own n0 Q mk sf h cells slots (mkF m q L (.int z :: S))) : AtS p l e R s m args below meth c Z EL own n0 Q mk sf h cells slots (mkF m pc L (.int y :: .int x :: S)) := by
  subst hq
  exact K.go fun T hA t st => by subst hz; exact XS.iand hA C.1 rfl (hb C.2.1 hd) rfl st
theorem s_ior (C : Cx p s m meth c Z own bytes maxL ret nm) {x y z : Int32} (hz : x ||| y = z) (hd : decode bytes pc = .ok (.ior, 1)) (hq : pc + 1 = q) (K : AtS p l e R s m args below meth c Z EL own n0 Q mk sf h cells slots (mkF m q L (.int z :: S))) : AtS p l e R s m args below meth c Z EL own n0 Q mk sf h cells slots (mkF m pc L (.int y :: .int x :: S)) := by
  subst hq
  exact K.go fun T hA t st => by subst hz; exact XS.ior hA C.1 rfl (hb C.2.1 hd) rfl st
theorem s_ixor (C : Cx p s m meth c Z own bytes maxL ret nm) {x y z : Int32} (hz : x ^^^ y = z) (hd : decode bytes pc = .ok (.ixor, 1)) (hq : pc + 1 = q) (K : AtS p l e R s m args below meth c Z EL own n0 Q mk sf h cells slots (mkF m q L (.int z :: S))) : AtS p l e R s m args below meth c Z EL own n0 Q mk sf h cells slots (mkF m pc L (.int y :: .int x :: S)) := by
  subst hq
  exact K.go fun T hA t st => by subst hz; exact XS.ixor hA C.1 rfl (hb C.2.1 hd) rfl st
theorem s_ladd (C : Cx p s m meth c Z own bytes maxL ret nm) {x y z : Int64} (hz : x + y = z) (hd : decode bytes pc = .ok (.ladd, 1)) (hq : pc + 1 = q) (K : AtS p l e R s m args below meth c Z EL own n0 Q mk sf h cells slots (mkF m q L (.long z :: S))) : AtS p l e R s m args below meth c Z EL own n0 Q mk sf h cells slots (mkF m pc L (.long y :: .long x :: S)) := by
  subst hq
  exact K.go fun T hA t st => by subst hz; exact XS.ladd hA C.1 rfl (hb C.2.1 hd) rfl st
theorem s_lsub (C : Cx p s m meth c Z own bytes maxL ret nm) {x y z : Int64} (hz : x - y = z) (hd : decode bytes pc = .ok (.lsub, 1)) (hq : pc + 1 = q) (K : AtS p l e R s m args below meth c Z EL own n0 Q mk sf h cells slots (mkF m q L (.long z :: S))) : AtS p l e R s m args below meth c Z EL own n0 Q mk sf h cells slots (mkF m pc L (.long y :: .long x :: S)) := by
  subst hq
  exact K.go fun T hA t st => by subst hz; exact XS.lsub hA C.1 rfl (hb C.2.1 hd) rfl st
theorem s_lmul (C : Cx p s m meth c Z own bytes maxL ret nm) {x y z : Int64} (hz : x * y = z) (hd : decode bytes pc = .ok (.lmul, 1)) (hq : pc + 1 = q) (K : AtS p l e R s m args below meth c Z EL own n0 Q mk sf h cells slots (mkF m q L (.long z :: S))) : AtS p l e R s m args below meth c Z EL own n0 Q mk sf h cells slots (mkF m pc L (.long y :: .long x :: S)) := by
  subst hq
  exact K.go fun T hA t st => by subst hz; exact XS.lmul hA C.1 rfl (hb C.2.1 hd) rfl st
theorem s_land (C : Cx p s m meth c Z own bytes maxL ret nm) {x y z : Int64} (hz : x &&& y = z) (hd : decode bytes pc = .ok (.land, 1)) (hq : pc + 1 = q) (K : AtS p l e R s m args below meth c Z EL own n0 Q mk sf h cells slots (mkF m q L (.long z :: S))) : AtS p l e R s m args below meth c Z EL own n0 Q mk sf h cells slots (mkF m pc L (.long y :: .long x :: S)) := by
  subst hq
  exact K.go fun T hA t st => by subst hz; exact XS.land hA C.1 rfl (hb C.2.1 hd) rfl st
theorem s_lor (C : Cx p s m meth c Z own bytes maxL ret nm) {x y z : Int64} (hz : x ||| y = z) (hd : decode bytes pc = .ok (.lor, 1)) (hq : pc + 1 = q) (K : AtS p l e R s m args below meth c Z EL own n0 Q mk sf h cells slots (mkF m q L (.long z :: S))) : AtS p l e R s m args below meth c Z EL own n0 Q mk sf h cells slots (mkF m pc L (.long y :: .long x :: S)) := by
  subst hq
  exact K.go fun T hA t st => by subst hz; exact XS.lor hA C.1 rfl (hb C.2.1 hd) rfl st
theorem s_lxor (C : Cx p s m meth c Z own bytes maxL ret nm) {x y z : Int64} (hz : x ^^^ y = z) (hd : decode bytes pc = .ok (.lxor, 1)) (hq : pc + 1 = q) (K : AtS p l e R s m args below meth c Z EL own n0 Q mk sf h cells slots (mkF m q L (.long z :: S))) : AtS p l e R s m args below meth c Z EL own n0 Q mk sf h cells slots (mkF m pc L (.long y :: .long x :: S)) := by
  subst hq
  exact K.go fun T hA t st => by subst hz; exact XS.lxor hA C.1 rfl (hb C.2.1 hd) rfl st
theorem s_ishl (C : Cx p s m meth c Z own bytes maxL ret nm) {x y z : Int32} (hz : x <<< (y &&& 31) = z) (hd : decode bytes pc = .ok (.ishl, 1)) (hq : pc + 1 = q) (K : AtS p l e R s m args below meth c Z EL own n0 Q mk sf h cells slots (mkF m q L (.int z :: S))) : AtS p l e R s m args below meth c Z EL own n0 Q mk sf h cells slots (mkF m pc L (.int y :: .int x :: S)) := by
  subst hq
  exact K.go fun T hA t st => by subst hz; exact XS.ishl hA C.1 rfl (hb C.2.1 hd) rfl st
theorem s_ishr (C : Cx p s m meth c Z own bytes maxL ret nm) {x y z : Int32} (hz : x >>> (y &&& 31) = z) (hd : decode bytes pc = .ok (.ishr, 1)) (hq : pc + 1 = q) (K : AtS p l e R s m args below meth c Z EL own n0 Q mk sf h cells slots (mkF m q L (.int z :: S))) : AtS p l e R s m args below meth c Z EL own n0 Q mk sf h cells slots (mkF m pc L (.int y :: .int x :: S)) := by
  subst hq
  exact K.go fun T hA t st => by subst hz; exact XS.ishr hA C.1 rfl (hb C.2.1 hd) rfl st
theorem s_iushr (C : Cx p s m meth c Z own bytes maxL ret nm) {x y z : Int32} (hz : (x.toUInt32 >>> (y &&& 31).toUInt32).toInt32 = z) (hd : decode bytes pc = .ok (.iushr, 1)) (hq : pc + 1 = q) (K : AtS p l e R s m args below meth c Z EL own n0 Q mk sf h cells slots (mkF m q L (.int z :: S))) : AtS p l e R s m args below meth c Z EL own n0 Q mk sf h cells slots (mkF m pc L (.int y :: .int x :: S)) := by
  subst hq
  exact K.go fun T hA t st => by subst hz; exact XS.iushr hA C.1 rfl (hb C.2.1 hd) rfl st
theorem s_lshl (C : Cx p s m meth c Z own bytes maxL ret nm) {x z : Int64} {y : Int32} (hz : x <<< (y &&& 0x3f).toInt64 = z) (hd : decode bytes pc = .ok (.lshl, 1)) (hq : pc + 1 = q) (K : AtS p l e R s m args below meth c Z EL own n0 Q mk sf h cells slots (mkF m q L (.long z :: S))) : AtS p l e R s m args below meth c Z EL own n0 Q mk sf h cells slots (mkF m pc L (.int y :: .long x :: S)) := by
  subst hq
  exact K.go fun T hA t st => by subst hz; exact XS.lshl hA C.1 rfl (hb C.2.1 hd) rfl st
theorem s_lshr (C : Cx p s m meth c Z own bytes maxL ret nm) {x z : Int64} {y : Int32} (hz : x >>> (y &&& 0x3f).toInt64 = z) (hd : decode bytes pc = .ok (.lshr, 1)) (hq : pc + 1 = q) (K : AtS p l e R s m args below meth c Z EL own n0 Q mk sf h cells slots (mkF m q L (.long z :: S))) : AtS p l e R s m args below meth c Z EL own n0 Q mk sf h cells slots (mkF m pc L (.int y :: .long x :: S)) := by
  subst hq
  exact K.go fun T hA t st => by subst hz; exact XS.lshr hA C.1 rfl (hb C.2.1 hd) rfl st
theorem s_lushr (C : Cx p s m meth c Z own bytes maxL ret nm) {x z : Int64} {y : Int32} (hz : (x.toUInt64 >>> (y &&& 0x3f).toInt64.toUInt64).toInt64 = z) (hd : decode bytes pc = .ok (.lushr, 1)) (hq : pc + 1 = q) (K : AtS p l e R s m args below meth c Z EL own n0 Q mk sf h cells slots (mkF m q L (.long z :: S))) : AtS p l e R s m args below meth c Z EL own n0 Q mk sf h cells slots (mkF m pc L (.int y :: .long x :: S)) := by
  subst hq
  exact K.go fun T hA t st => by subst hz; exact XS.lushr hA C.1 rfl (hb C.2.1 hd) rfl st
theorem s_idiv (C : Cx p s m meth c Z own bytes maxL ret nm) {x y z : Int32} (hy : y ≠ 0) (hz : x / y = z) (hd : decode bytes pc = .ok (.idiv, 1)) (hq : pc + 1 = q) (K : AtS p l e R s m args below meth c Z EL own n0 Q mk sf h cells slots (mkF m q L (.int z :: S))) : AtS p l e R s m args below meth c Z EL own n0 Q mk sf h cells slots (mkF m pc L (.int y :: .int x :: S)) := by
  subst hq
  exact K.go fun T hA t st => by subst hz; exact XS.idiv hA C.1 rfl (hb C.2.1 hd) rfl hy st
theorem s_ldiv (C : Cx p s m meth c Z own bytes maxL ret nm) {x y z : Int64} (hy : y ≠ 0) (hz : x / y = z) (hd : decode bytes pc = .ok (.ldiv, 1)) (hq : pc + 1 = q) (K : AtS p l e R s m args below meth c Z EL own n0 Q mk sf h cells slots (mkF m q L (.long z :: S))) : AtS p l e R s m args below meth c Z EL own n0 Q mk sf h cells slots (mkF m pc L (.long y :: .long x :: S)) := by
  subst hq
  exact K.go fun T hA t st => by subst hz; exact XS.ldiv hA C.1 rfl (hb C.2.1 hd) rfl hy st
theorem s_irem (C : Cx p s m meth c Z own bytes maxL ret nm) {x y z : Int32} (hy : y ≠ 0) (hz : x % y = z) (hd : decode bytes pc = .ok (.irem, 1)) (hq : pc + 1 = q) (K : AtS p l e R s m args below meth c Z EL own n0 Q mk sf h cells slots (mkF m q L (.int z :: S))) : AtS p l e R s m args below meth c Z EL own n0 Q mk sf h cells slots (mkF m pc L (.int y :: .int x :: S)) := by
  subst hq
  exact K.go fun T hA t st => by subst hz; rw [← irem_eq_mod x y] at st; exact XS.irem hA C.1 rfl (hb C.2.1 hd) rfl hy st
theorem s_lrem (C : Cx p s m meth c Z own bytes maxL ret nm) {x y z : Int64} (hy : y ≠ 0) (hz : x % y = z) (hd : decode bytes pc = .ok (.lrem, 1)) (hq : pc + 1 = q) (K : AtS p l e R s m args below meth c Z EL own n0 Q mk sf h cells slots (mkF m q L (.long z :: S))) : AtS p l e R s m args below meth c Z EL own n0 Q mk sf h cells slots (mkF m pc L (.long y :: .long x :: S)) := by
  subst hq
  exact K.go fun T hA t st => by subst hz; rw [← lrem_mod x y] at st; exact XS.lrem hA C.1 rfl (hb C.2.1 hd) rfl hy st
theorem s_ineg (C : Cx p s m meth c Z own bytes maxL ret nm) {x : Int32} {z : Int32} (hz : -x = z) (hd : decode bytes pc = .ok (.ineg, 1)) (hq : pc + 1 = q) (K : AtS p l e R s m args below meth c Z EL own n0 Q mk sf h cells slots (mkF m q L (.int z :: S))) : AtS p l e R s m args below meth c Z EL own n0 Q mk sf h cells slots (mkF m pc L (.int x :: S)) := by
  subst hq
  exact K.go fun T hA t st => by subst hz; exact XS.ineg hA C.1 rfl (hb C.2.1 hd) rfl st
theorem s_lneg (C : Cx p s m meth c Z own bytes maxL ret nm) {x : Int64} {z : Int64} (hz : -x = z) (hd : decode bytes pc = .ok (.lneg, 1)) (hq : pc + 1 = q) (K : AtS p l e R s m args below meth c Z EL own n0 Q mk sf h cells slots (mkF m q L (.long z :: S))) : AtS p l e R s m args below meth c Z EL own n0 Q mk sf h cells slots (mkF m pc L (.long x :: S)) := by
  subst hq
  exact K.go fun T hA t st => by subst hz; exact XS.lneg hA C.1 rfl (hb C.2.1 hd) rfl st
theorem s_i2l (C : Cx p s m meth c Z own bytes maxL ret nm) {x : Int32} {z : Int64} (hz : x.toInt64 = z) (hd : decode bytes pc = .ok (.i2l, 1)) (hq : pc + 1 = q) (K : AtS p l e R s m args below meth c Z EL own n0 Q mk sf h cells slots (mkF m q L (.long z :: S))) : AtS p l e R s m args below meth c Z EL own n0 Q mk sf h cells slots (mkF m pc L (.int x :: S)) := by
  subst hq
  exact K.go fun T hA t st => by subst hz; exact XS.i2l hA C.1 rfl (hb C.2.1 hd) rfl st
theorem s_l2i (C : Cx p s m meth c Z own bytes maxL ret nm) {x : Int64} {z : Int32} (hz : x.toInt32 = z) (hd : decode bytes pc = .ok (.l2i, 1)) (hq : pc + 1 = q) (K : AtS p l e R s m args below meth c Z EL own n0 Q mk sf h cells slots (mkF m q L (.int z :: S))) : AtS p l e R s m args below meth c Z EL own n0 Q mk sf h cells slots (mkF m pc L (.long x :: S)) := by
  subst hq
  exact K.go fun T hA t st => by subst hz; exact XS.l2i hA C.1 rfl (hb C.2.1 hd) rfl st
theorem s_i2b (C : Cx p s m meth c Z own bytes maxL ret nm) {x : Int32} {z : Int32} (hz : x.toInt8.toInt32 = z) (hd : decode bytes pc = .ok (.i2b, 1)) (hq : pc + 1 = q) (K : AtS p l e R s m args below meth c Z EL own n0 Q mk sf h cells slots (mkF m q L (.int z :: S))) : AtS p l e R s m args below meth c Z EL own n0 Q mk sf h cells slots (mkF m pc L (.int x :: S)) := by
  subst hq
  exact K.go fun T hA t st => by subst hz; exact XS.i2b hA C.1 rfl (hb C.2.1 hd) rfl st
theorem s_i2s (C : Cx p s m meth c Z own bytes maxL ret nm) {x : Int32} {z : Int32} (hz : x.toInt16.toInt32 = z) (hd : decode bytes pc = .ok (.i2s, 1)) (hq : pc + 1 = q) (K : AtS p l e R s m args below meth c Z EL own n0 Q mk sf h cells slots (mkF m q L (.int z :: S))) : AtS p l e R s m args below meth c Z EL own n0 Q mk sf h cells slots (mkF m pc L (.int x :: S)) := by
  subst hq
  exact K.go fun T hA t st => by subst hz; exact XS.i2s hA C.1 rfl (hb C.2.1 hd) rfl st
theorem s_i2c (C : Cx p s m meth c Z own bytes maxL ret nm) {x : Int32} {z : Int32} (hz : x.toUInt32.toUInt16.toUInt32.toInt32 = z) (hd : decode bytes pc = .ok (.i2c, 1)) (hq : pc + 1 = q) (K : AtS p l e R s m args below meth c Z EL own n0 Q mk sf h cells slots (mkF m q L (.int z :: S))) : AtS p l e R s m args below meth c Z EL own n0 Q mk sf h cells slots (mkF m pc L (.int x :: S)) := by
  subst hq
  exact K.go fun T hA t st => by subst hz; exact XS.i2c hA C.1 rfl (hb C.2.1 hd) rfl st
theorem s_lcmp (C : Cx p s m meth c Z own bytes maxL ret nm) {x y : Int64} {z : Int32} (hz : lcmpW x y = z) (hd : decode bytes pc = .ok (.lcmp, 1)) (hq : pc + 1 = q) (K : AtS p l e R s m args below meth c Z EL own n0 Q mk sf h cells slots (mkF m q L (.int z :: S))) : AtS p l e R s m args below meth c Z EL own n0 Q mk sf h cells slots (mkF m pc L (.long y :: .long x :: S)) := by
  subst hq
  exact K.go fun T hA t st => by subst hz; exact XS.lcmp hA C.1 rfl (hb C.2.1 hd) rfl st
theorem s_dup (C : Cx p s m meth c Z own bytes maxL ret nm) {x : Value} (hc : x.category = 1) (hd : decode bytes pc = .ok (.dup, 1)) (hq : pc + 1 = q) (K : AtS p l e R s m args below meth c Z EL own n0 Q mk sf h cells slots (mkF m q L (x :: x :: S))) : AtS p l e R s m args below meth c Z EL own n0 Q mk sf h cells slots (mkF m pc L (x :: S)) := by
  subst hq
  exact K.go fun T hA t st => XS.dup hA C.1 rfl (hb C.2.1 hd) rfl hc st
theorem s_pop (C : Cx p s m meth c Z own bytes maxL ret nm) {x : Value} (hc : x.category = 1) (hd : decode bytes pc = .ok (.pop, 1)) (hq : pc + 1 = q) (K : AtS p l e R s m args below meth c Z EL own n0 Q mk sf h cells slots (mkF m q L S)) : AtS p l e R s m args below meth c Z EL own n0 Q mk sf h cells slots (mkF m pc L (x :: S)) := by
  subst hq
  exact K.go fun T hA t st => XS.pop hA C.1 rfl (hb C.2.1 hd) rfl hc st
theorem s_dup_x1 (C : Cx p s m meth c Z own bytes maxL ret nm) {x y : Value} (hc : x.category = 1) (hc' : y.category = 1) (hd : decode bytes pc = .ok (.dup_x1, 1)) (hq : pc + 1 = q) (K : AtS p l e R s m args below meth c Z EL own n0 Q mk sf h cells slots (mkF m q L (x :: y :: x :: S))) : AtS p l e R s m args below meth c Z EL own n0 Q mk sf h cells slots (mkF m pc L (x :: y :: S)) := by
  subst hq
  exact K.go fun T hA t st => XS.dupX1 hA C.1 rfl (hb C.2.1 hd) rfl hc hc' st
theorem s_iinc (C : Cx p s m meth c Z own bytes maxL ret nm) {k : Nat} {cst : Int} {x z : Int32} (hl : L[k]? = some (.val (.int x))) (hz : x + Int32.ofInt cst = z) (hl' : storeLocals L k (.int z) = some L') (hd : decode bytes pc = .ok (.iinc k cst, 3)) (hq : pc + 3 = q) (K : AtS p l e R s m args below meth c Z EL own n0 Q mk sf h cells slots (mkF m q L' S)) : AtS p l e R s m args below meth c Z EL own n0 Q mk sf h cells slots (mkF m pc L S) := by
  subst hq
  exact K.go fun T hA t st => by subst hz; exact XS.iinc hA C.1 rfl (hb C.2.1 hd) hl hl' st
theorem s_goto (C : Cx p s m meth c Z own bytes maxL ret nm) {o : Int} (hd : decode bytes pc = .ok (.goto o, 3)) (ho : 0 ≤ (pc : Int) + o) (hp : ((pc : Int) + o).toNat = q) (K : AtS p l e R s m args below meth c Z EL own n0 Q mk sf h cells slots (mkF m q L S)) : AtS p l e R s m args below meth c Z EL own n0 Q mk sf h cells slots (mkF m pc L S) :=
  K.go fun T hA t st => XS.goto hA C.1 rfl (pc0 := pc) (pc' := q) rfl (hb C.2.1 hd) ho hp st
theorem s_icmp_lt_t (C : Cx p s m meth c Z own bytes maxL ret nm) {o : Int} {x y : Int32} (hd : decode bytes pc = .ok (.if_icmp .lt o, 3)) (ho : 0 ≤ (pc : Int) + o) (hp : ((pc : Int) + o).toNat = q) (hc : x < y) (K : AtS p l e R s m args below meth c Z EL own n0 Q mk sf h cells slots (mkF m q L S)) : AtS p l e R s m args below meth c Z EL own n0 Q mk sf h cells slots (mkF m pc L (.int y :: .int x :: S)) :=
  K.go fun T hA t st => XS.icmpYes hA C.1 rfl (pc0 := pc) (pc' := q) rfl (hb C.2.1 hd) rfl (tlt hc).1 ho hp st
theorem s_icmp_lt_f (C : Cx p s m meth c Z own bytes maxL ret nm) {o : Int} {x y : Int32} (hd : decode bytes pc = .ok (.if_icmp .lt o, 3)) (hq : pc + 3 = q) (hc : ¬ x < y) (K : AtS p l e R s m args below meth c Z EL own n0 Q mk sf h cells slots (mkF m q L S)) : AtS p l e R s m args below meth c Z EL own n0 Q mk sf h cells slots (mkF m pc L (.int y :: .int x :: S)) := by
  subst hq
  exact K.go fun T hA t st => XS.icmpNo hA C.1 rfl (hb C.2.1 hd) rfl (flt hc).1 st
theorem s_if_lt_t (C : Cx p s m meth c Z own bytes maxL ret nm) {o : Int} {x : Int32} (hd : decode bytes pc = .ok (.ifCond .lt o, 3)) (ho : 0 ≤ (pc : Int) + o) (hp : ((pc : Int) + o).toNat = q) (hc : x < 0) (K : AtS p l e R s m args below meth c Z EL own n0 Q mk sf h cells slots (mkF m q L S)) : AtS p l e R s m args below meth c Z EL own n0 Q mk sf h cells slots (mkF m pc L (.int x :: S)) :=
  K.go fun T hA t st => XS.ifYes hA C.1 rfl (pc0 := pc) (pc' := q) rfl (hb C.2.1 hd) rfl ((if0 _ _).trans (tlt hc).1) ho hp st
theorem s_if_lt_f (C : Cx p s m meth c Z own bytes maxL ret nm) {o : Int} {x : Int32} (hd : decode bytes pc = .ok (.ifCond .lt o, 3)) (hq : pc + 3 = q) (hc : ¬ x < 0) (K : AtS p l e R s m args below meth c Z EL own n0 Q mk sf h cells slots (mkF m q L S)) : AtS p l e R s m args below meth c Z EL own n0 Q mk sf h cells slots (mkF m pc L (.int x :: S)) := by
  subst hq
  exact K.go fun T hA t st => XS.ifNo hA C.1 rfl (hb C.2.1 hd) rfl ((if0 _ _).trans (flt hc).1) st
theorem s_icmp_ge_t (C : Cx p s m meth c Z own bytes maxL ret nm) {o : Int} {x y : Int32} (hd : decode bytes pc = .ok (.if_icmp .ge o, 3)) (ho : 0 ≤ (pc : Int) + o) (hp : ((pc : Int) + o).toNat = q) (hc : ¬ x < y) (K : AtS p l e R s m args below meth c Z EL own n0 Q mk sf h cells slots (mkF m q L S)) : AtS p l e R s m args below meth c Z EL own n0 Q mk sf h cells slots (mkF m pc L (.int y :: .int x :: S)) :=
  K.go fun T hA t st => XS.icmpYes hA C.1 rfl (pc0 := pc) (pc' := q) rfl (hb C.2.1 hd) rfl (flt hc).2.1 ho hp st
theorem s_icmp_ge_f (C : Cx p s m meth c Z own bytes maxL ret nm) {o : Int} {x y : Int32} (hd : decode bytes pc = .ok (.if_icmp .ge o, 3)) (hq : pc + 3 = q) (hc : x < y) (K : AtS p l e R s m args below meth c Z EL own n0 Q mk sf h cells slots (mkF m q L S)) : AtS p l e R s m args below meth c Z EL own n0 Q mk sf h cells slots (mkF m pc L (.int y :: .int x :: S)) := by
  subst hq
  exact K.go fun T hA t st => XS.icmpNo hA C.1 rfl (hb C.2.1 hd) rfl (tlt hc).2.1 st
theorem s_if_ge_t (C : Cx p s m meth c Z own bytes maxL ret nm) {o : Int} {x : Int32} (hd : decode bytes pc = .ok (.ifCond .ge o, 3)) (ho : 0 ≤ (pc : Int) + o) (hp : ((pc : Int) + o).toNat = q) (hc : ¬ x < 0) (K : AtS p l e R s m args below meth c Z EL own n0 Q mk sf h cells slots (mkF m q L S)) : AtS p l e R s m args below meth c Z EL own n0 Q mk sf h cells slots (mkF m pc L (.int x :: S)) :=
  K.go fun T hA t st => XS.ifYes hA C.1 rfl (pc0 := pc) (pc' := q) rfl (hb C.2.1 hd) rfl ((if0 _ _).trans (flt hc).2.1) ho hp st
theorem s_if_ge_f (C : Cx p s m meth c Z own bytes maxL ret nm) {o : Int} {x : Int32} (hd : decode bytes pc = .ok (.ifCond .ge o, 3)) (hq : pc + 3 = q) (hc : x < 0) (K : AtS p l e R s m args below meth c Z EL own n0 Q mk sf h cells slots (mkF m q L S)) : AtS p l e R s m args below meth c Z EL own n0 Q mk sf h cells slots (mkF m pc L (.int x :: S)) := by
  subst hq
  exact K.go fun T hA t st => XS.ifNo hA C.1 rfl (hb C.2.1 hd) rfl ((if0 _ _).trans (tlt hc).2.1) st
theorem s_icmp_gt_t (C : Cx p s m meth c Z own bytes maxL ret nm) {o : Int} {x y : Int32} (hd : decode bytes pc = .ok (.if_icmp .gt o, 3)) (ho : 0 ≤ (pc : Int) + o) (hp : ((pc : Int) + o).toNat = q) (hc : y < x) (K : AtS p l e R s m args below meth c Z EL own n0 Q mk sf h cells slots (mkF m q L S)) : AtS p l e R s m args below meth c Z EL own n0 Q mk sf h cells slots (mkF m pc L (.int y :: .int x :: S)) :=
  K.go fun T hA t st => XS.icmpYes hA C.1 rfl (pc0 := pc) (pc' := q) rfl (hb C.2.1 hd) rfl (tlt hc).2.2.1 ho hp st
theorem s_icmp_gt_f (C : Cx p s m meth c Z own bytes maxL ret nm) {o : Int} {x y : Int32} (hd : decode bytes pc = .ok (.if_icmp .gt o, 3)) (hq : pc + 3 = q) (hc : ¬ y < x) (K : AtS p l e R s m args below meth c Z EL own n0 Q mk sf h cells slots (mkF m q L S)) : AtS p l e R s m args below meth c Z EL own n0 Q mk sf h cells slots (mkF m pc L (.int y :: .int x :: S)) := by
  subst hq
  exact K.go fun T hA t st => XS.icmpNo hA C.1 rfl (hb C.2.1 hd) rfl (flt hc).2.2.1 st
theorem s_if_gt_t (C : Cx p s m meth c Z own bytes maxL ret nm) {o : Int} {x : Int32} (hd : decode bytes pc = .ok (.ifCond .gt o, 3)) (ho : 0 ≤ (pc : Int) + o) (hp : ((pc : Int) + o).toNat = q) (hc : 0 < x) (K : AtS p l e R s m args below meth c Z EL own n0 Q mk sf h cells slots (mkF m q L S)) : AtS p l e R s m args below meth c Z EL own n0 Q mk sf h cells slots (mkF m pc L (.int x :: S)) :=
  K.go fun T hA t st => XS.ifYes hA C.1 rfl (pc0 := pc) (pc' := q) rfl (hb C.2.1 hd) rfl ((if0 _ _).trans (tlt hc).2.2.1) ho hp st
theorem s_if_gt_f (C : Cx p s m meth c Z own bytes maxL ret nm) {o : Int} {x : Int32} (hd : decode bytes pc = .ok (.ifCond .gt o, 3)) (hq : pc + 3 = q) (hc : ¬ 0 < x) (K : AtS p l e R s m args below meth c Z EL own n0 Q mk sf h cells slots (mkF m q L S)) : AtS p l e R s m args below meth c Z EL own n0 Q mk sf h cells slots (mkF m pc L (.int x :: S)) := by
  subst hq
  exact K.go fun T hA t st => XS.ifNo hA C.1 rfl (hb C.2.1 hd) rfl ((if0 _ _).trans (flt hc).2.2.1) st
theorem s_icmp_le_t (C : Cx p s m meth c Z own bytes maxL ret nm) {o : Int} {x y : Int32} (hd : decode bytes pc = .ok (.if_icmp .le o, 3)) (ho : 0 ≤ (pc : Int) + o) (hp : ((pc : Int) + o).toNat = q) (hc : ¬ y < x) (K : AtS p l e R s m args below meth c Z EL own n0 Q mk sf h cells slots (mkF m q L S)) : AtS p l e R s m args below meth c Z EL own n0 Q mk sf h cells slots (mkF m pc L (.int y :: .int x :: S)) :=
  K.go fun T hA t st => XS.icmpYes hA C.1 rfl (pc0 := pc) (pc' := q) rfl (hb C.2.1 hd) rfl (flt hc).2.2.2 ho hp st
theorem s_icmp_le_f (C : Cx p s m meth c Z own bytes maxL ret nm) {o : Int} {x y : Int32} (hd : decode bytes pc = .ok (.if_icmp .le o, 3)) (hq : pc + 3 = q) (hc : y < x) (K : AtS p l e R s m args below meth c Z EL own n0 Q mk sf h cells slots (mkF m q L S)) : AtS p l e R s m args below meth c Z EL own n0 Q mk sf h cells slots (mkF m pc L (.int y :: .int x :: S)) := by
  subst hq
  exact K.go fun T hA t st => XS.icmpNo hA C.1 rfl (hb C.2.1 hd) rfl (tlt hc).2.2.2 st
theorem s_if_le_t (C : Cx p s m meth c Z own bytes maxL ret nm) {o : Int} {x : Int32} (hd : decode bytes pc = .ok (.ifCond .le o, 3)) (ho : 0 ≤ (pc : Int) + o) (hp : ((pc : Int) + o).toNat = q) (hc : ¬ 0 < x) (K : AtS p l e R s m args below meth c Z EL own n0 Q mk sf h cells slots (mkF m q L S)) : AtS p l e R s m args below meth c Z EL own n0 Q mk sf h cells slots (mkF m pc L (.int x :: S)) :=
  K.go fun T hA t st => XS.ifYes hA C.1 rfl (pc0 := pc) (pc' := q) rfl (hb C.2.1 hd) rfl ((if0 _ _).trans (flt hc).2.2.2) ho hp st
theorem s_if_le_f (C : Cx p s m meth c Z own bytes maxL ret nm) {o : Int} {x : Int32} (hd : decode bytes pc = .ok (.ifCond .le o, 3)) (hq : pc + 3 = q) (hc : 0 < x) (K : AtS p l e R s m args below meth c Z EL own n0 Q mk sf h cells slots (mkF m q L S)) : AtS p l e R s m args below meth c Z EL own n0 Q mk sf h cells slots (mkF m pc L (.int x :: S)) := by
  subst hq
  exact K.go fun T hA t st => XS.ifNo hA C.1 rfl (hb C.2.1 hd) rfl ((if0 _ _).trans (tlt hc).2.2.2) st
theorem s_icmp_eq_t (C : Cx p s m meth c Z own bytes maxL ret nm) {o : Int} {x y : Int32} (hd : decode bytes pc = .ok (.if_icmp .eq o, 3)) (ho : 0 ≤ (pc : Int) + o) (hp : ((pc : Int) + o).toNat = q) (hc : x = y) (K : AtS p l e R s m args below meth c Z EL own n0 Q mk sf h cells slots (mkF m q L S)) : AtS p l e R s m args below meth c Z EL own n0 Q mk sf h cells slots (mkF m pc L (.int y :: .int x :: S)) :=
  K.go fun T hA t st => XS.icmpYes hA C.1 rfl (pc0 := pc) (pc' := q) rfl (hb C.2.1 hd) rfl (teq hc).1 ho hp st
theorem s_icmp_eq_f (C : Cx p s m meth c Z own bytes maxL ret nm) {o : Int} {x y : Int32} (hd : decode bytes pc = .ok (.if_icmp .eq o, 3)) (hq : pc + 3 = q) (hc : ¬ x = y) (K : AtS p l e R s m args below meth c Z EL own n0 Q mk sf h cells slots (mkF m q L S)) : AtS p l e R s m args below meth c Z EL own n0 Q mk sf h cells slots (mkF m pc L (.int y :: .int x :: S)) := by
  subst hq
  exact K.go fun T hA t st => XS.icmpNo hA C.1 rfl (hb C.2.1 hd) rfl (feq hc).1 st
theorem s_if_eq_t (C : Cx p s m meth c Z own bytes maxL ret nm) {o : Int} {x : Int32} (hd : decode bytes pc = .ok (.ifCond .eq o, 3)) (ho : 0 ≤ (pc : Int) + o) (hp : ((pc : Int) + o).toNat = q) (hc : x = 0) (K : AtS p l e R s m args below meth c Z EL own n0 Q mk sf h cells slots (mkF m q L S)) : AtS p l e R s m args below meth c Z EL own n0 Q mk sf h cells slots (mkF m pc L (.int x :: S)) :=
  K.go fun T hA t st => XS.ifYes hA C.1 rfl (pc0 := pc) (pc' := q) rfl (hb C.2.1 hd) rfl ((if0 _ _).trans (teq hc).1) ho hp st
theorem s_if_eq_f (C : Cx p s m meth c Z own bytes maxL ret nm) {o : Int} {x : Int32} (hd : decode bytes pc = .ok (.ifCond .eq o, 3)) (hq : pc + 3 = q) (hc : ¬ x = 0) (K : AtS p l e R s m args below meth c Z EL own n0 Q mk sf h cells slots (mkF m q L S)) : AtS p l e R s m args below meth c Z EL own n0 Q mk sf h cells slots (mkF m pc L (.int x :: S)) := by
  subst hq
  exact K.go fun T hA t st => XS.ifNo hA C.1 rfl (hb C.2.1 hd) rfl ((if0 _ _).trans (feq hc).1) st
theorem s_icmp_ne_t (C : Cx p s m meth c Z own bytes maxL ret nm) {o : Int} {x y : Int32} (hd : decode bytes pc = .ok (.if_icmp .ne o, 3)) (ho : 0 ≤ (pc : Int) + o) (hp : ((pc : Int) + o).toNat = q) (hc : ¬ x = y) (K : AtS p l e R s m args below meth c Z EL own n0 Q mk sf h cells slots (mkF m q L S)) : AtS p l e R s m args below meth c Z EL own n0 Q mk sf h cells slots (mkF m pc L (.int y :: .int x :: S)) :=
  K.go fun T hA t st => XS.icmpYes hA C.1 rfl (pc0 := pc) (pc' := q) rfl (hb C.2.1 hd) rfl (feq hc).2 ho hp st
theorem s_icmp_ne_f (C : Cx p s m meth c Z own bytes maxL ret nm) {o : Int} {x y : Int32} (hd : decode bytes pc = .ok (.if_icmp .ne o, 3)) (hq : pc + 3 = q) (hc : x = y) (K : AtS p l e R s m args below meth c Z EL own n0 Q mk sf h cells slots (mkF m q L S)) : AtS p l e R s m args below meth c Z EL own n0 Q mk sf h cells slots (mkF m pc L (.int y :: .int x :: S)) := by
  subst hq
  exact K.go fun T hA t st => XS.icmpNo hA C.1 rfl (hb C.2.1 hd) rfl (teq hc).2 st
theorem s_if_ne_t (C : Cx p s m meth c Z own bytes maxL ret nm) {o : Int} {x : Int32} (hd : decode bytes pc = .ok (.ifCond .ne o, 3)) (ho : 0 ≤ (pc : Int) + o) (hp : ((pc : Int) + o).toNat = q) (hc : ¬ x = 0) (K : AtS p l e R s m args below meth c Z EL own n0 Q mk sf h cells slots (mkF m q L S)) : AtS p l e R s m args below meth c Z EL own n0 Q mk sf h cells slots (mkF m pc L (.int x :: S)) :=
  K.go fun T hA t st => XS.ifYes hA C.1 rfl (pc0 := pc) (pc' := q) rfl (hb C.2.1 hd) rfl ((if0 _ _).trans (feq hc).2) ho hp st
theorem s_if_ne_f (C : Cx p s m meth c Z own bytes maxL ret nm) {o : Int} {x : Int32} (hd : decode bytes pc = .ok (.ifCond .ne o, 3)) (hq : pc + 3 = q) (hc : x = 0) (K : AtS p l e R s m args below meth c Z EL own n0 Q mk sf h cells slots (mkF m q L S)) : AtS p l e R s m args below meth c Z EL own n0 Q mk sf h cells slots (mkF m pc L (.int x :: S)) := by
  subst hq
  exact K.go fun T hA t st => XS.ifNo hA C.1 rfl (hb C.2.1 hd) rfl ((if0 _ _).trans (teq hc).2) st
theorem s_ifnull_t (C : Cx p s m meth c Z own bytes maxL ret nm) {o : Int} (hd : decode bytes pc = .ok (.ifnull o, 3)) (ho : 0 ≤ (pc : Int) + o) (hp : ((pc : Int) + o).toNat = q) (K : AtS p l e R s m args below meth c Z EL own n0 Q mk sf h cells slots (mkF m q L S)) : AtS p l e R s m args below meth c Z EL own n0 Q mk sf h cells slots (mkF m pc L (.null :: S)) :=
  K.go fun T hA t st => XS.ifnullYes hA C.1 rfl (pc0 := pc) (pc' := q) rfl (hb C.2.1 hd) rfl ho hp st
theorem s_ifnull_f (C : Cx p s m meth c Z own bytes maxL ret nm) {o : Int} {b : Addr} (hd : decode bytes pc = .ok (.ifnull o, 3)) (hq : pc + 3 = q) (K : AtS p l e R s m args below meth c Z EL own n0 Q mk sf h cells slots (mkF m q L S)) : AtS p l e R s m args below meth c Z EL own n0 Q mk sf h cells slots (mkF m pc L ((.ref b) :: S)) := by
  subst hq
  exact K.go fun T hA t st => XS.ifnullNo hA C.1 rfl (hb C.2.1 hd) rfl st
theorem s_ifnonnull_t (C : Cx p s m meth c Z own bytes maxL ret nm) {o : Int} {b : Addr} (hd : decode bytes pc = .ok (.ifnonnull o, 3)) (ho : 0 ≤ (pc : Int) + o) (hp : ((pc : Int) + o).toNat = q) (K : AtS p l e R s m args below meth c Z EL own n0 Q mk sf h cells slots (mkF m q L S)) : AtS p l e R s m args below meth c Z EL own n0 Q mk sf h cells slots (mkF m pc L ((.ref b) :: S)) :=
  K.go fun T hA t st => XS.ifnonnullYes hA C.1 rfl (pc0 := pc) (pc' := q) rfl (hb C.2.1 hd) rfl ho hp st
theorem s_ifnonnull_f (C : Cx p s m meth c Z own bytes maxL ret nm) {o : Int} (hd : decode bytes pc = .ok (.ifnonnull o, 3)) (hq : pc + 3 = q) (K : AtS p l e R s m args below meth c Z EL own n0 Q mk sf h cells slots (mkF m q L S)) : AtS p l e R s m args below meth c Z EL own n0 Q mk sf h cells slots (mkF m pc L (.null :: S)) := by
  subst hq
  exact K.go fun T hA t st => XS.ifnonnullNo hA C.1 rfl (hb C.2.1 hd) rfl st
theorem s_acmp_t (C : Cx p s m meth c Z own bytes maxL ret nm) {cd : ACond} {o : Int} {x y : Value} (hd : decode bytes pc = .ok (.if_acmp cd o, 3)) (h1 : x.isRef = true) (h2 : y.isRef = true) {same : Bool} (hs : decide (x = y) = same) (hcd : acV cd same = true) (ho : 0 ≤ (pc : Int) + o) (hp : ((pc : Int) + o).toNat = q) (K : AtS p l e R s m args below meth c Z EL own n0 Q mk sf h cells slots (mkF m q L S)) : AtS p l e R s m args below meth c Z EL own n0 Q mk sf h cells slots (mkF m pc L (y :: x :: S)) :=
  K.goX fun T locs k n vm0 X eT hZ hown t st => Jvm.RoadKit.acmp (g := mkF m pc L (y :: x :: S)) X C.1 rfl h1 h2 (pc0 := pc) (pc' := q) (same := same) rfl (hb C.2.1 hd) rfl hs ho (by rw [if_pos hcd]; exact hp.symm) st
theorem s_acmp_f (C : Cx p s m meth c Z own bytes maxL ret nm) {cd : ACond} {o : Int} {x y : Value} (hd : decode bytes pc = .ok (.if_acmp cd o, 3)) (h1 : x.isRef = true) (h2 : y.isRef = true) {same : Bool} (hs : decide (x = y) = same) (hcd : acV cd same = false) (ho : 0 ≤ (pc : Int) + o) (hq : pc + 3 = q) (K : AtS p l e R s m args below meth c Z EL own n0 Q mk sf h cells slots (mkF m q L S)) : AtS p l e R s m args below meth c Z EL own n0 Q mk sf h cells slots (mkF m pc L (y :: x :: S)) :=
  K.goX fun T locs k n vm0 X eT hZ hown t st => Jvm.RoadKit.acmp (g := mkF m pc L (y :: x :: S)) X C.1 rfl h1 h2 (pc0 := pc) (pc' := q) (same := same) rfl (hb C.2.1 hd) rfl hs ho (by rw [if_neg (by rw [hcd]; exact Bool.false_ne_true)]; exact hq.symm) st
theorem s_ldcI (C : Cx p s m meth c Z own bytes maxL ret nm) {i : Nat} {v : Int32} (w : (Jvm.Cond.constant own i v).before a0 Z = true) (hd : decode bytes pc = .ok (.ldc i, 2)) (hq : pc + 2 = q) (K : AtS p l e R s m args below meth c Z EL own n0 Q mk sf h cells slots (mkF m q L (.int v :: S))) : AtS p l e R s m args below meth c Z EL own n0 Q mk sf h cells slots (mkF m pc L S) := by
  subst hq
  exact K.goX fun T locs k n vm0 X eT hZ hown t st => X.ldcInt C.1 hown (mvT (s := s.setVm vm0) hZ w) (g := mkF m pc L S) rfl (hb C.2.1 hd) t st
theorem s_ldcwI (C : Cx p s m meth c Z own bytes maxL ret nm) {i : Nat} {v : Int32} (w : (Jvm.Cond.constant own i v).before a0 Z = true) (hd : decode bytes pc = .ok (.ldc_w i, 3)) (hq : pc + 3 = q) (K : AtS p l e R s m args below meth c Z EL own n0 Q mk sf h cells slots (mkF m q L (.int v :: S))) : AtS p l e R s m args below meth c Z EL own n0 Q mk sf h cells slots (mkF m pc L S) := by
  subst hq
  exact K.goX fun T locs k n vm0 X eT hZ hown t st => X.ldcwInt C.1 hown (mvT (s := s.setVm vm0) hZ w) (g := mkF m pc L S) rfl (hb C.2.1 hd) t st
theorem s_ldc2J (C : Cx p s m meth c Z own bytes maxL ret nm) {i : Nat} {v : Int64} (w : (Jvm.Cond.constantLong own i v).before a0 Z = true) (hd : decode bytes pc = .ok (.ldc2_w i, 3)) (hq : pc + 3 = q) (K : AtS p l e R s m args below meth c Z EL own n0 Q mk sf h cells slots (mkF m q L (.long v :: S))) : AtS p l e R s m args below meth c Z EL own n0 Q mk sf h cells slots (mkF m pc L S) := by
  subst hq
  exact K.goX fun T locs k n vm0 X eT hZ hown t st => X.ldc2Long C.1 hown (mvT (s := s.setVm vm0) hZ w) (g := mkF m pc L S) rfl (hb C.2.1 hd) t st

theorem s_getF (C : Cx p s m meth c Z own bytes maxL ret nm) {R0 O n d host : String} {i : Nat} {a : Addr} {v : Value} (w : (Jvm.Cond.fieldLink own i R0 n d).before a0 Z = true ∨ (Jvm.Cond.fieldLinkNest own i R0 n d host).before a0 Z = true) (via : Via Z R0 O n d) (F : Fld Z h a O n d v) (hd : decode bytes pc = .ok (.getfield i, 3)) (hq : pc + 3 = q) (K : AtS p l e R s m args below meth c Z EL own n0 Q mk sf h cells slots (mkF m q L (v :: S))) : AtS p l e R s m args below meth c Z EL own n0 Q mk sf h cells slots (mkF m pc L (.ref a :: S)) := by
  subst hq
  intro T locs k n vm0 k0 X hk hn eT N hZ hown hS hk0 hC hB hF
  obtain ⟨T', X', e', st⟩ := getF X C.1 (show Z.Warmed39 (s.setVm vm0).vm from hZ) (host := host) hown w via eT F (g := mkF m pc L (.ref a :: S)) rfl rfl (hb C.2.1 hd)
  obtain ⟨t, o, r1, r⟩ := K T' locs k n vm0 k0 X' hk hn e' N hZ hown hS hk0 hC hB hF
  exact ⟨t, o, st _ r1, r⟩
theorem s_getS (C : Cx p s m meth c Z own bytes maxL ret nm) {R0 O n d host : String} {i : Nat} {v : Value} (w : (Jvm.Cond.fieldLink own i R0 n d).before a0 Z = true ∨ (Jvm.Cond.fieldLinkNest own i R0 n d host).before a0 Z = true) (via : Via Z R0 O n d) (F : Sta Z h O n d v) (hd : decode bytes pc = .ok (.getstatic i, 3)) (hq : pc + 3 = q) (K : AtS p l e R s m args below meth c Z EL own n0 Q mk sf h cells slots (mkF m q L (v :: S))) : AtS p l e R s m args below meth c Z EL own n0 Q mk sf h cells slots (mkF m pc L S) := by
  subst hq
  intro T locs k n vm0 k0 X hk hn eT N hZ hown hS hk0 hC hB hF
  obtain ⟨T', X', e', st⟩ := getS2 X C.1 (show Z.Warmed39 (s.setVm vm0).vm from hZ) (host := host) hown w via eT F (g := mkF m pc L S) rfl (hb C.2.1 hd)
  obtain ⟨t, o, r1, r⟩ := K T' locs k n vm0 k0 X' hk hn e' N hZ hown hS hk0 hC hB hF
  exact ⟨t, o, st _ r1, r⟩
theorem s_cast (C : Cx p s m meth c Z own bytes maxL ret nm) {K : String} {i : Nat} {a : Addr} (w : (Jvm.Cond.classLink own i K).before a0 Z = true) (F : Ins Z h a K true) (hd : decode bytes pc = .ok (.checkcast i, 3)) (hq : pc + 3 = q) (K : AtS p l e R s m args below meth c Z EL own n0 Q mk sf h cells slots (mkF m q L (.ref a :: S))) : AtS p l e R s m args below meth c Z EL own n0 Q mk sf h cells slots (mkF m pc L (.ref a :: S)) := by
  subst hq
  intro T locs k n vm0 k0 X hk hn eT N hZ hown hS hk0 hC hB hF
  obtain ⟨T', X', e', st⟩ := castY X C.1 (show Z.Warmed39 (s.setVm vm0).vm from hZ) hown w eT F (g := mkF m pc L (.ref a :: S)) rfl rfl (hb C.2.1 hd)
  obtain ⟨t, o, r1, r⟩ := K T' locs k n vm0 k0 X' hk hn e' N hZ hown hS hk0 hC hB hF
  exact ⟨t, o, st _ r1, r⟩
theorem s_inst (C : Cx p s m meth c Z own bytes maxL ret nm) {K : String} {i : Nat} {a : Addr} (w : (Jvm.Cond.classLink own i K).before a0 Z = true) (F : Ins Z h a K true) (hd : decode bytes pc = .ok (.instanceof i, 3)) (hq : pc + 3 = q) (K : AtS p l e R s m args below meth c Z EL own n0 Q mk sf h cells slots (mkF m q L (.int 1 :: S))) : AtS p l e R s m args below meth c Z EL own n0 Q mk sf h cells slots (mkF m pc L (.ref a :: S)) := by
  subst hq
  intro T locs k n vm0 k0 X hk hn eT N hZ hown hS hk0 hC hB hF
  obtain ⟨T', X', e', st⟩ := instY X C.1 (show Z.Warmed39 (s.setVm vm0).vm from hZ) hown w eT F (g := mkF m pc L (.ref a :: S)) rfl rfl (hb C.2.1 hd)
  obtain ⟨t, o, r1, r⟩ := K T' locs k n vm0 k0 X' hk hn e' N hZ hown hS hk0 hC hB hF
  exact ⟨t, o, st _ r1, r⟩
theorem s_initO (C : Cx p s m meth c Z own bytes maxL ret nm) {i : Nat} {a : Addr} (w1 : (Jvm.Cond.methodLink own i Lib.objectInit).before a0 Z = true) (w2 : (Jvm.Cond.instanceMethod Lib.objectInit).before a0 Z = true) (w3 : (Jvm.Cond.code Lib.objectInit object_method_1_code 1 none).before a0 Z = true) (hL : L.size = maxL) (hf : 1 ≤ R.frames) {W : Nat} (hW : (S.map fun v => v.category).sum ≤ W) (hlo : W + 12 ≤ R.locals) (hd : decode bytes pc = .ok (.invokespecial i, 3)) (hq : pc + 3 = q) (K : AtS p l e R s m args below meth c Z EL own n0 Q mk sf h cells slots (mkF m q L S)) : AtS p l e R s m args below meth c Z EL own n0 Q mk sf h cells slots (mkF m pc L (.ref a :: S)) := by
  subst hq
  intro T locs k n vm0 k0 X hk hn eT N hZ hown hS hk0 hC hB hF
  obtain ⟨T', X', e', st⟩ := initO X C.1 (show Z.Warmed39 (s.setVm vm0).vm from hZ) hown w1 w2 w3 eT (g := mkF m pc L (.ref a :: S)) rfl (hL.trans C.2.2.1.symm) rfl (hb C.2.1 hd) hf (W := W) (by show 2 * 0 + _ ≤ _; omega) hlo
  obtain ⟨t, o, r1, r⟩ := K T' locs k n vm0 k0 X' hk hn e' N hZ hown hS hk0 hC hB hF
  exact ⟨t, o, st _ r1, r⟩
/-- an address that no booked constant has -/
def SfOk (Z : State) (h : Heap) (mk : Nat) (sf : List Addr) (x : Addr) : Prop := x ∈ sf ∨ mk ≤ x ∨ (∃ C, Exa Z h x C ∧ C ≠ "java/lang/String" ∧ C ≠ "[B") ∨ ∃ ty vs, Ar Z h x ty vs ∧ ty ≠ .byte
theorem SfOk.exa {x : Addr} {C : String} (E : Exa Z h x C) (h1 : C ≠ "java/lang/String" ∧ C ≠ "[B") : SfOk Z h mk sf x := Or.inr (Or.inr (Or.inl ⟨C, E, h1⟩))
theorem SfOk.arr {x : Addr} {ty : FieldType} {vs : List Value} (E : Ar Z h x ty vs) (h1 : ty ≠ .byte) : SfOk Z h mk sf x := Or.inr (Or.inr (Or.inr ⟨ty, vs, E, h1⟩))
theorem SfOk.mem {x : Addr} (q : x ∈ sf) : SfOk Z h mk sf x := Or.inl q
theorem SfOk.new {x : Addr} (q : mk ≤ x) : SfOk Z h mk sf x := Or.inr (Or.inl q)
theorem SfOk.safe {vm0 : Vm} {x : Addr} (F : SfOk Z h mk sf x) (hal : Z.vm.Alike vm0) (hB : ∀ y, Bk Z EL vm0 h y → y < mk) (hF : ∀ x ∈ sf, x < h.size ∧ Safe Z EL vm0 h x) : Safe Z EL vm0 h x := by
  rcases F with q | q | ⟨C, E, h1, h2⟩ | ⟨ty, vs, A, hne⟩
  · exact (hF x q).2
  · exact fun b => Nat.not_lt.mpr q (hB _ b)
  · exact Safe.exa hal E h1 h2
  · obtain ⟨-, k, V⟩ := A; exact Safe.arv hal V hne
theorem s_putF (C : Cx p s m meth c Z own bytes maxL ret nm) {R0 O n d host Cl : String} {i kk : Nat} {ty : FieldType} {a : Addr} {v v' old : Value} (w : (Jvm.Cond.fieldLink own i R0 n d).before a0 Z = true) (via : Via Z R0 O n d) (F : Fld Z h a O n d old) (E : Exa Z h a Cl)
    (hL : (Jvm.Cond.lays Cl O n d).before a0 Z = true ∨ ((Jvm.Cond.laysFinal Cl O n d).before a0 Z = true ∧ own = O ∧ nm = "<init>")) (wi : (Jvm.Cond.instantiable Cl kk).before a0 Z = true) (hty : parseFieldDescriptor d = some ty) (hn : narrow ty v = v') (hf : fits ty v' = true) (hge : n0 ≤ a) (hsf : SfOk Z h mk sf a)
    (hd : decode bytes pc = .ok (.putfield i, 3)) (hq : pc + 3 = q) (K : ∀ h', Wr h h' a (Jvm.RoadKit.slotOf Z O n d) v' → AtS p l e R s m args below meth c Z EL own n0 Q mk sf h' cells slots (mkF m q L S)) : AtS p l e R s m args below meth c Z EL own n0 Q mk sf h cells slots (mkF m pc L (v :: .ref a :: S)) := by
  subst hq
  intro T locs k n' vm0 k0 X hk hn' eT N hZ hown hS hk0 hC hB hF
  have hL' : (Jvm.Cond.lays Cl O n d).before a0 Z = true ∨ ((Jvm.Cond.laysFinal Cl O n d).before a0 Z = true ∧ own = O ∧ meth.name = "<init>") := hL.imp id fun x => ⟨x.1, x.2.1, C.2.2.2.2.2.2.2.trans x.2.2⟩
  obtain ⟨T', h', X', e', W, st⟩ := putFN X C.1 (show Z.Warmed39 (s.setVm vm0).vm from hZ) hown w via eT F E hL' wi hty hn hf (g := mkF m pc L (v :: .ref a :: S)) rfl rfl (hb C.2.1 hd)
  have hsafe := hsf.safe hZ.alike hB hF
  obtain ⟨H', hB'⟩ := hC.1.wrStep W hsafe
  obtain ⟨t, o, r1, r⟩ := K h' W T' _ k n' vm0 k0 X' hk hn' e' (Fr.snoc X' N hge) hZ hown hS (by rw [W.size]; exact hk0) (hC.trans (CHr.wr W hsafe hC.1)) (fun y hy => hB y (hB' y hy)) (fun x hx => ⟨by rw [W.size]; exact (hF x hx).1, Safe.wr W hsafe hC.1 (hF x hx).2⟩)
  exact ⟨t, o, st _ r1, r⟩
theorem s_new (C : Cx p s m meth c Z own bytes maxL ret nm) {Cl : String} {i n : Nat} (w : (Jvm.Cond.classLink own i Cl).before a0 Z = true) (wi : (Jvm.Cond.instantiable Cl n).before a0 Z = true) (wz : (Jvm.Cond.initialized Cl).before a0 Z = true) {cells' slots' : Nat} (hc1 : cells + 1 = cells') (hs1 : slots + n = slots') (hc : cells' ≤ R.cells) (hl : slots' ≤ R.slots)
    (hd : decode bytes pc = .ok (.new i, 3)) (hq : pc + 3 = q) (K : ∀ h' a, a = h.size → Ext h h' → Exa Z h' a Cl → (∀ {O nm d : String} {ty : FieldType}, RoadKit.Laid Z a0 Cl O nm d → parseFieldDescriptor d = some ty → Fld Z h' a O nm d (defaultValue ty)) → AtS p l e R s m args below meth c Z EL own n0 Q mk (a :: sf) h' cells' slots' (mkF m q L (.ref a :: S))) : AtS p l e R s m args below meth c Z EL own n0 Q mk sf h cells slots (mkF m pc L S) := by
  subst hq hc1 hs1
  intro T locs k n' vm0 k0 X hk hn' eT N hZ hown hS hk0 hC hB hF
  obtain ⟨T', h', X', e', E, A, D, -, st⟩ := newO X C.1 (show Z.Warmed39 (s.setVm vm0).vm from hZ) hown w wi wz eT (g := mkF m pc L S) rfl (hb C.2.1 hd) (by omega) (by omega)
  obtain ⟨H', hB'⟩ := hC.1.step (h' := h') fun y _ cell hc => E.2 _ _ hc
  have hs : ∀ x ∈ h.size :: sf, x < h'.size ∧ Safe Z EL vm0 h' x := fun x hx => by
    rcases List.mem_cons.mp hx with rfl | hx
    · exact ⟨A.lt, (Safe.new (Nat.le_refl _)).ext E hC.1⟩
    · exact ⟨Nat.lt_of_lt_of_le (hF x hx).1 E.1, (hF x hx).2.ext E hC.1⟩
  obtain ⟨t, o, r1, r⟩ := K h' h.size rfl E A D T' _ (k + 1) (n' + n) vm0 k0 X' (by omega) (by omega) e' N hZ hown hS (Nat.le_trans hk0 E.1) (hC.trans (CHr.ext E hC.1)) (fun y hy => hB y (hB' y hy)) hs
  exact ⟨t, o, st _ r1, r⟩
theorem s_newArr (C : Cx p s m meth c Z own bytes maxL ret nm) {aty : ArrayType} {ty : FieldType} {n : Int32} (w : (Jvm.Cond.arrayClass ty).before a0 Z = true) (hty : newarray.typeOf aty = ty) (hn : ¬ n < 0) {cap : Nat} (hcap : n.toNatClampNeg ≤ cap) (hb' : cap * 8 ≤ 536870912) {cells' slots' : Nat} (hc1 : cells + 1 = cells') (hs1 : slots + cap = slots') (hc : cells' ≤ R.cells) (hl : slots' ≤ R.slots)
    (hd : decode bytes pc = .ok (.newarray aty, 2)) (hq : pc + 2 = q) (K : ∀ h' a, a = h.size → Ext h h' → Ar Z h' a ty (List.replicate n.toNatClampNeg (defaultValue ty)) → AtS p l e R s m args below meth c Z EL own n0 Q mk (a :: sf) h' cells' slots' (mkF m q L (.ref a :: S))) : AtS p l e R s m args below meth c Z EL own n0 Q mk sf h cells slots (mkF m pc L (.int n :: S)) := by
  subst hq hc1 hs1 hty
  intro T locs k n' vm0 k0 X hk hn' eT N hZ hown hS hk0 hC hB hF
  obtain ⟨T', h', cA, X', e', E, A, st⟩ := newP X C.1 (show Z.Warmed39 (s.setVm vm0).vm from hZ) w eT (g := mkF m pc L (.int n :: S)) rfl (hb C.2.1 hd) rfl hn hcap hb' (by omega) (by omega)
  have q := nat_of_nonneg hn
  have V := (Arv.new A hn).pad (pad_rep [] (defaultValue (newarray.typeOf aty)) n.toNatClampNeg)
  obtain ⟨H', hB'⟩ := hC.1.step (h' := h') fun y _ cell hc => E.2 _ _ hc
  have hs : ∀ x ∈ h.size :: sf, x < h'.size ∧ Safe Z EL vm0 h' x := fun x hx => by
    rcases List.mem_cons.mp hx with rfl | hx
    · exact ⟨V.lt, (Safe.new (Nat.le_refl _)).ext E hC.1⟩
    · exact ⟨Nat.lt_of_lt_of_le (hF x hx).1 E.1, (hF x hx).2.ext E hC.1⟩
  obtain ⟨t, o, r1, r⟩ := K h' h.size rfl E ⟨by simpa using q.2, cA, by simpa [q.1] using V⟩ T' _ (k + 1) (n' + cap) vm0 k0 X' (by omega) (by omega) e' N hZ hown hS (Nat.le_trans hk0 E.1) (hC.trans (CHr.ext E hC.1)) (fun y hy => hB y (hB' y hy)) hs
  exact ⟨t, o, st _ r1, r⟩
theorem s_len (C : Cx p s m meth c Z own bytes maxL ret nm) {a : Addr} {ty : FieldType} {vs : List Value} {z : Int32} (A : Ar Z h a ty vs) (hz : Int32.ofNat vs.length = z) (hd : decode bytes pc = .ok (.arraylength, 1)) (hq : pc + 1 = q) (K : AtS p l e R s m args below meth c Z EL own n0 Q mk sf h cells slots (mkF m q L (.int z :: S))) : AtS p l e R s m args below meth c Z EL own n0 Q mk sf h cells slots (mkF m pc L (.ref a :: S)) := by
  subst hq hz
  obtain ⟨hlt, k, cl, Ar, -, hS, hM, -, -⟩ := A
  refine K.goX fun T locs k n vm0 X eT hZ hown t st => X.arraylength C.1 (by rw [eT]; exact Ar.1) (State.isArrayOf_alike (T := s.setVm vm0) hZ.alike Ar.2.1) (g := mkF m pc L (.ref a :: S)) rfl rfl (hb C.2.1 hd) t ?_
  rw [len_of hS hM]; exact st

theorem s_iaload (C : Cx p s m meth c Z own bytes maxL ret nm) {a : Addr} {vs : List Value} {j : Int32} {i : Nat} {v : Value} (A : Ar Z h a .int vs) (hj : j = Int32.ofNat i) (hv : vs[i]? = some v) (hd : decode bytes pc = .ok (.iaload, 1)) (hq : pc + 1 = q) (K : AtS p l e R s m args below meth c Z EL own n0 Q mk sf h cells slots (mkF m q L (v :: S))) : AtS p l e R s m args below meth c Z EL own n0 Q mk sf h cells slots (mkF m pc L (.int j :: .ref a :: S)) := by
  subst hq hj
  obtain ⟨hlt, k, cl, Ar, -, hS, hM, H, -⟩ := A
  obtain ⟨hi, hg⟩ := List.getElem?_eq_some_iff.mp hv
  have e1 := ofNat_nat (n := i) (by omega)
  have e2 := ofNat_nat hlt
  have hin : ¬ (Int32.ofNat i < 0 ∨ cl.slots.size ≤ (Int32.ofNat i).toNatClampNeg) := by
    rw [e1, hS, e2]; exact fun q => q.elim (ofNat_neg (by omega)) (by omega)
  refine K.goX fun T locs k n vm0 X eT hZ hown t st => X.iaload C.1 (j := Int32.ofNat i) (v := v) (by rw [eT]; exact Ar.1) (State.isArrayOf_alike (T := s.setVm vm0) hZ.alike Ar.2.1) Ar.2.2 hin (by rw [e1, H i (by rw [hS, e2]; exact hi)]; simp [List.getD, hv]) (g := mkF m pc L (.int (Int32.ofNat i) :: .ref a :: S)) rfl rfl (hb C.2.1 hd) t st
theorem s_caload (C : Cx p s m meth c Z own bytes maxL ret nm) {a : Addr} {vs : List Value} {j : Int32} {i : Nat} {v : Value} (A : Ar Z h a .char vs) (hj : j = Int32.ofNat i) (hv : vs[i]? = some v) (hd : decode bytes pc = .ok (.caload, 1)) (hq : pc + 1 = q) (K : AtS p l e R s m args below meth c Z EL own n0 Q mk sf h cells slots (mkF m q L (v :: S))) : AtS p l e R s m args below meth c Z EL own n0 Q mk sf h cells slots (mkF m pc L (.int j :: .ref a :: S)) := by
  subst hq hj
  obtain ⟨hlt, k, cl, Ar, -, hS, hM, H, -⟩ := A
  obtain ⟨hi, hg⟩ := List.getElem?_eq_some_iff.mp hv
  have e1 := ofNat_nat (n := i) (by omega)
  have e2 := ofNat_nat hlt
  have hin : ¬ (Int32.ofNat i < 0 ∨ cl.slots.size ≤ (Int32.ofNat i).toNatClampNeg) := by
    rw [e1, hS, e2]; exact fun q => q.elim (ofNat_neg (by omega)) (by omega)
  refine K.goX fun T locs k n vm0 X eT hZ hown t st => X.caload C.1 (j := Int32.ofNat i) (v := v) (by rw [eT]; exact Ar.1) (State.isArrayOf_alike (T := s.setVm vm0) hZ.alike Ar.2.1) Ar.2.2 hin (by rw [e1, H i (by rw [hS, e2]; exact hi)]; simp [List.getD, hv]) (g := mkF m pc L (.int (Int32.ofNat i) :: .ref a :: S)) rfl rfl (hb C.2.1 hd) t st
theorem s_baload (C : Cx p s m meth c Z own bytes maxL ret nm) {a : Addr} {vs : List Value} {j : Int32} {i : Nat} {v : Value} (A : Ar Z h a .byte vs) (hj : j = Int32.ofNat i) (hv : vs[i]? = some v) (hd : decode bytes pc = .ok (.baload, 1)) (hq : pc + 1 = q) (K : AtS p l e R s m args below meth c Z EL own n0 Q mk sf h cells slots (mkF m q L (v :: S))) : AtS p l e R s m args below meth c Z EL own n0 Q mk sf h cells slots (mkF m pc L (.int j :: .ref a :: S)) := by
  subst hq hj
  obtain ⟨hlt, k, cl, Ar, -, hS, hM, H, -⟩ := A
  obtain ⟨hi, hg⟩ := List.getElem?_eq_some_iff.mp hv
  have e1 := ofNat_nat (n := i) (by omega)
  have e2 := ofNat_nat hlt
  have hin : ¬ (Int32.ofNat i < 0 ∨ cl.slots.size ≤ (Int32.ofNat i).toNatClampNeg) := by
    rw [e1, hS, e2]; exact fun q => q.elim (ofNat_neg (by omega)) (by omega)
  refine K.goX fun T locs k n vm0 X eT hZ hown t st => X.baloadBytes C.1 (j := Int32.ofNat i) (v := v) (by rw [eT]; exact Ar.1) (State.isArrayOf_alike (T := s.setVm vm0) hZ.alike Ar.2.1) Ar.2.2 hin (by rw [e1, H i (by rw [hS, e2]; exact hi)]; simp [List.getD, hv]) (g := mkF m pc L (.int (Int32.ofNat i) :: .ref a :: S)) rfl rfl (hb C.2.1 hd) t st
theorem s_laload (C : Cx p s m meth c Z own bytes maxL ret nm) {a : Addr} {vs : List Value} {j : Int32} {i : Nat} {v : Value} (A : Ar Z h a .long vs) (hj : j = Int32.ofNat i) (hv : vs[i]? = some v) (hd : decode bytes pc = .ok (.laload, 1)) (hq : pc + 1 = q) (K : AtS p l e R s m args below meth c Z EL own n0 Q mk sf h cells slots (mkF m q L (v :: S))) : AtS p l e R s m args below meth c Z EL own n0 Q mk sf h cells slots (mkF m pc L (.int j :: .ref a :: S)) := by
  subst hq hj
  obtain ⟨hlt, k, cl, Ar, -, hS, hM, H, -⟩ := A
  obtain ⟨hi, hg⟩ := List.getElem?_eq_some_iff.mp hv
  have e1 := ofNat_nat (n := i) (by omega)
  have e2 := ofNat_nat hlt
  have hin : ¬ (Int32.ofNat i < 0 ∨ cl.slots.size ≤ (Int32.ofNat i).toNatClampNeg) := by
    rw [e1, hS, e2]; exact fun q => q.elim (ofNat_neg (by omega)) (by omega)
  refine K.goX fun T locs k n vm0 X eT hZ hown t st => X.laload C.1 (j := Int32.ofNat i) (v := v) (by rw [eT]; exact Ar.1) (State.isArrayOf_alike (T := s.setVm vm0) hZ.alike Ar.2.1) Ar.2.2 hin (by rw [e1, H i (by rw [hS, e2]; exact hi)]; simp [List.getD, hv]) (g := mkF m pc L (.int (Int32.ofNat i) :: .ref a :: S)) rfl rfl (hb C.2.1 hd) t st
theorem s_aaload (C : Cx p s m meth c Z own bytes maxL ret nm) {a : Addr} {ty : FieldType} {vs : List Value} {j : Int32} {i : Nat} {v : Value} (A : Ar Z h a ty vs) (hj : j = Int32.ofNat i) (hv : vs[i]? = some v) (hr : ty.isReference = true) (hd : decode bytes pc = .ok (.aaload, 1)) (hq : pc + 1 = q) (K : AtS p l e R s m args below meth c Z EL own n0 Q mk sf h cells slots (mkF m q L (v :: S))) : AtS p l e R s m args below meth c Z EL own n0 Q mk sf h cells slots (mkF m pc L (.int j :: .ref a :: S)) := by
  subst hq hj
  obtain ⟨hlt, k, cl, Ar, -, hS, hM, H, -⟩ := A
  obtain ⟨hi, hg⟩ := List.getElem?_eq_some_iff.mp hv
  have e1 := ofNat_nat (n := i) (by omega)
  have e2 := ofNat_nat hlt
  have hin : ¬ (Int32.ofNat i < 0 ∨ cl.slots.size ≤ (Int32.ofNat i).toNatClampNeg) := by
    rw [e1, hS, e2]; exact fun q => q.elim (ofNat_neg (by omega)) (by omega)
  refine K.goX fun T locs k n vm0 X eT hZ hown t st => X.aaload C.1 (j := Int32.ofNat i) (v := v) (by rw [eT]; exact Ar.1) (State.isArrayOf_alike (T := s.setVm vm0) hZ.alike Ar.2.1) hr Ar.2.2 hin (by rw [e1, H i (by rw [hS, e2]; exact hi)]; simp [List.getD, hv]) (g := mkF m pc L (.int (Int32.ofNat i) :: .ref a :: S)) rfl rfl (hb C.2.1 hd) t st
theorem s_iastore (C : Cx p s m meth c Z own bytes maxL ret nm) {a : Addr} {vs : List Value} {j : Int32} {i : Nat} {x : Int32} (A : Ar Z h a .int vs) (hj : j = Int32.ofNat i) (hi : i < vs.length) (hge : n0 ≤ a) (hd : decode bytes pc = .ok (.iastore, 1)) (hq : pc + 1 = q)
    (K : ∀ h', Wr h h' a i (.int x) → Ar Z h' a .int (vs.set i (.int x)) → AtS p l e R s m args below meth c Z EL own n0 Q mk sf h' cells slots (mkF m q L S)) : AtS p l e R s m args below meth c Z EL own n0 Q mk sf h cells slots (mkF m pc L (.int x :: .int j :: .ref a :: S)) := by
  subst hq hj
  intro T locs k n' vm0 k0 X hk hn' eT N hZ hown hS0 hk0 hC hB hF
  have hsafe := SfOk.safe (mk := mk) (sf := sf) (SfOk.arr A (by decide)) hZ.alike hB hF
  obtain ⟨hlt, k', cl, Ar, q1, hS, hM, H, G⟩ := A
  have e1 := ofNat_nat (n := i) (by omega)
  have e2 := ofNat_nat hlt
  have hin : ¬ (Int32.ofNat i < 0 ∨ cl.slots.size ≤ (Int32.ofNat i).toNatClampNeg) := by
    rw [e1, hS, e2]; exact fun q => q.elim (ofNat_neg (by omega)) (by omega)
  obtain ⟨T', h', X', e', W, st⟩ := stI X C.1 (show Z.Warmed39 (s.setVm vm0).vm from hZ) eT Ar (j := Int32.ofNat i) (x := x) hin (g := mkF m pc L (.int x :: .int (Int32.ofNat i) :: .ref a :: S)) rfl rfl (hb C.2.1 hd)
  have V := Arv.set Ar q1 hS hM H G (rfl) W i e1 hi
  obtain ⟨H', hB'⟩ := hC.1.wrStep W hsafe
  obtain ⟨t, o, r1, r⟩ := K h' (by rw [e1] at W; exact W) ⟨by simpa using hlt, k', by rw [List.length_set]; exact V⟩ T' _ k n' vm0 k0 X' hk hn' e' (Fr.snoc X' N hge) hZ hown hS0 (by rw [W.size]; exact hk0) (hC.trans (CHr.wr W hsafe hC.1)) (fun y hy => hB y (hB' y hy)) (fun x hx => ⟨by rw [W.size]; exact (hF x hx).1, Safe.wr W hsafe hC.1 (hF x hx).2⟩)
  exact ⟨t, o, st _ r1, r⟩
theorem s_castore (C : Cx p s m meth c Z own bytes maxL ret nm) {a : Addr} {vs : List Value} {j : Int32} {i : Nat} {x : Int32} {z : Int32} (hz : nar .char x = z) (A : Ar Z h a .char vs) (hj : j = Int32.ofNat i) (hi : i < vs.length) (hge : n0 ≤ a) (hd : decode bytes pc = .ok (.castore, 1)) (hq : pc + 1 = q)
    (K : ∀ h', Wr h h' a i (.int z) → Ar Z h' a .char (vs.set i (.int z)) → AtS p l e R s m args below meth c Z EL own n0 Q mk sf h' cells slots (mkF m q L S)) : AtS p l e R s m args below meth c Z EL own n0 Q mk sf h cells slots (mkF m pc L (.int x :: .int j :: .ref a :: S)) := by
  subst hq hj hz
  intro T locs k n' vm0 k0 X hk hn' eT N hZ hown hS0 hk0 hC hB hF
  have hsafe := SfOk.safe (mk := mk) (sf := sf) (SfOk.arr A (by decide)) hZ.alike hB hF
  obtain ⟨hlt, k', cl, Ar, q1, hS, hM, H, G⟩ := A
  have e1 := ofNat_nat (n := i) (by omega)
  have e2 := ofNat_nat hlt
  have hin : ¬ (Int32.ofNat i < 0 ∨ cl.slots.size ≤ (Int32.ofNat i).toNatClampNeg) := by
    rw [e1, hS, e2]; exact fun q => q.elim (ofNat_neg (by omega)) (by omega)
  obtain ⟨T', h', X', e', W, st⟩ := stC X C.1 (show Z.Warmed39 (s.setVm vm0).vm from hZ) eT Ar (j := Int32.ofNat i) (x := x) hin (g := mkF m pc L (.int x :: .int (Int32.ofNat i) :: .ref a :: S)) rfl rfl (hb C.2.1 hd)
  have V := Arv.set Ar q1 hS hM H G (fits_nar_char _) W i e1 hi
  obtain ⟨H', hB'⟩ := hC.1.wrStep W hsafe
  obtain ⟨t, o, r1, r⟩ := K h' (by rw [e1] at W; exact W) ⟨by simpa using hlt, k', by rw [List.length_set]; exact V⟩ T' _ k n' vm0 k0 X' hk hn' e' (Fr.snoc X' N hge) hZ hown hS0 (by rw [W.size]; exact hk0) (hC.trans (CHr.wr W hsafe hC.1)) (fun y hy => hB y (hB' y hy)) (fun x hx => ⟨by rw [W.size]; exact (hF x hx).1, Safe.wr W hsafe hC.1 (hF x hx).2⟩)
  exact ⟨t, o, st _ r1, r⟩
theorem s_bastore (C : Cx p s m meth c Z own bytes maxL ret nm) {a : Addr} {vs : List Value} {j : Int32} {i : Nat} {x : Int32} {z : Int32} (hz : nar .byte x = z) (A : Ar Z h a .byte vs) (hj : j = Int32.ofNat i) (hi : i < vs.length) (hge : n0 ≤ a) (hsf : SfOk Z h mk sf a) (hd : decode bytes pc = .ok (.bastore, 1)) (hq : pc + 1 = q)
    (K : ∀ h', Wr h h' a i (.int z) → Ar Z h' a .byte (vs.set i (.int z)) → AtS p l e R s m args below meth c Z EL own n0 Q mk sf h' cells slots (mkF m q L S)) : AtS p l e R s m args below meth c Z EL own n0 Q mk sf h cells slots (mkF m pc L (.int x :: .int j :: .ref a :: S)) := by
  subst hq hj hz
  intro T locs k n' vm0 k0 X hk hn' eT N hZ hown hS0 hk0 hC hB hF
  have hsafe := SfOk.safe (mk := mk) (sf := sf) hsf hZ.alike hB hF
  obtain ⟨hlt, k', cl, Ar, q1, hS, hM, H, G⟩ := A
  have e1 := ofNat_nat (n := i) (by omega)
  have e2 := ofNat_nat hlt
  have hin : ¬ (Int32.ofNat i < 0 ∨ cl.slots.size ≤ (Int32.ofNat i).toNatClampNeg) := by
    rw [e1, hS, e2]; exact fun q => q.elim (ofNat_neg (by omega)) (by omega)
  obtain ⟨T', h', X', e', W, st⟩ := stB X C.1 (show Z.Warmed39 (s.setVm vm0).vm from hZ) eT Ar (j := Int32.ofNat i) (x := x) hin (g := mkF m pc L (.int x :: .int (Int32.ofNat i) :: .ref a :: S)) rfl rfl (hb C.2.1 hd)
  have V := Arv.set Ar q1 hS hM H G (fits_nar_byte _) W i e1 hi
  obtain ⟨H', hB'⟩ := hC.1.wrStep W hsafe
  obtain ⟨t, o, r1, r⟩ := K h' (by rw [e1] at W; exact W) ⟨by simpa using hlt, k', by rw [List.length_set]; exact V⟩ T' _ k n' vm0 k0 X' hk hn' e' (Fr.snoc X' N hge) hZ hown hS0 (by rw [W.size]; exact hk0) (hC.trans (CHr.wr W hsafe hC.1)) (fun y hy => hB y (hB' y hy)) (fun x hx => ⟨by rw [W.size]; exact (hF x hx).1, Safe.wr W hsafe hC.1 (hF x hx).2⟩)
  exact ⟨t, o, st _ r1, r⟩
theorem s_lastore (C : Cx p s m meth c Z own bytes maxL ret nm) {a : Addr} {vs : List Value} {j : Int32} {i : Nat} {x : Int64} (A : Ar Z h a .long vs) (hj : j = Int32.ofNat i) (hi : i < vs.length) (hge : n0 ≤ a) (hd : decode bytes pc = .ok (.lastore, 1)) (hq : pc + 1 = q)
    (K : ∀ h', Wr h h' a i (.long x) → Ar Z h' a .long (vs.set i (.long x)) → AtS p l e R s m args below meth c Z EL own n0 Q mk sf h' cells slots (mkF m q L S)) : AtS p l e R s m args below meth c Z EL own n0 Q mk sf h cells slots (mkF m pc L (.long x :: .int j :: .ref a :: S)) := by
  subst hq hj
  intro T locs k n' vm0 k0 X hk hn' eT N hZ hown hS0 hk0 hC hB hF
  have hsafe := SfOk.safe (mk := mk) (sf := sf) (SfOk.arr A (by decide)) hZ.alike hB hF
  obtain ⟨hlt, k', cl, Ar, q1, hS, hM, H, G⟩ := A
  have e1 := ofNat_nat (n := i) (by omega)
  have e2 := ofNat_nat hlt
  have hin : ¬ (Int32.ofNat i < 0 ∨ cl.slots.size ≤ (Int32.ofNat i).toNatClampNeg) := by
    rw [e1, hS, e2]; exact fun q => q.elim (ofNat_neg (by omega)) (by omega)
  obtain ⟨T', h', X', e', W, st⟩ := stJ X C.1 (show Z.Warmed39 (s.setVm vm0).vm from hZ) eT Ar (j := Int32.ofNat i) (x := x) hin (g := mkF m pc L (.long x :: .int (Int32.ofNat i) :: .ref a :: S)) rfl rfl (hb C.2.1 hd)
  have V := Arv.set Ar q1 hS hM H G (rfl) W i e1 hi
  obtain ⟨H', hB'⟩ := hC.1.wrStep W hsafe
  obtain ⟨t, o, r1, r⟩ := K h' (by rw [e1] at W; exact W) ⟨by simpa using hlt, k', by rw [List.length_set]; exact V⟩ T' _ k n' vm0 k0 X' hk hn' e' (Fr.snoc X' N hge) hZ hown hS0 (by rw [W.size]; exact hk0) (hC.trans (CHr.wr W hsafe hC.1)) (fun y hy => hB y (hB' y hy)) (fun x hx => ⟨by rw [W.size]; exact (hF x hx).1, Safe.wr W hsafe hC.1 (hF x hx).2⟩)
  exact ⟨t, o, st _ r1, r⟩
theorem s_retZ (C : Cx p s m meth c Z own bytes maxL ret nm) (hEL : EW Z a0 EL) {t : FieldType} {x z : Int32} (hret : ret = some t) (ht : t = .boolean ∨ t = .byte ∨ t = .char ∨ t = .short) (hz : nar t x = z) (hd : decode bytes pc = .ok (.ireturn, 1)) (hc : cells ≤ R.cells) (hs : slots ≤ R.slots) (hQ : Q (some (.int z)) h) : AtS p l e R s m args below meth c Z EL own n0 Q mk sf h cells slots (mkF m pc L (.int x :: S)) := by
  subst hz
  intro T locs k n vm0 k0 X hk hn eT N hZ hown hS hk0 hC hB hF
  obtain ⟨fs, hr, hrun, hended, hW1, hW2, hW3, hW4⟩ := X.leaveW hS (by rw [eT]; exact hk0) (v := some (.int (nar t x))) (fun h => by rw [C.2.2.2.2.2.1, hret] at h; cases h) C.2.2.2.2.2.2.1
  have hA := hC.trans (CHv.at (h := h) X hZ hEL hC.1)
  refine ⟨_, _, retN X C.1 (t := t) (C.2.2.2.2.2.1.trans hret) ht (hb C.2.1 hd) hr, hrun, hended, _, _, rfl, ⟨N, ?_⟩, ?_, hW1, hW2, hW3, hW4.mono (Nat.le_trans hk hc) (Nat.le_trans hn hs)⟩
  · show Q _ T.heap
    rw [eT]; exact hQ
  · show CHr Z EL s.vm s.heap T.vm T.heap
    rw [eT]; exact hA
theorem s_ret (C : Cx p s m meth c Z own bytes maxL ret nm) (hEL : EW Z a0 EL) {t : FieldType} {v : Value} {i : Instr} (hret : ret = some t) (hn' : narrow t v = v)
    (hi : (i = .ireturn ∧ (t = .int ∨ t = .boolean ∨ t = .byte ∨ t = .char ∨ t = .short) ∧ ∃ z, v = .int z) ∨ (i = .lreturn ∧ t = .long ∧ ∃ z, v = .long z) ∨ (i = .dreturn ∧ t = .double ∧ ∃ z, v = .double z) ∨ (i = .freturn ∧ t = .float ∧ ∃ z, v = .float z) ∨ (i = .areturn ∧ t.isReference = true ∧ v.isRef = true))
    (hd : decode bytes pc = .ok (i, 1)) (hc : cells ≤ R.cells) (hs : slots ≤ R.slots) (hQ : Q (some v) h) : AtS p l e R s m args below meth c Z EL own n0 Q mk sf h cells slots (mkF m pc L (v :: S)) := by
  intro T locs k n vm0 k0 X hk hn eT N hZ hown hS hk0 hC hB hF
  obtain ⟨fs, hr, hrun, hended, hW1, hW2, hW3, hW4⟩ := X.leaveW hS (by rw [eT]; exact hk0) (v := some v) (fun h => by rw [C.2.2.2.2.2.1, hret] at h; cases h) C.2.2.2.2.2.2.1
  have hA := hC.trans (CHv.at (h := h) X hZ hEL hC.1)
  refine ⟨_, _, retOut X C.1 (t := t) (C.2.2.2.2.2.1.trans hret) hn' hi (hb C.2.1 hd) hr, hrun, hended, _, _, rfl, ⟨N, ?_⟩, ?_, hW1, hW2, hW3, hW4.mono (Nat.le_trans hk hc) (Nat.le_trans hn hs)⟩
  · show Q _ T.heap
    rw [eT]; exact hQ
  · show CHr Z EL s.vm s.heap T.vm T.heap
    rw [eT]; exact hA
theorem s_retI (C : Cx p s m meth c Z own bytes maxL ret nm) (hEL : EW Z a0 EL) {x : Int32} (hret : ret = some .int) (hd : decode bytes pc = .ok (.ireturn, 1)) (hc : cells ≤ R.cells) (hs : slots ≤ R.slots) (hQ : Q (some (.int x)) h) : AtS p l e R s m args below meth c Z EL own n0 Q mk sf h cells slots (mkF m pc L (.int x :: S)) :=
  s_ret C hEL hret rfl (Or.inl ⟨rfl, Or.inl rfl, _, rfl⟩) hd hc hs hQ
theorem s_retJ (C : Cx p s m meth c Z own bytes maxL ret nm) (hEL : EW Z a0 EL) {x : Int64} (hret : ret = some .long) (hd : decode bytes pc = .ok (.lreturn, 1)) (hc : cells ≤ R.cells) (hs : slots ≤ R.slots) (hQ : Q (some (.long x)) h) : AtS p l e R s m args below meth c Z EL own n0 Q mk sf h cells slots (mkF m pc L (.long x :: S)) :=
  s_ret C hEL hret rfl (Or.inr (Or.inl ⟨rfl, rfl, _, rfl⟩)) hd hc hs hQ
theorem s_retA (C : Cx p s m meth c Z own bytes maxL ret nm) (hEL : EW Z a0 EL) {t : FieldType} {v : Value} (hret : ret = some t) (ht : t.isReference = true) (hv : v.isRef = true) (hd : decode bytes pc = .ok (.areturn, 1)) (hc : cells ≤ R.cells) (hs : slots ≤ R.slots) (hQ : Q (some v) h) : AtS p l e R s m args below meth c Z EL own n0 Q mk sf h cells slots (mkF m pc L (v :: S)) :=
  s_ret C hEL hret (by rcases ref_cases hv with rfl | ⟨a, rfl⟩ <;> cases t <;> first | rfl | cases ht) (Or.inr (Or.inr (Or.inr (Or.inr ⟨rfl, ht, hv⟩)))) hd hc hs hQ
theorem s_retV (C : Cx p s m meth c Z own bytes maxL ret nm) (hEL : EW Z a0 EL) (hret : ret = none) (hd : decode bytes pc = .ok (.return_, 1)) (hc : cells ≤ R.cells) (hs : slots ≤ R.slots) (hQ : Q none h) : AtS p l e R s m args below meth c Z EL own n0 Q mk sf h cells slots (mkF m pc L []) := by
  intro T locs k n vm0 k0 X hk hn eT N hZ hown hS hk0 hC hB hF
  obtain ⟨fs, hr, hrun, hended, hW1, hW2, hW3, hW4⟩ := X.leaveW hS (by rw [eT]; exact hk0) (v := none) (fun h => by rfl) C.2.2.2.2.2.2.1
  have hA := hC.trans (CHv.at (h := h) X hZ hEL hC.1)
  refine ⟨_, _, X.returnOut C.1 (C.2.2.2.2.2.1.trans hret) (hb C.2.1 hd) hr, hrun, hended, _, _, rfl, ⟨N, ?_⟩, ?_, hW1, hW2, hW3, hW4.mono (Nat.le_trans hk hc) (Nat.le_trans hn hs)⟩
  · show Q _ T.heap
    rw [eT]; exact hQ
  · show CHr Z EL s.vm s.heap T.vm T.heap
    rw [eT]; exact hA

theorem s_callS1 (C : Cx p s m meth c Z own bytes maxL ret nm) {y : MethodName} {i : Nat} {argsL : List Value} {bytesY : ByteArray} {maxY : Nat} {retY : Option FieldType} {rm : Room} {Qy : Option Value → Heap → Prop} (w1 : (Jvm.Cond.methodLink own i y).before a0 Z = true) (w2 : (Jvm.Cond.static y).before a0 Z = true) (wz : (Jvm.Cond.initialized y.cls).before a0 Z = true) (wc : (Jvm.Cond.code y bytesY maxY retY).before a0 Z = true)
    (hy : y.cls ≠ "java/lang/invoke/MethodHandle" ∧ y.cls ≠ "java/lang/invoke/VarHandle") (ct : Ct [] l Z n0 y bytesY maxY retY rm argsL.toArray h Qy) {S' : List Value} (hS : S' = argsL.reverse ++ S) (hlen : ∀ sig, parseMethodDescriptor y.desc = some sig → argsL.length = sig.parameters.length) (hL : L.size = maxL) (hf : rm.frames + 1 ≤ R.frames) {W : Nat} (hW : (S.map fun v => v.category).sum ≤ W) (hlo : W + (maxY + 11) + rm.locals ≤ R.locals) {cells' slots' : Nat} (hc1 : cells + rm.cells = cells') (hs1 : slots + rm.slots = slots') (hc : cells' ≤ R.cells) (hl : slots' ≤ R.slots) {wl : List Addr} (hKp : ∀ v h', Qy v h' → Keep h h' wl) (hSf : ∀ x ∈ wl, SfOk Z h mk sf x)
    (hd : decode bytes pc = .ok (.invokestatic i, 3)) (hq : pc + 3 = q) (K : ∀ v h', Qy v h' → AtS p l e R s m args below meth c Z EL own n0 Q mk sf h' cells' slots' (mkF m q L (v.toList ++ S))) : AtS p l e R s m args below meth c Z EL own n0 Q mk sf h cells slots (mkF m pc L S') := by
  subst hq hc1 hs1
  intro T locs k n' vm0 k0 X hk hn' eT N hZ hown hS0 hk0 hC hB hF
  obtain ⟨v, _, ⟨T', L', k', n''⟩, -, X', ⟨Lc, hQ, hl', hc', hs'⟩, st⟩ := Jvm.LawKit.callS X C.1 (y := y) hown (mvT (s := s.setVm vm0) hZ w1) (mvT (s := s.setVm vm0) hZ w2) (mvT (s := s.setVm vm0) hZ wz) (mvT (s := s.setVm vm0) hZ wc) hy (backOf (s := s.setVm vm0) (W := W) (Q := fun v h L => Fr n0 L ∧ Qy v h) ct hZ wc wz hf hlo) (g := mkF m pc L S') rfl (hL.trans C.2.2.1.symm) (argsL := argsL) (rest := S) hlen hS (by show 2 * 0 + _ ≤ _; omega) (hb C.2.1 hd) (fun _ _ => ⟨rfl, eT, (by show k + _ ≤ _; omega), (by show n' + _ ≤ _; omega)⟩)
  dsimp only [Pt.U, Pt.locs, Pt.cells, Pt.slots] at X' hl' hc' hs' st hQ
  subst hl' hc' hs'
  have hKp' := hKp v T'.heap hQ.2
  have hsafe : ∀ x ∈ wl, Safe Z EL vm0 h x := fun x hx => (hSf x hx).safe hZ.alike hB hF
  obtain ⟨H', hB'⟩ := hC.1.keepStep hKp' hsafe
  obtain ⟨t, o, r1, r⟩ := K v T'.heap hQ.2 T' _ _ _ vm0 k0 X' (by omega) (by omega) rfl (Fr.app N hQ.1) hZ hown hS0 (Nat.le_trans hk0 hKp'.1) (hC.trans (CHr.keep hKp' hsafe hC.1)) (fun y hy => hB y (hB' y hy)) (fun x hx => ⟨Nat.lt_of_lt_of_le (hF x hx).1 hKp'.1, (hF x hx).2.keep hKp' hsafe hC.1⟩)
  exact ⟨t, o, st _ r1, r⟩
theorem s_callI1 (C : Cx p s m meth c Z own bytes maxL ret nm) {y : MethodName} {i : Nat} {a : Addr} {argsL : List Value} {bytesY : ByteArray} {maxY : Nat} {rm : Room} {Qy : Option Value → Heap → Prop} (hnm : y.name = "<init>") (w1 : (Jvm.Cond.methodLink own i y).before a0 Z = true) (w2 : (Jvm.Cond.instanceMethod y).before a0 Z = true) (wz : (Jvm.Cond.initialized y.cls).before a0 Z = true) (wc : (Jvm.Cond.code y bytesY maxY none).before a0 Z = true)
    (hy : y.cls ≠ "java/lang/invoke/MethodHandle" ∧ y.cls ≠ "java/lang/invoke/VarHandle") (ct : Ct [] l Z n0 y bytesY maxY none rm (.ref a :: argsL).toArray h Qy) {S' : List Value} (hS : S' = argsL.reverse ++ .ref a :: S) (hlen : ∀ sig, parseMethodDescriptor y.desc = some sig → argsL.length = sig.parameters.length) (hL : L.size = maxL) (hf : rm.frames + 1 ≤ R.frames) {W : Nat} (hW : (S.map fun v => v.category).sum ≤ W) (hlo : W + (maxY + 11) + rm.locals ≤ R.locals) {cells' slots' : Nat} (hc1 : cells + rm.cells = cells') (hs1 : slots + rm.slots = slots') (hc : cells' ≤ R.cells) (hl : slots' ≤ R.slots) {wl : List Addr} (hKp : ∀ v h', Qy v h' → Keep h h' wl) (hSf : ∀ x ∈ wl, SfOk Z h mk sf x)
    (hd : decode bytes pc = .ok (.invokespecial i, 3)) (hq : pc + 3 = q) (K : ∀ v h', Qy v h' → AtS p l e R s m args below meth c Z EL own n0 Q mk sf h' cells' slots' (mkF m q L (v.toList ++ S))) : AtS p l e R s m args below meth c Z EL own n0 Q mk sf h cells slots (mkF m pc L S') := by
  subst hq hc1 hs1
  intro T locs k n' vm0 k0 X hk hn' eT N hZ hown hS0 hk0 hC hB hF
  obtain ⟨v, _, ⟨T', L', k', n''⟩, -, X', ⟨Lc, hQ, hl', hc', hs'⟩, st⟩ := X.specialBack C.1 (y := y) hnm hown (mvT (s := s.setVm vm0) hZ w1) (mvT (s := s.setVm vm0) hZ w2) (mvT (s := s.setVm vm0) hZ wc) hy (backOf (s := s.setVm vm0) (W := W) (Q := fun v h L => Fr n0 L ∧ Qy v h) ct hZ wc wz hf hlo) (g := mkF m pc L S') rfl (hL.trans C.2.2.1.symm) (Steps.refl _) (a := a) (argsL := argsL) (rest := S) hlen hS (by show 2 * 0 + _ ≤ _; omega) (hb C.2.1 hd) (fun _ _ => ⟨rfl, eT, (by show k + _ ≤ _; omega), (by show n' + _ ≤ _; omega)⟩)
  dsimp only [Pt.U, Pt.locs, Pt.cells, Pt.slots] at X' hl' hc' hs' st hQ
  subst hl' hc' hs'
  have hKp' := hKp v T'.heap hQ.2
  have hsafe : ∀ x ∈ wl, Safe Z EL vm0 h x := fun x hx => (hSf x hx).safe hZ.alike hB hF
  obtain ⟨H', hB'⟩ := hC.1.keepStep hKp' hsafe
  obtain ⟨t, o, r1, r⟩ := K v T'.heap hQ.2 T' _ _ _ vm0 k0 X' (by omega) (by omega) rfl (Fr.app N hQ.1) hZ hown hS0 (Nat.le_trans hk0 hKp'.1) (hC.trans (CHr.keep hKp' hsafe hC.1)) (fun y hy => hB y (hB' y hy)) (fun x hx => ⟨Nat.lt_of_lt_of_le (hF x hx).1 hKp'.1, (hF x hx).2.keep hKp' hsafe hC.1⟩)
  exact ⟨t, o, st.trans r1, r⟩
theorem s_callV1 (C : Cx p s m meth c Z own bytes maxL ret nm) {y z : MethodName} {Cl : String} {i : Nat} {a : Addr} {argsL : List Value} {bytesY : ByteArray} {maxY : Nat} {retY : Option FieldType} {rm : Room} {Qy : Option Value → Heap → Prop} (E : Exa Z h a Cl) (w1 : (Jvm.Cond.methodLink own i y).before a0 Z = true) (w2 : (Jvm.Cond.declares y).before a0 Z = true) (hnf : ∀ vm0, Z.Warmed39 vm0 → NotFace (s.setVm vm0) y) (w3 : (Jvm.Cond.selects Cl y z).before a0 Z = true) (w4 : (Jvm.Cond.instanceMethod z).before a0 Z = true) (wz : (Jvm.Cond.initialized z.cls).before a0 Z = true) (wc : (Jvm.Cond.code z bytesY maxY retY).before a0 Z = true)
    (hy : y.cls ≠ "java/lang/invoke/MethodHandle" ∧ y.cls ≠ "java/lang/invoke/VarHandle") (ct : Ct [] l Z n0 z bytesY maxY retY rm (.ref a :: argsL).toArray h Qy) {S' : List Value} (hS : S' = argsL.reverse ++ .ref a :: S) (hlen : ∀ sig, parseMethodDescriptor y.desc = some sig → argsL.length = sig.parameters.length) (hL : L.size = maxL) (hf : rm.frames + 1 ≤ R.frames) {W : Nat} (hW : (S.map fun v => v.category).sum ≤ W) (hlo : W + (maxY + 11) + rm.locals ≤ R.locals) {cells' slots' : Nat} (hc1 : cells + rm.cells = cells') (hs1 : slots + rm.slots = slots') (hc : cells' ≤ R.cells) (hl : slots' ≤ R.slots) {wl : List Addr} (hKp : ∀ v h', Qy v h' → Keep h h' wl) (hSf : ∀ x ∈ wl, SfOk Z h mk sf x)
    (hd : decode bytes pc = .ok (.invokevirtual i, 3)) (hq : pc + 3 = q) (K : ∀ v h', Qy v h' → AtS p l e R s m args below meth c Z EL own n0 Q mk sf h' cells' slots' (mkF m q L (v.toList ++ S))) : AtS p l e R s m args below meth c Z EL own n0 Q mk sf h cells slots (mkF m pc L S') := by
  subst hq hc1 hs1
  intro T locs k n' vm0 k0 X hk hn' eT N hZ hown hS0 hk0 hC hB hF
  obtain ⟨cB, kB, q1, q2, q3⟩ := isOf (s := s.setVm vm0) hZ eT E
  obtain ⟨v, _, ⟨T', L', k', n''⟩, -, X', ⟨Lc, hQ, hl', hc', hs'⟩, st⟩ := X.virtualBack C.1 (y := y) (z := z) hown (mvT (s := s.setVm vm0) hZ w1) (mvT (s := s.setVm vm0) hZ w2) (hnf vm0 hZ) (mvT (s := s.setVm vm0) hZ w3) (mvT (s := s.setVm vm0) hZ w4) hy (backOf (s := s.setVm vm0) (W := W) (Q := fun v h L => Fr n0 L ∧ Qy v h) ct hZ wc wz hf hlo) q1 q3 (g := mkF m pc L S') rfl (hL.trans C.2.2.1.symm) (Steps.refl _) (argsL := argsL) (rest := S) hlen hS (by show 2 * 0 + _ ≤ _; omega) (hb C.2.1 hd) (fun _ _ => ⟨rfl, eT, (by show k + _ ≤ _; omega), (by show n' + _ ≤ _; omega)⟩)
  dsimp only [Pt.U, Pt.locs, Pt.cells, Pt.slots] at X' hl' hc' hs' st hQ
  subst hl' hc' hs'
  have hKp' := hKp v T'.heap hQ.2
  have hsafe : ∀ x ∈ wl, Safe Z EL vm0 h x := fun x hx => (hSf x hx).safe hZ.alike hB hF
  obtain ⟨H', hB'⟩ := hC.1.keepStep hKp' hsafe
  obtain ⟨t, o, r1, r⟩ := K v T'.heap hQ.2 T' _ _ _ vm0 k0 X' (by omega) (by omega) rfl (Fr.app N hQ.1) hZ hown hS0 (Nat.le_trans hk0 hKp'.1) (hC.trans (CHr.keep hKp' hsafe hC.1)) (fun y hy => hB y (hB' y hy)) (fun x hx => ⟨Nat.lt_of_lt_of_le (hF x hx).1 hKp'.1, (hF x hx).2.keep hKp' hsafe hC.1⟩)
  exact ⟨t, o, st.trans r1, r⟩
theorem s_callP1 (C : Cx p s m meth c Z own bytes maxL ret nm) {y : MethodName} {Cl : String} {i : Nat} {a : Addr} {argsL : List Value} {bytesY : ByteArray} {maxY : Nat} {retY : Option FieldType} {rm : Room} {Qy : Option Value → Heap → Prop} (E : Exa Z h a Cl) (w1 : (Jvm.Cond.methodLink own i y).before a0 Z = true) (w4 : (Jvm.Cond.instanceMethod y).before a0 Z = true) (hni : ∀ vm0, Z.Warmed39 vm0 → NI (s.setVm vm0) y.cls) (w5 : (Jvm.Cond.privateMethod y).before a0 Z = true) (wz : (Jvm.Cond.initialized y.cls).before a0 Z = true) (wc : (Jvm.Cond.code y bytesY maxY retY).before a0 Z = true)
    (hy : y.cls ≠ "java/lang/invoke/MethodHandle" ∧ y.cls ≠ "java/lang/invoke/VarHandle") (ct : Ct [] l Z n0 y bytesY maxY retY rm (.ref a :: argsL).toArray h Qy) {S' : List Value} (hS : S' = argsL.reverse ++ .ref a :: S) (hlen : ∀ sig, parseMethodDescriptor y.desc = some sig → argsL.length = sig.parameters.length) (hL : L.size = maxL) (hf : rm.frames + 1 ≤ R.frames) {W : Nat} (hW : (S.map fun v => v.category).sum ≤ W) (hlo : W + (maxY + 11) + rm.locals ≤ R.locals) {cells' slots' : Nat} (hc1 : cells + rm.cells = cells') (hs1 : slots + rm.slots = slots') (hc : cells' ≤ R.cells) (hl : slots' ≤ R.slots) {wl : List Addr} (hKp : ∀ v h', Qy v h' → Keep h h' wl) (hSf : ∀ x ∈ wl, SfOk Z h mk sf x)
    (hd : decode bytes pc = .ok (.invokevirtual i, 3)) (hq : pc + 3 = q) (K : ∀ v h', Qy v h' → AtS p l e R s m args below meth c Z EL own n0 Q mk sf h' cells' slots' (mkF m q L (v.toList ++ S))) : AtS p l e R s m args below meth c Z EL own n0 Q mk sf h cells slots (mkF m pc L S') := by
  subst hq hc1 hs1
  intro T locs k n' vm0 k0 X hk hn' eT N hZ hown hS0 hk0 hC hB hF
  obtain ⟨cq, q1, q2⟩ := E.cell
  obtain ⟨cN, kN, n1, n2, n3⟩ := hni vm0 hZ
  have hpv := Cond.privateMethod_at (mvP (s := s.setVm vm0) hZ w5 (args := #[]))
  obtain ⟨v, _, ⟨T', L', k', n''⟩, -, X', ⟨Lc, hQ, hl', hc', hs'⟩, st⟩ := X.privateBack C.1 (y := y) hown (mvT (s := s.setVm vm0) hZ w1) (mvT (s := s.setVm vm0) hZ w4) (selects_self_of_private n1 n2 n3 hpv (mvT (s := s.setVm vm0) hZ w4) hy) hpv (mvT (s := s.setVm vm0) hZ wc) hy (backOf (s := s.setVm vm0) (W := W) (Q := fun v h L => Fr n0 L ∧ Qy v h) ct hZ wc wz hf hlo) (g := mkF m pc L S') rfl (hL.trans C.2.2.1.symm) (Steps.refl _) (a := a) (by rw [eT]; exact q1) q2 (argsL := argsL) (rest := S) hlen hS (by show 2 * 0 + _ ≤ _; omega) (hb C.2.1 hd) (fun _ _ => ⟨rfl, eT, (by show k + _ ≤ _; omega), (by show n' + _ ≤ _; omega)⟩)
  dsimp only [Pt.U, Pt.locs, Pt.cells, Pt.slots] at X' hl' hc' hs' st hQ
  subst hl' hc' hs'
  have hKp' := hKp v T'.heap hQ.2
  have hsafe : ∀ x ∈ wl, Safe Z EL vm0 h x := fun x hx => (hSf x hx).safe hZ.alike hB hF
  obtain ⟨H', hB'⟩ := hC.1.keepStep hKp' hsafe
  obtain ⟨t, o, r1, r⟩ := K v T'.heap hQ.2 T' _ _ _ vm0 k0 X' (by omega) (by omega) rfl (Fr.app N hQ.1) hZ hown hS0 (Nat.le_trans hk0 hKp'.1) (hC.trans (CHr.keep hKp' hsafe hC.1)) (fun y hy => hB y (hB' y hy)) (fun x hx => ⟨Nat.lt_of_lt_of_le (hF x hx).1 hKp'.1, (hF x hx).2.keep hKp' hsafe hC.1⟩)
  exact ⟨t, o, st.trans r1, r⟩
theorem s_callS2 (C : Cx p s m meth c Z own bytes maxL ret nm) (hEL : EW Z a0 EL) {y : MethodName} {i : Nat} {argsL : List Value} {bytesY : ByteArray} {maxY : Nat} {retY : Option FieldType} {rm : Room} {Qy : Option Value → Heap → Prop} (w1 : (Jvm.Cond.methodLink own i y).before a0 Z = true) (w2 : (Jvm.Cond.static y).before a0 Z = true) (wz : (Jvm.Cond.initialized y.cls).before a0 Z = true) (wc : (Jvm.Cond.code y bytesY maxY retY).before a0 Z = true)
    (hy : y.cls ≠ "java/lang/invoke/MethodHandle" ∧ y.cls ≠ "java/lang/invoke/VarHandle") (ct : Cs [] l Z EL n0 y bytesY maxY retY rm argsL.toArray h Qy) {S' : List Value} (hS : S' = argsL.reverse ++ S) (hlen : ∀ sig, parseMethodDescriptor y.desc = some sig → argsL.length = sig.parameters.length) (hL : L.size = maxL) (hf : rm.frames + 1 ≤ R.frames) {W : Nat} (hW : (S.map fun v => v.category).sum ≤ W) (hlo : W + (maxY + 11) + rm.locals ≤ R.locals) {cells' slots' : Nat} (hc1 : cells + rm.cells = cells') (hs1 : slots + rm.slots = slots') (hc : cells' ≤ R.cells) (hl : slots' ≤ R.slots) 
    (hd : decode bytes pc = .ok (.invokestatic i, 3)) (hq : pc + 3 = q) (K : ∀ v h', Qy v h' → AtS p l e R s m args below meth c Z EL own n0 Q h'.size sf h' cells' slots' (mkF m q L (v.toList ++ S))) : AtS p l e R s m args below meth c Z EL own n0 Q mk sf h cells slots (mkF m pc L S') := by
  subst hq hc1 hs1
  intro T locs k n' vm0 k0 X hk hn' eT N hZ hown hS0 hk0 hC hB hF
  obtain ⟨v, _, ⟨T', L', k', n''⟩, -, X', hSn, hgr, ⟨Lc, hQ, hl', hc', hs', hCr⟩, st⟩ := callSS X C.1 (y := y) hown (mvT (s := s.setVm vm0) hZ w1) (mvT (s := s.setVm vm0) hZ w2) (mvT (s := s.setVm vm0) hZ wz) (mvT (s := s.setVm vm0) hZ wc) hy (backOfSH (W := W) (Q := fun v h L => Fr n0 L ∧ Qy v h) ct hZ wc wz hf hlo hEL hC.1) (g := mkF m pc L S') rfl (hL.trans C.2.2.1.symm) (argsL := argsL) (rest := S) hlen hS (by show 2 * 0 + _ ≤ _; omega) (hb C.2.1 hd) (fun _ _ => ⟨rfl, eT, (by show k + _ ≤ _; omega), (by show n' + _ ≤ _; omega)⟩)
  dsimp only [Pt.U, Pt.locs, Pt.cells, Pt.slots] at X' hSn hgr hl' hc' hs' st hQ hCr
  subst hl' hc' hs'
  rw [eT] at hgr
  obtain ⟨X2, hS2, hZ2, hown2⟩ := rebS hS0 hk0 X' hSn hgr (show Z.Warmed39 (s.setVm vm0).vm from hZ) hown
  obtain ⟨t, o, r1, r⟩ := K v T'.heap hQ.2 T' _ _ _ T'.vm T'.heap.size X2 (by omega) (by omega) rfl (Fr.app N hQ.1) hZ2 hown2 hS2 (Nat.le_refl _) (hC.trans hCr) (fun y hy => bk_lt hy) (fun x hx => ⟨Nat.lt_of_lt_of_le (hF x hx).1 hgr, hCr.safe (hF x hx).1 (hF x hx).2⟩)
  exact ⟨t, o, st.trans r1, r⟩
theorem s_callI2 (C : Cx p s m meth c Z own bytes maxL ret nm) (hEL : EW Z a0 EL) {y : MethodName} {i : Nat} {a : Addr} {argsL : List Value} {bytesY : ByteArray} {maxY : Nat} {rm : Room} {Qy : Option Value → Heap → Prop} (hnm : y.name = "<init>") (w1 : (Jvm.Cond.methodLink own i y).before a0 Z = true) (w2 : (Jvm.Cond.instanceMethod y).before a0 Z = true) (wz : (Jvm.Cond.initialized y.cls).before a0 Z = true) (wc : (Jvm.Cond.code y bytesY maxY none).before a0 Z = true)
    (hy : y.cls ≠ "java/lang/invoke/MethodHandle" ∧ y.cls ≠ "java/lang/invoke/VarHandle") (ct : Cs [] l Z EL n0 y bytesY maxY none rm (.ref a :: argsL).toArray h Qy) {S' : List Value} (hS : S' = argsL.reverse ++ .ref a :: S) (hlen : ∀ sig, parseMethodDescriptor y.desc = some sig → argsL.length = sig.parameters.length) (hL : L.size = maxL) (hf : rm.frames + 1 ≤ R.frames) {W : Nat} (hW : (S.map fun v => v.category).sum ≤ W) (hlo : W + (maxY + 11) + rm.locals ≤ R.locals) {cells' slots' : Nat} (hc1 : cells + rm.cells = cells') (hs1 : slots + rm.slots = slots') (hc : cells' ≤ R.cells) (hl : slots' ≤ R.slots) 
    (hd : decode bytes pc = .ok (.invokespecial i, 3)) (hq : pc + 3 = q) (K : ∀ v h', Qy v h' → AtS p l e R s m args below meth c Z EL own n0 Q h'.size sf h' cells' slots' (mkF m q L (v.toList ++ S))) : AtS p l e R s m args below meth c Z EL own n0 Q mk sf h cells slots (mkF m pc L S') := by
  subst hq hc1 hs1
  intro T locs k n' vm0 k0 X hk hn' eT N hZ hown hS0 hk0 hC hB hF
  obtain ⟨v, _, ⟨T', L', k', n''⟩, -, X', hSn, hgr, ⟨Lc, hQ, hl', hc', hs', hCr⟩, st⟩ := X.specialBackS C.1 (y := y) hnm hown (mvT (s := s.setVm vm0) hZ w1) (mvT (s := s.setVm vm0) hZ w2) (mvT (s := s.setVm vm0) hZ wc) hy (backOfSH (W := W) (Q := fun v h L => Fr n0 L ∧ Qy v h) ct hZ wc wz hf hlo hEL hC.1) (g := mkF m pc L S') rfl (hL.trans C.2.2.1.symm) (Steps.refl _) (a := a) (argsL := argsL) (rest := S) hlen hS (by show 2 * 0 + _ ≤ _; omega) (hb C.2.1 hd) (fun _ _ => ⟨rfl, eT, (by show k + _ ≤ _; omega), (by show n' + _ ≤ _; omega)⟩)
  dsimp only [Pt.U, Pt.locs, Pt.cells, Pt.slots] at X' hSn hgr hl' hc' hs' st hQ hCr
  subst hl' hc' hs'
  rw [eT] at hgr
  obtain ⟨X2, hS2, hZ2, hown2⟩ := rebS hS0 hk0 X' hSn hgr (show Z.Warmed39 (s.setVm vm0).vm from hZ) hown
  obtain ⟨t, o, r1, r⟩ := K v T'.heap hQ.2 T' _ _ _ T'.vm T'.heap.size X2 (by omega) (by omega) rfl (Fr.app N hQ.1) hZ2 hown2 hS2 (Nat.le_refl _) (hC.trans hCr) (fun y hy => bk_lt hy) (fun x hx => ⟨Nat.lt_of_lt_of_le (hF x hx).1 hgr, hCr.safe (hF x hx).1 (hF x hx).2⟩)
  exact ⟨t, o, st.trans r1, r⟩
theorem s_callV2 (C : Cx p s m meth c Z own bytes maxL ret nm) (hEL : EW Z a0 EL) {y z : MethodName} {Cl : String} {i : Nat} {a : Addr} {argsL : List Value} {bytesY : ByteArray} {maxY : Nat} {retY : Option FieldType} {rm : Room} {Qy : Option Value → Heap → Prop} (E : Exa Z h a Cl) (w1 : (Jvm.Cond.methodLink own i y).before a0 Z = true) (w2 : (Jvm.Cond.declares y).before a0 Z = true) (hnf : ∀ vm0, Z.Warmed39 vm0 → NotFace (s.setVm vm0) y) (w3 : (Jvm.Cond.selects Cl y z).before a0 Z = true) (w4 : (Jvm.Cond.instanceMethod z).before a0 Z = true) (wz : (Jvm.Cond.initialized z.cls).before a0 Z = true) (wc : (Jvm.Cond.code z bytesY maxY retY).before a0 Z = true)
    (hy : y.cls ≠ "java/lang/invoke/MethodHandle" ∧ y.cls ≠ "java/lang/invoke/VarHandle") (ct : Cs [] l Z EL n0 z bytesY maxY retY rm (.ref a :: argsL).toArray h Qy) {S' : List Value} (hS : S' = argsL.reverse ++ .ref a :: S) (hlen : ∀ sig, parseMethodDescriptor y.desc = some sig → argsL.length = sig.parameters.length) (hL : L.size = maxL) (hf : rm.frames + 1 ≤ R.frames) {W : Nat} (hW : (S.map fun v => v.category).sum ≤ W) (hlo : W + (maxY + 11) + rm.locals ≤ R.locals) {cells' slots' : Nat} (hc1 : cells + rm.cells = cells') (hs1 : slots + rm.slots = slots') (hc : cells' ≤ R.cells) (hl : slots' ≤ R.slots) 
    (hd : decode bytes pc = .ok (.invokevirtual i, 3)) (hq : pc + 3 = q) (K : ∀ v h', Qy v h' → AtS p l e R s m args below meth c Z EL own n0 Q h'.size sf h' cells' slots' (mkF m q L (v.toList ++ S))) : AtS p l e R s m args below meth c Z EL own n0 Q mk sf h cells slots (mkF m pc L S') := by
  subst hq hc1 hs1
  intro T locs k n' vm0 k0 X hk hn' eT N hZ hown hS0 hk0 hC hB hF
  obtain ⟨cB, kB, q1, q2, q3⟩ := isOf (s := s.setVm vm0) hZ eT E
  obtain ⟨v, _, ⟨T', L', k', n''⟩, -, X', hSn, hgr, ⟨Lc, hQ, hl', hc', hs', hCr⟩, st⟩ := X.virtualBackS C.1 (y := y) (z := z) hown (mvT (s := s.setVm vm0) hZ w1) (mvT (s := s.setVm vm0) hZ w2) (hnf vm0 hZ) (mvT (s := s.setVm vm0) hZ w3) (mvT (s := s.setVm vm0) hZ w4) hy (backOfSH (W := W) (Q := fun v h L => Fr n0 L ∧ Qy v h) ct hZ wc wz hf hlo hEL hC.1) q1 q3 (g := mkF m pc L S') rfl (hL.trans C.2.2.1.symm) (Steps.refl _) (argsL := argsL) (rest := S) hlen hS (by show 2 * 0 + _ ≤ _; omega) (hb C.2.1 hd) (fun _ _ => ⟨rfl, eT, (by show k + _ ≤ _; omega), (by show n' + _ ≤ _; omega)⟩)
  dsimp only [Pt.U, Pt.locs, Pt.cells, Pt.slots] at X' hSn hgr hl' hc' hs' st hQ hCr
  subst hl' hc' hs'
  rw [eT] at hgr
  obtain ⟨X2, hS2, hZ2, hown2⟩ := rebS hS0 hk0 X' hSn hgr (show Z.Warmed39 (s.setVm vm0).vm from hZ) hown
  obtain ⟨t, o, r1, r⟩ := K v T'.heap hQ.2 T' _ _ _ T'.vm T'.heap.size X2 (by omega) (by omega) rfl (Fr.app N hQ.1) hZ2 hown2 hS2 (Nat.le_refl _) (hC.trans hCr) (fun y hy => bk_lt hy) (fun x hx => ⟨Nat.lt_of_lt_of_le (hF x hx).1 hgr, hCr.safe (hF x hx).1 (hF x hx).2⟩)
  exact ⟨t, o, st.trans r1, r⟩
theorem s_callP2 (C : Cx p s m meth c Z own bytes maxL ret nm) (hEL : EW Z a0 EL) {y : MethodName} {Cl : String} {i : Nat} {a : Addr} {argsL : List Value} {bytesY : ByteArray} {maxY : Nat} {retY : Option FieldType} {rm : Room} {Qy : Option Value → Heap → Prop} (E : Exa Z h a Cl) (w1 : (Jvm.Cond.methodLink own i y).before a0 Z = true) (w4 : (Jvm.Cond.instanceMethod y).before a0 Z = true) (hni : ∀ vm0, Z.Warmed39 vm0 → NI (s.setVm vm0) y.cls) (w5 : (Jvm.Cond.privateMethod y).before a0 Z = true) (wz : (Jvm.Cond.initialized y.cls).before a0 Z = true) (wc : (Jvm.Cond.code y bytesY maxY retY).before a0 Z = true)
    (hy : y.cls ≠ "java/lang/invoke/MethodHandle" ∧ y.cls ≠ "java/lang/invoke/VarHandle") (ct : Cs [] l Z EL n0 y bytesY maxY retY rm (.ref a :: argsL).toArray h Qy) {S' : List Value} (hS : S' = argsL.reverse ++ .ref a :: S) (hlen : ∀ sig, parseMethodDescriptor y.desc = some sig → argsL.length = sig.parameters.length) (hL : L.size = maxL) (hf : rm.frames + 1 ≤ R.frames) {W : Nat} (hW : (S.map fun v => v.category).sum ≤ W) (hlo : W + (maxY + 11) + rm.locals ≤ R.locals) {cells' slots' : Nat} (hc1 : cells + rm.cells = cells') (hs1 : slots + rm.slots = slots') (hc : cells' ≤ R.cells) (hl : slots' ≤ R.slots) 
    (hd : decode bytes pc = .ok (.invokevirtual i, 3)) (hq : pc + 3 = q) (K : ∀ v h', Qy v h' → AtS p l e R s m args below meth c Z EL own n0 Q h'.size sf h' cells' slots' (mkF m q L (v.toList ++ S))) : AtS p l e R s m args below meth c Z EL own n0 Q mk sf h cells slots (mkF m pc L S') := by
  subst hq hc1 hs1
  intro T locs k n' vm0 k0 X hk hn' eT N hZ hown hS0 hk0 hC hB hF
  obtain ⟨cq, q1, q2⟩ := E.cell
  obtain ⟨cN, kN, n1, n2, n3⟩ := hni vm0 hZ
  have hpv := Cond.privateMethod_at (mvP (s := s.setVm vm0) hZ w5 (args := #[]))
  obtain ⟨v, _, ⟨T', L', k', n''⟩, -, X', hSn, hgr, ⟨Lc, hQ, hl', hc', hs', hCr⟩, st⟩ := X.privateBackS C.1 (y := y) hown (mvT (s := s.setVm vm0) hZ w1) (mvT (s := s.setVm vm0) hZ w4) (selects_self_of_private n1 n2 n3 hpv (mvT (s := s.setVm vm0) hZ w4) hy) hpv (mvT (s := s.setVm vm0) hZ wc) hy (backOfSH (W := W) (Q := fun v h L => Fr n0 L ∧ Qy v h) ct hZ wc wz hf hlo hEL hC.1) (g := mkF m pc L S') rfl (hL.trans C.2.2.1.symm) (Steps.refl _) (a := a) (by rw [eT]; exact q1) q2 (argsL := argsL) (rest := S) hlen hS (by show 2 * 0 + _ ≤ _; omega) (hb C.2.1 hd) (fun _ _ => ⟨rfl, eT, (by show k + _ ≤ _; omega), (by show n' + _ ≤ _; omega)⟩)
  dsimp only [Pt.U, Pt.locs, Pt.cells, Pt.slots] at X' hSn hgr hl' hc' hs' st hQ hCr
  subst hl' hc' hs'
  rw [eT] at hgr
  obtain ⟨X2, hS2, hZ2, hown2⟩ := rebS hS0 hk0 X' hSn hgr (show Z.Warmed39 (s.setVm vm0).vm from hZ) hown
  obtain ⟨t, o, r1, r⟩ := K v T'.heap hQ.2 T' _ _ _ T'.vm T'.heap.size X2 (by omega) (by omega) rfl (Fr.app N hQ.1) hZ2 hown2 hS2 (Nat.le_refl _) (hC.trans hCr) (fun y hy => bk_lt hy) (fun x hx => ⟨Nat.lt_of_lt_of_le (hF x hx).1 hgr, hCr.safe (hF x hx).1 (hF x hx).2⟩)
  exact ⟨t, o, st.trans r1, r⟩
theorem s_nf {y : MethodName} {Cl : String} (w3 : (Jvm.Cond.selects Cl y y).before a0 Z = true) : ∀ vm0, Z.Warmed39 vm0 → NotFace (s.setVm vm0) y := fun vm0 hZ => notFace_of_selects (args := #[]) (mvT (s := s.setVm vm0) hZ w3)
theorem s_nfs {y : MethodName} {Cl : String} (w3 : (Jvm.Cond.superclass y.cls Cl).before a0 Z = true) : ∀ vm0, Z.Warmed39 vm0 → NotFace (s.setVm vm0) y := fun vm0 hZ => nf_super (args := #[]) (mvT (s := s.setVm vm0) hZ w3)
/-- ldc of a String constant: what it spells -/
theorem s_ldc (C : Cx p s m meth c Z own bytes maxL ret nm) (hEL : EW Z a0 EL) (wS : ∀ a ∈ Bundle.stringAtoms, a.before a0 Z = true) {text : String} {i : Nat} (w : (Jvm.Cond.stringLink own i text).before a0 Z = true) (hmem : (own, i) ∈ EL) {vs : List Value} (ht : (∀ c ∈ text.toList, c.toNat < 256) ∧ text.toList.map (fun c => Value.int (Jvm.Lit.byteI c.toNat.toUInt16)) = vs) (hvl : vs.length < 2 ^ 31)
    {n : Nat} (hn1 : 4 * text.toList.length ≤ n) (hbig : n ≤ 536870912) {cells' slots' : Nat} (hc1 : cells + 2 = cells') (hs1 : slots + (n + 4) = slots') (hc : cells' ≤ R.cells) (hl : slots' ≤ R.slots)
    (hd : decode bytes pc = .ok (.ldc i, 2)) (hq : pc + 2 = q) (K : ∀ h' a b, Ext h h' → Exa Z h' a "java/lang/String" → Fld Z h' a "java/lang/String" "coder" "B" (.int 0) → Fld Z h' a "java/lang/String" "value" "[B" (.ref b) → Ar Z h' b .byte vs → (∀ x ∈ sf, x ≠ a ∧ x ≠ b) → AtS p l e R s m args below meth c Z EL own n0 Q h'.size sf h' cells' slots' (mkF m q L (.ref a :: S))) : AtS p l e R s m args below meth c Z EL own n0 Q mk sf h cells slots (mkF m pc L S) := by
  subst hq hc1 hs1
  intro T locs k n' vm0 k0 X hk hn' eT N hZ hown hS0 hk0 hC hB hF
  obtain ⟨a, T', h', k1, b, kc, X', e', E, hS1, hk1, hZ1, hown1, f1, f2, f3, f4, -, -, hCr, -, hne, st⟩ := ldcCH X C.1 hZ hown w wS eT hS0 hk0 hEL hmem hC.1 ht (ofNat_neg hvl) (ofNat_nat hvl) (g := mkF m pc L S) rfl (hb C.2.1 hd) hn1 hbig (by omega) (by omega)
  have hsf : ∀ x ∈ sf, x < h'.size ∧ Safe Z EL T'.vm h' x := fun x hx => ⟨Nat.lt_of_lt_of_le (hF x hx).1 E.1, hCr.safe (hF x hx).1 (hF x hx).2⟩
  obtain ⟨t, o, r1, r⟩ := K h' a b E f1 f2 f3 ⟨hvl, kc, f4⟩ (fun x hx => hne x (hsf x hx).2) T' _ _ _ T'.vm k1 X' (by omega) (by omega) e' N hZ1 hown1 hS1 hk1 (hC.trans hCr) (fun y hy => bk_lt hy) hsf
  exact ⟨t, o, st _ r1, r⟩
/-- ldc of a String constant of which nothing is said -/
theorem s_ldcO (C : Cx p s m meth c Z own bytes maxL ret nm) (hEL : EW Z a0 EL) (wS : ∀ a ∈ Bundle.stringAtoms, a.before a0 Z = true) {text : String} {i : Nat} (w : (Jvm.Cond.stringLink own i text).before a0 Z = true)
    {n : Nat} (hn1 : 4 * text.toList.length ≤ n) (hbig : n ≤ 536870912) {cells' slots' : Nat} (hc1 : cells + 2 = cells') (hs1 : slots + (n + 4) = slots') (hc : cells' ≤ R.cells) (hl : slots' ≤ R.slots)
    (hd : decode bytes pc = .ok (.ldc i, 2)) (hq : pc + 2 = q) (K : ∀ h' a, Ext h h' → AtS p l e R s m args below meth c Z EL own n0 Q h'.size sf h' cells' slots' (mkF m q L (.ref a :: S))) : AtS p l e R s m args below meth c Z EL own n0 Q mk sf h cells slots (mkF m pc L S) := by
  subst hq hc1 hs1
  intro T locs k n' vm0 k0 X hk hn' eT N hZ hown hS0 hk0 hC hB hF
  obtain ⟨a, T', h', k1, X', e', E, hS1, hk1, hZ1, hown1, hCr, -, st⟩ := ldcOH X C.1 hZ hown w wS eT hS0 hk0 hEL hC.1 (g := mkF m pc L S) rfl (hb C.2.1 hd) hn1 hbig (by omega) (by omega)
  have hsf : ∀ x ∈ sf, x < h'.size ∧ Safe Z EL T'.vm h' x := fun x hx => ⟨Nat.lt_of_lt_of_le (hF x hx).1 E.1, hCr.safe (hF x hx).1 (hF x hx).2⟩
  obtain ⟨t, o, r1, r⟩ := K h' a E T' _ _ _ T'.vm k1 X' (by omega) (by omega) e' N hZ1 hown1 hS1 hk1 (hC.trans hCr) (fun y hy => bk_lt hy) hsf
  exact ⟨t, o, st _ r1, r⟩
end WkS
-- CUT
def own_ones : List Value := (List.range 100).map fun k => .int (Int32.ofNat (48 + k % 10))
def own_tens : List Value := (List.range 100).map fun k => .int (Int32.ofNat (48 + k / 10))
theorem own_ones_get {k : Nat} (h : k < 100) : own_ones[k]? = some (.int (Int32.ofNat (48 + k % 10))) := by simp [own_ones, h]
theorem own_tens_get {k : Nat} (h : k < 100) : own_tens[k]? = some (.int (Int32.ofNat (48 + k / 10))) := by simp [own_tens, h]
theorem own_arrB {s : State} {args : Array Value} {x : Addr} (wa : (Jvm.Cond.arrayClass .byte).before args s = true) (X : Exa s s.heap x "[B") {c : Cell} (hc : s.arrayAt? x = some c) : Arr s s.heap x c .byte := by
  obtain ⟨cell, k, h1, h2, h3, h4, -⟩ := X
  obtain ⟨cA, kA, comp, hf, hk, hkind⟩ := Cond.arrayClass_spec wa
  have hf' : s.vm.findClass "[B" = some cA := hf
  cases hf'.symm.trans h2
  cases h3.symm.trans hk
  simp only [State.arrayAt?, h1, Option.bind_eq_bind, Option.bind_some, h3, hkind] at hc
  split at hc
  · cases hc
  · rename_i q
    obtain rfl := Option.some.inj hc
    exact ⟨h1, ⟨fun q2 e2 => (by rw [e2] at h4; cases h4), _, h3, comp, hkind⟩, fun q2 => q (Or.inl q2)⟩
theorem own_tabB {s : State} {args : Array Value} {x : Addr} {t f : Jvm.Term} (wa : (Jvm.Cond.arrayClass .byte).before args s = true) (X : Exa s s.heap x "[B") (e : ∀ idx, t.eval args s none idx s = some (.ref x)) (hl : (Jvm.Cond.eq (Jvm.Term.length t) (Jvm.Term.int (100 : Int32))).value args s none s [] = some true) (ha : (Jvm.Cond.all t (Jvm.Cond.eq (Jvm.Term.elem t (Jvm.Term.index 0)) f)).value args s none s [] = some true) (g : Nat → Int32) (hg : ∀ i, i < 100 → f.eval args s none [i] s = some (.int (g i)) ∧ fits .byte (.int (g i)) = true) : Ar s s.heap x .byte ((List.range 100).map fun k => .int (g k)) := by
  have hlen := Cond.eq_int (Cond.before_iff.mpr hl) rfl
  obtain ⟨c, hc⟩ : ∃ c, s.arrayAt? x = some c := by
    cases h : s.arrayAt? x with
    | none => simp [Term.eval, e, h] at hlen
    | some c => exact ⟨c, rfl⟩
  have A := own_arrB wa X hc
  have h31 := SBG.length_lt (e []) hc hlen
  have hsz : c.slots.size = 100 := by
    have e2 := len_f (e []) hc h31
    have e3 : c.slots.size.toInt32 = (100 : Int32) := by simpa using Option.some.inj (e2.symm.trans hlen)
    have := congrArg Int32.toInt e3
    rw [len_toInt h31] at this
    have e4 : (100 : Int32).toInt = 100 := rfl
    omega
  have hall := Cond.all_elim (e []) hc ha
  have hget : ∀ i, i < 100 → c.slots[i]? = some (.int (g i)) := fun i hi => by
    have h1 := hall i (by rw [hsz]; exact hi)
    have e1 := Cond.eq_int (show (Jvm.Cond.eq (Jvm.Term.elem t (Jvm.Term.index 0)) f).holds args s none s [i] = true by simp [Cond.holds, h1]) (hg i hi).1
    have e2 := elem_in e1 (e [i]) (show (Jvm.Term.index 0).eval args s none [i] s = some (.int (Int32.ofNat i)) from rfl) A.1
    rw [ofNat_nat (by omega)] at e2
    exact e2.2
  refine ⟨by simp, c.cls, c, A, rfl, ?_, ?_, ?_, ?_⟩
  · simp [hsz]
  · simp
  · intro k hk
    rw [hsz] at hk
    rw [hget k hk]
    simp [List.getD, hk]
  · intro k hk
    rw [hsz] at hk
    simpa [List.getD, hk] using (hg k hk).2
theorem own_r10 : ∀ k : Fin 100, (48 + Int32.ofNat k.val % 10 : Int32) = Int32.ofNat (48 + k.val % 10) ∧ (48 + Int32.ofNat k.val / 10 : Int32) = Int32.ofNat (48 + k.val / 10) ∧ fits .byte (.int (Int32.ofNat (48 + k.val % 10))) = true ∧ fits .byte (.int (Int32.ofNat (48 + k.val / 10))) = true := by decide +kernel
theorem own_tabd1 {s : State} {args : Array Value} {x : Addr} (wa : (Jvm.Cond.arrayClass .byte).before args s = true) (X : Exa s s.heap x "[B") (e : (Jvm.Term.static "java/lang/Integer" "DigitOnes" "[B").eval args s none [] s = some (.ref x)) (hl : (Jvm.Cond.eq (Jvm.Term.length (Jvm.Term.static "java/lang/Integer" "DigitOnes" "[B")) (Jvm.Term.int (100 : Int32))).value args s none s [] = some true) (ha : (Jvm.Cond.all (Jvm.Term.static "java/lang/Integer" "DigitOnes" "[B") (Jvm.Cond.eq (Jvm.Term.elem (Jvm.Term.static "java/lang/Integer" "DigitOnes" "[B") (Jvm.Term.index (0 : Nat))) (Jvm.Term.add (Jvm.Term.int (48 : Int32)) (Jvm.Term.rem (Jvm.Term.index (0 : Nat)) (Jvm.Term.int (10 : Int32)))))).value args s none s [] = some true) : Ar s s.heap x .byte own_ones :=
  own_tabB (t := Jvm.Term.static "java/lang/Integer" "DigitOnes" "[B") wa X (fun idx => e) hl ha (fun k => Int32.ofNat (48 + k % 10)) (fun i hi => ⟨by show some (Value.int (48 + Int32.ofNat i % 10)) = _; rw [(own_r10 ⟨i, hi⟩).1], (own_r10 ⟨i, hi⟩).2.2.1⟩)
theorem own_tabd2 {s : State} {args : Array Value} {x : Addr} (wa : (Jvm.Cond.arrayClass .byte).before args s = true) (X : Exa s s.heap x "[B") (e : (Jvm.Term.static "java/lang/Integer" "DigitTens" "[B").eval args s none [] s = some (.ref x)) (hl : (Jvm.Cond.eq (Jvm.Term.length (Jvm.Term.static "java/lang/Integer" "DigitTens" "[B")) (Jvm.Term.int (100 : Int32))).value args s none s [] = some true) (ha : (Jvm.Cond.all (Jvm.Term.static "java/lang/Integer" "DigitTens" "[B") (Jvm.Cond.eq (Jvm.Term.elem (Jvm.Term.static "java/lang/Integer" "DigitTens" "[B") (Jvm.Term.index (0 : Nat))) (Jvm.Term.add (Jvm.Term.int (48 : Int32)) (Jvm.Term.div (Jvm.Term.index (0 : Nat)) (Jvm.Term.int (10 : Int32)))))).value args s none s [] = some true) : Ar s s.heap x .byte own_tens :=
  own_tabB (t := Jvm.Term.static "java/lang/Integer" "DigitTens" "[B") wa X (fun idx => e) hl ha (fun k => Int32.ofNat (48 + k / 10)) (fun i hi => ⟨by show some (Value.int (48 + Int32.ofNat i / 10)) = _; rw [(own_r10 ⟨i, hi⟩).2.1], (own_r10 ⟨i, hi⟩).2.2.2⟩)

def Gl (Z : State) (a0 : Array Value) (n0 : Nat) : Prop := (∀ d ∈ tables_1, d.before a0 Z = true) ∧ (∃ z : Int32, Sta Z Z.heap "java/lang/String" "COMPACT_STRINGS" "Z" (.int z) ∧ ¬ z = 0) ∧ (∃ v : Value, Sta Z Z.heap "jdk/internal/util/Preconditions" "SIOOBE_FORMATTER" "Ljava/util/function/BiFunction;" v ∧ v.isRef = true ∧ v.category = 1) ∧ EW Z a0 consts_1 ∧ (∃ x : Addr, Sta Z Z.heap "java/lang/Integer" "DigitOnes" "[B" (.ref x) ∧ x < Z.heap.size ∧ Ar Z Z.heap x .byte own_ones) ∧ (∃ x : Addr, Sta Z Z.heap "java/lang/Integer" "DigitTens" "[B" (.ref x) ∧ x < Z.heap.size ∧ Ar Z Z.heap x .byte own_tens) ∧ True
theorem Gl.cs {Z : State} {a0 : Array Value} {n0 : Nat} (G : Gl Z a0 n0) : ∃ z : Int32, Sta Z Z.heap "java/lang/String" "COMPACT_STRINGS" "Z" (.int z) ∧ ¬ z = 0 := G.2.1
theorem Gl.fm {Z : State} {a0 : Array Value} {n0 : Nat} (G : Gl Z a0 n0) : ∃ v : Value, Sta Z Z.heap "jdk/internal/util/Preconditions" "SIOOBE_FORMATTER" "Ljava/util/function/BiFunction;" v ∧ v.isRef = true ∧ v.category = 1 := G.2.2.1
theorem Gl.el {Z : State} {a0 : Array Value} {n0 : Nat} (G : Gl Z a0 n0) : EW Z a0 consts_1 := G.2.2.2.1
theorem Gl.d1 {Z : State} {a0 : Array Value} {n0 : Nat} (G : Gl Z a0 n0) : ∃ x : Addr, Sta Z Z.heap "java/lang/Integer" "DigitOnes" "[B" (.ref x) ∧ x < Z.heap.size ∧ Ar Z Z.heap x .byte own_ones := G.2.2.2.2.1
theorem Gl.d2 {Z : State} {a0 : Array Value} {n0 : Nat} (G : Gl Z a0 n0) : ∃ x : Addr, Sta Z Z.heap "java/lang/Integer" "DigitTens" "[B" (.ref x) ∧ x < Z.heap.size ∧ Ar Z Z.heap x .byte own_tens := G.2.2.2.2.2.1
theorem own_sa : ∀ d ∈ Bundle.stringAtoms, d ∈ tables_1 := by decide +kernel
theorem Gl.sa {Z : State} {a0 : Array Value} {n0 : Nat} (G : Gl Z a0 n0) : ∀ d ∈ Bundle.stringAtoms, d.before a0 Z = true := fun d hd => G.1 d (own_sa d hd)
theorem pd_1 : parseMethodDescriptor "(ICC)Ljava/lang/String;" = some ⟨[.int, .char, .char], some (.object "java/lang/String")⟩ := by decide +kernel
theorem pd_2 : parseMethodDescriptor "(Ljava/lang/String;ILjava/lang/String;)V" = some ⟨[(.object "java/lang/String"), .int, (.object "java/lang/String")], none⟩ := by decide +kernel
theorem pd_3 : parseMethodDescriptor "()V" = some ⟨[], none⟩ := by decide +kernel
theorem pd_4 : parseMethodDescriptor "()Ljava/lang/String;" = some ⟨[], some (.object "java/lang/String")⟩ := by decide +kernel
theorem pd_5 : parseMethodDescriptor "(I)V" = some ⟨[.int], none⟩ := by decide +kernel
theorem pd_6 : parseMethodDescriptor "(Ljava/lang/String;)Ljava/lang/StringBuilder;" = some ⟨[(.object "java/lang/String")], some (.object "java/lang/StringBuilder")⟩ := by decide +kernel
theorem pd_7 : parseMethodDescriptor "(Ljava/lang/String;)Ljava/lang/AbstractStringBuilder;" = some ⟨[(.object "java/lang/String")], some (.object "java/lang/AbstractStringBuilder")⟩ := by decide +kernel
theorem pd_8 : parseMethodDescriptor "()I" = some ⟨[], some .int⟩ := by decide +kernel
theorem pd_9 : parseMethodDescriptor "()B" = some ⟨[], some .byte⟩ := by decide +kernel
theorem pd_10 : parseMethodDescriptor "(ILjava/lang/String;)V" = some ⟨[.int, (.object "java/lang/String")], none⟩ := by decide +kernel
theorem pd_11 : parseMethodDescriptor "(Ljava/lang/String;)V" = some ⟨[(.object "java/lang/String")], none⟩ := by decide +kernel
theorem pd_12 : parseMethodDescriptor "([BIB)V" = some ⟨[(.array .byte), .int, .byte], none⟩ := by decide +kernel
theorem pd_13 : parseMethodDescriptor "(Ljava/lang/Object;ILjava/lang/Object;II)V" = some ⟨[(.object "java/lang/Object"), .int, (.object "java/lang/Object"), .int, .int], none⟩ := by decide +kernel
theorem pd_14 : parseMethodDescriptor "(I)Ljava/lang/StringBuilder;" = some ⟨[.int], some (.object "java/lang/StringBuilder")⟩ := by decide +kernel
theorem pd_15 : parseMethodDescriptor "(I)Ljava/lang/AbstractStringBuilder;" = some ⟨[.int], some (.object "java/lang/AbstractStringBuilder")⟩ := by decide +kernel
theorem pd_16 : parseMethodDescriptor "(I)I" = some ⟨[.int], some .int⟩ := by decide +kernel
theorem pd_17 : parseMethodDescriptor "()Z" = some ⟨[], some .boolean⟩ := by decide +kernel
theorem pd_18 : parseMethodDescriptor "(II[B)I" = some ⟨[.int, .int, (.array .byte)], some .int⟩ := by decide +kernel
theorem pd_19 : parseMethodDescriptor "(Ljava/lang/StringBuilder;)V" = some ⟨[(.object "java/lang/StringBuilder")], none⟩ := by decide +kernel
theorem pd_20 : parseMethodDescriptor "(Ljava/lang/AbstractStringBuilder;Ljava/lang/Void;)V" = some ⟨[(.object "java/lang/AbstractStringBuilder"), (.object "java/lang/Void")], none⟩ := by decide +kernel
theorem pd_21 : parseMethodDescriptor "()[B" = some ⟨[], some (.array .byte)⟩ := by decide +kernel
theorem pd_22 : parseMethodDescriptor "([BII)[B" = some ⟨[(.array .byte), .int, .int], some (.array .byte)⟩ := by decide +kernel
theorem pd_23 : parseMethodDescriptor "(II)V" = some ⟨[.int, .int], none⟩ := by decide +kernel
theorem pd_24 : parseMethodDescriptor "(II)I" = some ⟨[.int, .int], some .int⟩ := by decide +kernel
theorem pd_25 : parseMethodDescriptor "(J)J" = some ⟨[.long], some .long⟩ := by decide +kernel
theorem pd_26 : parseMethodDescriptor "(J)I" = some ⟨[.long], some .int⟩ := by decide +kernel
theorem pd_27 : parseMethodDescriptor "(I)C" = some ⟨[.int], some .char⟩ := by decide +kernel
theorem pd_28 : parseMethodDescriptor "([BI)C" = some ⟨[(.array .byte), .int], some .char⟩ := by decide +kernel
theorem pd_29 : parseMethodDescriptor "(IILjava/util/function/BiFunction;)I" = some ⟨[.int, .int, (.object "java/util/function/BiFunction")], some .int⟩ := by decide +kernel
theorem pd_30 : parseMethodDescriptor "(Ljava/lang/String;IICC)Z" = some ⟨[(.object "java/lang/String"), .int, .int, .char, .char], some .boolean⟩ := by decide +kernel
theorem pd_31 : parseMethodDescriptor "(Ljava/lang/String;IIJI)Z" = some ⟨[(.object "java/lang/String"), .int, .int, .long, .int], some .boolean⟩ := by decide +kernel
theorem pd_32 : parseMethodDescriptor "(Ljava/lang/String;IIJII)Z" = some ⟨[(.object "java/lang/String"), .int, .int, .long, .int, .int], some .boolean⟩ := by decide +kernel
theorem pd_33 : parseMethodDescriptor "([C)V" = some ⟨[(.array .char)], none⟩ := by decide +kernel
theorem pd_34 : parseMethodDescriptor "([CIILjava/lang/Void;)V" = some ⟨[(.array .char), .int, .int, (.object "java/lang/Void")], none⟩ := by decide +kernel
theorem pd_35 : parseMethodDescriptor "([CII)[B" = some ⟨[(.array .char), .int, .int], some (.array .byte)⟩ := by decide +kernel
theorem pd_36 : parseMethodDescriptor "([CI[BII)I" = some ⟨[(.array .char), .int, (.array .byte), .int, .int], some .int⟩ := by decide +kernel
theorem pd_37 : parseMethodDescriptor "([BI)B" = some ⟨[(.array .byte), .int], some .byte⟩ := by decide +kernel
theorem pd_38 : parseMethodDescriptor "()Ljava/lang/Object;" = some ⟨[], some (.object "java/lang/Object")⟩ := by decide +kernel
theorem pd_39 : parseMethodDescriptor "(III)I" = some ⟨[.int, .int, .int], some .int⟩ := by decide +kernel
theorem pd_40 : parseMethodDescriptor "([BI)[B" = some ⟨[(.array .byte), .int], some (.array .byte)⟩ := by decide +kernel
theorem pd_41 : parseMethodDescriptor "(C)Ljava/lang/String;" = some ⟨[.char], some (.object "java/lang/String")⟩ := by decide +kernel
theorem pd_42 : parseMethodDescriptor "(C)Z" = some ⟨[.char], some .boolean⟩ := by decide +kernel
theorem pd_43 : parseMethodDescriptor "(C)[B" = some ⟨[.char], some (.array .byte)⟩ := by decide +kernel
theorem pd_44 : parseMethodDescriptor "([BB)V" = some ⟨[(.array .byte), .byte], none⟩ := by decide +kernel
theorem own_K1 {h0 h1 h2 : Heap} {t : Addr} (K1 : Keep h0 h1 []) (K2 : Keep h1 h2 [t]) (g : h0.size ≤ t) : Keep h0 h2 [] := K1.trans K2 (allS (P := fun x => x ∈ [] ∨ h0.size ≤ x) (Or.inr g) all0)
theorem own_K0 {h0 h1 h2 : Heap} {ws : List Addr} (K1 : Keep h0 h1 ws) (K2 : Keep h1 h2 []) : Keep h0 h2 ws := K1.trans K2 (all0 (P := fun x => x ∈ ws ∨ h0.size ≤ x))

section WkSb
variable {p : Program} {l : Launch} {e : Env} {R : Room} {s : State} {m : MethodId} {args : Array Value} {below : List Frame} {meth : Method} {c : Code} {n0 : Nat} {Q : Option Value → Heap → Prop} {h : Heap} {cells slots : Nat} {Z : State} {own : String} {bytes : ByteArray} {maxL : Nat} {ret : Option FieldType} {nm : String} {a0 : Array Value} {pc q : Nat} {L L' : Array Slot} {S : List Value}
theorem own_rng (vs : List Value) (dv : Value) (sp nn : Nat) (h : sp + nn ≤ vs.length) : (List.range nn).map (fun i => vs.getD (sp + i) dv) = (vs.drop sp).take nn := by
  apply List.ext_getElem?
  intro i
  rw [List.getElem?_map, List.getElem?_take, List.getElem?_drop]
  by_cases hi : i < nn
  · rw [List.getElem?_range hi, if_pos hi, List.getElem?_eq_getElem (show sp + i < vs.length by omega)]
    simp [List.getD, List.getElem?_eq_getElem (show sp + i < vs.length by omega)]
  · rw [if_neg hi, List.getElem?_eq_none (by simpa using hi)]; rfl
theorem w_copy (C : Cx p s m meth c Z own bytes maxL ret nm) {i : Nat} {a b : Addr} {ty : FieldType} {vs vd : List Value} {sp dp nn : Nat} (w1 : (Jvm.Cond.methodLink own i Jvm.Stand.acN).before a0 Z = true) (w2 : (Jvm.Cond.native Jvm.Stand.acN).before a0 Z = true) (w3 : (Jvm.Cond.static Jvm.Stand.acN).before a0 Z = true) (w4 : (Jvm.Cond.initialized "java/lang/System").before a0 Z = true)
    (A : Ar Z h a ty vs) (B : Ar Z h b ty vd) (hp : refKind ty = false) (h4 : sp + nn ≤ vs.length) (h5 : dp + nn ≤ vd.length) (ge : n0 ≤ b) (hL : L.size = maxL) (hf : 1 ≤ R.frames) {W : Nat} (hW : (S.map fun v => v.category).sum ≤ W) (hlo : W + 18 ≤ R.locals)
    {S' : List Value} (hS : S' = .int (Int32.ofNat nn) :: .int (Int32.ofNat dp) :: .ref b :: .int (Int32.ofNat sp) :: .ref a :: S) (hd : decode bytes pc = .ok (.invokestatic i, 3)) (hq : pc + 3 = q) (K : ∀ h', Keep h h' [b] → Ar Z h' b ty (vd.take dp ++ (vs.drop sp).take nn ++ vd.drop (dp + nn)) → AtW p l e R s m args below meth c n0 Q h' cells slots (mkF m q L S)) : AtW p l e R s m args below meth c n0 Q h cells slots (mkF m pc L S') := by
  subst hq hS
  intro T locs k n' X hk hn' eT N
  obtain ⟨la, ka, VA⟩ := A
  obtain ⟨lb, kb, VB⟩ := B
  have e1 := ofNat_nat (n := sp) (by omega)
  have e2 := ofNat_nat (n := dp) (by omega)
  have e3 := ofNat_nat (n := nn) (by omega)
  have e4 := ofNat_nat la
  have e5 := ofNat_nat lb
  obtain ⟨T', h', L', X', e', N', K', V', st⟩ := cpA X C.1 C.2.2.2.1 C.2.2.2.2.1 w1 w2 w3 w4 eT VA VB (Or.inl ⟨rfl, hp⟩) (ofNat_neg (n := sp) (by omega)) (ofNat_neg (n := dp) (by omega)) (ofNat_neg (n := nn) (by omega)) (by rw [e1, e3, e4]; exact h4) (by rw [e2, e3, e5]; exact h5) (us := (vs.drop sp).take nn) (by rw [e3, e1, own_rng vs _ sp nn h4]) (by rw [e2, e3]; exact h5) N ge (g := mkF m pc L (.int (Int32.ofNat nn) :: .int (Int32.ofNat dp) :: .ref b :: .int (Int32.ofNat sp) :: .ref a :: S)) rfl (hL.trans C.2.2.1.symm) rfl (hb C.2.1 hd) hf (W := W) (by show 2 * 0 + _ ≤ _; omega) (by show W + (7 + 11) ≤ _; omega)
  rw [e2, e3] at V'
  have hlen : (vd.take dp ++ (vs.drop sp).take nn ++ vd.drop (dp + nn)).length = vd.length := by simp only [List.length_append, List.length_take, List.length_drop]; omega
  obtain ⟨t, o, r1, r⟩ := K h' K' ⟨by rw [hlen]; exact lb, kb, by rw [hlen]; exact V'⟩ T' _ k n' X' hk hn' e' N'
  exact ⟨t, o, st _ r1, r⟩
theorem w_newArrE (C : Cx p s m meth c Z own bytes maxL ret nm) {aty : ArrayType} {ty : FieldType} {n : Int32} (w : (Jvm.Cond.arrayClass ty).before a0 Z = true) (hty : newarray.typeOf aty = ty) (hn : ¬ n < 0) {cap : Nat} (hcap : n.toNatClampNeg ≤ cap) (hb' : cap * 8 ≤ 536870912) {cells' slots' : Nat} (hc1 : cells + 1 = cells') (hs1 : slots + cap = slots') (hc : cells' ≤ R.cells) (hl : slots' ≤ R.slots) {ad : String} (had : "[" ++ ty.toString = ad)
    (hd : decode bytes pc = .ok (.newarray aty, 2)) (hq : pc + 2 = q) (K : ∀ h' a, a = h.size → Ext h h' → Ar Z h' a ty (List.replicate n.toNatClampNeg (defaultValue ty)) → Exa Z h' a ad → AtW p l e R s m args below meth c n0 Q h' cells' slots' (mkF m q L (.ref a :: S))) : AtW p l e R s m args below meth c n0 Q h cells slots (mkF m pc L (.int n :: S)) := by
  subst hq hc1 hs1 hty
  intro T locs k n' X hk hn' eT N
  obtain ⟨T', h', cA, X', e', E, A, Ex, st⟩ := newPE X C.1 C.2.2.2.1 w eT (g := mkF m pc L (.int n :: S)) rfl (hb C.2.1 hd) rfl hn hcap hb' (by omega) (by omega) had
  have q := nat_of_nonneg hn
  have V := (Arv.new A hn).pad (pad_rep [] (defaultValue (newarray.typeOf aty)) n.toNatClampNeg)
  obtain ⟨t, o, r1, r⟩ := K h' h.size rfl E ⟨by simpa using q.2, cA, by simpa [q.1] using V⟩ Ex T' _ (k + 1) (n' + cap) X' (by omega) (by omega) e' N
  exact ⟨t, o, st _ r1, r⟩
theorem w_clone (C : Cx p s m meth c Z own bytes maxL ret nm) {i : Nat} {a : Addr} {ty : FieldType} {ad : String} {vs : List Value} (w1 : (Jvm.Cond.methodLink own i ⟨ad, "clone", "()Ljava/lang/Object;"⟩).before a0 Z = true) (w2 : (Jvm.Cond.sameMethod ad "java/lang/Object" "clone" "()Ljava/lang/Object;").before a0 Z = true) (w3 : (Jvm.Cond.native ⟨"java/lang/Object", "clone", "()Ljava/lang/Object;"⟩).before a0 Z = true) (w4 : (Jvm.Cond.instanceMethod ⟨"java/lang/Object", "clone", "()Ljava/lang/Object;"⟩).before a0 Z = true)
    (w5 : (Jvm.Cond.selects ad ⟨ad, "clone", "()Ljava/lang/Object;"⟩ ⟨"java/lang/Object", "clone", "()Ljava/lang/Object;"⟩).before a0 Z = true) (w6 : (Jvm.Cond.castable ad "java/lang/Cloneable").before a0 Z = true) (A : Ar Z h a ty vs) (E : Exa Z h a ad) (hL : L.size = maxL) (hf : 1 ≤ R.frames) {W cap : Nat} (hW : (S.map fun v => v.category).sum ≤ W) (hlo : W + 14 ≤ R.locals) (hcap : vs.length ≤ cap)
    {cells' slots' : Nat} (hc1 : cells + 1 = cells') (hs1 : slots + cap = slots') (hc : cells' ≤ R.cells) (hl : slots' ≤ R.slots) (hd : decode bytes pc = .ok (.invokevirtual i, 3)) (hq : pc + 3 = q) (K : ∀ h' b, b = h.size → Ext h h' → Ar Z h' b ty vs → Exa Z h' b ad → AtW p l e R s m args below meth c n0 Q h' cells' slots' (mkF m q L (.ref b :: S))) : AtW p l e R s m args below meth c n0 Q h cells slots (mkF m pc L (.ref a :: S)) := by
  subst hq hc1 hs1
  intro T locs k n' X hk hn' eT N
  obtain ⟨la, ka, VA⟩ := A
  obtain ⟨T', h', X', e', E', V', Ex, st⟩ := cloneH X C.1 C.2.2.2.1 C.2.2.2.2.1 w1 w2 w3 w4 w5 w6 eT VA.arh E (g := mkF m pc L (.ref a :: S)) rfl (hL.trans C.2.2.1.symm) rfl (hb C.2.1 hd) hf (W := W) (cap := cap) (by show 2 * 0 + _ ≤ _; omega) hlo (by rw [ofNat_nat la]; exact hcap) (by omega) (by omega)
  have V2 : Arv Z h' h.size ka ty (Int32.ofNat vs.length) vs (defaultValue ty) := by
    obtain ⟨cc, c1, c2, c3, c4, c5, c6⟩ := V'
    exact ⟨cc, c1, c2, c3, c4, c5, c6⟩
  obtain ⟨t, o, r1, r⟩ := K h' h.size rfl E' ⟨la, ka, V2⟩ Ex T' _ (k + 1) (n' + cap) X' (by omega) (by omega) e' N
  exact ⟨t, o, st _ r1, r⟩
theorem own_same {y : MethodName} (hy : y.cls ≠ "java/lang/invoke/MethodHandle" ∧ y.cls ≠ "java/lang/invoke/VarHandle") (w : (Jvm.Cond.instanceMethod y).before a0 Z = true) (ni : NI Z y.cls) : (Jvm.Cond.sameMethod y.cls y.cls y.name y.desc).before a0 Z = true := by
  obtain ⟨mk, methM, hnamed, -, -, -⟩ := Cond.instanceMethod_spec w
  have hf := State.methodFound?_of_named hnamed hy
  obtain ⟨c, k, hc, hk, hi⟩ := ni
  have hn2 : Z.methodNamed? ⟨y.cls, y.name, y.desc⟩ = some mk := hnamed
  simp [Cond.before, Cond.holds, Cond.value, hc, hf, hn2, hk, hi]
theorem w_callU (C : Cx p s m meth c Z own bytes maxL ret nm) {y : MethodName} {Cl : String} {i : Nat} {a : Addr} {argsL : List Value} {bytesY : ByteArray} {maxY : Nat} {retY : Option FieldType} {rm : Room} {Qy : Option Value → Heap → Prop} (E : Exa Z h a Cl) (w1 : (Jvm.Cond.methodLink own i y).before a0 Z = true) (w4 : (Jvm.Cond.instanceMethod y).before a0 Z = true) (ni : NI Z y.cls) (w5 : (Jvm.Cond.superclass own y.cls).before a0 Z = true) (wz : (Jvm.Cond.initialized y.cls).before a0 Z = true) (wc : (Jvm.Cond.code y bytesY maxY retY).before a0 Z = true) (hnn : y.name ≠ "<init>")
    (hy : y.cls ≠ "java/lang/invoke/MethodHandle" ∧ y.cls ≠ "java/lang/invoke/VarHandle") (ct : Ct [] l Z n0 y bytesY maxY retY rm (.ref a :: argsL).toArray h Qy) {S' : List Value} (hS : S' = argsL.reverse ++ .ref a :: S) (hlen : ∀ sig, parseMethodDescriptor y.desc = some sig → argsL.length = sig.parameters.length) (hL : L.size = maxL) (hf : rm.frames + 1 ≤ R.frames) {W : Nat} (hW : (S.map fun v => v.category).sum ≤ W) (hlo : W + (maxY + 11) + rm.locals ≤ R.locals) {cells' slots' : Nat} (hc1 : cells + rm.cells = cells') (hs1 : slots + rm.slots = slots') (hc : cells' ≤ R.cells) (hl : slots' ≤ R.slots)
    (hd : decode bytes pc = .ok (.invokespecial i, 3)) (hq : pc + 3 = q) (K : ∀ v h', Qy v h' → AtW p l e R s m args below meth c n0 Q h' cells' slots' (mkF m q L (v.toList ++ S))) : AtW p l e R s m args below meth c n0 Q h cells slots (mkF m pc L S') := by
  subst hq hc1 hs1
  intro T locs k n' X hk hn' eT N
  obtain ⟨v, _, ⟨T', L', k', n''⟩, -, X', ⟨Lc, hQ, hl', hc', hs'⟩, st⟩ := superBack X C.1 C.2.2.2.1 (y := y) C.2.2.2.2.1 w1 (own_same hy w4 ni) w4 w5 hnn (backOf (W := W) (Q := fun v h L => Fr n0 L ∧ Qy v h) ct C.2.2.2.1 wc wz hf hlo) eT (Ins.self E) (g := mkF m pc L S') rfl (hL.trans C.2.2.1.symm) wc (argsL := argsL) (rest := S) hlen hS (by show 2 * 0 + _ ≤ _; omega) (hb C.2.1 hd) (fun _ _ => ⟨rfl, eT, (by show k + _ ≤ _; omega), (by show n' + _ ≤ _; omega)⟩)
  dsimp only [Pt.U, Pt.locs, Pt.cells, Pt.slots] at X' hl' hc' hs' st hQ
  subst hl' hc' hs'
  obtain ⟨t, o, r1, r⟩ := K v T'.heap hQ.2 T' _ _ _ X' (by omega) (by omega) rfl (Fr.app N hQ.1)
  exact ⟨t, o, st.trans r1, r⟩
end WkSb

theorem own_sub {a b : Nat} (h : b ≤ a) : Int32.ofNat a - Int32.ofNat b = Int32.ofNat (a - b) := by
  have e : Int32.ofNat a = Int32.ofNat (a - b) + Int32.ofNat b := by rw [← Int32.ofNat_add]; congr 1; omega
  rw [e, Int32.add_sub_cancel]
theorem own_add (a b : Nat) : Int32.ofNat a + Int32.ofNat b = Int32.ofNat (a + b) := (Int32.ofNat_add a b).symm
theorem own_shl0 (x : Int32) : x <<< ((0 : Int32) &&& 31) = x := by
  have h := c_ishl x 0 0 (by decide)
  have r1 := rng32 x
  have r2 := rng32 (x <<< ((0 : Int32) &&& 31))
  rw [own_eq]; simp only [Nat.pow_zero] at h; omega
theorem own_bs_app (cs ds : List Int32) : own_bs (cs ++ ds) = own_bs cs ++ own_bs ds := by simp [own_bs]
theorem L1.app {cs ds : List Int32} (h : L1 cs) (g : L1 ds) : L1 (cs ++ ds) := fun c hc => (List.mem_append.mp hc).elim (h c) (g c)
/-- a StringBuilder at b over the byte[] t: it spells cs (Latin-1), its room is cap -/
def Sb (Z : State) (h : Heap) (b t : Addr) (cs : List Int32) (cap : Nat) : Prop := Exa Z h b "java/lang/StringBuilder" ∧ L1 cs ∧ cs.length ≤ cap ∧ Fld Z h b "java/lang/AbstractStringBuilder" "coder" "B" (.int (0 : Int32)) ∧ Fld Z h b "java/lang/AbstractStringBuilder" "count" "I" (.int (Int32.ofNat cs.length)) ∧ Fld Z h b "java/lang/AbstractStringBuilder" "value" "[B" (.ref t) ∧ Exa Z h t "[B" ∧ Ar Z h t .byte (own_bs cs ++ List.replicate (cap - cs.length) (Value.int (0 : Int32)))
theorem Sb_k0 {Z : State} {h h' : Heap} {b t : Addr} {cs : List Int32} {cap : Nat} (F : Sb Z h b t cs cap) (K : Keep h h' []) : Sb Z h' b t cs cap := by
  obtain ⟨E, hr, hl, f1, f2, f3, E2, A⟩ := F
  exact ⟨E.keep K, hr, hl, f1.keep K nin0, f2.keep K nin0, f3.keep K nin0, E2.keep K, A.keep K nin0⟩
theorem Sb.capl {Z : State} {h : Heap} {b t : Addr} {cs : List Int32} {cap : Nat} (F : Sb Z h b t cs cap) : cap < 2 ^ 31 := by
  obtain ⟨-, -, hl, -, -, -, -, A⟩ := F
  have := A.1
  rw [List.length_append, own_bs_len, List.length_replicate] at this
  omega
theorem Sb.tlt {Z : State} {h : Heap} {b t : Addr} {cs : List Int32} {cap : Nat} (F : Sb Z h b t cs cap) : t < h.size := F.2.2.2.2.2.2.1.lt
theorem Sb.ne {Z : State} {h : Heap} {b t : Addr} {cs : List Int32} {cap : Nat} (F : Sb Z h b t cs cap) : b ≠ t := ne_exa F.1 F.2.2.2.2.2.2.1 (by decide)
/-- the appended bytes behind the first ones -/
theorem own_appd (cs ds : List Int32) (cap : Nat) (h : cs.length + ds.length ≤ cap) : (own_bs cs ++ List.replicate (cap - cs.length) (Value.int (0 : Int32))).take cs.length ++ own_bs ds ++ (own_bs cs ++ List.replicate (cap - cs.length) (Value.int (0 : Int32))).drop (cs.length + ds.length) = own_bs (cs ++ ds) ++ List.replicate (cap - (cs ++ ds).length) (Value.int (0 : Int32)) := by
  have h1 : (own_bs cs).length = cs.length := own_bs_len cs
  rw [List.take_left' h1, List.drop_append, h1, List.drop_eq_nil_of_le (by omega), List.nil_append, List.drop_replicate, own_bs_app, List.length_append]
  congr 2; omega

theorem d12_0 : decode jdk_42_method_152_code 0 = .ok (.getstatic 38, 3) := by decide +kernel
theorem d12_3 : decode jdk_42_method_152_code 3 = .ok (.ifCond .eq 10, 3) := by decide +kernel
theorem d12_6 : decode jdk_42_method_152_code 6 = .ok (.aload_n 0, 1) := by decide +kernel
theorem d12_7 : decode jdk_42_method_152_code 7 = .ok (.getfield 15, 3) := by decide +kernel
theorem d12_10 : decode jdk_42_method_152_code 10 = .ok (.goto 4, 3) := by decide +kernel
theorem d12_13 : decode jdk_42_method_152_code 13 = .ok (.iconst 1, 1) := by decide +kernel
theorem d12_14 : decode jdk_42_method_152_code 14 = .ok (.ireturn, 1) := by decide +kernel
theorem pf12 : plainFor (⟨"java/lang/String", "coder", "()B"⟩ : MethodName) = true := by first | exact plainFor_of_name (by first | (simp [plainName, overriddenIn]; done) | decide +kernel) | decide +kernel
theorem ef_coder (m : MethodId) (z0 : Addr) : entryFrame m #[(.ref z0)] 1 = mkF m 0 #[.val (.ref z0)] [] := by first | rfl | (simp [entryFrame, mkF, argsToLocals, Value.category, *]; done) | rfl
set_option maxRecDepth 65536 in
set_option maxHeartbeats 40000000 in
theorem rm_coder {l : Launch} {Z : State} {a0 : Array Value} {n0 : Nat} (G : Gl Z a0 n0) {h0 : Heap} (O : Old Z n0 h0) (a : Addr) (cs : List Int32) (S : Str Z h0 a cs) :
    Ct [] l Z n0 (⟨"java/lang/String", "coder", "()B"⟩ : MethodName) jdk_42_method_152_code 1 (some .byte) ({ frames := 0, cells := 0, slots := 0, locals := 0 } : Room) #[(.ref a)] h0 (fun v h => h = h0 ∧ v = some (.int 0)) := by
  refine Ct.intro pf12 ?_
  intro p e s m below meth c C
  refine AtW.cast ?_ (ef_coder m a)
  obtain ⟨E, hr, t, FC, FV, A⟩ := id S
  obtain ⟨zc, SC, hzc⟩ := G.cs
  refine w_getS (q := 3) (host := "") C (Or.inl (G.1 _ (List.mem_of_getElem? (i := 82) rfl))) Via.refl (SC.ext O.2) d12_0 rfl ?_
  refine w_if_eq_f (q := 6) C d12_3 rfl hzc ?_
  refine w_aloadN (q := 7) C rfl rfl d12_6 rfl ?_
  refine w_getF (q := 10) (host := "") C (Or.inl (G.1 _ (List.mem_of_getElem? (i := 83) rfl))) Via.refl FC d12_7 rfl ?_
  refine w_goto (q := 14) C d12_10 (by decide) (by decide) ?_
  exact w_retZ (z := (0 : Int32)) C (t := .byte) rfl (by simp) (by decide) d12_14 (by decide) (by decide) ⟨rfl, rfl⟩
theorem d11_0 : decode jdk_42_method_54_code 0 = .ok (.aload_n 0, 1) := by decide +kernel
theorem d11_1 : decode jdk_42_method_54_code 1 = .ok (.getfield 9, 3) := by decide +kernel
theorem d11_4 : decode jdk_42_method_54_code 4 = .ok (.arraylength, 1) := by decide +kernel
theorem d11_5 : decode jdk_42_method_54_code 5 = .ok (.aload_n 0, 1) := by decide +kernel
theorem d11_6 : decode jdk_42_method_54_code 6 = .ok (.invokevirtual 335, 3) := by decide +kernel
theorem d11_9 : decode jdk_42_method_54_code 9 = .ok (.ishr, 1) := by decide +kernel
theorem d11_10 : decode jdk_42_method_54_code 10 = .ok (.ireturn, 1) := by decide +kernel
theorem pf11 : plainFor (⟨"java/lang/String", "length", "()I"⟩ : MethodName) = true := by first | exact plainFor_of_name (by first | (simp [plainName, overriddenIn]; done) | decide +kernel) | decide +kernel
theorem ef_length (m : MethodId) (z0 : Addr) : entryFrame m #[(.ref z0)] 1 = mkF m 0 #[.val (.ref z0)] [] := by first | rfl | (simp [entryFrame, mkF, argsToLocals, Value.category, *]; done) | rfl
set_option maxRecDepth 65536 in
set_option maxHeartbeats 40000000 in
theorem rm_length {l : Launch} {Z : State} {a0 : Array Value} {n0 : Nat} (G : Gl Z a0 n0) {h0 : Heap} (O : Old Z n0 h0) (a : Addr) (cs : List Int32) (S : Str Z h0 a cs) :
    Ct [] l Z n0 (⟨"java/lang/String", "length", "()I"⟩ : MethodName) jdk_42_method_54_code 1 (some .int) ({ frames := 1, cells := 0, slots := 0, locals := 13 } : Room) #[(.ref a)] h0 (fun v h => h = h0 ∧ v = some (.int (Int32.ofNat cs.length))) := by
  refine Ct.intro pf11 ?_
  intro p e s m below meth c C
  refine AtW.cast ?_ (ef_length m a)
  obtain ⟨E, hr, t, FC, FV, A⟩ := id S
  refine w_aloadN (q := 1) C rfl rfl d11_0 rfl ?_
  refine w_getF (q := 4) (host := "") C (Or.inl (G.1 _ (List.mem_of_getElem? (i := 76) rfl))) Via.refl FV d11_1 rfl ?_
  refine w_len (q := 5) (z := (Int32.ofNat cs.length)) C A (by rw [own_bs_len]) d11_4 rfl ?_
  refine w_aloadN (q := 6) C rfl rfl d11_5 rfl ?_
  refine w_callV (q := 9) (argsL := []) (S := [(.int (Int32.ofNat cs.length))]) (W := 1) (cells' := 0) (slots' := 0) (a := a) C E (G.1 _ (List.mem_of_getElem? (i := 77) rfl)) (G.1 _ (List.mem_of_getElem? (i := 78) rfl)) (w_nf C (G.1 _ (List.mem_of_getElem? (i := 80) rfl))) (G.1 _ (List.mem_of_getElem? (i := 80) rfl)) (G.1 _ (List.mem_of_getElem? (i := 79) rfl)) (G.1 _ (List.mem_of_getElem? (i := 5) rfl)) (G.1 _ (List.mem_of_getElem? (i := 81) rfl)) (by decide) (rm_coder G O a cs S) rfl (lenOf pd_9 rfl) rfl (by decide) (own_leb rfl) (by decide) rfl rfl (by decide) (by decide) d11_6 rfl ?_
  rintro _ h1 ⟨eh2, rfl⟩
  rw [eh2]
  show AtW p l e _ s m _ below meth c n0 _ h0 0 0 (mkF m 9 #[.val (.ref a)] [(.int (0 : Int32)), (.int (Int32.ofNat cs.length))])
  refine w_ishr (q := 10) C rfl d11_9 rfl ?_
  rw [show ((Int32.ofNat cs.length) >>> ((0 : Int32) &&& 31)) = (Int32.ofNat cs.length) from own_shr0 _]
  exact w_retI C rfl d11_10 (by decide) (by decide) ⟨rfl, rfl⟩
theorem d35_0 : decode jdk_42_method_154_code 0 = .ok (.getstatic 38, 3) := by decide +kernel
theorem d35_3 : decode jdk_42_method_154_code 3 = .ok (.ifCond .eq 14, 3) := by decide +kernel
theorem d35_6 : decode jdk_42_method_154_code 6 = .ok (.aload_n 0, 1) := by decide +kernel
theorem d35_7 : decode jdk_42_method_154_code 7 = .ok (.getfield 15, 3) := by decide +kernel
theorem d35_10 : decode jdk_42_method_154_code 10 = .ok (.ifCond .ne 7, 3) := by decide +kernel
theorem d35_13 : decode jdk_42_method_154_code 13 = .ok (.iconst 1, 1) := by decide +kernel
theorem d35_14 : decode jdk_42_method_154_code 14 = .ok (.goto 4, 3) := by decide +kernel
theorem d35_17 : decode jdk_42_method_154_code 17 = .ok (.iconst 0, 1) := by decide +kernel
theorem d35_18 : decode jdk_42_method_154_code 18 = .ok (.ireturn, 1) := by decide +kernel
theorem pf35 : plainFor (⟨"java/lang/String", "isLatin1", "()Z"⟩ : MethodName) = true := by first | exact plainFor_of_name (by first | (simp [plainName, overriddenIn]; done) | decide +kernel) | decide +kernel
theorem ef_isLatin1 (m : MethodId) (z0 : Addr) : entryFrame m #[(.ref z0)] 1 = mkF m 0 #[.val (.ref z0)] [] := by first | rfl | (simp [entryFrame, mkF, argsToLocals, Value.category, *]; done) | rfl
set_option maxRecDepth 65536 in
set_option maxHeartbeats 40000000 in
theorem rm_isLatin1 {l : Launch} {Z : State} {a0 : Array Value} {n0 : Nat} (G : Gl Z a0 n0) {h0 : Heap} (O : Old Z n0 h0) (a : Addr) (cs : List Int32) (S : Str Z h0 a cs) :
    Ct [] l Z n0 (⟨"java/lang/String", "isLatin1", "()Z"⟩ : MethodName) jdk_42_method_154_code 1 (some .boolean) ({ frames := 0, cells := 0, slots := 0, locals := 0 } : Room) #[(.ref a)] h0 (fun v h => h = h0 ∧ v = some (.int 1)) := by
  refine Ct.intro pf35 ?_
  intro p e s m below meth c C
  refine AtW.cast ?_ (ef_isLatin1 m a)
  obtain ⟨E, hr, t, FC, FV, A⟩ := id S
  obtain ⟨zc, SC, hzc⟩ := G.cs
  refine w_getS (q := 3) (host := "") C (Or.inl (G.1 _ (List.mem_of_getElem? (i := 82) rfl))) Via.refl (SC.ext O.2) d35_0 rfl ?_
  refine w_if_eq_f (q := 6) C d35_3 rfl hzc ?_
  refine w_aloadN (q := 7) C rfl rfl d35_6 rfl ?_
  refine w_getF (q := 10) (host := "") C (Or.inl (G.1 _ (List.mem_of_getElem? (i := 83) rfl))) Via.refl FC d35_7 rfl ?_
  refine w_if_ne_f (q := 13) C d35_10 rfl (by decide) ?_
  refine w_iconst (q := 14) (v := (1 : Int32)) C (by rfl) d35_13 rfl ?_
  refine w_goto (q := 18) C d35_14 (by decide) (by decide) ?_
  exact w_retZ (z := (1 : Int32)) C (t := .boolean) rfl (by simp) (by decide) d35_18 (by decide) (by decide) ⟨rfl, rfl⟩
theorem d38_0 : decode jdk_41_method_11_code 0 = .ok (.iload_n 0, 1) := by decide +kernel
theorem d38_1 : decode jdk_41_method_11_code 1 = .ok (.ifCond .lt 8, 3) := by decide +kernel
theorem d38_4 : decode jdk_41_method_11_code 4 = .ok (.iload_n 0, 1) := by decide +kernel
theorem d38_5 : decode jdk_41_method_11_code 5 = .ok (.iload_n 1, 1) := by decide +kernel
theorem d38_6 : decode jdk_41_method_11_code 6 = .ok (.if_icmp .lt 10, 3) := by decide +kernel
theorem d38_9 : decode jdk_41_method_11_code 9 = .ok (.aload_n 2, 1) := by decide +kernel
theorem d38_10 : decode jdk_41_method_11_code 10 = .ok (.iload_n 0, 1) := by decide +kernel
theorem d38_11 : decode jdk_41_method_11_code 11 = .ok (.iload_n 1, 1) := by decide +kernel
theorem d38_12 : decode jdk_41_method_11_code 12 = .ok (.invokestatic 95, 3) := by decide +kernel
theorem d38_15 : decode jdk_41_method_11_code 15 = .ok (.athrow, 1) := by decide +kernel
theorem d38_16 : decode jdk_41_method_11_code 16 = .ok (.iload_n 0, 1) := by decide +kernel
theorem d38_17 : decode jdk_41_method_11_code 17 = .ok (.ireturn, 1) := by decide +kernel
theorem pf38 : plainFor (⟨"jdk/internal/util/Preconditions", "checkIndex", "(IILjava/util/function/BiFunction;)I"⟩ : MethodName) = true := by first | exact plainFor_of_name (by first | (simp [plainName, overriddenIn]; done) | decide +kernel) | decide +kernel
theorem ef_pcheck (m : MethodId) (z0 : Int32) (z1 : Int32) (z2 : Value) (cz2 : z2.category = 1) : entryFrame m #[(.int z0), (.int z1), z2] 3 = mkF m 0 #[.val (.int z0), .val (.int z1), .val z2] [] := by cases z2 <;> first | (simp [Value.category] at cz2; done) | first | rfl | (simp [entryFrame, mkF, argsToLocals, Value.category, *]; done) | rfl
set_option maxRecDepth 65536 in
set_option maxHeartbeats 40000000 in
theorem rm_pcheck {l : Launch} {Z : State} {a0 : Array Value} {n0 : Nat} (G : Gl Z a0 n0) {h0 : Heap} (O : Old Z n0 h0) (x : Int32) (y : Int32) (f : Value) (hf : f.isRef = true) (hfc : f.category = 1) (hx : ¬ x < 0) (hxy : x < y) :
    Ct [] l Z n0 (⟨"jdk/internal/util/Preconditions", "checkIndex", "(IILjava/util/function/BiFunction;)I"⟩ : MethodName) jdk_41_method_11_code 3 (some .int) ({ frames := 0, cells := 0, slots := 0, locals := 0 } : Room) #[(.int x), (.int y), f] h0 (fun v h => h = h0 ∧ v = some (.int x)) := by
  refine Ct.intro pf38 ?_
  intro p e s m below meth c C
  refine AtW.cast ?_ (ef_pcheck m x y f (by assumption))
  refine w_iloadN (q := 1) C rfl d38_0 rfl ?_
  refine w_if_lt_f (q := 4) C d38_1 rfl hx ?_
  refine w_iloadN (q := 5) C rfl d38_4 rfl ?_
  refine w_iloadN (q := 6) C rfl d38_5 rfl ?_
  refine w_icmp_lt_t (q := 16) C d38_6 (by decide) (by decide) hxy ?_
  refine w_iloadN (q := 17) C rfl d38_16 rfl ?_
  exact w_retI C rfl d38_17 (by decide) (by decide) ⟨rfl, rfl⟩
theorem d37_0 : decode jdk_42_method_155_code 0 = .ok (.iload_n 0, 1) := by decide +kernel
theorem d37_1 : decode jdk_42_method_155_code 1 = .ok (.iload_n 1, 1) := by decide +kernel
theorem d37_2 : decode jdk_42_method_155_code 2 = .ok (.getstatic 1053, 3) := by decide +kernel
theorem d37_5 : decode jdk_42_method_155_code 5 = .ok (.invokestatic 1059, 3) := by decide +kernel
theorem d37_8 : decode jdk_42_method_155_code 8 = .ok (.pop, 1) := by decide +kernel
theorem d37_9 : decode jdk_42_method_155_code 9 = .ok (.return_, 1) := by decide +kernel
theorem pf37 : plainFor (⟨"java/lang/String", "checkIndex", "(II)V"⟩ : MethodName) = true := by first | exact plainFor_of_name (by first | (simp [plainName, overriddenIn]; done) | decide +kernel) | decide +kernel
theorem ef_scheck (m : MethodId) (z0 : Int32) (z1 : Int32) : entryFrame m #[(.int z0), (.int z1)] 2 = mkF m 0 #[.val (.int z0), .val (.int z1)] [] := by first | rfl | (simp [entryFrame, mkF, argsToLocals, Value.category, *]; done) | rfl
set_option maxRecDepth 65536 in
set_option maxHeartbeats 40000000 in
theorem rm_scheck {l : Launch} {Z : State} {a0 : Array Value} {n0 : Nat} (G : Gl Z a0 n0) {h0 : Heap} (O : Old Z n0 h0) (x : Int32) (y : Int32) (hx : ¬ x < 0) (hxy : x < y) :
    Ct [] l Z n0 (⟨"java/lang/String", "checkIndex", "(II)V"⟩ : MethodName) jdk_42_method_155_code 2 none ({ frames := 1, cells := 0, slots := 0, locals := 14 } : Room) #[(.int x), (.int y)] h0 (fun v h => h = h0 ∧ v = none) := by
  refine Ct.intro pf37 ?_
  intro p e s m below meth c C
  refine AtW.cast ?_ (ef_scheck m x y)
  obtain ⟨f, Sf, hf, hfc⟩ := G.fm
  refine w_iloadN (q := 1) C rfl d37_0 rfl ?_
  refine w_iloadN (q := 2) C rfl d37_1 rfl ?_
  refine w_getS (q := 5) (host := "") C (Or.inl (G.1 _ (List.mem_of_getElem? (i := 211) rfl))) Via.refl (Sf.ext O.2) d37_2 rfl ?_
  refine w_callS (q := 8) (argsL := [(.int x), (.int y), f]) (S := []) (W := 0) (cells' := 0) (slots' := 0) C (G.1 _ (List.mem_of_getElem? (i := 213) rfl)) (G.1 _ (List.mem_of_getElem? (i := 214) rfl)) (G.1 _ (List.mem_of_getElem? (i := 212) rfl)) (G.1 _ (List.mem_of_getElem? (i := 215) rfl)) (by decide) (rm_pcheck G O x y f hf hfc hx hxy) rfl (lenOf pd_29 rfl) rfl (by decide) (own_leb rfl) (by decide) rfl rfl (by decide) (by decide) d37_5 rfl ?_
  rintro _ h3 ⟨eh4, rfl⟩
  rw [eh4]
  show AtW p l e _ s m _ below meth c n0 _ h0 0 0 (mkF m 8 #[.val (.int x), .val (.int y)] [(.int x)])
  refine w_pop (q := 9) C rfl d37_8 rfl ?_
  exact w_retV C rfl d37_9 (by decide) (by decide) ⟨rfl, rfl⟩
theorem d36_0 : decode jdk_43_method_2_code 0 = .ok (.iload_n 1, 1) := by decide +kernel
theorem d36_1 : decode jdk_43_method_2_code 1 = .ok (.aload_n 0, 1) := by decide +kernel
theorem d36_2 : decode jdk_43_method_2_code 2 = .ok (.arraylength, 1) := by decide +kernel
theorem d36_3 : decode jdk_43_method_2_code 3 = .ok (.invokestatic 9, 3) := by decide +kernel
theorem d36_6 : decode jdk_43_method_2_code 6 = .ok (.aload_n 0, 1) := by decide +kernel
theorem d36_7 : decode jdk_43_method_2_code 7 = .ok (.iload_n 1, 1) := by decide +kernel
theorem d36_8 : decode jdk_43_method_2_code 8 = .ok (.baload, 1) := by decide +kernel
theorem d36_9 : decode jdk_43_method_2_code 9 = .ok (.sipush 255, 3) := by decide +kernel
theorem d36_12 : decode jdk_43_method_2_code 12 = .ok (.iand, 1) := by decide +kernel
theorem d36_13 : decode jdk_43_method_2_code 13 = .ok (.i2c, 1) := by decide +kernel
theorem d36_14 : decode jdk_43_method_2_code 14 = .ok (.ireturn, 1) := by decide +kernel
theorem pf36 : plainFor (⟨"java/lang/StringLatin1", "charAt", "([BI)C"⟩ : MethodName) = true := by first | exact plainFor_of_name (by first | (simp [plainName, overriddenIn]; done) | decide +kernel) | decide +kernel
theorem ef_charAtL (m : MethodId) (z0 : Addr) (z1 : Int32) : entryFrame m #[(.ref z0), (.int z1)] 2 = mkF m 0 #[.val (.ref z0), .val (.int z1)] [] := by first | rfl | (simp [entryFrame, mkF, argsToLocals, Value.category, *]; done) | rfl
set_option maxRecDepth 65536 in
set_option maxHeartbeats 40000000 in
theorem rm_charAtL {l : Launch} {Z : State} {a0 : Array Value} {n0 : Nat} (G : Gl Z a0 n0) {h0 : Heap} (O : Old Z n0 h0) (t : Addr) (cs : List Int32) (i : Nat) (ch : Int32) (A : Ar Z h0 t .byte (own_bs cs)) (hr : L1 cs) (hi : cs[i]? = some ch) :
    Ct [] l Z n0 (⟨"java/lang/StringLatin1", "charAt", "([BI)C"⟩ : MethodName) jdk_43_method_2_code 2 (some .char) ({ frames := 2, cells := 0, slots := 0, locals := 27 } : Room) #[(.ref t), (.int (Int32.ofNat i))] h0 (fun v h => h = h0 ∧ v = some (.int ch)) := by
  refine Ct.intro pf36 ?_
  intro p e s m below meth c C
  refine AtW.cast ?_ (ef_charAtL m t (Int32.ofNat i))
  have hl := A.1
  rw [own_bs_len] at hl
  have hil : i < cs.length := (List.getElem?_eq_some_iff.mp hi).1
  have hc := hr.get hi
  refine w_iloadN (q := 1) C rfl d36_0 rfl ?_
  refine w_aloadN (q := 2) C rfl rfl d36_1 rfl ?_
  refine w_len (q := 3) (z := (Int32.ofNat cs.length)) C A (by rw [own_bs_len]) d36_2 rfl ?_
  refine w_callS (q := 6) (argsL := [(.int (Int32.ofNat i)), (.int (Int32.ofNat cs.length))]) (S := []) (W := 0) (cells' := 0) (slots' := 0) C (G.1 _ (List.mem_of_getElem? (i := 208) rfl)) (G.1 _ (List.mem_of_getElem? (i := 209) rfl)) (G.1 _ (List.mem_of_getElem? (i := 5) rfl)) (G.1 _ (List.mem_of_getElem? (i := 210) rfl)) (by decide) (rm_scheck G O _ _ (ofNat_neg (by omega)) ((own_nlt (by omega) hl).mpr hil)) rfl (lenOf pd_23 rfl) rfl (by decide) (own_leb rfl) (by decide) rfl rfl (by decide) (by decide) d36_3 rfl ?_
  rintro _ h5 ⟨eh6, rfl⟩
  rw [eh6]
  show AtW p l e _ s m _ below meth c n0 _ h0 0 0 (mkF m 6 #[.val (.ref t), .val (.int (Int32.ofNat i))] [])
  refine w_aloadN (q := 7) C rfl rfl d36_6 rfl ?_
  refine w_iloadN (q := 8) C rfl d36_7 rfl ?_
  refine w_baload (q := 9) (i := i) (v := (.int ch.toInt8.toInt32)) C A rfl (own_bs_get hi) d36_8 rfl ?_
  refine w_sipush (q := 12) (v := (255 : Int32)) C (by rfl) d36_9 rfl ?_
  refine w_iand (q := 13) C rfl d36_12 rfl ?_
  refine w_i2c (q := 14) C rfl d36_13 rfl ?_
  rw [show ((ch.toInt8.toInt32 &&& (255 : Int32)).toUInt32.toUInt16.toUInt32.toInt32) = ch from own_lo8 hc.1 hc.2]
  exact w_retZ (z := ch) C (t := .char) rfl (by simp) (own_nar hc.1 hc.2) d36_14 (by decide) (by decide) ⟨rfl, rfl⟩
theorem d34_0 : decode jdk_42_method_56_code 0 = .ok (.aload_n 0, 1) := by decide +kernel
theorem d34_1 : decode jdk_42_method_56_code 1 = .ok (.invokevirtual 492, 3) := by decide +kernel
theorem d34_4 : decode jdk_42_method_56_code 4 = .ok (.ifCond .eq 12, 3) := by decide +kernel
theorem d34_7 : decode jdk_42_method_56_code 7 = .ok (.aload_n 0, 1) := by decide +kernel
theorem d34_8 : decode jdk_42_method_56_code 8 = .ok (.getfield 9, 3) := by decide +kernel
theorem d34_11 : decode jdk_42_method_56_code 11 = .ok (.iload_n 1, 1) := by decide +kernel
theorem d34_12 : decode jdk_42_method_56_code 12 = .ok (.invokestatic 495, 3) := by decide +kernel
theorem d34_15 : decode jdk_42_method_56_code 15 = .ok (.ireturn, 1) := by decide +kernel
theorem d34_16 : decode jdk_42_method_56_code 16 = .ok (.aload_n 0, 1) := by decide +kernel
theorem d34_17 : decode jdk_42_method_56_code 17 = .ok (.getfield 9, 3) := by decide +kernel
theorem d34_20 : decode jdk_42_method_56_code 20 = .ok (.iload_n 1, 1) := by decide +kernel
theorem d34_21 : decode jdk_42_method_56_code 21 = .ok (.invokestatic 498, 3) := by decide +kernel
theorem d34_24 : decode jdk_42_method_56_code 24 = .ok (.ireturn, 1) := by decide +kernel
theorem pf34 : plainFor (⟨"java/lang/String", "charAt", "(I)C"⟩ : MethodName) = true := by first | exact plainFor_of_name (by first | (simp [plainName, overriddenIn]; done) | decide +kernel) | decide +kernel
theorem ef_charAt (m : MethodId) (z0 : Addr) (z1 : Int32) : entryFrame m #[(.ref z0), (.int z1)] 2 = mkF m 0 #[.val (.ref z0), .val (.int z1)] [] := by first | rfl | (simp [entryFrame, mkF, argsToLocals, Value.category, *]; done) | rfl
set_option maxRecDepth 65536 in
set_option maxHeartbeats 40000000 in
theorem rm_charAt {l : Launch} {Z : State} {a0 : Array Value} {n0 : Nat} (G : Gl Z a0 n0) {h0 : Heap} (O : Old Z n0 h0) (a : Addr) (cs : List Int32) (i : Nat) (ch : Int32) (S : Str Z h0 a cs) (hi : cs[i]? = some ch) :
    Ct [] l Z n0 (⟨"java/lang/String", "charAt", "(I)C"⟩ : MethodName) jdk_42_method_56_code 2 (some .char) ({ frames := 3, cells := 0, slots := 0, locals := 40 } : Room) #[(.ref a), (.int (Int32.ofNat i))] h0 (fun v h => h = h0 ∧ v = some (.int ch)) := by
  refine Ct.intro pf34 ?_
  intro p e s m below meth c C
  refine AtW.cast ?_ (ef_charAt m a (Int32.ofNat i))
  obtain ⟨E, hr, t, FC, FV, A⟩ := id S
  have hc := hr.get hi
  refine w_aloadN (q := 1) C rfl rfl d34_0 rfl ?_
  refine w_callV (q := 4) (argsL := []) (S := []) (W := 0) (cells' := 0) (slots' := 0) (a := a) C E (G.1 _ (List.mem_of_getElem? (i := 199) rfl)) (G.1 _ (List.mem_of_getElem? (i := 200) rfl)) (w_nf C (G.1 _ (List.mem_of_getElem? (i := 202) rfl))) (G.1 _ (List.mem_of_getElem? (i := 202) rfl)) (G.1 _ (List.mem_of_getElem? (i := 201) rfl)) (G.1 _ (List.mem_of_getElem? (i := 5) rfl)) (G.1 _ (List.mem_of_getElem? (i := 203) rfl)) (by decide) (rm_isLatin1 G O a cs S) rfl (lenOf pd_17 rfl) rfl (by decide) (own_leb rfl) (by decide) rfl rfl (by decide) (by decide) d34_1 rfl ?_
  rintro _ h7 ⟨eh8, rfl⟩
  rw [eh8]
  show AtW p l e _ s m _ below meth c n0 _ h0 0 0 (mkF m 4 #[.val (.ref a), .val (.int (Int32.ofNat i))] [(.int (1 : Int32))])
  refine w_if_eq_f (q := 7) C d34_4 rfl (by decide) ?_
  refine w_aloadN (q := 8) C rfl rfl d34_7 rfl ?_
  refine w_getF (q := 11) (host := "") C (Or.inl (G.1 _ (List.mem_of_getElem? (i := 76) rfl))) Via.refl FV d34_8 rfl ?_
  refine w_iloadN (q := 12) C rfl d34_11 rfl ?_
  refine w_callS (q := 15) (argsL := [(.ref t), (.int (Int32.ofNat i))]) (S := []) (W := 0) (cells' := 0) (slots' := 0) C (G.1 _ (List.mem_of_getElem? (i := 204) rfl)) (G.1 _ (List.mem_of_getElem? (i := 205) rfl)) (G.1 _ (List.mem_of_getElem? (i := 206) rfl)) (G.1 _ (List.mem_of_getElem? (i := 207) rfl)) (by decide) (rm_charAtL G O t cs i ch A hr hi) rfl (lenOf pd_28 rfl) rfl (by decide) (own_leb rfl) (by decide) rfl rfl (by decide) (by decide) d34_12 rfl ?_
  rintro _ h9 ⟨eh10, rfl⟩
  rw [eh10]
  show AtW p l e _ s m _ below meth c n0 _ h0 0 0 (mkF m 15 #[.val (.ref a), .val (.int (Int32.ofNat i))] [(.int ch)])
  exact w_retZ (z := ch) C (t := .char) rfl (by simp) (own_nar hc.1 hc.2) d34_15 (by decide) (by decide) ⟨rfl, rfl⟩
theorem own_fill (cs : List Int32) (i k : Nat) (c : Int32) (h : cs[i]? = some c) : (own_bs (cs.take i) ++ List.replicate (k + 1) (Value.int (0 : Int32))).set i (.int c.toInt8.toInt32) = own_bs (cs.take (i + 1)) ++ List.replicate k (Value.int (0 : Int32)) := by
  obtain ⟨hi, hg⟩ := List.getElem?_eq_some_iff.mp h
  have hl : (own_bs (cs.take i)).length = i := by rw [own_bs_len, List.length_take]; omega
  rw [List.set_append_right _ _ (by omega), hl, Nat.sub_self, List.replicate_succ, List.set_cons_zero, List.take_add_one, h]
  simp [own_bs]

theorem d45_0 : decode jdk_52_method_21_code 0 = .ok (.iconst 0, 1) := by decide +kernel
theorem d45_1 : decode jdk_52_method_21_code 1 = .ok (.istore 5, 2) := by decide +kernel
theorem d45_3 : decode jdk_52_method_21_code 3 = .ok (.iload 5, 2) := by decide +kernel
theorem d45_5 : decode jdk_52_method_21_code 5 = .ok (.iload 4, 2) := by decide +kernel
theorem d45_7 : decode jdk_52_method_21_code 7 = .ok (.if_icmp .ge 37, 3) := by decide +kernel
theorem d45_10 : decode jdk_52_method_21_code 10 = .ok (.aload_n 0, 1) := by decide +kernel
theorem d45_11 : decode jdk_52_method_21_code 11 = .ok (.iload_n 1, 1) := by decide +kernel
theorem d45_12 : decode jdk_52_method_21_code 12 = .ok (.caload, 1) := by decide +kernel
theorem d45_13 : decode jdk_52_method_21_code 13 = .ok (.istore 6, 2) := by decide +kernel
theorem d45_15 : decode jdk_52_method_21_code 15 = .ok (.iload 6, 2) := by decide +kernel
theorem d45_17 : decode jdk_52_method_21_code 17 = .ok (.sipush 255, 3) := by decide +kernel
theorem d45_20 : decode jdk_52_method_21_code 20 = .ok (.if_icmp .le 6, 3) := by decide +kernel
theorem d45_23 : decode jdk_52_method_21_code 23 = .ok (.iload 5, 2) := by decide +kernel
theorem d45_25 : decode jdk_52_method_21_code 25 = .ok (.ireturn, 1) := by decide +kernel
theorem d45_26 : decode jdk_52_method_21_code 26 = .ok (.aload_n 2, 1) := by decide +kernel
theorem d45_27 : decode jdk_52_method_21_code 27 = .ok (.iload_n 3, 1) := by decide +kernel
theorem d45_28 : decode jdk_52_method_21_code 28 = .ok (.iload 6, 2) := by decide +kernel
theorem d45_30 : decode jdk_52_method_21_code 30 = .ok (.i2b, 1) := by decide +kernel
theorem d45_31 : decode jdk_52_method_21_code 31 = .ok (.bastore, 1) := by decide +kernel
theorem d45_32 : decode jdk_52_method_21_code 32 = .ok (.iinc 1 1, 3) := by decide +kernel
theorem d45_35 : decode jdk_52_method_21_code 35 = .ok (.iinc 3 1, 3) := by decide +kernel
theorem d45_38 : decode jdk_52_method_21_code 38 = .ok (.iinc 5 1, 3) := by decide +kernel
theorem d45_41 : decode jdk_52_method_21_code 41 = .ok (.goto (-38), 3) := by decide +kernel
theorem d45_44 : decode jdk_52_method_21_code 44 = .ok (.iload 4, 2) := by decide +kernel
theorem d45_46 : decode jdk_52_method_21_code 46 = .ok (.ireturn, 1) := by decide +kernel
theorem pf45 : plainFor (⟨"java/lang/StringUTF16", "compress", "([CI[BII)I"⟩ : MethodName) = true := by first | exact plainFor_of_name (by first | (simp [plainName, overriddenIn]; done) | decide +kernel) | decide +kernel
theorem ef_comp5 (m : MethodId) (z0 : Addr) (z1 : Int32) (z2 : Addr) (z3 : Int32) (z4 : Int32) : entryFrame m #[(.ref z0), (.int z1), (.ref z2), (.int z3), (.int z4)] 7 = mkF m 0 #[.val (.ref z0), .val (.int z1), .val (.ref z2), .val (.int z3), .val (.int z4), .unset, .unset] [] := by first | rfl | (simp [entryFrame, mkF, argsToLocals, Value.category, *]; done) | rfl
set_option maxRecDepth 65536 in
set_option maxHeartbeats 40000000 in
theorem rm_comp5 {l : Launch} {Z : State} {a0 : Array Value} {n0 : Nat} (G : Gl Z a0 n0) {h0 : Heap} (O : Old Z n0 h0) (a : Addr) (cs : List Int32) (t : Addr) (A : Ar Z h0 a .char (cs.map Value.int)) (hr : L1 cs) (B : Ar Z h0 t .byte (List.replicate cs.length (Value.int (0 : Int32)))) (hne : a ≠ t) (hge : n0 ≤ t) :
    Ct [] l Z n0 (⟨"java/lang/StringUTF16", "compress", "([CI[BII)I"⟩ : MethodName) jdk_52_method_21_code 7 (some .int) ({ frames := 0, cells := 0, slots := 0, locals := 0 } : Room) #[(.ref a), (.int (0 : Int32)), (.ref t), (.int (0 : Int32)), (.int (Int32.ofNat cs.length))] h0 (fun v h => Keep h0 h [t] ∧ v = some (.int (Int32.ofNat cs.length)) ∧ Ar Z h t .byte (own_bs cs)) := by
  refine Ct.intro pf45 ?_
  intro p e s m below meth c C
  refine AtW.cast ?_ (ef_comp5 m a (0 : Int32) t (0 : Int32) (Int32.ofNat cs.length))
  have hl : cs.length < 2 ^ 31 := by have := A.1; rw [List.length_map] at this; exact this
  have LOOP : ∀ (k i : Nat) (h1 : Heap) (s6 : Slot), i + k = cs.length → One s6 → Keep h0 h1 [t] → Ar Z h1 t .byte (own_bs (cs.take i) ++ List.replicate k (Value.int (0 : Int32))) → AtW p l e ({ frames := 0, cells := 0, slots := 0, locals := 0 } : Room) s m #[(.ref a), (.int (0 : Int32)), (.ref t), (.int (0 : Int32)), (.int (Int32.ofNat cs.length))] below meth c n0 (fun v h => Keep h0 h [t] ∧ v = some (.int (Int32.ofNat cs.length)) ∧ Ar Z h t .byte (own_bs cs)) h1 0 0 (mkF m 3 #[.val (.ref a), .val (.int (Int32.ofNat i)), .val (.ref t), .val (.int (Int32.ofNat i)), .val (.int (Int32.ofNat cs.length)), .val (.int (Int32.ofNat i)), s6] []) := by
    intro k
    induction k with
    | zero =>
      intro i h1 s6 hik hs K V
      obtain rfl : i = cs.length := by omega
      refine w_iload (q := 5) C rfl d45_3 rfl ?_
      refine w_iload (q := 7) C rfl d45_5 rfl ?_
      refine w_icmp_ge_t (q := 44) C d45_7 (by decide) (by decide) (fun q => Nat.lt_irrefl _ ((own_nlt hl hl).mp q)) ?_
      refine w_iload (q := 46) C rfl d45_44 rfl ?_
      exact w_retI C rfl d45_46 (by decide) (by decide) ⟨K, rfl, by simpa using V⟩
    | succ k ih =>
      intro i h1 s6 hik hs K V
      have hil : i < cs.length := by omega
      obtain ⟨ch, hch⟩ : ∃ ch, cs[i]? = some ch := ⟨_, List.getElem?_eq_getElem hil⟩
      have hc := hr.get hch
      refine w_iload (q := 5) C rfl d45_3 rfl ?_
      refine w_iload (q := 7) C rfl d45_5 rfl ?_
      refine w_icmp_ge_f (q := 10) C d45_7 rfl ((own_nlt (by omega) hl).mpr hil) ?_
      refine w_aloadN (q := 11) C rfl rfl d45_10 rfl ?_
      refine w_iloadN (q := 12) C rfl d45_11 rfl ?_
      refine w_caload (q := 13) (i := i) (v := (.int ch)) C (A.keep K (ninS hne nin0)) rfl (by simp [hch]) d45_12 rfl ?_
      refine w_istore (q := 15) (L' := #[.val (.ref a), .val (.int (Int32.ofNat i)), .val (.ref t), .val (.int (Int32.ofNat i)), .val (.int (Int32.ofNat cs.length)), .val (.int (Int32.ofNat i)), .val (.int ch)]) C (Jvm.Free.XS.store1 (o := s6) rfl hs rfl) d45_13 rfl ?_
      refine w_iload (q := 17) C rfl d45_15 rfl ?_
      refine w_sipush (q := 20) (v := (255 : Int32)) C (by rfl) d45_17 rfl ?_
      refine w_icmp_le_t (q := 26) C d45_20 (by decide) (by decide) hc.2 ?_
      refine w_aloadN (q := 27) C rfl rfl d45_26 rfl ?_
      refine w_iloadN (q := 28) C rfl d45_27 rfl ?_
      refine w_iload (q := 30) C rfl d45_28 rfl ?_
      refine w_i2b (q := 31) C rfl d45_30 rfl ?_
      refine w_bastore (q := 32) (z := ch.toInt8.toInt32) (i := i) C (own_nar8 ch) V rfl (by simp [own_bs_len]; omega) hge d45_31 rfl ?_
      intro h11 Wh11 Vh11
      rw [own_fill cs i k ch hch] at Vh11
      refine w_iinc (q := 35) (L' := #[.val (.ref a), .val (.int (Int32.ofNat (i + 1))), .val (.ref t), .val (.int (Int32.ofNat i)), .val (.int (Int32.ofNat cs.length)), .val (.int (Int32.ofNat i)), .val (.int ch)]) C rfl (own_one i) rfl d45_32 rfl ?_
      refine w_iinc (q := 38) (L' := #[.val (.ref a), .val (.int (Int32.ofNat (i + 1))), .val (.ref t), .val (.int (Int32.ofNat (i + 1))), .val (.int (Int32.ofNat cs.length)), .val (.int (Int32.ofNat i)), .val (.int ch)]) C rfl (own_one i) rfl d45_35 rfl ?_
      refine w_iinc (q := 41) (L' := #[.val (.ref a), .val (.int (Int32.ofNat (i + 1))), .val (.ref t), .val (.int (Int32.ofNat (i + 1))), .val (.int (Int32.ofNat cs.length)), .val (.int (Int32.ofNat (i + 1))), .val (.int ch)]) C rfl (own_one i) rfl d45_38 rfl ?_
      refine w_goto (q := 3) C d45_41 (by decide) (by decide) ?_
      exact ih (i + 1) h11 _ (by omega) (One.val rfl) (K.wr Wh11 (Or.inl (List.mem_cons_self ..))) Vh11
  refine w_iconst (q := 1) (v := (0 : Int32)) C (by rfl) d45_0 rfl ?_
  refine w_istore (q := 3) (L' := #[.val (.ref a), .val (.int (0 : Int32)), .val (.ref t), .val (.int (0 : Int32)), .val (.int (Int32.ofNat cs.length)), .val (.int (0 : Int32)), .unset]) C rfl d45_1 rfl ?_
  exact LOOP cs.length 0 h0 .unset (by omega) One.u (Keep.refl _ _) (by simpa [own_bs] using B)
theorem d44_0 : decode jdk_52_method_16_code 0 = .ok (.iload_n 2, 1) := by decide +kernel
theorem d44_1 : decode jdk_52_method_16_code 1 = .ok (.newarray .byte, 2) := by decide +kernel
theorem d44_3 : decode jdk_52_method_16_code 3 = .ok (.astore_n 3, 1) := by decide +kernel
theorem d44_4 : decode jdk_52_method_16_code 4 = .ok (.aload_n 0, 1) := by decide +kernel
theorem d44_5 : decode jdk_52_method_16_code 5 = .ok (.iload_n 1, 1) := by decide +kernel
theorem d44_6 : decode jdk_52_method_16_code 6 = .ok (.aload_n 3, 1) := by decide +kernel
theorem d44_7 : decode jdk_52_method_16_code 7 = .ok (.iconst 0, 1) := by decide +kernel
theorem d44_8 : decode jdk_52_method_16_code 8 = .ok (.iload_n 2, 1) := by decide +kernel
theorem d44_9 : decode jdk_52_method_16_code 9 = .ok (.invokestatic 115, 3) := by decide +kernel
theorem d44_12 : decode jdk_52_method_16_code 12 = .ok (.istore 4, 2) := by decide +kernel
theorem d44_14 : decode jdk_52_method_16_code 14 = .ok (.iload 4, 2) := by decide +kernel
theorem d44_16 : decode jdk_52_method_16_code 16 = .ok (.iload_n 2, 1) := by decide +kernel
theorem d44_17 : decode jdk_52_method_16_code 17 = .ok (.if_icmp .eq 40, 3) := by decide +kernel
theorem d44_20 : decode jdk_52_method_16_code 20 = .ok (.aload_n 0, 1) := by decide +kernel
theorem d44_21 : decode jdk_52_method_16_code 21 = .ok (.iload_n 1, 1) := by decide +kernel
theorem d44_22 : decode jdk_52_method_16_code 22 = .ok (.iload_n 2, 1) := by decide +kernel
theorem d44_23 : decode jdk_52_method_16_code 23 = .ok (.invokestatic 119, 3) := by decide +kernel
theorem d44_26 : decode jdk_52_method_16_code 26 = .ok (.astore 5, 2) := by decide +kernel
theorem d44_28 : decode jdk_52_method_16_code 28 = .ok (.aload 5, 2) := by decide +kernel
theorem d44_30 : decode jdk_52_method_16_code 30 = .ok (.iload 4, 2) := by decide +kernel
theorem d44_32 : decode jdk_52_method_16_code 32 = .ok (.invokestatic 71, 3) := by decide +kernel
theorem d44_35 : decode jdk_52_method_16_code 35 = .ok (.sipush 255, 3) := by decide +kernel
theorem d44_38 : decode jdk_52_method_16_code 38 = .ok (.if_icmp .gt 16, 3) := by decide +kernel
theorem d44_41 : decode jdk_52_method_16_code 41 = .ok (.aload 5, 2) := by decide +kernel
theorem d44_43 : decode jdk_52_method_16_code 43 = .ok (.iconst 0, 1) := by decide +kernel
theorem d44_44 : decode jdk_52_method_16_code 44 = .ok (.aload_n 3, 1) := by decide +kernel
theorem d44_45 : decode jdk_52_method_16_code 45 = .ok (.iconst 0, 1) := by decide +kernel
theorem d44_46 : decode jdk_52_method_16_code 46 = .ok (.iload_n 2, 1) := by decide +kernel
theorem d44_47 : decode jdk_52_method_16_code 47 = .ok (.invokestatic 123, 3) := by decide +kernel
theorem d44_50 : decode jdk_52_method_16_code 50 = .ok (.iload_n 2, 1) := by decide +kernel
theorem d44_51 : decode jdk_52_method_16_code 51 = .ok (.if_icmp .eq 6, 3) := by decide +kernel
theorem d44_54 : decode jdk_52_method_16_code 54 = .ok (.aload 5, 2) := by decide +kernel
theorem d44_56 : decode jdk_52_method_16_code 56 = .ok (.areturn, 1) := by decide +kernel
theorem d44_57 : decode jdk_52_method_16_code 57 = .ok (.aload_n 3, 1) := by decide +kernel
theorem d44_58 : decode jdk_52_method_16_code 58 = .ok (.areturn, 1) := by decide +kernel
theorem pf44 : plainFor (⟨"java/lang/StringUTF16", "compress", "([CII)[B"⟩ : MethodName) = true := by first | exact plainFor_of_name (by first | (simp [plainName, overriddenIn]; done) | decide +kernel) | decide +kernel
theorem ef_comp3 (m : MethodId) (z0 : Addr) (z1 : Int32) (z2 : Int32) : entryFrame m #[(.ref z0), (.int z1), (.int z2)] 6 = mkF m 0 #[.val (.ref z0), .val (.int z1), .val (.int z2), .unset, .unset, .unset] [] := by first | rfl | (simp [entryFrame, mkF, argsToLocals, Value.category, *]; done) | rfl
set_option maxRecDepth 65536 in
set_option maxHeartbeats 40000000 in
theorem rm_comp3 {l : Launch} {Z : State} {a0 : Array Value} {n0 : Nat} (G : Gl Z a0 n0) {h0 : Heap} (O : Old Z n0 h0) (a : Addr) (cs : List Int32) (A : Ar Z h0 a .char (cs.map Value.int)) (hr : L1 cs) (hcap : cs.length ≤ 2) :
    Ct [] l Z n0 (⟨"java/lang/StringUTF16", "compress", "([CII)[B"⟩ : MethodName) jdk_52_method_16_code 6 (some (.array .byte)) ({ frames := 1, cells := 1, slots := 2, locals := 18 } : Room) #[(.ref a), (.int (0 : Int32)), (.int (Int32.ofNat cs.length))] h0 (fun v h => Keep h0 h [] ∧ ∃ t, v = some (.ref t) ∧ h0.size ≤ t ∧ Ar Z h t .byte (own_bs cs)) := by
  refine Ct.intro pf44 ?_
  intro p e s m below meth c C
  refine AtW.cast ?_ (ef_comp3 m a (0 : Int32) (Int32.ofNat cs.length))
  have hl : cs.length < 2 ^ 31 := by omega
  refine w_iloadN (q := 1) C rfl d44_0 rfl ?_
  refine w_newArr (q := 3) (cap := 2) (cells' := 1) (slots' := 2) C (G.1 _ (List.mem_of_getElem? (i := 7) rfl)) rfl (ofNat_neg hl) (by rw [ofNat_nat hl]; exact hcap) (by decide) rfl rfl (by decide) (by decide) d44_1 rfl ?_
  intro h12 t g_t Eh12 V_t
  replace V_t : Ar Z h12 t .byte (List.replicate cs.length (Value.int (0 : Int32))) := by rw [ofNat_nat hl] at V_t; exact V_t
  have hge : n0 ≤ t := by rw [g_t]; exact Old_le O
  have hg0 : h0.size ≤ t := Nat.le_of_eq g_t.symm
  have K1 : Keep h0 h12 [] := Keep.of_ext Eh12
  replace O := Old_k0 O K1
  refine w_astoreN (q := 4) (L' := #[.val (.ref a), .val (.int (0 : Int32)), .val (.int (Int32.ofNat cs.length)), .val (.ref t), .unset, .unset]) C rfl rfl d44_3 rfl ?_
  refine w_aloadN (q := 5) C rfl rfl d44_4 rfl ?_
  refine w_iloadN (q := 6) C rfl d44_5 rfl ?_
  refine w_aloadN (q := 7) C rfl rfl d44_6 rfl ?_
  refine w_iconst (q := 8) (v := (0 : Int32)) C (by rfl) d44_7 rfl ?_
  refine w_iloadN (q := 9) C rfl d44_8 rfl ?_
  refine w_callS (q := 12) (argsL := [(.ref a), (.int (0 : Int32)), (.ref t), (.int (0 : Int32)), (.int (Int32.ofNat cs.length))]) (S := []) (W := 0) (cells' := 1) (slots' := 2) C (G.1 _ (List.mem_of_getElem? (i := 240) rfl)) (G.1 _ (List.mem_of_getElem? (i := 241) rfl)) (G.1 _ (List.mem_of_getElem? (i := 238) rfl)) (G.1 _ (List.mem_of_getElem? (i := 242) rfl)) (by decide) (rm_comp5 G O a cs t (Ar_k0 A K1) hr V_t (Nat.ne_of_lt (by rw [g_t]; exact A.lt)) hge) rfl (lenOf pd_36 rfl) rfl (by decide) (own_leb rfl) (by decide) rfl rfl (by decide) (by decide) d44_9 rfl ?_
  rintro _ h13 ⟨Kh13, rfl, B2⟩
  show AtW p l e _ s m _ below meth c n0 _ h13 1 2 (mkF m 12 #[.val (.ref a), .val (.int (0 : Int32)), .val (.int (Int32.ofNat cs.length)), .val (.ref t), .unset, .unset] [(.int (Int32.ofNat cs.length))])
  refine w_istore (q := 14) (L' := #[.val (.ref a), .val (.int (0 : Int32)), .val (.int (Int32.ofNat cs.length)), .val (.ref t), .val (.int (Int32.ofNat cs.length)), .unset]) C rfl d44_12 rfl ?_
  refine w_iload (q := 16) C rfl d44_14 rfl ?_
  refine w_iloadN (q := 17) C rfl d44_16 rfl ?_
  refine w_icmp_eq_t (q := 57) C d44_17 (by decide) (by decide) rfl ?_
  refine w_aloadN (q := 58) C rfl rfl d44_57 rfl ?_
  exact w_retA C rfl rfl rfl d44_58 (by decide) (by decide) ⟨own_K1 K1 Kh13 hg0, t, rfl, hg0, B2⟩
theorem d46_0 : decode jdk_52_method_15_code 0 = .ok (.iload_n 1, 1) := by decide +kernel
theorem d46_1 : decode jdk_52_method_15_code 1 = .ok (.aload_n 0, 1) := by decide +kernel
theorem d46_2 : decode jdk_52_method_15_code 2 = .ok (.arraylength, 1) := by decide +kernel
theorem d46_3 : decode jdk_52_method_15_code 3 = .ok (.isub, 1) := by decide +kernel
theorem d46_4 : decode jdk_52_method_15_code 4 = .ok (.bipush 31, 2) := by decide +kernel
theorem d46_6 : decode jdk_52_method_15_code 6 = .ok (.iushr, 1) := by decide +kernel
theorem d46_7 : decode jdk_52_method_15_code 7 = .ok (.i2b, 1) := by decide +kernel
theorem d46_8 : decode jdk_52_method_15_code 8 = .ok (.ireturn, 1) := by decide +kernel
theorem pf46 : plainFor (⟨"java/lang/StringUTF16", "coderFromArrayLen", "([BI)B"⟩ : MethodName) = true := by first | exact plainFor_of_name (by first | (simp [plainName, overriddenIn]; done) | decide +kernel) | decide +kernel
theorem ef_codL (m : MethodId) (z0 : Addr) (z1 : Int32) : entryFrame m #[(.ref z0), (.int z1)] 2 = mkF m 0 #[.val (.ref z0), .val (.int z1)] [] := by first | rfl | (simp [entryFrame, mkF, argsToLocals, Value.category, *]; done) | rfl
set_option maxRecDepth 65536 in
set_option maxHeartbeats 40000000 in
theorem rm_codL {l : Launch} {Z : State} {a0 : Array Value} {n0 : Nat} (G : Gl Z a0 n0) {h0 : Heap} (O : Old Z n0 h0) (t : Addr) (cs : List Int32) (A : Ar Z h0 t .byte (own_bs cs)) :
    Ct [] l Z n0 (⟨"java/lang/StringUTF16", "coderFromArrayLen", "([BI)B"⟩ : MethodName) jdk_52_method_15_code 2 (some .byte) ({ frames := 0, cells := 0, slots := 0, locals := 0 } : Room) #[(.ref t), (.int (Int32.ofNat cs.length))] h0 (fun v h => h = h0 ∧ v = some (.int 0)) := by
  refine Ct.intro pf46 ?_
  intro p e s m below meth c C
  refine AtW.cast ?_ (ef_codL m t (Int32.ofNat cs.length))
  refine w_iloadN (q := 1) C rfl d46_0 rfl ?_
  refine w_aloadN (q := 2) C rfl rfl d46_1 rfl ?_
  refine w_len (q := 3) (z := (Int32.ofNat cs.length)) C A (by rw [own_bs_len]) d46_2 rfl ?_
  refine w_isub (q := 4) C rfl d46_3 rfl ?_
  rw [show ((Int32.ofNat cs.length) - (Int32.ofNat cs.length)) = (0 : Int32) from Int32.sub_self _]
  refine w_bipush (q := 6) (v := (31 : Int32)) C (by rfl) d46_4 rfl ?_
  refine w_iushr (q := 7) (z := (0 : Int32)) C (by decide) d46_6 rfl ?_
  refine w_i2b (q := 8) (z := (0 : Int32)) C (by decide) d46_7 rfl ?_
  exact w_retZ (z := (0 : Int32)) C (t := .byte) rfl (by simp) (by decide) d46_8 (by decide) (by decide) ⟨rfl, rfl⟩
theorem d43_0 : decode jdk_42_method_149_code 0 = .ok (.aload_n 0, 1) := by decide +kernel
theorem d43_1 : decode jdk_42_method_149_code 1 = .ok (.invokespecial 1, 3) := by decide +kernel
theorem d43_4 : decode jdk_42_method_149_code 4 = .ok (.iload_n 3, 1) := by decide +kernel
theorem d43_5 : decode jdk_42_method_149_code 5 = .ok (.ifCond .ne 22, 3) := by decide +kernel
theorem d43_8 : decode jdk_42_method_149_code 8 = .ok (.aload_n 0, 1) := by decide +kernel
theorem d43_9 : decode jdk_42_method_149_code 9 = .ok (.ldc 7, 2) := by decide +kernel
theorem d43_11 : decode jdk_42_method_149_code 11 = .ok (.getfield 9, 3) := by decide +kernel
theorem d43_14 : decode jdk_42_method_149_code 14 = .ok (.putfield 9, 3) := by decide +kernel
theorem d43_17 : decode jdk_42_method_149_code 17 = .ok (.aload_n 0, 1) := by decide +kernel
theorem d43_18 : decode jdk_42_method_149_code 18 = .ok (.ldc 7, 2) := by decide +kernel
theorem d43_20 : decode jdk_42_method_149_code 20 = .ok (.getfield 15, 3) := by decide +kernel
theorem d43_23 : decode jdk_42_method_149_code 23 = .ok (.putfield 15, 3) := by decide +kernel
theorem d43_26 : decode jdk_42_method_149_code 26 = .ok (.return_, 1) := by decide +kernel
theorem d43_27 : decode jdk_42_method_149_code 27 = .ok (.getstatic 38, 3) := by decide +kernel
theorem d43_30 : decode jdk_42_method_149_code 30 = .ok (.ifCond .eq 28, 3) := by decide +kernel
theorem d43_33 : decode jdk_42_method_149_code 33 = .ok (.aload_n 1, 1) := by decide +kernel
theorem d43_34 : decode jdk_42_method_149_code 34 = .ok (.iload_n 2, 1) := by decide +kernel
theorem d43_35 : decode jdk_42_method_149_code 35 = .ok (.iload_n 3, 1) := by decide +kernel
theorem d43_36 : decode jdk_42_method_149_code 36 = .ok (.invokestatic 177, 3) := by decide +kernel
theorem d43_39 : decode jdk_42_method_149_code 39 = .ok (.astore 5, 2) := by decide +kernel
theorem d43_41 : decode jdk_42_method_149_code 41 = .ok (.aload_n 0, 1) := by decide +kernel
theorem d43_42 : decode jdk_42_method_149_code 42 = .ok (.aload 5, 2) := by decide +kernel
theorem d43_44 : decode jdk_42_method_149_code 44 = .ok (.iload_n 3, 1) := by decide +kernel
theorem d43_45 : decode jdk_42_method_149_code 45 = .ok (.invokestatic 47, 3) := by decide +kernel
theorem d43_48 : decode jdk_42_method_149_code 48 = .ok (.putfield 15, 3) := by decide +kernel
theorem d43_51 : decode jdk_42_method_149_code 51 = .ok (.aload_n 0, 1) := by decide +kernel
theorem d43_52 : decode jdk_42_method_149_code 52 = .ok (.aload 5, 2) := by decide +kernel
theorem d43_54 : decode jdk_42_method_149_code 54 = .ok (.putfield 9, 3) := by decide +kernel
theorem d43_57 : decode jdk_42_method_149_code 57 = .ok (.return_, 1) := by decide +kernel
theorem d43_58 : decode jdk_42_method_149_code 58 = .ok (.aload_n 0, 1) := by decide +kernel
theorem d43_59 : decode jdk_42_method_149_code 59 = .ok (.iconst 1, 1) := by decide +kernel
theorem d43_60 : decode jdk_42_method_149_code 60 = .ok (.putfield 15, 3) := by decide +kernel
theorem d43_63 : decode jdk_42_method_149_code 63 = .ok (.aload_n 0, 1) := by decide +kernel
theorem d43_64 : decode jdk_42_method_149_code 64 = .ok (.aload_n 1, 1) := by decide +kernel
theorem d43_65 : decode jdk_42_method_149_code 65 = .ok (.iload_n 2, 1) := by decide +kernel
theorem d43_66 : decode jdk_42_method_149_code 66 = .ok (.iload_n 3, 1) := by decide +kernel
theorem d43_67 : decode jdk_42_method_149_code 67 = .ok (.invokestatic 180, 3) := by decide +kernel
theorem d43_70 : decode jdk_42_method_149_code 70 = .ok (.putfield 9, 3) := by decide +kernel
theorem d43_73 : decode jdk_42_method_149_code 73 = .ok (.return_, 1) := by decide +kernel
theorem pf43 : plainFor (⟨"java/lang/String", "<init>", "([CIILjava/lang/Void;)V"⟩ : MethodName) = true := by first | exact plainFor_of_name (by first | (simp [plainName, overriddenIn]; done) | decide +kernel) | decide +kernel
theorem ef_strinit4 (m : MethodId) (z0 : Addr) (z1 : Addr) (z2 : Int32) (z3 : Int32) : entryFrame m #[(.ref z0), (.ref z1), (.int z2), (.int z3), .null] 6 = mkF m 0 #[.val (.ref z0), .val (.ref z1), .val (.int z2), .val (.int z3), .val .null, .unset] [] := by first | rfl | (simp [entryFrame, mkF, argsToLocals, Value.category, *]; done) | rfl
set_option maxRecDepth 65536 in
set_option maxHeartbeats 40000000 in
theorem rm_strinit4 {l : Launch} {Z : State} {a0 : Array Value} {n0 : Nat} (G : Gl Z a0 n0) {h0 : Heap} (O : Old Z n0 h0) (a : Addr) (b : Addr) (cs : List Int32) (E : Exa Z h0 a "java/lang/String") (FV : Fld Z h0 a "java/lang/String" "value" "[B" .null) (FC : Fld Z h0 a "java/lang/String" "coder" "B" (.int (0 : Int32))) (hge : n0 ≤ a) (A : Ar Z h0 b .char (cs.map Value.int)) (hr : L1 cs) (hcap : cs.length ≤ 2) (h1 : cs.length ≠ 0) :
    Ct [] l Z n0 (⟨"java/lang/String", "<init>", "([CIILjava/lang/Void;)V"⟩ : MethodName) jdk_42_method_149_code 6 none ({ frames := 2, cells := 1, slots := 2, locals := 35 } : Room) #[(.ref a), (.ref b), (.int (0 : Int32)), (.int (Int32.ofNat cs.length)), .null] h0 (fun v h => Keep h0 h [a] ∧ v = none ∧ Str Z h a cs) := by
  refine Ct.intro pf43 ?_
  intro p e s m below meth c C
  refine AtW.cast ?_ (ef_strinit4 m a b (0 : Int32) (Int32.ofNat cs.length))
  obtain ⟨zc, SC, hzc⟩ := G.cs
  refine w_aloadN (q := 1) C rfl rfl d43_0 rfl ?_
  refine w_initO (q := 4) (W := 0) C (G.1 _ (List.mem_of_getElem? (i := 147) rfl)) (G.1 _ (List.mem_of_getElem? (i := 24) rfl)) (G.1 _ (List.mem_of_getElem? (i := 25) rfl)) rfl (by decide) (own_leb rfl) (by decide) d43_1 rfl ?_
  refine w_iloadN (q := 5) C rfl d43_4 rfl ?_
  refine w_if_ne_t (q := 27) C d43_5 (by decide) (by decide) (fun q => h1 ((own_neq (n := 0) (by omega) (by omega)).mp q)) ?_
  refine w_getS (q := 30) (host := "") C (Or.inl (G.1 _ (List.mem_of_getElem? (i := 82) rfl))) Via.refl (SC.ext O.2) d43_27 rfl ?_
  refine w_if_eq_f (q := 33) C d43_30 rfl hzc ?_
  refine w_aloadN (q := 34) C rfl rfl d43_33 rfl ?_
  refine w_iloadN (q := 35) C rfl d43_34 rfl ?_
  refine w_iloadN (q := 36) C rfl d43_35 rfl ?_
  have A_lt := E.lt
  refine w_callS (q := 39) (argsL := [(.ref b), (.int (0 : Int32)), (.int (Int32.ofNat cs.length))]) (S := []) (W := 0) (cells' := 1) (slots' := 2) C (G.1 _ (List.mem_of_getElem? (i := 236) rfl)) (G.1 _ (List.mem_of_getElem? (i := 237) rfl)) (G.1 _ (List.mem_of_getElem? (i := 238) rfl)) (G.1 _ (List.mem_of_getElem? (i := 239) rfl)) (by decide) (rm_comp3 G O b cs A hr hcap) rfl (lenOf pd_35 rfl) rfl (by decide) (own_leb rfl) (by decide) rfl rfl (by decide) (by decide) d43_36 rfl ?_
  rintro _ h14 ⟨Kh14, t, rfl, hg, B⟩
  show AtW p l e _ s m _ below meth c n0 _ h14 1 2 (mkF m 39 #[.val (.ref a), .val (.ref b), .val (.int (0 : Int32)), .val (.int (Int32.ofNat cs.length)), .val .null, .unset] [(.ref t)])
  replace O := Old_k0 O Kh14
  replace E := Exa_k0 E Kh14
  replace FV := Fld_k0 FV Kh14
  replace FC := Fld_k0 FC Kh14
  have hne : t ≠ a := Ne.symm (Nat.ne_of_lt (Nat.lt_of_lt_of_le A_lt hg))
  refine w_astore (q := 41) (L' := #[.val (.ref a), .val (.ref b), .val (.int (0 : Int32)), .val (.int (Int32.ofNat cs.length)), .val .null, .val (.ref t)]) C rfl rfl d43_39 rfl ?_
  refine w_aloadN (q := 42) C rfl rfl d43_41 rfl ?_
  refine w_aload (q := 44) C rfl rfl d43_42 rfl ?_
  refine w_iloadN (q := 45) C rfl d43_44 rfl ?_
  refine w_callS (q := 48) (argsL := [(.ref t), (.int (Int32.ofNat cs.length))]) (S := [(.ref a)]) (W := 1) (cells' := 1) (slots' := 2) C (G.1 _ (List.mem_of_getElem? (i := 243) rfl)) (G.1 _ (List.mem_of_getElem? (i := 244) rfl)) (G.1 _ (List.mem_of_getElem? (i := 238) rfl)) (G.1 _ (List.mem_of_getElem? (i := 245) rfl)) (by decide) (rm_codL G O t cs B) rfl (lenOf pd_37 rfl) rfl (by decide) (own_leb rfl) (by decide) rfl rfl (by decide) (by decide) d43_45 rfl ?_
  rintro _ h15 ⟨eh16, rfl⟩
  rw [eh16]
  show AtW p l e _ s m _ below meth c n0 _ h14 1 2 (mkF m 48 #[.val (.ref a), .val (.ref b), .val (.int (0 : Int32)), .val (.int (Int32.ofNat cs.length)), .val .null, .val (.ref t)] [(.int (0 : Int32)), (.ref a)])
  refine w_putF (q := 51) (host := "") (v' := (.int (0 : Int32))) C (G.1 _ (List.mem_of_getElem? (i := 83) rfl)) Via.refl FC E (Or.inr ⟨(G.1 _ (List.mem_of_getElem? (i := 9) rfl)), rfl, rfl⟩) (G.1 _ (List.mem_of_getElem? (i := 6) rfl)) (ty := .byte) (by decide) rfl rfl hge d43_48 rfl ?_
  intro h17 Wh17
  have K2 : Keep h0 h17 [a] := ((Keep.refl h0 [a]).trans Kh14 (all0 (P := fun x => x ∈ [a] ∨ h0.size ≤ x))).wr Wh17 (Or.inl (List.mem_cons_self ..))
  replace FC := FC.same Wh17
  replace FV := FV.other Wh17 (Or.inr (slot_ne (Or.inr (G.1 _ (List.mem_of_getElem? (i := 8) rfl))) (Or.inr (G.1 _ (List.mem_of_getElem? (i := 9) rfl))) (by decide) (t := .array .byte) (t' := .byte) (by decide) (by decide)))
  replace E := E.wr Wh17
  replace B := B.other Wh17 hne
  refine w_aloadN (q := 52) C rfl rfl d43_51 rfl ?_
  refine w_aload (q := 54) C rfl rfl d43_52 rfl ?_
  refine w_putF (q := 57) (host := "") (v' := (.ref t)) C (G.1 _ (List.mem_of_getElem? (i := 76) rfl)) Via.refl FV E (Or.inr ⟨(G.1 _ (List.mem_of_getElem? (i := 8) rfl)), rfl, rfl⟩) (G.1 _ (List.mem_of_getElem? (i := 6) rfl)) (ty := (.array .byte)) (by decide) rfl rfl hge d43_54 rfl ?_
  intro h18 Wh18
  replace FV := FV.same Wh18
  replace FC := FC.other Wh18 (Or.inr (slot_ne (Or.inr (G.1 _ (List.mem_of_getElem? (i := 9) rfl))) (Or.inr (G.1 _ (List.mem_of_getElem? (i := 8) rfl))) (by decide) (t := .byte) (t' := .array .byte) (by decide) (by decide)))
  replace E := E.wr Wh18
  replace B := B.other Wh18 hne
  exact w_retV C rfl d43_57 (by decide) (by decide) ⟨K2.wr Wh18 (Or.inl (List.mem_cons_self ..)), rfl, E, hr, t, FC, FV, B⟩
theorem d42_0 : decode jdk_42_method_3_code 0 = .ok (.aload_n 0, 1) := by decide +kernel
theorem d42_1 : decode jdk_42_method_3_code 1 = .ok (.aload_n 1, 1) := by decide +kernel
theorem d42_2 : decode jdk_42_method_3_code 2 = .ok (.iconst 0, 1) := by decide +kernel
theorem d42_3 : decode jdk_42_method_3_code 3 = .ok (.aload_n 1, 1) := by decide +kernel
theorem d42_4 : decode jdk_42_method_3_code 4 = .ok (.arraylength, 1) := by decide +kernel
theorem d42_5 : decode jdk_42_method_3_code 5 = .ok (.aconst_null, 1) := by decide +kernel
theorem d42_6 : decode jdk_42_method_3_code 6 = .ok (.invokespecial 27, 3) := by decide +kernel
theorem d42_9 : decode jdk_42_method_3_code 9 = .ok (.return_, 1) := by decide +kernel
theorem pf42 : plainFor (⟨"java/lang/String", "<init>", "([C)V"⟩ : MethodName) = true := by first | exact plainFor_of_name (by first | (simp [plainName, overriddenIn]; done) | decide +kernel) | decide +kernel
theorem ef_strinit (m : MethodId) (z0 : Addr) (z1 : Addr) : entryFrame m #[(.ref z0), (.ref z1)] 2 = mkF m 0 #[.val (.ref z0), .val (.ref z1)] [] := by first | rfl | (simp [entryFrame, mkF, argsToLocals, Value.category, *]; done) | rfl
set_option maxRecDepth 65536 in
set_option maxHeartbeats 40000000 in
theorem rm_strinit {l : Launch} {Z : State} {a0 : Array Value} {n0 : Nat} (G : Gl Z a0 n0) {h0 : Heap} (O : Old Z n0 h0) (a : Addr) (b : Addr) (cs : List Int32) (E : Exa Z h0 a "java/lang/String") (FV : Fld Z h0 a "java/lang/String" "value" "[B" .null) (FC : Fld Z h0 a "java/lang/String" "coder" "B" (.int (0 : Int32))) (hge : n0 ≤ a) (A : Ar Z h0 b .char (cs.map Value.int)) (hr : L1 cs) (hcap : cs.length ≤ 2) (h1 : cs.length ≠ 0) :
    Ct [] l Z n0 (⟨"java/lang/String", "<init>", "([C)V"⟩ : MethodName) jdk_42_method_3_code 2 none ({ frames := 3, cells := 1, slots := 2, locals := 52 } : Room) #[(.ref a), (.ref b)] h0 (fun v h => Keep h0 h [a] ∧ v = none ∧ Str Z h a cs) := by
  refine Ct.intro pf42 ?_
  intro p e s m below meth c C
  refine AtW.cast ?_ (ef_strinit m a b)
  refine w_aloadN (q := 1) C rfl rfl d42_0 rfl ?_
  refine w_aloadN (q := 2) C rfl rfl d42_1 rfl ?_
  refine w_iconst (q := 3) (v := (0 : Int32)) C (by rfl) d42_2 rfl ?_
  refine w_aloadN (q := 4) C rfl rfl d42_3 rfl ?_
  refine w_len (q := 5) (z := (Int32.ofNat cs.length)) C A (by rw [List.length_map]) d42_4 rfl ?_
  refine w_aconst_null (q := 6) C d42_5 rfl ?_
  refine w_callI (q := 9) (argsL := [(.ref b), (.int (0 : Int32)), (.int (Int32.ofNat cs.length)), .null]) (S := []) (W := 0) (cells' := 1) (slots' := 2) (a := a) C rfl (G.1 _ (List.mem_of_getElem? (i := 233) rfl)) (G.1 _ (List.mem_of_getElem? (i := 234) rfl)) (G.1 _ (List.mem_of_getElem? (i := 5) rfl)) (G.1 _ (List.mem_of_getElem? (i := 235) rfl)) (by decide) (rm_strinit4 G O a b cs E FV FC hge A hr hcap h1) rfl (lenOf pd_34 rfl) rfl (by decide) (own_leb rfl) (by decide) rfl rfl (by decide) (by decide) d42_6 rfl ?_
  rintro _ h19 ⟨Kh19, rfl, S⟩
  show AtW p l e _ s m _ below meth c n0 _ h19 1 2 (mkF m 9 #[.val (.ref a), .val (.ref b)] [])
  exact w_retV C rfl d42_9 (by decide) (by decide) ⟨Kh19, rfl, S⟩
theorem d52_0 : decode jdk_43_method_3_code 0 = .ok (.iload_n 0, 1) := by decide +kernel
theorem d52_1 : decode jdk_43_method_3_code 1 = .ok (.sipush 255, 3) := by decide +kernel
theorem d52_4 : decode jdk_43_method_3_code 4 = .ok (.if_icmp .gt 7, 3) := by decide +kernel
theorem d52_7 : decode jdk_43_method_3_code 7 = .ok (.iconst 1, 1) := by decide +kernel
theorem d52_8 : decode jdk_43_method_3_code 8 = .ok (.goto 4, 3) := by decide +kernel
theorem d52_11 : decode jdk_43_method_3_code 11 = .ok (.iconst 0, 1) := by decide +kernel
theorem d52_12 : decode jdk_43_method_3_code 12 = .ok (.ireturn, 1) := by decide +kernel
theorem pf52 : plainFor (⟨"java/lang/StringLatin1", "canEncode", "(C)Z"⟩ : MethodName) = true := by first | exact plainFor_of_name (by first | (simp [plainName, overriddenIn]; done) | decide +kernel) | decide +kernel
theorem ef_canEncC (m : MethodId) (z0 : Int32) : entryFrame m #[(.int z0)] 1 = mkF m 0 #[.val (.int z0)] [] := by first | rfl | (simp [entryFrame, mkF, argsToLocals, Value.category, *]; done) | rfl
set_option maxRecDepth 65536 in
set_option maxHeartbeats 40000000 in
theorem rm_canEncC {l : Launch} {Z : State} {a0 : Array Value} {n0 : Nat} (G : Gl Z a0 n0) {h0 : Heap} (O : Old Z n0 h0) (ch : Int32) (hc : ¬ ch < 0 ∧ ¬ 255 < ch) :
    Ct [] l Z n0 (⟨"java/lang/StringLatin1", "canEncode", "(C)Z"⟩ : MethodName) jdk_43_method_3_code 1 (some .boolean) ({ frames := 0, cells := 0, slots := 0, locals := 0 } : Room) #[(.int ch)] h0 (fun v h => h = h0 ∧ v = some (.int 1)) := by
  refine Ct.intro pf52 ?_
  intro p e s m below meth c C
  refine AtW.cast ?_ (ef_canEncC m ch)
  refine w_iloadN (q := 1) C rfl d52_0 rfl ?_
  refine w_sipush (q := 4) (v := (255 : Int32)) C (by rfl) d52_1 rfl ?_
  refine w_icmp_gt_f (q := 7) C d52_4 rfl hc.2 ?_
  refine w_iconst (q := 8) (v := (1 : Int32)) C (by rfl) d52_7 rfl ?_
  refine w_goto (q := 12) C d52_8 (by decide) (by decide) ?_
  exact w_retZ (z := (1 : Int32)) C (t := .boolean) rfl (by simp) (by decide) d52_12 (by decide) (by decide) ⟨rfl, rfl⟩
theorem d53_0 : decode jdk_43_method_46_code 0 = .ok (.iconst 1, 1) := by decide +kernel
theorem d53_1 : decode jdk_43_method_46_code 1 = .ok (.newarray .byte, 2) := by decide +kernel
theorem d53_3 : decode jdk_43_method_46_code 3 = .ok (.dup, 1) := by decide +kernel
theorem d53_4 : decode jdk_43_method_46_code 4 = .ok (.iconst 0, 1) := by decide +kernel
theorem d53_5 : decode jdk_43_method_46_code 5 = .ok (.iload_n 0, 1) := by decide +kernel
theorem d53_6 : decode jdk_43_method_46_code 6 = .ok (.i2b, 1) := by decide +kernel
theorem d53_7 : decode jdk_43_method_46_code 7 = .ok (.bastore, 1) := by decide +kernel
theorem d53_8 : decode jdk_43_method_46_code 8 = .ok (.areturn, 1) := by decide +kernel
theorem pf53 : plainFor (⟨"java/lang/StringLatin1", "toBytes", "(C)[B"⟩ : MethodName) = true := by first | exact plainFor_of_name (by first | (simp [plainName, overriddenIn]; done) | decide +kernel) | decide +kernel
theorem ef_toBytesC (m : MethodId) (z0 : Int32) : entryFrame m #[(.int z0)] 1 = mkF m 0 #[.val (.int z0)] [] := by first | rfl | (simp [entryFrame, mkF, argsToLocals, Value.category, *]; done) | rfl
set_option maxRecDepth 65536 in
set_option maxHeartbeats 40000000 in
theorem rm_toBytesC {l : Launch} {Z : State} {a0 : Array Value} {n0 : Nat} (G : Gl Z a0 n0) {h0 : Heap} (O : Old Z n0 h0) (ch : Int32) :
    Ct [] l Z n0 (⟨"java/lang/StringLatin1", "toBytes", "(C)[B"⟩ : MethodName) jdk_43_method_46_code 1 (some (.array .byte)) ({ frames := 0, cells := 1, slots := 1, locals := 0 } : Room) #[(.int ch)] h0 (fun v h => Keep h0 h [] ∧ ∃ t, v = some (.ref t) ∧ h0.size ≤ t ∧ Ar Z h t .byte (own_bs [ch])) := by
  refine Ct.intro pf53 ?_
  intro p e s m below meth c C
  refine AtW.cast ?_ (ef_toBytesC m ch)
  refine w_iconst (q := 1) (v := (1 : Int32)) C (by rfl) d53_0 rfl ?_
  refine w_newArr (q := 3) (cap := 1) (cells' := 1) (slots' := 1) C (G.1 _ (List.mem_of_getElem? (i := 7) rfl)) rfl (by decide) (by decide) (by decide) rfl rfl (by decide) (by decide) d53_1 rfl ?_
  intro h20 t g_t Eh20 V_t
  replace V_t : Ar Z h20 t .byte [(.int (0 : Int32))] := V_t
  have hge : n0 ≤ t := by rw [g_t]; exact Old_le O
  have hg0 : h0.size ≤ t := Nat.le_of_eq g_t.symm
  have K1 : Keep h0 h20 [] := Keep.of_ext Eh20
  refine w_dup (q := 4) C rfl d53_3 rfl ?_
  refine w_iconst (q := 5) (v := (0 : Int32)) C (by rfl) d53_4 rfl ?_
  refine w_iloadN (q := 6) C rfl d53_5 rfl ?_
  refine w_i2b (q := 7) C rfl d53_6 rfl ?_
  refine w_bastore (q := 8) (z := ch.toInt8.toInt32) (i := 0) C (own_nar8 ch) V_t rfl (own_ltb rfl) hge d53_7 rfl ?_
  intro h21 Wh21 Vh21
  exact w_retA C rfl rfl rfl d53_8 (by decide) (by decide) ⟨K1.wr Wh21 (Or.inr hg0), t, rfl, hg0, Vh21⟩
theorem d54_0 : decode jdk_42_method_151_code 0 = .ok (.aload_n 0, 1) := by decide +kernel
theorem d54_1 : decode jdk_42_method_151_code 1 = .ok (.invokespecial 1, 3) := by decide +kernel
theorem d54_4 : decode jdk_42_method_151_code 4 = .ok (.aload_n 0, 1) := by decide +kernel
theorem d54_5 : decode jdk_42_method_151_code 5 = .ok (.aload_n 1, 1) := by decide +kernel
theorem d54_6 : decode jdk_42_method_151_code 6 = .ok (.putfield 9, 3) := by decide +kernel
theorem d54_9 : decode jdk_42_method_151_code 9 = .ok (.aload_n 0, 1) := by decide +kernel
theorem d54_10 : decode jdk_42_method_151_code 10 = .ok (.iload_n 2, 1) := by decide +kernel
theorem d54_11 : decode jdk_42_method_151_code 11 = .ok (.putfield 15, 3) := by decide +kernel
theorem d54_14 : decode jdk_42_method_151_code 14 = .ok (.return_, 1) := by decide +kernel
theorem pf54 : plainFor (⟨"java/lang/String", "<init>", "([BB)V"⟩ : MethodName) = true := by first | exact plainFor_of_name (by first | (simp [plainName, overriddenIn]; done) | decide +kernel) | decide +kernel
theorem ef_initBB (m : MethodId) (z0 : Addr) (z1 : Addr) (z2 : Int32) : entryFrame m #[(.ref z0), (.ref z1), (.int z2)] 3 = mkF m 0 #[.val (.ref z0), .val (.ref z1), .val (.int z2)] [] := by first | rfl | (simp [entryFrame, mkF, argsToLocals, Value.category, *]; done) | rfl
set_option maxRecDepth 65536 in
set_option maxHeartbeats 40000000 in
theorem rm_initBB {l : Launch} {Z : State} {a0 : Array Value} {n0 : Nat} (G : Gl Z a0 n0) {h0 : Heap} (O : Old Z n0 h0) (a : Addr) (t : Addr) (cd : Int32) (E : Exa Z h0 a "java/lang/String") (FV : Fld Z h0 a "java/lang/String" "value" "[B" .null) (FC : Fld Z h0 a "java/lang/String" "coder" "B" (.int (0 : Int32))) (hge : n0 ≤ a) (hcd : cd = 0 ∨ cd = 1) :
    Ct [] l Z n0 (⟨"java/lang/String", "<init>", "([BB)V"⟩ : MethodName) jdk_42_method_151_code 3 none ({ frames := 1, cells := 0, slots := 0, locals := 12 } : Room) #[(.ref a), (.ref t), (.int cd)] h0 (fun v h => Keep h0 h [a] ∧ v = none ∧ Exa Z h a "java/lang/String" ∧ Fld Z h a "java/lang/String" "coder" "B" (.int cd) ∧ Fld Z h a "java/lang/String" "value" "[B" (.ref t)) := by
  refine Ct.intro pf54 ?_
  intro p e s m below meth c C
  refine AtW.cast ?_ (ef_initBB m a t cd)
  refine w_aloadN (q := 1) C rfl rfl d54_0 rfl ?_
  refine w_initO (q := 4) (W := 0) C (G.1 _ (List.mem_of_getElem? (i := 147) rfl)) (G.1 _ (List.mem_of_getElem? (i := 24) rfl)) (G.1 _ (List.mem_of_getElem? (i := 25) rfl)) rfl (by decide) (own_leb rfl) (by decide) d54_1 rfl ?_
  refine w_aloadN (q := 5) C rfl rfl d54_4 rfl ?_
  refine w_aloadN (q := 6) C rfl rfl d54_5 rfl ?_
  refine w_putF (q := 9) (host := "") (v' := (.ref t)) C (G.1 _ (List.mem_of_getElem? (i := 76) rfl)) Via.refl FV E (Or.inr ⟨(G.1 _ (List.mem_of_getElem? (i := 8) rfl)), rfl, rfl⟩) (G.1 _ (List.mem_of_getElem? (i := 6) rfl)) (ty := (.array .byte)) (by decide) rfl rfl hge d54_6 rfl ?_
  intro h22 Wh22
  have K2 : Keep h0 h22 [a] := (Keep.refl h0 [a]).wr Wh22 (Or.inl (List.mem_cons_self ..))
  replace FV := FV.same Wh22
  replace FC := FC.other Wh22 (Or.inr (slot_ne (Or.inr (G.1 _ (List.mem_of_getElem? (i := 9) rfl))) (Or.inr (G.1 _ (List.mem_of_getElem? (i := 8) rfl))) (by decide) (t := .byte) (t' := .array .byte) (by decide) (by decide)))
  replace E := E.wr Wh22
  refine w_aloadN (q := 10) C rfl rfl d54_9 rfl ?_
  refine w_iloadN (q := 11) C rfl d54_10 rfl ?_
  refine w_putF (q := 14) (host := "") (v' := (.int cd)) C (G.1 _ (List.mem_of_getElem? (i := 83) rfl)) Via.refl FC E (Or.inr ⟨(G.1 _ (List.mem_of_getElem? (i := 9) rfl)), rfl, rfl⟩) (G.1 _ (List.mem_of_getElem? (i := 6) rfl)) (ty := .byte) (by decide) (by rcases hcd with rfl | rfl <;> rfl) (by rcases hcd with rfl | rfl <;> rfl) hge d54_11 rfl ?_
  intro h23 Wh23
  replace FC := FC.same Wh23
  replace FV := FV.other Wh23 (Or.inr (slot_ne (Or.inr (G.1 _ (List.mem_of_getElem? (i := 8) rfl))) (Or.inr (G.1 _ (List.mem_of_getElem? (i := 9) rfl))) (by decide) (t := .array .byte) (t' := .byte) (by decide) (by decide)))
  replace E := E.wr Wh23
  exact w_retV C rfl d54_14 (by decide) (by decide) ⟨K2.wr Wh23 (Or.inl (List.mem_cons_self ..)), rfl, E, FC, FV⟩
theorem d51_0 : decode jdk_42_method_139_code 0 = .ok (.getstatic 38, 3) := by decide +kernel
theorem d51_3 : decode jdk_42_method_139_code 3 = .ok (.ifCond .eq 23, 3) := by decide +kernel
theorem d51_6 : decode jdk_42_method_139_code 6 = .ok (.iload_n 0, 1) := by decide +kernel
theorem d51_7 : decode jdk_42_method_139_code 7 = .ok (.invokestatic 1015, 3) := by decide +kernel
theorem d51_10 : decode jdk_42_method_139_code 10 = .ok (.ifCond .eq 16, 3) := by decide +kernel
theorem d51_13 : decode jdk_42_method_139_code 13 = .ok (.new 10, 3) := by decide +kernel
theorem d51_16 : decode jdk_42_method_139_code 16 = .ok (.dup, 1) := by decide +kernel
theorem d51_17 : decode jdk_42_method_139_code 17 = .ok (.iload_n 0, 1) := by decide +kernel
theorem d51_18 : decode jdk_42_method_139_code 18 = .ok (.invokestatic 1018, 3) := by decide +kernel
theorem d51_21 : decode jdk_42_method_139_code 21 = .ok (.iconst 0, 1) := by decide +kernel
theorem d51_22 : decode jdk_42_method_139_code 22 = .ok (.invokespecial 209, 3) := by decide +kernel
theorem d51_25 : decode jdk_42_method_139_code 25 = .ok (.areturn, 1) := by decide +kernel
theorem d51_26 : decode jdk_42_method_139_code 26 = .ok (.new 10, 3) := by decide +kernel
theorem d51_29 : decode jdk_42_method_139_code 29 = .ok (.dup, 1) := by decide +kernel
theorem d51_30 : decode jdk_42_method_139_code 30 = .ok (.iload_n 0, 1) := by decide +kernel
theorem d51_31 : decode jdk_42_method_139_code 31 = .ok (.invokestatic 1021, 3) := by decide +kernel
theorem d51_34 : decode jdk_42_method_139_code 34 = .ok (.iconst 1, 1) := by decide +kernel
theorem d51_35 : decode jdk_42_method_139_code 35 = .ok (.invokespecial 209, 3) := by decide +kernel
theorem d51_38 : decode jdk_42_method_139_code 38 = .ok (.areturn, 1) := by decide +kernel
theorem pf51 : plainFor (⟨"java/lang/String", "valueOf", "(C)Ljava/lang/String;"⟩ : MethodName) = true := by first | exact plainFor_of_name (by first | (simp [plainName, overriddenIn]; done) | decide +kernel) | decide +kernel
theorem ef_valueOfC (m : MethodId) (z0 : Int32) : entryFrame m #[(.int z0)] 1 = mkF m 0 #[.val (.int z0)] [] := by first | rfl | (simp [entryFrame, mkF, argsToLocals, Value.category, *]; done) | rfl
set_option maxRecDepth 65536 in
set_option maxHeartbeats 40000000 in
theorem rm_valueOfC {l : Launch} {Z : State} {a0 : Array Value} {n0 : Nat} (G : Gl Z a0 n0) {h0 : Heap} (O : Old Z n0 h0) (ch : Int32) (hc : ¬ ch < 0 ∧ ¬ 255 < ch) :
    Ct [] l Z n0 (⟨"java/lang/String", "valueOf", "(C)Ljava/lang/String;"⟩ : MethodName) jdk_42_method_139_code 1 (some (.object "java/lang/String")) ({ frames := 2, cells := 2, slots := 5, locals := 27 } : Room) #[(.int ch)] h0 (fun v h => Keep h0 h [] ∧ ∃ a, v = some (.ref a) ∧ Str Z h a [ch]) := by
  refine Ct.intro pf51 ?_
  intro p e s m below meth c C
  refine AtW.cast ?_ (ef_valueOfC m ch)
  obtain ⟨zc, SC, hzc⟩ := G.cs
  refine w_getS (q := 3) (host := "") C (Or.inl (G.1 _ (List.mem_of_getElem? (i := 82) rfl))) Via.refl (SC.ext O.2) d51_0 rfl ?_
  refine w_if_eq_f (q := 6) C d51_3 rfl hzc ?_
  refine w_iloadN (q := 7) C rfl d51_6 rfl ?_
  refine w_callS (q := 10) (argsL := [(.int ch)]) (S := []) (W := 0) (cells' := 0) (slots' := 0) C (G.1 _ (List.mem_of_getElem? (i := 275) rfl)) (G.1 _ (List.mem_of_getElem? (i := 276) rfl)) (G.1 _ (List.mem_of_getElem? (i := 206) rfl)) (G.1 _ (List.mem_of_getElem? (i := 277) rfl)) (by decide) (rm_canEncC G O ch hc) rfl (lenOf pd_42 rfl) rfl (by decide) (own_leb rfl) (by decide) rfl rfl (by decide) (by decide) d51_7 rfl ?_
  rintro _ h24 ⟨eh25, rfl⟩
  rw [eh25]
  show AtW p l e _ s m _ below meth c n0 _ h0 0 0 (mkF m 10 #[.val (.int ch)] [(.int (1 : Int32))])
  refine w_if_eq_f (q := 13) C d51_10 rfl (by decide) ?_
  refine w_new (q := 16) (cells' := 1) (slots' := 4) C (G.1 _ (List.mem_of_getElem? (i := 278) rfl)) (G.1 _ (List.mem_of_getElem? (i := 6) rfl)) (G.1 _ (List.mem_of_getElem? (i := 5) rfl)) rfl rfl (by decide) (by decide) d51_13 rfl ?_
  intro h26 a g_a Eh26 A_a D_a
  have F_value_a : Fld Z h26 a "java/lang/String" "value" "[B" .null := D_a (Or.inr (G.1 _ (List.mem_of_getElem? (i := 8) rfl))) (ty := (.array .byte)) (by decide)
  have F_coder_a : Fld Z h26 a "java/lang/String" "coder" "B" (.int (0 : Int32)) := D_a (Or.inr (G.1 _ (List.mem_of_getElem? (i := 9) rfl))) (ty := .byte) (by decide)
  have hge : n0 ≤ a := by rw [g_a]; exact Old_le O
  have K1 : Keep h0 h26 [] := Keep.of_ext Eh26
  replace O := Old_k0 O K1
  refine w_dup (q := 17) C rfl d51_16 rfl ?_
  refine w_iloadN (q := 18) C rfl d51_17 rfl ?_
  refine w_callS (q := 21) (argsL := [(.int ch)]) (S := [(.ref a), (.ref a)]) (W := 2) (cells' := 2) (slots' := 5) C (G.1 _ (List.mem_of_getElem? (i := 279) rfl)) (G.1 _ (List.mem_of_getElem? (i := 280) rfl)) (G.1 _ (List.mem_of_getElem? (i := 206) rfl)) (G.1 _ (List.mem_of_getElem? (i := 281) rfl)) (by decide) (rm_toBytesC G O ch) rfl (lenOf pd_43 rfl) rfl (by decide) (own_leb rfl) (by decide) rfl rfl (by decide) (by decide) d51_18 rfl ?_
  rintro _ h27 ⟨Kh27, t, rfl, hg, B⟩
  show AtW p l e _ s m _ below meth c n0 _ h27 2 5 (mkF m 21 #[.val (.int ch)] [(.ref t), (.ref a), (.ref a)])
  replace O := Old_k0 O Kh27
  have hne : t ≠ a := Ne.symm (Nat.ne_of_lt (Nat.lt_of_lt_of_le A_a.lt hg))
  refine w_iconst (q := 22) (v := (0 : Int32)) C (by rfl) d51_21 rfl ?_
  refine w_callI (q := 25) (argsL := [(.ref t), (.int (0 : Int32))]) (S := [(.ref a)]) (W := 1) (cells' := 2) (slots' := 5) (a := a) C rfl (G.1 _ (List.mem_of_getElem? (i := 282) rfl)) (G.1 _ (List.mem_of_getElem? (i := 283) rfl)) (G.1 _ (List.mem_of_getElem? (i := 5) rfl)) (G.1 _ (List.mem_of_getElem? (i := 284) rfl)) (by decide) (rm_initBB G O a t 0 (Exa_k0 A_a Kh27) (Fld_k0 F_value_a Kh27) (Fld_k0 F_coder_a Kh27) hge (Or.inl rfl)) rfl (lenOf pd_44 rfl) rfl (by decide) (own_leb rfl) (by decide) rfl rfl (by decide) (by decide) d51_22 rfl ?_
  rintro _ h28 ⟨Kh28, rfl, e1, e2, e3⟩
  show AtW p l e _ s m _ below meth c n0 _ h28 2 5 (mkF m 25 #[.val (.int ch)] [(.ref a)])
  exact w_retA C rfl rfl rfl d51_25 (by decide) (by decide) ⟨own_K1 (own_K0 K1 Kh27) Kh28 (Nat.le_of_eq g_a.symm), a, rfl, e1, own_L1c hc (fun c hc => absurd hc List.not_mem_nil), t, e2, e3, B.keep Kh28 (ninS hne nin0)⟩
theorem d15_0 : decode jdk_68_method_71_code 0 = .ok (.getstatic 18, 3) := by decide +kernel
theorem d15_3 : decode jdk_68_method_71_code 3 = .ok (.ifCond .eq 18, 3) := by decide +kernel
theorem d15_6 : decode jdk_68_method_71_code 6 = .ok (.aload_n 0, 1) := by decide +kernel
theorem d15_7 : decode jdk_68_method_71_code 7 = .ok (.getfield 22, 3) := by decide +kernel
theorem d15_10 : decode jdk_68_method_71_code 10 = .ok (.aload_n 1, 1) := by decide +kernel
theorem d15_11 : decode jdk_68_method_71_code 11 = .ok (.invokevirtual 40, 3) := by decide +kernel
theorem d15_14 : decode jdk_68_method_71_code 14 = .ok (.if_icmp .eq 7, 3) := by decide +kernel
theorem d15_17 : decode jdk_68_method_71_code 17 = .ok (.aload_n 0, 1) := by decide +kernel
theorem d15_18 : decode jdk_68_method_71_code 18 = .ok (.invokevirtual 195, 3) := by decide +kernel
theorem d15_21 : decode jdk_68_method_71_code 21 = .ok (.return_, 1) := by decide +kernel
theorem pf15 : plainFor (⟨"java/lang/AbstractStringBuilder", "inflateIfNeededFor", "(Ljava/lang/String;)V"⟩ : MethodName) = true := by first | exact plainFor_of_name (by first | (simp [plainName, overriddenIn]; done) | decide +kernel) | decide +kernel
theorem ef_inflate (m : MethodId) (z0 : Addr) (z1 : Addr) : entryFrame m #[(.ref z0), (.ref z1)] 2 = mkF m 0 #[.val (.ref z0), .val (.ref z1)] [] := by first | rfl | (simp [entryFrame, mkF, argsToLocals, Value.category, *]; done) | rfl
set_option maxRecDepth 65536 in
set_option maxHeartbeats 40000000 in
theorem rm_inflate {l : Launch} {Z : State} {a0 : Array Value} {n0 : Nat} (G : Gl Z a0 n0) {h0 : Heap} (O : Old Z n0 h0) (b : Addr) (t : Addr) (cs : List Int32) (cap : Nat) (a : Addr) (ds : List Int32) (B : Sb Z h0 b t cs cap) (S : Str Z h0 a ds) :
    Ct [] l Z n0 (⟨"java/lang/AbstractStringBuilder", "inflateIfNeededFor", "(Ljava/lang/String;)V"⟩ : MethodName) jdk_68_method_71_code 2 none ({ frames := 1, cells := 0, slots := 0, locals := 13 } : Room) #[(.ref b), (.ref a)] h0 (fun v h => h = h0 ∧ v = none) := by
  refine Ct.intro pf15 ?_
  intro p e s m below meth c C
  refine AtW.cast ?_ (ef_inflate m b a)
  obtain ⟨E, hr, hlc, FC, FN, FV, E2, A⟩ := id B
  obtain ⟨zc, SC, hzc⟩ := G.cs
  refine w_getS (q := 3) (host := "") C (Or.inl (G.1 _ (List.mem_of_getElem? (i := 50) rfl))) Via.refl (SC.ext O.2) d15_0 rfl ?_
  refine w_if_eq_f (q := 6) C d15_3 rfl hzc ?_
  refine w_aloadN (q := 7) C rfl rfl d15_6 rfl ?_
  refine w_getF (q := 10) (host := "") C (Or.inl (G.1 _ (List.mem_of_getElem? (i := 53) rfl))) Via.refl FC d15_7 rfl ?_
  refine w_aloadN (q := 11) C rfl rfl d15_10 rfl ?_
  refine w_callV (q := 14) (argsL := []) (S := [(.int (0 : Int32))]) (W := 1) (cells' := 0) (slots' := 0) (a := a) C S.1 (G.1 _ (List.mem_of_getElem? (i := 101) rfl)) (G.1 _ (List.mem_of_getElem? (i := 78) rfl)) (w_nf C (G.1 _ (List.mem_of_getElem? (i := 80) rfl))) (G.1 _ (List.mem_of_getElem? (i := 80) rfl)) (G.1 _ (List.mem_of_getElem? (i := 79) rfl)) (G.1 _ (List.mem_of_getElem? (i := 5) rfl)) (G.1 _ (List.mem_of_getElem? (i := 81) rfl)) (by decide) (rm_coder G O a ds S) rfl (lenOf pd_9 rfl) rfl (by decide) (own_leb rfl) (by decide) rfl rfl (by decide) (by decide) d15_11 rfl ?_
  rintro _ h29 ⟨eh30, rfl⟩
  rw [eh30]
  show AtW p l e _ s m _ below meth c n0 _ h0 0 0 (mkF m 14 #[.val (.ref b), .val (.ref a)] [(.int (0 : Int32)), (.int (0 : Int32))])
  refine w_icmp_eq_t (q := 21) C d15_14 (by decide) (by decide) (by decide) ?_
  exact w_retV C rfl d15_21 (by decide) (by decide) ⟨rfl, rfl⟩
theorem d16_0 : decode jdk_42_method_147_code 0 = .ok (.aload_n 0, 1) := by decide +kernel
theorem d16_1 : decode jdk_42_method_147_code 1 = .ok (.invokevirtual 335, 3) := by decide +kernel
theorem d16_4 : decode jdk_42_method_147_code 4 = .ok (.iload_n 3, 1) := by decide +kernel
theorem d16_5 : decode jdk_42_method_147_code 5 = .ok (.if_icmp .ne 23, 3) := by decide +kernel
theorem d16_8 : decode jdk_42_method_147_code 8 = .ok (.aload_n 0, 1) := by decide +kernel
theorem d16_9 : decode jdk_42_method_147_code 9 = .ok (.getfield 9, 3) := by decide +kernel
theorem d16_12 : decode jdk_42_method_147_code 12 = .ok (.iconst 0, 1) := by decide +kernel
theorem d16_13 : decode jdk_42_method_147_code 13 = .ok (.aload_n 1, 1) := by decide +kernel
theorem d16_14 : decode jdk_42_method_147_code 14 = .ok (.iload_n 2, 1) := by decide +kernel
theorem d16_15 : decode jdk_42_method_147_code 15 = .ok (.iload_n 3, 1) := by decide +kernel
theorem d16_16 : decode jdk_42_method_147_code 16 = .ok (.ishl, 1) := by decide +kernel
theorem d16_17 : decode jdk_42_method_147_code 17 = .ok (.aload_n 0, 1) := by decide +kernel
theorem d16_18 : decode jdk_42_method_147_code 18 = .ok (.getfield 9, 3) := by decide +kernel
theorem d16_21 : decode jdk_42_method_147_code 21 = .ok (.arraylength, 1) := by decide +kernel
theorem d16_22 : decode jdk_42_method_147_code 22 = .ok (.invokestatic 212, 3) := by decide +kernel
theorem d16_25 : decode jdk_42_method_147_code 25 = .ok (.goto 18, 3) := by decide +kernel
theorem d16_28 : decode jdk_42_method_147_code 28 = .ok (.aload_n 0, 1) := by decide +kernel
theorem d16_29 : decode jdk_42_method_147_code 29 = .ok (.getfield 9, 3) := by decide +kernel
theorem d16_32 : decode jdk_42_method_147_code 32 = .ok (.iconst 0, 1) := by decide +kernel
theorem d16_33 : decode jdk_42_method_147_code 33 = .ok (.aload_n 1, 1) := by decide +kernel
theorem d16_34 : decode jdk_42_method_147_code 34 = .ok (.iload_n 2, 1) := by decide +kernel
theorem d16_35 : decode jdk_42_method_147_code 35 = .ok (.aload_n 0, 1) := by decide +kernel
theorem d16_36 : decode jdk_42_method_147_code 36 = .ok (.getfield 9, 3) := by decide +kernel
theorem d16_39 : decode jdk_42_method_147_code 39 = .ok (.arraylength, 1) := by decide +kernel
theorem d16_40 : decode jdk_42_method_147_code 40 = .ok (.invokestatic 106, 3) := by decide +kernel
theorem d16_43 : decode jdk_42_method_147_code 43 = .ok (.return_, 1) := by decide +kernel
theorem pf16 : plainFor (⟨"java/lang/String", "getBytes", "([BIB)V"⟩ : MethodName) = true := by first | exact plainFor_of_name (by first | (simp [plainName, overriddenIn]; done) | decide +kernel) | decide +kernel
theorem ef_getBytes (m : MethodId) (z0 : Addr) (z1 : Addr) (z2 : Int32) (z3 : Int32) : entryFrame m #[(.ref z0), (.ref z1), (.int z2), (.int z3)] 4 = mkF m 0 #[.val (.ref z0), .val (.ref z1), .val (.int z2), .val (.int z3)] [] := by first | rfl | (simp [entryFrame, mkF, argsToLocals, Value.category, *]; done) | rfl
set_option maxRecDepth 65536 in
set_option maxHeartbeats 40000000 in
theorem rm_getBytes {l : Launch} {Z : State} {a0 : Array Value} {n0 : Nat} (G : Gl Z a0 n0) {h0 : Heap} (O : Old Z n0 h0) (a : Addr) (ds : List Int32) (t : Addr) (vd : List Value) (k : Nat) (S : Str Z h0 a ds) (B : Ar Z h0 t .byte vd) (hk : k + ds.length ≤ vd.length) (hge : n0 ≤ t) :
    Ct [] l Z n0 (⟨"java/lang/String", "getBytes", "([BIB)V"⟩ : MethodName) jdk_42_method_147_code 4 none ({ frames := 1, cells := 0, slots := 0, locals := 18 } : Room) #[(.ref a), (.ref t), (.int (Int32.ofNat k)), (.int (0 : Int32))] h0 (fun v h => Keep h0 h [t] ∧ v = none ∧ Ar Z h t .byte (vd.take k ++ own_bs ds ++ vd.drop (k + ds.length))) := by
  refine Ct.intro pf16 ?_
  intro p e s m below meth c C
  refine AtW.cast ?_ (ef_getBytes m a t (Int32.ofNat k) (0 : Int32))
  obtain ⟨E, hr, ts, FC, FV, A⟩ := id S
  refine w_aloadN (q := 1) C rfl rfl d16_0 rfl ?_
  refine w_callV (q := 4) (argsL := []) (S := []) (W := 0) (cells' := 0) (slots' := 0) (a := a) C E (G.1 _ (List.mem_of_getElem? (i := 77) rfl)) (G.1 _ (List.mem_of_getElem? (i := 78) rfl)) (w_nf C (G.1 _ (List.mem_of_getElem? (i := 80) rfl))) (G.1 _ (List.mem_of_getElem? (i := 80) rfl)) (G.1 _ (List.mem_of_getElem? (i := 79) rfl)) (G.1 _ (List.mem_of_getElem? (i := 5) rfl)) (G.1 _ (List.mem_of_getElem? (i := 81) rfl)) (by decide) (rm_coder G O a ds S) rfl (lenOf pd_9 rfl) rfl (by decide) (own_leb rfl) (by decide) rfl rfl (by decide) (by decide) d16_1 rfl ?_
  rintro _ h31 ⟨eh32, rfl⟩
  rw [eh32]
  show AtW p l e _ s m _ below meth c n0 _ h0 0 0 (mkF m 4 #[.val (.ref a), .val (.ref t), .val (.int (Int32.ofNat k)), .val (.int (0 : Int32))] [(.int (0 : Int32))])
  refine w_iloadN (q := 5) C rfl d16_4 rfl ?_
  refine w_icmp_ne_f (q := 8) C d16_5 rfl (by decide) ?_
  refine w_aloadN (q := 9) C rfl rfl d16_8 rfl ?_
  refine w_getF (q := 12) (host := "") C (Or.inl (G.1 _ (List.mem_of_getElem? (i := 76) rfl))) Via.refl FV d16_9 rfl ?_
  refine w_iconst (q := 13) (v := (0 : Int32)) C (by rfl) d16_12 rfl ?_
  refine w_aloadN (q := 14) C rfl rfl d16_13 rfl ?_
  refine w_iloadN (q := 15) C rfl d16_14 rfl ?_
  refine w_iloadN (q := 16) C rfl d16_15 rfl ?_
  refine w_ishl (q := 17) C rfl d16_16 rfl ?_
  rw [show ((Int32.ofNat k) <<< ((0 : Int32) &&& 31)) = (Int32.ofNat k) from own_shl0 _]
  refine w_aloadN (q := 18) C rfl rfl d16_17 rfl ?_
  refine w_getF (q := 21) (host := "") C (Or.inl (G.1 _ (List.mem_of_getElem? (i := 76) rfl))) Via.refl FV d16_18 rfl ?_
  refine w_len (q := 22) (z := (Int32.ofNat ds.length)) C A (by rw [own_bs_len]) d16_21 rfl ?_
  refine w_copy (q := 25) (S := []) (sp := 0) (dp := k) (nn := ds.length) (W := 0) C (G.1 _ (List.mem_of_getElem? (i := 107) rfl)) (G.1 _ (List.mem_of_getElem? (i := 110) rfl)) (G.1 _ (List.mem_of_getElem? (i := 108) rfl)) (G.1 _ (List.mem_of_getElem? (i := 109) rfl)) A B rfl (by rw [own_bs_len]; omega) hk hge rfl (by decide) (own_leb rfl) (by decide) rfl d16_22 rfl ?_
  intro h33 Kh33 Vh33
  refine w_goto (q := 43) C d16_25 (by decide) (by decide) ?_
  exact w_retV C rfl d16_43 (by decide) (by decide) ⟨Kh33, rfl, by simpa [own_bs_len, List.take_of_length_le] using Vh33⟩
theorem d14_0 : decode jdk_68_method_73_code 0 = .ok (.aload_n 0, 1) := by decide +kernel
theorem d14_1 : decode jdk_68_method_73_code 1 = .ok (.aload_n 2, 1) := by decide +kernel
theorem d14_2 : decode jdk_68_method_73_code 2 = .ok (.invokevirtual 397, 3) := by decide +kernel
theorem d14_5 : decode jdk_68_method_73_code 5 = .ok (.aload_n 2, 1) := by decide +kernel
theorem d14_6 : decode jdk_68_method_73_code 6 = .ok (.aload_n 0, 1) := by decide +kernel
theorem d14_7 : decode jdk_68_method_73_code 7 = .ok (.getfield 15, 3) := by decide +kernel
theorem d14_10 : decode jdk_68_method_73_code 10 = .ok (.iload_n 1, 1) := by decide +kernel
theorem d14_11 : decode jdk_68_method_73_code 11 = .ok (.aload_n 0, 1) := by decide +kernel
theorem d14_12 : decode jdk_68_method_73_code 12 = .ok (.getfield 22, 3) := by decide +kernel
theorem d14_15 : decode jdk_68_method_73_code 15 = .ok (.invokevirtual 399, 3) := by decide +kernel
theorem d14_18 : decode jdk_68_method_73_code 18 = .ok (.return_, 1) := by decide +kernel
theorem pf14 : plainFor (⟨"java/lang/AbstractStringBuilder", "putStringAt", "(ILjava/lang/String;)V"⟩ : MethodName) = true := by first | exact plainFor_of_name (by first | (simp [plainName, overriddenIn]; done) | decide +kernel) | decide +kernel
theorem ef_putStr (m : MethodId) (z0 : Addr) (z1 : Int32) (z2 : Addr) : entryFrame m #[(.ref z0), (.int z1), (.ref z2)] 3 = mkF m 0 #[.val (.ref z0), .val (.int z1), .val (.ref z2)] [] := by first | rfl | (simp [entryFrame, mkF, argsToLocals, Value.category, *]; done) | rfl
set_option maxRecDepth 65536 in
set_option maxHeartbeats 40000000 in
theorem rm_putStr {l : Launch} {Z : State} {a0 : Array Value} {n0 : Nat} (G : Gl Z a0 n0) {h0 : Heap} (O : Old Z n0 h0) (b : Addr) (t : Addr) (cs : List Int32) (cap : Nat) (a : Addr) (ds : List Int32) (B : Sb Z h0 b t cs cap) (S : Str Z h0 a ds) (hfit : cs.length + ds.length ≤ cap) (hge : n0 ≤ t) :
    Ct [] l Z n0 (⟨"java/lang/AbstractStringBuilder", "putStringAt", "(ILjava/lang/String;)V"⟩ : MethodName) jdk_68_method_73_code 3 none ({ frames := 2, cells := 0, slots := 0, locals := 33 } : Room) #[(.ref b), (.int (Int32.ofNat cs.length)), (.ref a)] h0 (fun v h => Keep h0 h [t] ∧ v = none ∧ Ar Z h t .byte (own_bs (cs ++ ds) ++ List.replicate (cap - (cs ++ ds).length) (Value.int (0 : Int32)))) := by
  refine Ct.intro pf14 ?_
  intro p e s m below meth c C
  refine AtW.cast ?_ (ef_putStr m b (Int32.ofNat cs.length) a)
  obtain ⟨E, hr, hlc, FC, FN, FV, E2, A⟩ := id B
  refine w_aloadN (q := 1) C rfl rfl d14_0 rfl ?_
  refine w_aloadN (q := 2) C rfl rfl d14_1 rfl ?_
  refine w_callP (q := 5) (argsL := [(.ref a)]) (S := []) (W := 0) (cells' := 0) (slots' := 0) (a := b) C E (G.1 _ (List.mem_of_getElem? (i := 96) rfl)) (G.1 _ (List.mem_of_getElem? (i := 97) rfl)) (NI.of_sel (args := #[]) (z := ({ cls := "java/lang/AbstractStringBuilder", name := "ensureCapacityInternal", desc := "(I)V" } : Jvm.MethodName)) (mvT C.2.2.2.1 (G.1 _ (List.mem_of_getElem? (i := 89) rfl)))) (G.1 _ (List.mem_of_getElem? (i := 98) rfl)) (G.1 _ (List.mem_of_getElem? (i := 47) rfl)) (G.1 _ (List.mem_of_getElem? (i := 100) rfl)) (by decide) (rm_inflate G O b t cs cap a ds B S) rfl (lenOf pd_11 rfl) rfl (by decide) (own_leb rfl) (by decide) rfl rfl (by decide) (by decide) d14_2 rfl ?_
  rintro _ h34 ⟨eh35, rfl⟩
  rw [eh35]
  show AtW p l e _ s m _ below meth c n0 _ h0 0 0 (mkF m 5 #[.val (.ref b), .val (.int (Int32.ofNat cs.length)), .val (.ref a)] [])
  refine w_aloadN (q := 6) C rfl rfl d14_5 rfl ?_
  refine w_aloadN (q := 7) C rfl rfl d14_6 rfl ?_
  refine w_getF (q := 10) (host := "") C (Or.inl (G.1 _ (List.mem_of_getElem? (i := 51) rfl))) Via.refl FV d14_7 rfl ?_
  refine w_iloadN (q := 11) C rfl d14_10 rfl ?_
  refine w_aloadN (q := 12) C rfl rfl d14_11 rfl ?_
  refine w_getF (q := 15) (host := "") C (Or.inl (G.1 _ (List.mem_of_getElem? (i := 53) rfl))) Via.refl FC d14_12 rfl ?_
  refine w_callV (q := 18) (argsL := [(.ref t), (.int (Int32.ofNat cs.length)), (.int (0 : Int32))]) (S := []) (W := 0) (cells' := 0) (slots' := 0) (a := a) C S.1 (G.1 _ (List.mem_of_getElem? (i := 102) rfl)) (G.1 _ (List.mem_of_getElem? (i := 103) rfl)) (w_nf C (G.1 _ (List.mem_of_getElem? (i := 105) rfl))) (G.1 _ (List.mem_of_getElem? (i := 105) rfl)) (G.1 _ (List.mem_of_getElem? (i := 104) rfl)) (G.1 _ (List.mem_of_getElem? (i := 5) rfl)) (G.1 _ (List.mem_of_getElem? (i := 106) rfl)) (by decide) (rm_getBytes G O a ds t _ cs.length S A (by simp only [List.length_append, own_bs_len, List.length_replicate]; omega) hge) rfl (lenOf pd_12 rfl) rfl (by decide) (own_leb rfl) (by decide) rfl rfl (by decide) (by decide) d14_15 rfl ?_
  rintro _ h36 ⟨Kh36, rfl, V⟩
  show AtW p l e _ s m _ below meth c n0 _ h36 0 0 (mkF m 18 #[.val (.ref b), .val (.int (Int32.ofNat cs.length)), .val (.ref a)] [])
  exact w_retV C rfl d14_18 (by decide) (by decide) ⟨Kh36, rfl, by rw [← own_appd cs ds cap hfit]; exact V⟩
theorem d49_0 : decode jdk_29_method_65_code 0 = .ok (.iload_n 0, 1) := by decide +kernel
theorem d49_1 : decode jdk_29_method_65_code 1 = .ok (.iload_n 1, 1) := by decide +kernel
theorem d49_2 : decode jdk_29_method_65_code 2 = .ok (.if_icmp .lt 7, 3) := by decide +kernel
theorem d49_5 : decode jdk_29_method_65_code 5 = .ok (.iload_n 0, 1) := by decide +kernel
theorem d49_6 : decode jdk_29_method_65_code 6 = .ok (.goto 4, 3) := by decide +kernel
theorem d49_9 : decode jdk_29_method_65_code 9 = .ok (.iload_n 1, 1) := by decide +kernel
theorem d49_10 : decode jdk_29_method_65_code 10 = .ok (.ireturn, 1) := by decide +kernel
theorem pf49 : plainFor (⟨"java/lang/Math", "max", "(II)I"⟩ : MethodName) = true := by first | exact plainFor_of_name (by first | (simp [plainName, overriddenIn]; done) | decide +kernel) | decide +kernel
theorem ef_mmax (m : MethodId) (z0 : Int32) (z1 : Int32) : entryFrame m #[(.int z0), (.int z1)] 2 = mkF m 0 #[.val (.int z0), .val (.int z1)] [] := by first | rfl | (simp [entryFrame, mkF, argsToLocals, Value.category, *]; done) | rfl
set_option maxRecDepth 65536 in
set_option maxHeartbeats 40000000 in
theorem rm_mmax {l : Launch} {Z : State} {a0 : Array Value} {n0 : Nat} (G : Gl Z a0 n0) {h0 : Heap} (O : Old Z n0 h0) (x : Int32) (y : Int32) :
    Ct [] l Z n0 (⟨"java/lang/Math", "max", "(II)I"⟩ : MethodName) jdk_29_method_65_code 2 (some .int) ({ frames := 0, cells := 0, slots := 0, locals := 0 } : Room) #[(.int x), (.int y)] h0 (fun v h => h = h0 ∧ v = some (.int (if x < y then y else x))) := by
  refine Ct.intro pf49 ?_
  intro p e s m below meth c C
  refine AtW.cast ?_ (ef_mmax m x y)
  refine w_iloadN (q := 1) C rfl d49_0 rfl ?_
  refine w_iloadN (q := 2) C rfl d49_1 rfl ?_
  by_cases hc : x < y
  · refine w_icmp_lt_t (q := 9) C d49_2 (by decide) (by decide) hc ?_
    refine w_iloadN (q := 10) C rfl d49_9 rfl ?_
    exact w_retI C rfl d49_10 (by decide) (by decide) ⟨rfl, by rw [if_pos hc]⟩
  · refine w_icmp_lt_f (q := 5) C d49_2 rfl hc ?_
    refine w_iloadN (q := 6) C rfl d49_5 rfl ?_
    refine w_goto (q := 10) C d49_6 (by decide) (by decide) ?_
    exact w_retI C rfl d49_10 (by decide) (by decide) ⟨rfl, by rw [if_neg hc]⟩
theorem d48_0 : decode jdk_48_method_27_code 0 = .ok (.iload_n 0, 1) := by decide +kernel
theorem d48_1 : decode jdk_48_method_27_code 1 = .ok (.iload_n 1, 1) := by decide +kernel
theorem d48_2 : decode jdk_48_method_27_code 2 = .ok (.iload_n 2, 1) := by decide +kernel
theorem d48_3 : decode jdk_48_method_27_code 3 = .ok (.invokestatic 194, 3) := by decide +kernel
theorem d48_6 : decode jdk_48_method_27_code 6 = .ok (.iadd, 1) := by decide +kernel
theorem d48_7 : decode jdk_48_method_27_code 7 = .ok (.istore_n 3, 1) := by decide +kernel
theorem d48_8 : decode jdk_48_method_27_code 8 = .ok (.iconst 0, 1) := by decide +kernel
theorem d48_9 : decode jdk_48_method_27_code 9 = .ok (.iload_n 3, 1) := by decide +kernel
theorem d48_10 : decode jdk_48_method_27_code 10 = .ok (.if_icmp .ge 11, 3) := by decide +kernel
theorem d48_13 : decode jdk_48_method_27_code 13 = .ok (.iload_n 3, 1) := by decide +kernel
theorem d48_14 : decode jdk_48_method_27_code 14 = .ok (.ldc 200, 2) := by decide +kernel
theorem d48_16 : decode jdk_48_method_27_code 16 = .ok (.if_icmp .gt 5, 3) := by decide +kernel
theorem d48_19 : decode jdk_48_method_27_code 19 = .ok (.iload_n 3, 1) := by decide +kernel
theorem d48_20 : decode jdk_48_method_27_code 20 = .ok (.ireturn, 1) := by decide +kernel
theorem d48_21 : decode jdk_48_method_27_code 21 = .ok (.iload_n 0, 1) := by decide +kernel
theorem d48_22 : decode jdk_48_method_27_code 22 = .ok (.iload_n 1, 1) := by decide +kernel
theorem d48_23 : decode jdk_48_method_27_code 23 = .ok (.invokestatic 201, 3) := by decide +kernel
theorem d48_26 : decode jdk_48_method_27_code 26 = .ok (.ireturn, 1) := by decide +kernel
theorem pf48 : plainFor (⟨"jdk/internal/util/ArraysSupport", "newLength", "(III)I"⟩ : MethodName) = true := by first | exact plainFor_of_name (by first | (simp [plainName, overriddenIn]; done) | decide +kernel) | decide +kernel
theorem ef_newLen (m : MethodId) (z0 : Int32) (z1 : Int32) (z2 : Int32) : entryFrame m #[(.int z0), (.int z1), (.int z2)] 4 = mkF m 0 #[.val (.int z0), .val (.int z1), .val (.int z2), .unset] [] := by first | rfl | (simp [entryFrame, mkF, argsToLocals, Value.category, *]; done) | rfl
set_option maxRecDepth 65536 in
set_option maxHeartbeats 40000000 in
theorem rm_newLen {l : Launch} {Z : State} {a0 : Array Value} {n0 : Nat} (G : Gl Z a0 n0) {h0 : Heap} (O : Old Z n0 h0) (x : Nat) (g : Nat) (pg : Nat) (hg : g ≤ pg) (hp : 0 < pg) (hx : x + pg < 1000000000) :
    Ct [] l Z n0 (⟨"jdk/internal/util/ArraysSupport", "newLength", "(III)I"⟩ : MethodName) jdk_48_method_27_code 4 (some .int) ({ frames := 1, cells := 0, slots := 0, locals := 14 } : Room) #[(.int (Int32.ofNat x)), (.int (Int32.ofNat g)), (.int (Int32.ofNat pg))] h0 (fun v h => h = h0 ∧ v = some (.int (Int32.ofNat (x + pg)))) := by
  refine Ct.intro pf48 ?_
  intro p e s m below meth c C
  refine AtW.cast ?_ (ef_newLen m (Int32.ofNat x) (Int32.ofNat g) (Int32.ofNat pg))
  refine w_iloadN (q := 1) C rfl d48_0 rfl ?_
  refine w_iloadN (q := 2) C rfl d48_1 rfl ?_
  refine w_iloadN (q := 3) C rfl d48_2 rfl ?_
  refine w_callS (q := 6) (argsL := [(.int (Int32.ofNat g)), (.int (Int32.ofNat pg))]) (S := [(.int (Int32.ofNat x))]) (W := 1) (cells' := 0) (slots' := 0) C (G.1 _ (List.mem_of_getElem? (i := 264) rfl)) (G.1 _ (List.mem_of_getElem? (i := 265) rfl)) (G.1 _ (List.mem_of_getElem? (i := 174) rfl)) (G.1 _ (List.mem_of_getElem? (i := 266) rfl)) (by decide) (rm_mmax G O _ _) rfl (lenOf pd_24 rfl) rfl (by decide) (own_leb rfl) (by decide) rfl rfl (by decide) (by decide) d48_3 rfl ?_
  rintro _ h37 ⟨eh38, rfl⟩
  rw [eh38]
  show AtW p l e _ s m _ below meth c n0 _ h0 0 0 (mkF m 6 #[.val (.int (Int32.ofNat x)), .val (.int (Int32.ofNat g)), .val (.int (Int32.ofNat pg)), .unset] [(.int (if (Int32.ofNat g) < (Int32.ofNat pg) then (Int32.ofNat pg) else (Int32.ofNat g))), (.int (Int32.ofNat x))])
  rw [show (if (Int32.ofNat g) < (Int32.ofNat pg) then (Int32.ofNat pg) else (Int32.ofNat g)) = (Int32.ofNat pg) from by split; rfl; rename_i q; rw [own_nlt (by omega) (by omega)] at q; congr 1; omega]
  refine w_iadd (q := 7) C rfl d48_6 rfl ?_
  rw [show ((Int32.ofNat x) + (Int32.ofNat pg)) = (Int32.ofNat (x + pg)) from own_add x pg]
  refine w_istoreN (q := 8) (L' := #[.val (.int (Int32.ofNat x)), .val (.int (Int32.ofNat g)), .val (.int (Int32.ofNat pg)), .val (.int (Int32.ofNat (x + pg)))]) C rfl d48_7 rfl ?_
  refine w_iconst (q := 9) (v := (0 : Int32)) C (by rfl) d48_8 rfl ?_
  refine w_iloadN (q := 10) C rfl d48_9 rfl ?_
  refine w_icmp_ge_f (q := 13) C d48_10 rfl ((own_nlt (i := 0) (by omega) (by omega)).mpr (by omega)) ?_
  refine w_iloadN (q := 14) C rfl d48_13 rfl ?_
  refine w_ldcI (q := 16) C (G.1 _ (List.mem_of_getElem? (i := 267) rfl)) d48_14 rfl ?_
  refine w_icmp_gt_f (q := 19) C d48_16 rfl (by rw [own_lt, own_nat (by omega)]; have e : (2147483639 : Int32).toInt = 2147483639 := rfl; omega) ?_
  refine w_iloadN (q := 20) C rfl d48_19 rfl ?_
  exact w_retI C rfl d48_20 (by decide) (by decide) ⟨rfl, rfl⟩
theorem d47_0 : decode jdk_68_method_10_code 0 = .ok (.aload_n 0, 1) := by decide +kernel
theorem d47_1 : decode jdk_68_method_10_code 1 = .ok (.getfield 15, 3) := by decide +kernel
theorem d47_4 : decode jdk_68_method_10_code 4 = .ok (.arraylength, 1) := by decide +kernel
theorem d47_5 : decode jdk_68_method_10_code 5 = .ok (.istore_n 2, 1) := by decide +kernel
theorem d47_6 : decode jdk_68_method_10_code 6 = .ok (.iload_n 1, 1) := by decide +kernel
theorem d47_7 : decode jdk_68_method_10_code 7 = .ok (.aload_n 0, 1) := by decide +kernel
theorem d47_8 : decode jdk_68_method_10_code 8 = .ok (.getfield 22, 3) := by decide +kernel
theorem d47_11 : decode jdk_68_method_10_code 11 = .ok (.ishl, 1) := by decide +kernel
theorem d47_12 : decode jdk_68_method_10_code 12 = .ok (.istore_n 3, 1) := by decide +kernel
theorem d47_13 : decode jdk_68_method_10_code 13 = .ok (.iload_n 3, 1) := by decide +kernel
theorem d47_14 : decode jdk_68_method_10_code 14 = .ok (.iload_n 2, 1) := by decide +kernel
theorem d47_15 : decode jdk_68_method_10_code 15 = .ok (.isub, 1) := by decide +kernel
theorem d47_16 : decode jdk_68_method_10_code 16 = .ok (.istore 4, 2) := by decide +kernel
theorem d47_18 : decode jdk_68_method_10_code 18 = .ok (.iload_n 2, 1) := by decide +kernel
theorem d47_19 : decode jdk_68_method_10_code 19 = .ok (.iload 4, 2) := by decide +kernel
theorem d47_21 : decode jdk_68_method_10_code 21 = .ok (.iload_n 2, 1) := by decide +kernel
theorem d47_22 : decode jdk_68_method_10_code 22 = .ok (.iconst 2, 1) := by decide +kernel
theorem d47_23 : decode jdk_68_method_10_code 23 = .ok (.aload_n 0, 1) := by decide +kernel
theorem d47_24 : decode jdk_68_method_10_code 24 = .ok (.getfield 22, 3) := by decide +kernel
theorem d47_27 : decode jdk_68_method_10_code 27 = .ok (.ishl, 1) := by decide +kernel
theorem d47_28 : decode jdk_68_method_10_code 28 = .ok (.iadd, 1) := by decide +kernel
theorem d47_29 : decode jdk_68_method_10_code 29 = .ok (.invokestatic 114, 3) := by decide +kernel
theorem d47_32 : decode jdk_68_method_10_code 32 = .ok (.istore 5, 2) := by decide +kernel
theorem d47_34 : decode jdk_68_method_10_code 34 = .ok (.iload 5, 2) := by decide +kernel
theorem d47_36 : decode jdk_68_method_10_code 36 = .ok (.ldc 39, 2) := by decide +kernel
theorem d47_38 : decode jdk_68_method_10_code 38 = .ok (.if_icmp .ne 13, 3) := by decide +kernel
theorem d47_41 : decode jdk_68_method_10_code 41 = .ok (.new 120, 3) := by decide +kernel
theorem d47_44 : decode jdk_68_method_10_code 44 = .ok (.dup, 1) := by decide +kernel
theorem d47_45 : decode jdk_68_method_10_code 45 = .ok (.ldc 122, 2) := by decide +kernel
theorem d47_47 : decode jdk_68_method_10_code 47 = .ok (.invokespecial 124, 3) := by decide +kernel
theorem d47_50 : decode jdk_68_method_10_code 50 = .ok (.athrow, 1) := by decide +kernel
theorem d47_51 : decode jdk_68_method_10_code 51 = .ok (.iload 5, 2) := by decide +kernel
theorem d47_53 : decode jdk_68_method_10_code 53 = .ok (.aload_n 0, 1) := by decide +kernel
theorem d47_54 : decode jdk_68_method_10_code 54 = .ok (.getfield 22, 3) := by decide +kernel
theorem d47_57 : decode jdk_68_method_10_code 57 = .ok (.ishr, 1) := by decide +kernel
theorem d47_58 : decode jdk_68_method_10_code 58 = .ok (.ireturn, 1) := by decide +kernel
theorem pf47 : plainFor (⟨"java/lang/AbstractStringBuilder", "newCapacity", "(I)I"⟩ : MethodName) = true := by first | exact plainFor_of_name (by first | (simp [plainName, overriddenIn]; done) | decide +kernel) | decide +kernel
theorem ef_newCap (m : MethodId) (z0 : Addr) (z1 : Int32) : entryFrame m #[(.ref z0), (.int z1)] 6 = mkF m 0 #[.val (.ref z0), .val (.int z1), .unset, .unset, .unset, .unset] [] := by first | rfl | (simp [entryFrame, mkF, argsToLocals, Value.category, *]; done) | rfl
set_option maxRecDepth 65536 in
set_option maxHeartbeats 40000000 in
theorem rm_newCap {l : Launch} {Z : State} {a0 : Array Value} {n0 : Nat} (G : Gl Z a0 n0) {h0 : Heap} (O : Old Z n0 h0) (b : Addr) (t : Addr) (cs : List Int32) (cap : Nat) (mn : Nat) (B : Sb Z h0 b t cs cap) (hmn : cap < mn) (hmx : mn ≤ 2 * cap + 2) (hc9 : cap < 100000) :
    Ct [] l Z n0 (⟨"java/lang/AbstractStringBuilder", "newCapacity", "(I)I"⟩ : MethodName) jdk_68_method_10_code 6 (some .int) ({ frames := 2, cells := 0, slots := 0, locals := 29 } : Room) #[(.ref b), (.int (Int32.ofNat mn))] h0 (fun v h => h = h0 ∧ v = some (.int (Int32.ofNat (2 * cap + 2)))) := by
  refine Ct.intro pf47 ?_
  intro p e s m below meth c C
  refine AtW.cast ?_ (ef_newCap m b (Int32.ofNat mn))
  obtain ⟨E, hr, hlc, FC, FN, FV, E2, A⟩ := id B
  refine w_aloadN (q := 1) C rfl rfl d47_0 rfl ?_
  refine w_getF (q := 4) (host := "") C (Or.inl (G.1 _ (List.mem_of_getElem? (i := 51) rfl))) Via.refl FV d47_1 rfl ?_
  refine w_len (q := 5) (z := (Int32.ofNat cap)) C A (by simp only [List.length_append, own_bs_len, List.length_replicate]; congr 1; omega) d47_4 rfl ?_
  refine w_istoreN (q := 6) (L' := #[.val (.ref b), .val (.int (Int32.ofNat mn)), .val (.int (Int32.ofNat cap)), .unset, .unset, .unset]) C rfl d47_5 rfl ?_
  refine w_iloadN (q := 7) C rfl d47_6 rfl ?_
  refine w_aloadN (q := 8) C rfl rfl d47_7 rfl ?_
  refine w_getF (q := 11) (host := "") C (Or.inl (G.1 _ (List.mem_of_getElem? (i := 53) rfl))) Via.refl FC d47_8 rfl ?_
  refine w_ishl (q := 12) C rfl d47_11 rfl ?_
  rw [show ((Int32.ofNat mn) <<< ((0 : Int32) &&& 31)) = (Int32.ofNat mn) from own_shl0 _]
  refine w_istoreN (q := 13) (L' := #[.val (.ref b), .val (.int (Int32.ofNat mn)), .val (.int (Int32.ofNat cap)), .val (.int (Int32.ofNat mn)), .unset, .unset]) C rfl d47_12 rfl ?_
  refine w_iloadN (q := 14) C rfl d47_13 rfl ?_
  refine w_iloadN (q := 15) C rfl d47_14 rfl ?_
  refine w_isub (q := 16) C rfl d47_15 rfl ?_
  rw [show ((Int32.ofNat mn) - (Int32.ofNat cap)) = (Int32.ofNat (mn - cap)) from own_sub (by omega)]
  refine w_istore (q := 18) (L' := #[.val (.ref b), .val (.int (Int32.ofNat mn)), .val (.int (Int32.ofNat cap)), .val (.int (Int32.ofNat mn)), .val (.int (Int32.ofNat (mn - cap))), .unset]) C rfl d47_16 rfl ?_
  refine w_iloadN (q := 19) C rfl d47_18 rfl ?_
  refine w_iload (q := 21) C rfl d47_19 rfl ?_
  refine w_iloadN (q := 22) C rfl d47_21 rfl ?_
  refine w_iconst (q := 23) (v := (2 : Int32)) C (by rfl) d47_22 rfl ?_
  refine w_aloadN (q := 24) C rfl rfl d47_23 rfl ?_
  refine w_getF (q := 27) (host := "") C (Or.inl (G.1 _ (List.mem_of_getElem? (i := 53) rfl))) Via.refl FC d47_24 rfl ?_
  refine w_ishl (q := 28) (z := (2 : Int32)) C (by decide) d47_27 rfl ?_
  refine w_iadd (q := 29) C rfl d47_28 rfl ?_
  rw [show ((Int32.ofNat cap) + (2 : Int32)) = (Int32.ofNat (cap + 2)) from own_add cap 2]
  refine w_callS (q := 32) (argsL := [(.int (Int32.ofNat cap)), (.int (Int32.ofNat (mn - cap))), (.int (Int32.ofNat (cap + 2)))]) (S := []) (W := 0) (cells' := 0) (slots' := 0) C (G.1 _ (List.mem_of_getElem? (i := 260) rfl)) (G.1 _ (List.mem_of_getElem? (i := 261) rfl)) (G.1 _ (List.mem_of_getElem? (i := 262) rfl)) (G.1 _ (List.mem_of_getElem? (i := 263) rfl)) (by decide) (rm_newLen G O cap (mn - cap) (cap + 2) (by omega) (by omega) (by omega)) rfl (lenOf pd_39 rfl) rfl (by decide) (own_leb rfl) (by decide) rfl rfl (by decide) (by decide) d47_29 rfl ?_
  rintro _ h39 ⟨eh40, rfl⟩
  rw [eh40]
  show AtW p l e _ s m _ below meth c n0 _ h0 0 0 (mkF m 32 #[.val (.ref b), .val (.int (Int32.ofNat mn)), .val (.int (Int32.ofNat cap)), .val (.int (Int32.ofNat mn)), .val (.int (Int32.ofNat (mn - cap))), .unset] [(.int (Int32.ofNat (cap + (cap + 2))))])
  refine w_istore (q := 34) (L' := #[.val (.ref b), .val (.int (Int32.ofNat mn)), .val (.int (Int32.ofNat cap)), .val (.int (Int32.ofNat mn)), .val (.int (Int32.ofNat (mn - cap))), .val (.int (Int32.ofNat (cap + (cap + 2))))]) C rfl d47_32 rfl ?_
  refine w_iload (q := 36) C rfl d47_34 rfl ?_
  refine w_ldcI (q := 38) C (G.1 _ (List.mem_of_getElem? (i := 268) rfl)) d47_36 rfl ?_
  refine w_icmp_ne_t (q := 51) C d47_38 (by decide) (by decide) (by rw [own_eq, own_nat (by omega)]; have e : (2147483647 : Int32).toInt = 2147483647 := rfl; omega) ?_
  refine w_iload (q := 53) C rfl d47_51 rfl ?_
  refine w_aloadN (q := 54) C rfl rfl d47_53 rfl ?_
  refine w_getF (q := 57) (host := "") C (Or.inl (G.1 _ (List.mem_of_getElem? (i := 53) rfl))) Via.refl FC d47_54 rfl ?_
  refine w_ishr (q := 58) C rfl d47_57 rfl ?_
  rw [show ((Int32.ofNat (cap + (cap + 2))) >>> ((0 : Int32) &&& 31)) = (Int32.ofNat (2 * cap + 2)) from (own_shr0 _).trans (by congr 1; omega)]
  exact w_retI C rfl d47_58 (by decide) (by decide) ⟨rfl, rfl⟩
theorem d31_0 : decode jdk_29_method_69_code 0 = .ok (.iload_n 0, 1) := by decide +kernel
theorem d31_1 : decode jdk_29_method_69_code 1 = .ok (.iload_n 1, 1) := by decide +kernel
theorem d31_2 : decode jdk_29_method_69_code 2 = .ok (.if_icmp .gt 7, 3) := by decide +kernel
theorem d31_5 : decode jdk_29_method_69_code 5 = .ok (.iload_n 0, 1) := by decide +kernel
theorem d31_6 : decode jdk_29_method_69_code 6 = .ok (.goto 4, 3) := by decide +kernel
theorem d31_9 : decode jdk_29_method_69_code 9 = .ok (.iload_n 1, 1) := by decide +kernel
theorem d31_10 : decode jdk_29_method_69_code 10 = .ok (.ireturn, 1) := by decide +kernel
theorem pf31 : plainFor (⟨"java/lang/Math", "min", "(II)I"⟩ : MethodName) = true := by first | exact plainFor_of_name (by first | (simp [plainName, overriddenIn]; done) | decide +kernel) | decide +kernel
theorem ef_mmin (m : MethodId) (z0 : Int32) (z1 : Int32) : entryFrame m #[(.int z0), (.int z1)] 2 = mkF m 0 #[.val (.int z0), .val (.int z1)] [] := by first | rfl | (simp [entryFrame, mkF, argsToLocals, Value.category, *]; done) | rfl
set_option maxRecDepth 65536 in
set_option maxHeartbeats 40000000 in
theorem rm_mmin {l : Launch} {Z : State} {a0 : Array Value} {n0 : Nat} (G : Gl Z a0 n0) {h0 : Heap} (O : Old Z n0 h0) (x : Int32) (y : Int32) :
    Ct [] l Z n0 (⟨"java/lang/Math", "min", "(II)I"⟩ : MethodName) jdk_29_method_69_code 2 (some .int) ({ frames := 0, cells := 0, slots := 0, locals := 0 } : Room) #[(.int x), (.int y)] h0 (fun v h => h = h0 ∧ v = some (.int (if y < x then y else x))) := by
  refine Ct.intro pf31 ?_
  intro p e s m below meth c C
  refine AtW.cast ?_ (ef_mmin m x y)
  refine w_iloadN (q := 1) C rfl d31_0 rfl ?_
  refine w_iloadN (q := 2) C rfl d31_1 rfl ?_
  by_cases hc : y < x
  · refine w_icmp_gt_t (q := 9) C d31_2 (by decide) (by decide) hc ?_
    refine w_iloadN (q := 10) C rfl d31_9 rfl ?_
    exact w_retI C rfl d31_10 (by decide) (by decide) ⟨rfl, by rw [if_pos hc]⟩
  · refine w_icmp_gt_f (q := 5) C d31_2 rfl hc ?_
    refine w_iloadN (q := 6) C rfl d31_5 rfl ?_
    refine w_goto (q := 10) C d31_6 (by decide) (by decide) ?_
    exact w_retI C rfl d31_10 (by decide) (by decide) ⟨rfl, by rw [if_neg hc]⟩
theorem d50_0 : decode jdk_65_method_121_code 0 = .ok (.iload_n 1, 1) := by decide +kernel
theorem d50_1 : decode jdk_65_method_121_code 1 = .ok (.aload_n 0, 1) := by decide +kernel
theorem d50_2 : decode jdk_65_method_121_code 2 = .ok (.arraylength, 1) := by decide +kernel
theorem d50_3 : decode jdk_65_method_121_code 3 = .ok (.if_icmp .ne 11, 3) := by decide +kernel
theorem d50_6 : decode jdk_65_method_121_code 6 = .ok (.aload_n 0, 1) := by decide +kernel
theorem d50_7 : decode jdk_65_method_121_code 7 = .ok (.invokevirtual 310, 3) := by decide +kernel
theorem d50_10 : decode jdk_65_method_121_code 10 = .ok (.checkcast 311, 3) := by decide +kernel
theorem d50_13 : decode jdk_65_method_121_code 13 = .ok (.areturn, 1) := by decide +kernel
theorem d50_14 : decode jdk_65_method_121_code 14 = .ok (.iload_n 1, 1) := by decide +kernel
theorem d50_15 : decode jdk_65_method_121_code 15 = .ok (.newarray .byte, 2) := by decide +kernel
theorem d50_17 : decode jdk_65_method_121_code 17 = .ok (.astore_n 2, 1) := by decide +kernel
theorem d50_18 : decode jdk_65_method_121_code 18 = .ok (.aload_n 0, 1) := by decide +kernel
theorem d50_19 : decode jdk_65_method_121_code 19 = .ok (.iconst 0, 1) := by decide +kernel
theorem d50_20 : decode jdk_65_method_121_code 20 = .ok (.aload_n 2, 1) := by decide +kernel
theorem d50_21 : decode jdk_65_method_121_code 21 = .ok (.iconst 0, 1) := by decide +kernel
theorem d50_22 : decode jdk_65_method_121_code 22 = .ok (.aload_n 0, 1) := by decide +kernel
theorem d50_23 : decode jdk_65_method_121_code 23 = .ok (.arraylength, 1) := by decide +kernel
theorem d50_24 : decode jdk_65_method_121_code 24 = .ok (.iload_n 1, 1) := by decide +kernel
theorem d50_25 : decode jdk_65_method_121_code 25 = .ok (.invokestatic 304, 3) := by decide +kernel
theorem d50_28 : decode jdk_65_method_121_code 28 = .ok (.invokestatic 150, 3) := by decide +kernel
theorem d50_31 : decode jdk_65_method_121_code 31 = .ok (.aload_n 2, 1) := by decide +kernel
theorem d50_32 : decode jdk_65_method_121_code 32 = .ok (.areturn, 1) := by decide +kernel
theorem pf50 : plainFor (⟨"java/util/Arrays", "copyOf", "([BI)[B"⟩ : MethodName) = true := by first | exact plainFor_of_name (by first | (simp [plainName, overriddenIn]; done) | decide +kernel) | decide +kernel
theorem ef_copyOf (m : MethodId) (z0 : Addr) (z1 : Int32) : entryFrame m #[(.ref z0), (.int z1)] 3 = mkF m 0 #[.val (.ref z0), .val (.int z1), .unset] [] := by first | rfl | (simp [entryFrame, mkF, argsToLocals, Value.category, *]; done) | rfl
set_option maxRecDepth 65536 in
set_option maxHeartbeats 40000000 in
theorem rm_copyOf {l : Launch} {Z : State} {a0 : Array Value} {n0 : Nat} (G : Gl Z a0 n0) {h0 : Heap} (O : Old Z n0 h0) (t : Addr) (vs : List Value) (n : Nat) (A : Ar Z h0 t .byte vs) (hn : vs.length < n) (hnc : n ≤ 34) :
    Ct [] l Z n0 (⟨"java/util/Arrays", "copyOf", "([BI)[B"⟩ : MethodName) jdk_65_method_121_code 3 (some (.array .byte)) ({ frames := 1, cells := 1, slots := 34, locals := 18 } : Room) #[(.ref t), (.int (Int32.ofNat n))] h0 (fun v h => Keep h0 h [] ∧ ∃ u, v = some (.ref u) ∧ h0.size ≤ u ∧ Exa Z h u "[B" ∧ Ar Z h u .byte (vs ++ List.replicate (n - vs.length) (Value.int (0 : Int32)))) := by
  refine Ct.intro pf50 ?_
  intro p e s m below meth c C
  refine AtW.cast ?_ (ef_copyOf m t (Int32.ofNat n))
  have hvl := A.1
  refine w_iloadN (q := 1) C rfl d50_0 rfl ?_
  refine w_aloadN (q := 2) C rfl rfl d50_1 rfl ?_
  refine w_len (q := 3) (z := (Int32.ofNat vs.length)) C A rfl d50_2 rfl ?_
  refine w_icmp_ne_t (q := 14) C d50_3 (by decide) (by decide) (fun q => by rw [own_neq (by omega) hvl] at q; omega) ?_
  refine w_iloadN (q := 15) C rfl d50_14 rfl ?_
  refine w_newArrE (q := 17) (cap := 34) (cells' := 1) (slots' := 34) (ad := "[B") C (G.1 _ (List.mem_of_getElem? (i := 7) rfl)) rfl (ofNat_neg (by omega)) (by rw [ofNat_nat (by omega)]; exact hnc) (by decide) rfl rfl (by decide) (by decide) rfl d50_15 rfl ?_
  intro h41 u g_u Eh41 V_u X_u
  rw [ofNat_nat (by omega)] at V_u
  have K1 : Keep h0 h41 [] := Keep.of_ext Eh41
  have hg0 : h0.size ≤ u := Nat.le_of_eq g_u.symm
  have ge : n0 ≤ u := Nat.le_trans (Old_le O) hg0
  replace O := Old_k0 O K1
  replace A := Ar_k0 A K1
  refine w_astoreN (q := 18) (L' := #[.val (.ref t), .val (.int (Int32.ofNat n)), .val (.ref u)]) C rfl rfl d50_17 rfl ?_
  refine w_aloadN (q := 19) C rfl rfl d50_18 rfl ?_
  refine w_iconst (q := 20) (v := (0 : Int32)) C (by rfl) d50_19 rfl ?_
  refine w_aloadN (q := 21) C rfl rfl d50_20 rfl ?_
  refine w_iconst (q := 22) (v := (0 : Int32)) C (by rfl) d50_21 rfl ?_
  refine w_aloadN (q := 23) C rfl rfl d50_22 rfl ?_
  refine w_len (q := 24) (z := (Int32.ofNat vs.length)) C A rfl d50_23 rfl ?_
  refine w_iloadN (q := 25) C rfl d50_24 rfl ?_
  refine w_callS (q := 28) (argsL := [(.int (Int32.ofNat vs.length)), (.int (Int32.ofNat n))]) (S := [(.int (0 : Int32)), (.ref u), (.int (0 : Int32)), (.ref t)]) (W := 4) (cells' := 1) (slots' := 34) C (G.1 _ (List.mem_of_getElem? (i := 172) rfl)) (G.1 _ (List.mem_of_getElem? (i := 173) rfl)) (G.1 _ (List.mem_of_getElem? (i := 174) rfl)) (G.1 _ (List.mem_of_getElem? (i := 175) rfl)) (by decide) (rm_mmin G O _ _) rfl (lenOf pd_24 rfl) rfl (by decide) (own_leb rfl) (by decide) rfl rfl (by decide) (by decide) d50_25 rfl ?_
  rintro _ h42 ⟨eh43, rfl⟩
  rw [eh43]
  show AtW p l e _ s m _ below meth c n0 _ h41 1 34 (mkF m 28 #[.val (.ref t), .val (.int (Int32.ofNat n)), .val (.ref u)] [(.int (if (Int32.ofNat n) < (Int32.ofNat vs.length) then (Int32.ofNat n) else (Int32.ofNat vs.length))), (.int (0 : Int32)), (.ref u), (.int (0 : Int32)), (.ref t)])
  rw [show (if (Int32.ofNat n) < (Int32.ofNat vs.length) then (Int32.ofNat n) else (Int32.ofNat vs.length)) = (Int32.ofNat vs.length) from by rw [if_neg (fun q => by rw [own_nlt (by omega) hvl] at q; omega)]]
  refine w_copy (q := 31) (S := []) (sp := 0) (dp := 0) (nn := vs.length) (W := 0) C (G.1 _ (List.mem_of_getElem? (i := 176) rfl)) (G.1 _ (List.mem_of_getElem? (i := 110) rfl)) (G.1 _ (List.mem_of_getElem? (i := 108) rfl)) (G.1 _ (List.mem_of_getElem? (i := 109) rfl)) A V_u rfl (by omega) (by rw [List.length_replicate]; omega) ge rfl (by decide) (own_leb rfl) (by decide) rfl d50_28 rfl ?_
  intro h44 Kh44 Vh44
  refine w_aloadN (q := 32) C rfl rfl d50_31 rfl ?_
  exact w_retA C rfl rfl rfl d50_32 (by decide) (by decide) ⟨own_K1 K1 Kh44 hg0, u, rfl, hg0, X_u.keep Kh44, by have q := Vh44; simp at q; exact q⟩
theorem d13_0 : decode jdk_68_method_9_code 0 = .ok (.aload_n 0, 1) := by decide +kernel
theorem d13_1 : decode jdk_68_method_9_code 1 = .ok (.getfield 15, 3) := by decide +kernel
theorem d13_4 : decode jdk_68_method_9_code 4 = .ok (.arraylength, 1) := by decide +kernel
theorem d13_5 : decode jdk_68_method_9_code 5 = .ok (.aload_n 0, 1) := by decide +kernel
theorem d13_6 : decode jdk_68_method_9_code 6 = .ok (.getfield 22, 3) := by decide +kernel
theorem d13_9 : decode jdk_68_method_9_code 9 = .ok (.ishr, 1) := by decide +kernel
theorem d13_10 : decode jdk_68_method_9_code 10 = .ok (.istore_n 2, 1) := by decide +kernel
theorem d13_11 : decode jdk_68_method_9_code 11 = .ok (.iload_n 1, 1) := by decide +kernel
theorem d13_12 : decode jdk_68_method_9_code 12 = .ok (.iload_n 2, 1) := by decide +kernel
theorem d13_13 : decode jdk_68_method_9_code 13 = .ok (.isub, 1) := by decide +kernel
theorem d13_14 : decode jdk_68_method_9_code 14 = .ok (.ifCond .le 24, 3) := by decide +kernel
theorem d13_17 : decode jdk_68_method_9_code 17 = .ok (.aload_n 0, 1) := by decide +kernel
theorem d13_18 : decode jdk_68_method_9_code 18 = .ok (.aload_n 0, 1) := by decide +kernel
theorem d13_19 : decode jdk_68_method_9_code 19 = .ok (.getfield 15, 3) := by decide +kernel
theorem d13_22 : decode jdk_68_method_9_code 22 = .ok (.aload_n 0, 1) := by decide +kernel
theorem d13_23 : decode jdk_68_method_9_code 23 = .ok (.iload_n 1, 1) := by decide +kernel
theorem d13_24 : decode jdk_68_method_9_code 24 = .ok (.invokevirtual 104, 3) := by decide +kernel
theorem d13_27 : decode jdk_68_method_9_code 27 = .ok (.aload_n 0, 1) := by decide +kernel
theorem d13_28 : decode jdk_68_method_9_code 28 = .ok (.getfield 22, 3) := by decide +kernel
theorem d13_31 : decode jdk_68_method_9_code 31 = .ok (.ishl, 1) := by decide +kernel
theorem d13_32 : decode jdk_68_method_9_code 32 = .ok (.invokestatic 108, 3) := by decide +kernel
theorem d13_35 : decode jdk_68_method_9_code 35 = .ok (.putfield 15, 3) := by decide +kernel
theorem d13_38 : decode jdk_68_method_9_code 38 = .ok (.return_, 1) := by decide +kernel
theorem pf13 : plainFor (⟨"java/lang/AbstractStringBuilder", "ensureCapacityInternal", "(I)V"⟩ : MethodName) = true := by first | exact plainFor_of_name (by first | (simp [plainName, overriddenIn]; done) | decide +kernel) | decide +kernel
theorem ef_ensGrow (m : MethodId) (z0 : Addr) (z1 : Int32) : entryFrame m #[(.ref z0), (.int z1)] 3 = mkF m 0 #[.val (.ref z0), .val (.int z1), .unset] [] := by first | rfl | (simp [entryFrame, mkF, argsToLocals, Value.category, *]; done) | rfl
set_option maxRecDepth 65536 in
set_option maxHeartbeats 40000000 in
theorem rm_ensGrow {l : Launch} {Z : State} {a0 : Array Value} {n0 : Nat} (G : Gl Z a0 n0) {h0 : Heap} (O : Old Z n0 h0) (b : Addr) (t : Addr) (cs : List Int32) (cap : Nat) (mn : Nat) (B : Sb Z h0 b t cs cap) (hmx : mn ≤ cap ∨ (mn ≤ 2 * cap + 2 ∧ 2 * cap + 2 ≤ 34)) (hge : n0 ≤ b) :
    Ct [] l Z n0 (⟨"java/lang/AbstractStringBuilder", "ensureCapacityInternal", "(I)V"⟩ : MethodName) jdk_68_method_9_code 3 none ({ frames := 3, cells := 1, slots := 34, locals := 48 } : Room) #[(.ref b), (.int (Int32.ofNat mn))] h0 (fun v h => Keep h0 h [b] ∧ v = none ∧ ∃ u cap', (u = t ∨ h0.size ≤ u) ∧ cap' = (if mn ≤ cap then cap else 2 * cap + 2) ∧ Sb Z h b u cs cap') := by
  refine Ct.intro pf13 ?_
  intro p e s m below meth c C
  refine AtW.cast ?_ (ef_ensGrow m b (Int32.ofNat mn))
  obtain ⟨E, hr, hlc, FC, FN, FV, E2, A⟩ := id B
  have hcl := B.capl
  have hmb : mn < 2 ^ 31 := by omega
  refine w_aloadN (q := 1) C rfl rfl d13_0 rfl ?_
  refine w_getF (q := 4) (host := "") C (Or.inl (G.1 _ (List.mem_of_getElem? (i := 51) rfl))) Via.refl FV d13_1 rfl ?_
  refine w_len (q := 5) (z := (Int32.ofNat cap)) C A (by simp only [List.length_append, own_bs_len, List.length_replicate]; congr 1; omega) d13_4 rfl ?_
  refine w_aloadN (q := 6) C rfl rfl d13_5 rfl ?_
  refine w_getF (q := 9) (host := "") C (Or.inl (G.1 _ (List.mem_of_getElem? (i := 53) rfl))) Via.refl FC d13_6 rfl ?_
  refine w_ishr (q := 10) C rfl d13_9 rfl ?_
  rw [show ((Int32.ofNat cap) >>> ((0 : Int32) &&& 31)) = (Int32.ofNat cap) from own_shr0 _]
  refine w_istoreN (q := 11) (L' := #[.val (.ref b), .val (.int (Int32.ofNat mn)), .val (.int (Int32.ofNat cap))]) C rfl d13_10 rfl ?_
  refine w_iloadN (q := 12) C rfl d13_11 rfl ?_
  refine w_iloadN (q := 13) C rfl d13_12 rfl ?_
  refine w_isub (q := 14) C rfl d13_13 rfl ?_
  have hsg : 0 < Int32.ofNat mn - Int32.ofNat cap ↔ cap < mn := by rw [own_lt]; have c1 := c_isub (Int32.ofNat mn) (Int32.ofNat cap); rw [own_nat hmb, own_nat hcl] at c1; have r := rng32 (Int32.ofNat mn - Int32.ofNat cap); have e0 : (0 : Int32).toInt = 0 := rfl; omega
  by_cases q1 : 0 < ((Int32.ofNat mn) - (Int32.ofNat cap))
  · refine w_if_le_f (q := 17) C d13_14 rfl q1 ?_
    rw [hsg] at q1
    have hmx2 : mn ≤ 2 * cap + 2 ∧ 2 * cap + 2 ≤ 34 := by omega
    refine w_aloadN (q := 18) C rfl rfl d13_17 rfl ?_
    refine w_aloadN (q := 19) C rfl rfl d13_18 rfl ?_
    refine w_getF (q := 22) (host := "") C (Or.inl (G.1 _ (List.mem_of_getElem? (i := 51) rfl))) Via.refl FV d13_19 rfl ?_
    refine w_aloadN (q := 23) C rfl rfl d13_22 rfl ?_
    refine w_iloadN (q := 24) C rfl d13_23 rfl ?_
    refine w_callP (q := 27) (argsL := [(.int (Int32.ofNat mn))]) (S := [(.ref t), (.ref b)]) (W := 2) (cells' := 0) (slots' := 0) (a := b) C E (G.1 _ (List.mem_of_getElem? (i := 255) rfl)) (G.1 _ (List.mem_of_getElem? (i := 256) rfl)) (NI.of_sel (args := #[]) (z := ({ cls := "java/lang/AbstractStringBuilder", name := "ensureCapacityInternal", desc := "(I)V" } : Jvm.MethodName)) (mvT C.2.2.2.1 (G.1 _ (List.mem_of_getElem? (i := 89) rfl)))) (G.1 _ (List.mem_of_getElem? (i := 257) rfl)) (G.1 _ (List.mem_of_getElem? (i := 47) rfl)) (G.1 _ (List.mem_of_getElem? (i := 259) rfl)) (by decide) (rm_newCap G O b t cs cap mn B q1 hmx2.1 (by omega)) rfl (lenOf pd_16 rfl) rfl (by decide) (own_leb rfl) (by decide) rfl rfl (by decide) (by decide) d13_24 rfl ?_
    rintro _ h45 ⟨eh46, rfl⟩
    rw [eh46]
    show AtW p l e _ s m _ below meth c n0 _ h0 0 0 (mkF m 27 #[.val (.ref b), .val (.int (Int32.ofNat mn)), .val (.int (Int32.ofNat cap))] [(.int (Int32.ofNat (2 * cap + 2))), (.ref t), (.ref b)])
    refine w_aloadN (q := 28) C rfl rfl d13_27 rfl ?_
    refine w_getF (q := 31) (host := "") C (Or.inl (G.1 _ (List.mem_of_getElem? (i := 53) rfl))) Via.refl FC d13_28 rfl ?_
    refine w_ishl (q := 32) C rfl d13_31 rfl ?_
    rw [show ((Int32.ofNat (2 * cap + 2)) <<< ((0 : Int32) &&& 31)) = (Int32.ofNat (2 * cap + 2)) from own_shl0 _]
    refine w_callS (q := 35) (argsL := [(.ref t), (.int (Int32.ofNat (2 * cap + 2)))]) (S := [(.ref b)]) (W := 1) (cells' := 1) (slots' := 34) C (G.1 _ (List.mem_of_getElem? (i := 269) rfl)) (G.1 _ (List.mem_of_getElem? (i := 270) rfl)) (G.1 _ (List.mem_of_getElem? (i := 164) rfl)) (G.1 _ (List.mem_of_getElem? (i := 271) rfl)) (by decide) (rm_copyOf G O t _ (2 * cap + 2) A (by simp only [List.length_append, own_bs_len, List.length_replicate]; omega) hmx2.2) rfl (lenOf pd_40 rfl) rfl (by decide) (own_leb rfl) (by decide) rfl rfl (by decide) (by decide) d13_32 rfl ?_
    rintro _ h47 ⟨Kh47, u, rfl, hgu, X_u, V_u⟩
    show AtW p l e _ s m _ below meth c n0 _ h47 1 34 (mkF m 35 #[.val (.ref b), .val (.int (Int32.ofNat mn)), .val (.int (Int32.ofNat cap))] [(.ref u), (.ref b)])
    replace E := Exa_k0 E Kh47
    replace FC := Fld_k0 FC Kh47
    replace FN := Fld_k0 FN Kh47
    replace FV := Fld_k0 FV Kh47
    have hub : u ≠ b := Ne.symm (ne_exa E X_u (by decide))
    refine w_putF (q := 38) (host := "") (v' := (.ref u)) C (G.1 _ (List.mem_of_getElem? (i := 51) rfl)) Via.refl FV E (Or.inl (G.1 _ (List.mem_of_getElem? (i := 52) rfl))) (G.1 _ (List.mem_of_getElem? (i := 38) rfl)) (ty := (.array .byte)) (by decide) rfl rfl hge d13_35 rfl ?_
    intro h48 Wh48
    replace FV := FV.same Wh48
    replace FC := FC.other Wh48 (Or.inr (slot_ne (Or.inl (G.1 _ (List.mem_of_getElem? (i := 54) rfl))) (Or.inl (G.1 _ (List.mem_of_getElem? (i := 52) rfl))) (by decide) (t := .byte) (t' := (.array .byte)) (by decide) (by decide)))
    replace FN := FN.other Wh48 (Or.inr (slot_ne (Or.inl (G.1 _ (List.mem_of_getElem? (i := 85) rfl))) (Or.inl (G.1 _ (List.mem_of_getElem? (i := 52) rfl))) (by decide) (t := .int) (t' := (.array .byte)) (by decide) (by decide)))
    replace E := E.wr Wh48
    replace X_u := X_u.wr Wh48
    replace V_u := V_u.other Wh48 hub
    exact w_retV C rfl d13_38 (by decide) (by decide) ⟨((Keep.refl h0 [b]).trans Kh47 (all0 (P := fun x => x ∈ [b] ∨ h0.size ≤ x))).wr Wh48 (Or.inl (List.mem_cons_self ..)), rfl, u, _, Or.inr hgu, rfl, E, hr, by split <;> omega, FC, FN, FV, X_u, by rw [if_neg (by omega)]; rw [List.append_assoc, List.replicate_append_replicate] at V_u; refine V_u.eq ?_; congr 2; simp only [List.length_append, own_bs_len, List.length_replicate]; omega⟩
  · refine w_if_le_t (q := 38) C d13_14 (by decide) (by decide) q1 ?_
    exact w_retV C rfl d13_38 (by decide) (by decide) ⟨Keep.refl _ _, rfl, t, cap, Or.inl rfl, by rw [if_pos (by rw [hsg] at q1; omega)], B⟩
theorem d10_0 : decode jdk_68_method_22_code 0 = .ok (.aload_n 1, 1) := by decide +kernel
theorem d10_1 : decode jdk_68_method_22_code 1 = .ok (.ifnonnull 8, 3) := by decide +kernel
theorem d10_4 : decode jdk_68_method_22_code 4 = .ok (.aload_n 0, 1) := by decide +kernel
theorem d10_5 : decode jdk_68_method_22_code 5 = .ok (.invokevirtual 204, 3) := by decide +kernel
theorem d10_8 : decode jdk_68_method_22_code 8 = .ok (.areturn, 1) := by decide +kernel
theorem d10_9 : decode jdk_68_method_22_code 9 = .ok (.aload_n 1, 1) := by decide +kernel
theorem d10_10 : decode jdk_68_method_22_code 10 = .ok (.invokevirtual 32, 3) := by decide +kernel
theorem d10_13 : decode jdk_68_method_22_code 13 = .ok (.istore_n 2, 1) := by decide +kernel
theorem d10_14 : decode jdk_68_method_22_code 14 = .ok (.aload_n 0, 1) := by decide +kernel
theorem d10_15 : decode jdk_68_method_22_code 15 = .ok (.aload_n 0, 1) := by decide +kernel
theorem d10_16 : decode jdk_68_method_22_code 16 = .ok (.getfield 79, 3) := by decide +kernel
theorem d10_19 : decode jdk_68_method_22_code 19 = .ok (.iload_n 2, 1) := by decide +kernel
theorem d10_20 : decode jdk_68_method_22_code 20 = .ok (.iadd, 1) := by decide +kernel
theorem d10_21 : decode jdk_68_method_22_code 21 = .ok (.invokevirtual 100, 3) := by decide +kernel
theorem d10_24 : decode jdk_68_method_22_code 24 = .ok (.aload_n 0, 1) := by decide +kernel
theorem d10_25 : decode jdk_68_method_22_code 25 = .ok (.aload_n 0, 1) := by decide +kernel
theorem d10_26 : decode jdk_68_method_22_code 26 = .ok (.getfield 79, 3) := by decide +kernel
theorem d10_29 : decode jdk_68_method_22_code 29 = .ok (.aload_n 1, 1) := by decide +kernel
theorem d10_30 : decode jdk_68_method_22_code 30 = .ok (.invokevirtual 208, 3) := by decide +kernel
theorem d10_33 : decode jdk_68_method_22_code 33 = .ok (.aload_n 0, 1) := by decide +kernel
theorem d10_34 : decode jdk_68_method_22_code 34 = .ok (.dup, 1) := by decide +kernel
theorem d10_35 : decode jdk_68_method_22_code 35 = .ok (.getfield 79, 3) := by decide +kernel
theorem d10_38 : decode jdk_68_method_22_code 38 = .ok (.iload_n 2, 1) := by decide +kernel
theorem d10_39 : decode jdk_68_method_22_code 39 = .ok (.iadd, 1) := by decide +kernel
theorem d10_40 : decode jdk_68_method_22_code 40 = .ok (.putfield 79, 3) := by decide +kernel
theorem d10_43 : decode jdk_68_method_22_code 43 = .ok (.aload_n 0, 1) := by decide +kernel
theorem d10_44 : decode jdk_68_method_22_code 44 = .ok (.areturn, 1) := by decide +kernel
theorem pf10 : plainFor (⟨"java/lang/AbstractStringBuilder", "append", "(Ljava/lang/String;)Ljava/lang/AbstractStringBuilder;"⟩ : MethodName) = true := by first | exact plainFor_of_name (by first | (simp [plainName, overriddenIn]; done) | decide +kernel) | decide +kernel
theorem ef_asbApp (m : MethodId) (z0 : Addr) (z1 : Addr) : entryFrame m #[(.ref z0), (.ref z1)] 3 = mkF m 0 #[.val (.ref z0), .val (.ref z1), .unset] [] := by first | rfl | (simp [entryFrame, mkF, argsToLocals, Value.category, *]; done) | rfl
set_option maxRecDepth 65536 in
set_option maxHeartbeats 40000000 in
theorem rm_asbApp {l : Launch} {Z : State} {a0 : Array Value} {n0 : Nat} (G : Gl Z a0 n0) {h0 : Heap} (O : Old Z n0 h0) (b : Addr) (t : Addr) (cs : List Int32) (cap : Nat) (a : Addr) (ds : List Int32) (B : Sb Z h0 b t cs cap) (S : Str Z h0 a ds) (hfit : cs.length + ds.length ≤ cap ∨ (cs.length + ds.length ≤ 2 * cap + 2 ∧ 2 * cap + 2 ≤ 34)) (hge : n0 ≤ b) (hgt : n0 ≤ t) (hsb : a ≠ b) (hst : ∀ x, Fld Z h0 a "java/lang/String" "value" "[B" (.ref x) → x ≠ b) :
    Ct [] l Z n0 (⟨"java/lang/AbstractStringBuilder", "append", "(Ljava/lang/String;)Ljava/lang/AbstractStringBuilder;"⟩ : MethodName) jdk_68_method_22_code 3 (some (.object "java/lang/AbstractStringBuilder")) ({ frames := 4, cells := 1, slots := 34, locals := 62 } : Room) #[(.ref b), (.ref a)] h0 (fun v h => Keep h0 h [b, t] ∧ v = some (.ref b) ∧ ∃ u cap', (u = t ∨ h0.size ≤ u) ∧ cap' = (if cs.length + ds.length ≤ cap then cap else 2 * cap + 2) ∧ Sb Z h b u (cs ++ ds) cap') := by
  refine Ct.intro pf10 ?_
  intro p e s m below meth c C
  refine AtW.cast ?_ (ef_asbApp m b a)
  obtain ⟨E, hr, hlc, FC, FN, FV, E2, A⟩ := id B
  have hsl := S.len
  have hcl := B.capl
  refine w_aloadN (q := 1) C rfl rfl d10_0 rfl ?_
  refine w_ifnonnull_t (q := 9) C d10_1 (by decide) (by decide) ?_
  refine w_aloadN (q := 10) C rfl rfl d10_9 rfl ?_
  refine w_callV (q := 13) (argsL := []) (S := []) (W := 0) (cells' := 0) (slots' := 0) (a := a) C S.1 (G.1 _ (List.mem_of_getElem? (i := 71) rfl)) (G.1 _ (List.mem_of_getElem? (i := 72) rfl)) (w_nf C (G.1 _ (List.mem_of_getElem? (i := 74) rfl))) (G.1 _ (List.mem_of_getElem? (i := 74) rfl)) (G.1 _ (List.mem_of_getElem? (i := 73) rfl)) (G.1 _ (List.mem_of_getElem? (i := 5) rfl)) (G.1 _ (List.mem_of_getElem? (i := 75) rfl)) (by decide) (rm_length G O a ds S) rfl (lenOf pd_8 rfl) rfl (by decide) (own_leb rfl) (by decide) rfl rfl (by decide) (by decide) d10_10 rfl ?_
  rintro _ h49 ⟨eh50, rfl⟩
  rw [eh50]
  show AtW p l e _ s m _ below meth c n0 _ h0 0 0 (mkF m 13 #[.val (.ref b), .val (.ref a), .unset] [(.int (Int32.ofNat ds.length))])
  refine w_istoreN (q := 14) (L' := #[.val (.ref b), .val (.ref a), .val (.int (Int32.ofNat ds.length))]) C rfl d10_13 rfl ?_
  refine w_aloadN (q := 15) C rfl rfl d10_14 rfl ?_
  refine w_aloadN (q := 16) C rfl rfl d10_15 rfl ?_
  refine w_getF (q := 19) (host := "") C (Or.inl (G.1 _ (List.mem_of_getElem? (i := 84) rfl))) Via.refl FN d10_16 rfl ?_
  refine w_iloadN (q := 20) C rfl d10_19 rfl ?_
  refine w_iadd (q := 21) C rfl d10_20 rfl ?_
  rw [show ((Int32.ofNat cs.length) + (Int32.ofNat ds.length)) = (Int32.ofNat (cs.length + ds.length)) from own_add _ _]
  refine w_callP (q := 24) (argsL := [(.int (Int32.ofNat (cs.length + ds.length)))]) (S := []) (W := 0) (cells' := 1) (slots' := 34) (a := b) C E (G.1 _ (List.mem_of_getElem? (i := 86) rfl)) (G.1 _ (List.mem_of_getElem? (i := 87) rfl)) (NI.of_sel (args := #[]) (z := ({ cls := "java/lang/AbstractStringBuilder", name := "ensureCapacityInternal", desc := "(I)V" } : Jvm.MethodName)) (mvT C.2.2.2.1 (G.1 _ (List.mem_of_getElem? (i := 89) rfl)))) (G.1 _ (List.mem_of_getElem? (i := 88) rfl)) (G.1 _ (List.mem_of_getElem? (i := 47) rfl)) (G.1 _ (List.mem_of_getElem? (i := 90) rfl)) (by decide) (rm_ensGrow G O b t cs cap (cs.length + ds.length) B hfit hge) rfl (lenOf pd_5 rfl) rfl (by decide) (own_leb rfl) (by decide) rfl rfl (by decide) (by decide) d10_21 rfl ?_
  rintro _ h51 ⟨Kh51, rfl, u, cap', hu, hcp, B'⟩
  show AtW p l e _ s m _ below meth c n0 _ h51 1 34 (mkF m 24 #[.val (.ref b), .val (.ref a), .val (.int (Int32.ofNat ds.length))] [])
  have hgu : n0 ≤ u := hu.elim (fun q => by rw [q]; exact hgt) (fun q => Nat.le_trans (Old_le O) q)
  have O0 := O
  replace O := O.keep Kh51 (allS hge all0)
  replace S : Str Z h51 a ds := by obtain ⟨s1, s2, x, s3, s4, s5⟩ := S; exact ⟨s1.keep Kh51, s2, x, s3.keep Kh51 (ninS hsb nin0), s4.keep Kh51 (ninS hsb nin0), s5.keep Kh51 (ninS (hst x s4) nin0)⟩
  have hfit' : cs.length + ds.length ≤ cap' := by rw [hcp]; split <;> omega
  clear E hlc FC FN FV E2 A
  obtain ⟨E, hr, hlc, FC, FN, FV, E2, A⟩ := id B'
  refine w_aloadN (q := 25) C rfl rfl d10_24 rfl ?_
  refine w_aloadN (q := 26) C rfl rfl d10_25 rfl ?_
  refine w_getF (q := 29) (host := "") C (Or.inl (G.1 _ (List.mem_of_getElem? (i := 84) rfl))) Via.refl FN d10_26 rfl ?_
  refine w_aloadN (q := 30) C rfl rfl d10_29 rfl ?_
  refine w_callP (q := 33) (argsL := [(.int (Int32.ofNat cs.length)), (.ref a)]) (S := []) (W := 0) (cells' := 1) (slots' := 34) (a := b) C E (G.1 _ (List.mem_of_getElem? (i := 91) rfl)) (G.1 _ (List.mem_of_getElem? (i := 92) rfl)) (NI.of_sel (args := #[]) (z := ({ cls := "java/lang/AbstractStringBuilder", name := "ensureCapacityInternal", desc := "(I)V" } : Jvm.MethodName)) (mvT C.2.2.2.1 (G.1 _ (List.mem_of_getElem? (i := 89) rfl)))) (G.1 _ (List.mem_of_getElem? (i := 93) rfl)) (G.1 _ (List.mem_of_getElem? (i := 47) rfl)) (G.1 _ (List.mem_of_getElem? (i := 95) rfl)) (by decide) (rm_putStr G O b u cs cap' a ds B' S hfit' hgu) rfl (lenOf pd_10 rfl) rfl (by decide) (own_leb rfl) (by decide) rfl rfl (by decide) (by decide) d10_30 rfl ?_
  rintro _ h52 ⟨Kh52, rfl, V⟩
  show AtW p l e _ s m _ below meth c n0 _ h52 1 34 (mkF m 33 #[.val (.ref b), .val (.ref a), .val (.int (Int32.ofNat ds.length))] [])
  have hbt := B'.ne
  replace E := E.keep Kh52
  replace FC := FC.keep Kh52 (ninS hbt nin0)
  replace FN := FN.keep Kh52 (ninS hbt nin0)
  replace FV := FV.keep Kh52 (ninS hbt nin0)
  replace E2 := E2.keep Kh52
  have hL2 : L1 (cs ++ ds) := hr.app S.2.1
  refine w_aloadN (q := 34) C rfl rfl d10_33 rfl ?_
  refine w_dup (q := 35) C rfl d10_34 rfl ?_
  refine w_getF (q := 38) (host := "") C (Or.inl (G.1 _ (List.mem_of_getElem? (i := 84) rfl))) Via.refl FN d10_35 rfl ?_
  refine w_iloadN (q := 39) C rfl d10_38 rfl ?_
  refine w_iadd (q := 40) C rfl d10_39 rfl ?_
  rw [show ((Int32.ofNat cs.length) + (Int32.ofNat ds.length)) = (Int32.ofNat (cs ++ ds).length) from (own_add _ _).trans (by rw [List.length_append])]
  refine w_putF (q := 43) (host := "") (v' := (.int (Int32.ofNat (cs ++ ds).length))) C (G.1 _ (List.mem_of_getElem? (i := 84) rfl)) Via.refl FN E (Or.inl (G.1 _ (List.mem_of_getElem? (i := 85) rfl))) (G.1 _ (List.mem_of_getElem? (i := 38) rfl)) (ty := .int) (by decide) rfl rfl hge d10_40 rfl ?_
  intro h53 Wh53
  replace FN := FN.same Wh53
  replace FC := FC.other Wh53 (Or.inr (slot_ne (Or.inl (G.1 _ (List.mem_of_getElem? (i := 54) rfl))) (Or.inl (G.1 _ (List.mem_of_getElem? (i := 85) rfl))) (by decide) (t := .byte) (t' := .int) (by decide) (by decide)))
  replace FV := FV.other Wh53 (Or.inr (slot_ne (Or.inl (G.1 _ (List.mem_of_getElem? (i := 52) rfl))) (Or.inl (G.1 _ (List.mem_of_getElem? (i := 85) rfl))) (by decide) (t := (.array .byte)) (t' := .int) (by decide) (by decide)))
  replace E := E.wr Wh53
  replace E2 := E2.wr Wh53
  replace V := V.other Wh53 (Ne.symm hbt)
  refine w_aloadN (q := 44) C rfl rfl d10_43 rfl ?_
  exact w_retA C rfl rfl rfl d10_44 (by decide) (by decide) ⟨(((Keep.refl h0 [b, t]).trans Kh51 (allS (P := fun x => x ∈ [b, t] ∨ h0.size ≤ x) (Or.inl (by simp)) all0)).trans Kh52 (allS (P := fun x => x ∈ [b, t] ∨ h0.size ≤ x) (hu.elim (fun q => Or.inl (by simp [q])) Or.inr) all0)).wr Wh53 (Or.inl (by simp)), rfl, u, cap', hu, hcp, E, hL2, by rw [List.length_append]; exact hfit', FC, FN, FV, E2, V⟩
theorem d7_0 : decode jdk_68_method_2_code 0 = .ok (.aload_n 0, 1) := by decide +kernel
theorem d7_1 : decode jdk_68_method_2_code 1 = .ok (.invokespecial 3, 3) := by decide +kernel
theorem d7_4 : decode jdk_68_method_2_code 4 = .ok (.getstatic 18, 3) := by decide +kernel
theorem d7_7 : decode jdk_68_method_2_code 7 = .ok (.ifCond .eq 18, 3) := by decide +kernel
theorem d7_10 : decode jdk_68_method_2_code 10 = .ok (.aload_n 0, 1) := by decide +kernel
theorem d7_11 : decode jdk_68_method_2_code 11 = .ok (.iload_n 1, 1) := by decide +kernel
theorem d7_12 : decode jdk_68_method_2_code 12 = .ok (.newarray .byte, 2) := by decide +kernel
theorem d7_14 : decode jdk_68_method_2_code 14 = .ok (.putfield 15, 3) := by decide +kernel
theorem d7_17 : decode jdk_68_method_2_code 17 = .ok (.aload_n 0, 1) := by decide +kernel
theorem d7_18 : decode jdk_68_method_2_code 18 = .ok (.iconst 0, 1) := by decide +kernel
theorem d7_19 : decode jdk_68_method_2_code 19 = .ok (.putfield 22, 3) := by decide +kernel
theorem d7_22 : decode jdk_68_method_2_code 22 = .ok (.goto 16, 3) := by decide +kernel
theorem d7_25 : decode jdk_68_method_2_code 25 = .ok (.aload_n 0, 1) := by decide +kernel
theorem d7_26 : decode jdk_68_method_2_code 26 = .ok (.iload_n 1, 1) := by decide +kernel
theorem d7_27 : decode jdk_68_method_2_code 27 = .ok (.invokestatic 26, 3) := by decide +kernel
theorem d7_30 : decode jdk_68_method_2_code 30 = .ok (.putfield 15, 3) := by decide +kernel
theorem d7_33 : decode jdk_68_method_2_code 33 = .ok (.aload_n 0, 1) := by decide +kernel
theorem d7_34 : decode jdk_68_method_2_code 34 = .ok (.iconst 1, 1) := by decide +kernel
theorem d7_35 : decode jdk_68_method_2_code 35 = .ok (.putfield 22, 3) := by decide +kernel
theorem d7_38 : decode jdk_68_method_2_code 38 = .ok (.return_, 1) := by decide +kernel
theorem pf7 : plainFor (⟨"java/lang/AbstractStringBuilder", "<init>", "(I)V"⟩ : MethodName) = true := by first | exact plainFor_of_name (by first | (simp [plainName, overriddenIn]; done) | decide +kernel) | decide +kernel
theorem ef_asbinit (m : MethodId) (z0 : Addr) (z1 : Int32) : entryFrame m #[(.ref z0), (.int z1)] 2 = mkF m 0 #[.val (.ref z0), .val (.int z1)] [] := by first | rfl | (simp [entryFrame, mkF, argsToLocals, Value.category, *]; done) | rfl
set_option maxRecDepth 65536 in
set_option maxHeartbeats 40000000 in
theorem rm_asbinit {l : Launch} {Z : State} {a0 : Array Value} {n0 : Nat} (G : Gl Z a0 n0) {h0 : Heap} (O : Old Z n0 h0) (b : Addr) (E : Exa Z h0 b "java/lang/StringBuilder") (F_value : Fld Z h0 b "java/lang/AbstractStringBuilder" "value" "[B" .null) (F_coder : Fld Z h0 b "java/lang/AbstractStringBuilder" "coder" "B" (.int (0 : Int32))) (F_count : Fld Z h0 b "java/lang/AbstractStringBuilder" "count" "I" (.int (0 : Int32))) (hge : n0 ≤ b) :
    Ct [] l Z n0 (⟨"java/lang/AbstractStringBuilder", "<init>", "(I)V"⟩ : MethodName) jdk_68_method_2_code 2 none ({ frames := 1, cells := 1, slots := 16, locals := 12 } : Room) #[(.ref b), (.int (16 : Int32))] h0 (fun v h => Keep h0 h [b] ∧ v = none ∧ ∃ t, h0.size ≤ t ∧ Sb Z h b t [] 16) := by
  refine Ct.intro pf7 ?_
  intro p e s m below meth c C
  refine AtW.cast ?_ (ef_asbinit m b (16 : Int32))
  obtain ⟨zc, SC, hzc⟩ := G.cs
  refine w_aloadN (q := 1) C rfl rfl d7_0 rfl ?_
  refine w_initO (q := 4) (W := 0) C (G.1 _ (List.mem_of_getElem? (i := 49) rfl)) (G.1 _ (List.mem_of_getElem? (i := 24) rfl)) (G.1 _ (List.mem_of_getElem? (i := 25) rfl)) rfl (by decide) (own_leb rfl) (by decide) d7_1 rfl ?_
  refine w_getS (q := 7) (host := "") C (Or.inl (G.1 _ (List.mem_of_getElem? (i := 50) rfl))) Via.refl (SC.ext O.2) d7_4 rfl ?_
  refine w_if_eq_f (q := 10) C d7_7 rfl hzc ?_
  refine w_aloadN (q := 11) C rfl rfl d7_10 rfl ?_
  refine w_iloadN (q := 12) C rfl d7_11 rfl ?_
  refine w_newArrE (q := 14) (cap := 16) (cells' := 1) (slots' := 16) (ad := "[B") C (G.1 _ (List.mem_of_getElem? (i := 7) rfl)) rfl (by decide) (by decide) (by decide) rfl rfl (by decide) (by decide) rfl d7_12 rfl ?_
  intro h54 t g_t Eh54 V_t X_t
  have hg0 : h0.size ≤ t := Nat.le_of_eq g_t.symm
  have hbt : t ≠ b := Ne.symm (Nat.ne_of_lt (by rw [g_t]; exact E.lt))
  have K1 : Keep h0 h54 [b] := (Keep.refl h0 [b]).ext Eh54
  replace E := E.ext Eh54
  replace F_value := F_value.ext Eh54
  replace F_coder := F_coder.ext Eh54
  replace F_count := F_count.ext Eh54
  refine w_putF (q := 17) (host := "") (v' := (.ref t)) C (G.1 _ (List.mem_of_getElem? (i := 51) rfl)) Via.refl F_value E (Or.inl (G.1 _ (List.mem_of_getElem? (i := 52) rfl))) (G.1 _ (List.mem_of_getElem? (i := 38) rfl)) (ty := (.array .byte)) (by decide) rfl rfl hge d7_14 rfl ?_
  intro h55 Wh55
  have K2 := K1.wr Wh55 (Or.inl (List.mem_cons_self ..))
  replace F_value := F_value.same Wh55
  replace F_coder := F_coder.other Wh55 (Or.inr (slot_ne (Or.inl (G.1 _ (List.mem_of_getElem? (i := 54) rfl))) (Or.inl (G.1 _ (List.mem_of_getElem? (i := 52) rfl))) (by decide) (t := .byte) (t' := (.array .byte)) (by decide) (by decide)))
  replace F_count := F_count.other Wh55 (Or.inr (slot_ne (Or.inl (G.1 _ (List.mem_of_getElem? (i := 85) rfl))) (Or.inl (G.1 _ (List.mem_of_getElem? (i := 52) rfl))) (by decide) (t := .int) (t' := (.array .byte)) (by decide) (by decide)))
  replace E := E.wr Wh55
  replace X_t := X_t.wr Wh55
  replace V_t := V_t.other Wh55 hbt
  refine w_aloadN (q := 18) C rfl rfl d7_17 rfl ?_
  refine w_iconst (q := 19) (v := (0 : Int32)) C (by rfl) d7_18 rfl ?_
  refine w_putF (q := 22) (host := "") (v' := (.int (0 : Int32))) C (G.1 _ (List.mem_of_getElem? (i := 53) rfl)) Via.refl F_coder E (Or.inl (G.1 _ (List.mem_of_getElem? (i := 54) rfl))) (G.1 _ (List.mem_of_getElem? (i := 38) rfl)) (ty := .byte) (by decide) rfl rfl hge d7_19 rfl ?_
  intro h56 Wh56
  replace F_coder := F_coder.same Wh56
  replace F_value := F_value.other Wh56 (Or.inr (slot_ne (Or.inl (G.1 _ (List.mem_of_getElem? (i := 52) rfl))) (Or.inl (G.1 _ (List.mem_of_getElem? (i := 54) rfl))) (by decide) (t := (.array .byte)) (t' := .byte) (by decide) (by decide)))
  replace F_count := F_count.other Wh56 (Or.inr (slot_ne (Or.inl (G.1 _ (List.mem_of_getElem? (i := 85) rfl))) (Or.inl (G.1 _ (List.mem_of_getElem? (i := 54) rfl))) (by decide) (t := .int) (t' := .byte) (by decide) (by decide)))
  replace E := E.wr Wh56
  replace X_t := X_t.wr Wh56
  replace V_t := V_t.other Wh56 hbt
  refine w_goto (q := 38) C d7_22 (by decide) (by decide) ?_
  exact w_retV C rfl d7_38 (by decide) (by decide) ⟨K2.wr Wh56 (Or.inl (List.mem_cons_self ..)), rfl, t, hg0, E, (fun c hc => absurd hc List.not_mem_nil), by decide, F_coder, F_count, F_value, X_t, V_t⟩
theorem d6_0 : decode jdk_67_method_1_code 0 = .ok (.aload_n 0, 1) := by decide +kernel
theorem d6_1 : decode jdk_67_method_1_code 1 = .ok (.bipush 16, 2) := by decide +kernel
theorem d6_3 : decode jdk_67_method_1_code 3 = .ok (.invokespecial 1, 3) := by decide +kernel
theorem d6_6 : decode jdk_67_method_1_code 6 = .ok (.return_, 1) := by decide +kernel
theorem pf6 : plainFor (⟨"java/lang/StringBuilder", "<init>", "()V"⟩ : MethodName) = true := by first | exact plainFor_of_name (by first | (simp [plainName, overriddenIn]; done) | decide +kernel) | decide +kernel
theorem ef_sbinit (m : MethodId) (z0 : Addr) : entryFrame m #[(.ref z0)] 1 = mkF m 0 #[.val (.ref z0)] [] := by first | rfl | (simp [entryFrame, mkF, argsToLocals, Value.category, *]; done) | rfl
set_option maxRecDepth 65536 in
set_option maxHeartbeats 40000000 in
theorem rm_sbinit {l : Launch} {Z : State} {a0 : Array Value} {n0 : Nat} (G : Gl Z a0 n0) {h0 : Heap} (O : Old Z n0 h0) (b : Addr) (E : Exa Z h0 b "java/lang/StringBuilder") (F_value : Fld Z h0 b "java/lang/AbstractStringBuilder" "value" "[B" .null) (F_coder : Fld Z h0 b "java/lang/AbstractStringBuilder" "coder" "B" (.int (0 : Int32))) (F_count : Fld Z h0 b "java/lang/AbstractStringBuilder" "count" "I" (.int (0 : Int32))) (hge : n0 ≤ b) :
    Ct [] l Z n0 (⟨"java/lang/StringBuilder", "<init>", "()V"⟩ : MethodName) jdk_67_method_1_code 1 none ({ frames := 2, cells := 1, slots := 16, locals := 25 } : Room) #[(.ref b)] h0 (fun v h => Keep h0 h [b] ∧ v = none ∧ ∃ t, h0.size ≤ t ∧ Sb Z h b t [] 16) := by
  refine Ct.intro pf6 ?_
  intro p e s m below meth c C
  refine AtW.cast ?_ (ef_sbinit m b)
  refine w_aloadN (q := 1) C rfl rfl d6_0 rfl ?_
  refine w_bipush (q := 3) (v := (16 : Int32)) C (by rfl) d6_1 rfl ?_
  refine w_callI (q := 6) (argsL := [(.int (16 : Int32))]) (S := []) (W := 0) (cells' := 1) (slots' := 16) (a := b) C rfl (G.1 _ (List.mem_of_getElem? (i := 43) rfl)) (G.1 _ (List.mem_of_getElem? (i := 44) rfl)) (G.1 _ (List.mem_of_getElem? (i := 47) rfl)) (G.1 _ (List.mem_of_getElem? (i := 48) rfl)) (by decide) (rm_asbinit G O b E F_value F_coder F_count hge) rfl (lenOf pd_5 rfl) rfl (by decide) (own_leb rfl) (by decide) rfl rfl (by decide) (by decide) d6_3 rfl ?_
  rintro _ h57 ⟨Kh57, rfl, t, hg, B⟩
  show AtW p l e _ s m _ below meth c n0 _ h57 1 16 (mkF m 6 #[.val (.ref b)] [])
  exact w_retV C rfl d6_6 (by decide) (by decide) ⟨Kh57, rfl, t, hg, B⟩
theorem d9_0 : decode jdk_67_method_7_code 0 = .ok (.aload_n 0, 1) := by decide +kernel
theorem d9_1 : decode jdk_67_method_7_code 1 = .ok (.aload_n 1, 1) := by decide +kernel
theorem d9_2 : decode jdk_67_method_7_code 2 = .ok (.invokespecial 29, 3) := by decide +kernel
theorem d9_5 : decode jdk_67_method_7_code 5 = .ok (.pop, 1) := by decide +kernel
theorem d9_6 : decode jdk_67_method_7_code 6 = .ok (.aload_n 0, 1) := by decide +kernel
theorem d9_7 : decode jdk_67_method_7_code 7 = .ok (.areturn, 1) := by decide +kernel
theorem pf9 : plainFor (⟨"java/lang/StringBuilder", "append", "(Ljava/lang/String;)Ljava/lang/StringBuilder;"⟩ : MethodName) = true := by first | exact plainFor_of_name (by first | (simp [plainName, overriddenIn]; done) | decide +kernel) | decide +kernel
theorem ef_sbApp (m : MethodId) (z0 : Addr) (z1 : Addr) : entryFrame m #[(.ref z0), (.ref z1)] 2 = mkF m 0 #[.val (.ref z0), .val (.ref z1)] [] := by first | rfl | (simp [entryFrame, mkF, argsToLocals, Value.category, *]; done) | rfl
set_option maxRecDepth 65536 in
set_option maxHeartbeats 40000000 in
theorem rm_sbApp {l : Launch} {Z : State} {a0 : Array Value} {n0 : Nat} (G : Gl Z a0 n0) {h0 : Heap} (O : Old Z n0 h0) (b : Addr) (t : Addr) (cs : List Int32) (cap : Nat) (a : Addr) (ds : List Int32) (B : Sb Z h0 b t cs cap) (S : Str Z h0 a ds) (hfit : cs.length + ds.length ≤ cap ∨ (cs.length + ds.length ≤ 2 * cap + 2 ∧ 2 * cap + 2 ≤ 34)) (hge : n0 ≤ b) (hgt : n0 ≤ t) (hsb : a ≠ b) (hst : ∀ x, Fld Z h0 a "java/lang/String" "value" "[B" (.ref x) → x ≠ b) :
    Ct [] l Z n0 (⟨"java/lang/StringBuilder", "append", "(Ljava/lang/String;)Ljava/lang/StringBuilder;"⟩ : MethodName) jdk_67_method_7_code 2 (some (.object "java/lang/StringBuilder")) ({ frames := 5, cells := 1, slots := 34, locals := 76 } : Room) #[(.ref b), (.ref a)] h0 (fun v h => Keep h0 h [b, t] ∧ v = some (.ref b) ∧ ∃ u cap', (u = t ∨ h0.size ≤ u) ∧ cap' = (if cs.length + ds.length ≤ cap then cap else 2 * cap + 2) ∧ Sb Z h b u (cs ++ ds) cap') := by
  refine Ct.intro pf9 ?_
  intro p e s m below meth c C
  refine AtW.cast ?_ (ef_sbApp m b a)
  have E := B.1
  refine w_aloadN (q := 1) C rfl rfl d9_0 rfl ?_
  refine w_aloadN (q := 2) C rfl rfl d9_1 rfl ?_
  refine w_callU (q := 5) (argsL := [(.ref a)]) (S := []) (W := 0) (cells' := 1) (slots' := 34) (a := b) C E (G.1 _ (List.mem_of_getElem? (i := 66) rfl)) (G.1 _ (List.mem_of_getElem? (i := 67) rfl)) (NI.of_sel (z := ({ cls := "java/lang/AbstractStringBuilder", name := "ensureCapacityInternal", desc := "(I)V" } : Jvm.MethodName)) (G.1 _ (List.mem_of_getElem? (i := 89) rfl))) (G.1 _ (List.mem_of_getElem? (i := 68) rfl)) (G.1 _ (List.mem_of_getElem? (i := 47) rfl)) (G.1 _ (List.mem_of_getElem? (i := 70) rfl)) (by decide) (by decide) (rm_asbApp G O b t cs cap a ds B S hfit hge hgt hsb hst) rfl (lenOf pd_7 rfl) rfl (by decide) (own_leb rfl) (by decide) rfl rfl (by decide) (by decide) d9_2 rfl ?_
  rintro _ h58 ⟨Kh58, rfl, R⟩
  show AtW p l e _ s m _ below meth c n0 _ h58 1 34 (mkF m 5 #[.val (.ref b), .val (.ref a)] [(.ref b)])
  refine w_pop (q := 6) C rfl d9_5 rfl ?_
  refine w_aloadN (q := 7) C rfl rfl d9_6 rfl ?_
  exact w_retA C rfl rfl rfl d9_7 (by decide) (by decide) ⟨Kh58, rfl, R⟩
theorem own_dec {k : Nat} (h : 1 ≤ k) : Int32.ofNat k + Int32.ofInt (-1) = Int32.ofNat (k - 1) := by
  have e : Int32.ofNat k = Int32.ofNat (k - 1) + 1 := by rw [own_one (k - 1)]; congr 1; omega
  rw [e, Int32.add_assoc, show (1 : Int32) + Int32.ofInt (-1) = 0 by decide, Int32.add_zero]
def own_mag (x : Int32) : Nat := x.toInt.natAbs
theorem own_mag_le (x : Int32) : own_mag x ≤ 2 ^ 31 := by have := rng32 x; unfold own_mag; omega
theorem own_mag_neg {x : Int32} (h : x < 0) : x = SBG.negI (own_mag x) := by
  have r := rng32 x
  have e0 : (0 : Int32).toInt = 0 := rfl
  rw [own_lt] at h
  rw [own_eq, SBG.negI_toInt (own_mag_le x)]; unfold own_mag; omega
theorem own_mag_pos {x : Int32} (h : ¬ x < 0) : -x = SBG.negI (own_mag x) := by
  have r := rng32 x
  have e0 : (0 : Int32).toInt = 0 := rfl
  rw [own_lt] at h
  rw [own_eq, SBG.negI_toInt (own_mag_le x), Int32.toInt_neg, SBG.bm (by omega) (by omega)]; unfold own_mag; omega
def own_sg (x : Int32) : Nat := if x < 0 then 1 else 0
def own_isz (x : Int32) : Nat := SBG.digits (own_mag x) + own_sg x
/-- the last k decimal digits of n, as chars -/
def own_dg : Nat → Nat → List Int32
  | 0, _ => []
  | k + 1, n => own_dg k (n / 10) ++ [Int32.ofNat (48 + n % 10)]
theorem own_dg_len : ∀ k n : Nat, (own_dg k n).length = k
  | 0, _ => rfl
  | k + 1, n => by simp [own_dg, own_dg_len k]
theorem own_d48 (d : Nat) (h : d < 10) : ¬ Int32.ofNat (48 + d) < 0 ∧ ¬ 255 < Int32.ofNat (48 + d) := by
  have t : ∀ k : Fin 10, ¬ Int32.ofNat (48 + k.val) < 0 ∧ ¬ 255 < Int32.ofNat (48 + k.val) := by decide +kernel
  exact t ⟨d, h⟩
theorem own_dg_L1 : ∀ k n : Nat, L1 (own_dg k n)
  | 0, _ => fun c hc => absurd hc List.not_mem_nil
  | k + 1, n => fun c hc => by
    rcases List.mem_append.mp hc with hc | hc
    · exact own_dg_L1 k (n / 10) c hc
    · rw [List.mem_singleton.mp hc]; exact own_d48 _ (by omega)
theorem own_dg_get : ∀ (k n i : Nat), i < k → (own_dg k n)[i]? = some (Int32.ofNat (48 + n / 10 ^ (k - 1 - i) % 10))
  | 0, _, i, h => absurd h (by omega)
  | k + 1, n, i, h => by
    unfold own_dg
    by_cases q : i < k
    · rw [List.getElem?_append_left (by rw [own_dg_len]; exact q), own_dg_get k (n / 10) i q, Nat.div_div_eq_div_mul]
      rw [show k + 1 - 1 - i = (k - 1 - i) + 1 by omega, Nat.pow_succ, Nat.mul_comm]
    · obtain rfl : i = k := by omega
      rw [List.getElem?_append_right (by rw [own_dg_len]; exact Nat.le_refl _), own_dg_len, Nat.sub_self, show i + 1 - 1 - i = 0 by omega]
      simp
def own_istr (x : Int32) : List Int32 := (if x < 0 then [(45 : Int32)] else []) ++ own_dg (SBG.digits (own_mag x)) (own_mag x)
theorem own_istr_len (x : Int32) : (own_istr x).length = own_isz x := by
  unfold own_istr own_isz own_sg; split <;> simp [own_dg_len, Nat.add_comm]
theorem own_istr_L1 (x : Int32) : L1 (own_istr x) := L1.app (by split <;> (intro c hc; simp at hc; try (subst hc; decide))) (own_dg_L1 _ _)
theorem own_isz_le (x : Int32) : own_isz x ≤ 11 := by have := (SBG.digits_pos (own_mag x)).2; unfold own_isz own_sg; split <;> omega
theorem own_istr_get {x : Int32} {j : Nat} (hj : j < own_isz x) (h : ¬ (x < 0 ∧ j = 0)) : (own_istr x)[j]? = some (Int32.ofNat (48 + own_mag x / 10 ^ (own_isz x - 1 - j) % 10)) := by
  by_cases hx : x < 0
  · have hj0 : j ≠ 0 := fun q => h ⟨hx, q⟩
    have hz : own_isz x = SBG.digits (own_mag x) + 1 := by unfold own_isz own_sg; rw [if_pos hx]
    have hi : own_istr x = [(45 : Int32)] ++ own_dg (SBG.digits (own_mag x)) (own_mag x) := by unfold own_istr; rw [if_pos hx]
    rw [hz] at hj ⊢
    rw [hi, List.getElem?_append_right (show [(45 : Int32)].length ≤ j by show 1 ≤ j; omega), show j - [(45 : Int32)].length = j - 1 from rfl, own_dg_get _ _ _ (by omega), show SBG.digits (own_mag x) - 1 - (j - 1) = SBG.digits (own_mag x) + 1 - 1 - j by omega]
  · have hz : own_isz x = SBG.digits (own_mag x) := by unfold own_isz own_sg; rw [if_neg hx]; rfl
    have hi : own_istr x = own_dg (SBG.digits (own_mag x)) (own_mag x) := by unfold own_istr; rw [if_neg hx]; rfl
    rw [hz] at hj ⊢
    rw [hi]
    exact own_dg_get _ _ _ hj
theorem own_istr_neg {x : Int32} (hx : x < 0) : (own_istr x)[0]? = some 45 := by
  unfold own_istr; rw [if_pos hx]; rfl
theorem own_dig100 {n : Nat} (h : 100 ≤ n) (hn : n ≤ 2 ^ 31) : SBG.digits n = SBG.digits (n / 100) + 2 := by
  unfold SBG.digits; (repeat' split) <;> omega
/-- what getChars makes of the bytes vs: the digits of n end before c -/
def own_pt (vs : List Value) (c n : Nat) : List Value := vs.take (c - SBG.digits n) ++ own_bs (own_dg (SBG.digits n) n) ++ vs.drop c
def own_by (d : Nat) : Value := .int (Int32.ofNat (48 + d)).toInt8.toInt32
theorem own_split2 (vs : List Value) (c : Nat) (h2 : 2 ≤ c) (hc : c ≤ vs.length) : ∃ (P : List Value) (x y : Value) (Q : List Value), vs = P ++ x :: y :: Q ∧ c = P.length + 2 :=
  ⟨vs.take (c - 2), vs[c - 2], vs[c - 2 + 1], vs.drop (c - 2 + 1 + 1), by rw [← List.drop_eq_getElem_cons, ← List.drop_eq_getElem_cons, List.take_append_drop], by rw [List.length_take]; omega⟩
theorem own_set2 (P Q : List Value) (x y a b : Value) : ((P ++ x :: y :: Q).set (P.length + 1) a).set P.length b = P ++ b :: a :: Q := by
  rw [List.set_append_right _ _ (by omega), List.set_append_right _ _ (by omega), Nat.sub_self, show P.length + 1 - P.length = 1 by omega]; rfl
theorem own_pt100 {vs : List Value} {c n : Nat} (h : 100 ≤ n) (hn : n ≤ 2 ^ 31) (h1 : SBG.digits n ≤ c) (hc : c ≤ vs.length) : own_pt ((vs.set (c - 1) (own_by (n % 100 % 10))).set (c - 1 - 1) (own_by (n % 100 / 10))) (c - 1 - 1) (n / 100) = own_pt vs c n := by
  have hd := own_dig100 h hn
  obtain ⟨P, x, y, Q, rfl, rfl⟩ := own_split2 vs c (by omega) hc
  rw [show P.length + 2 - 1 - 1 = P.length by omega, show P.length + 2 - 1 = P.length + 1 by omega, own_set2]
  unfold own_pt
  rw [hd, show P.length + 2 - (SBG.digits (n / 100) + 2) = P.length - SBG.digits (n / 100) by omega, List.take_append_of_le_length (by omega), List.take_append_of_le_length (by omega)]
  rw [show own_dg (SBG.digits (n / 100) + 2) n = own_dg (SBG.digits (n / 100)) (n / 100) ++ [Int32.ofNat (48 + n % 100 / 10), Int32.ofNat (48 + n % 100 % 10)] by
    show (own_dg (SBG.digits (n / 100)) (n / 10 / 10) ++ [Int32.ofNat (48 + n / 10 % 10)]) ++ [Int32.ofNat (48 + n % 10)] = _
    rw [List.append_assoc, Nat.div_div_eq_div_mul, show n / 10 % 10 = n % 100 / 10 by omega, show n % 10 = n % 100 % 10 by omega]; rfl]
  rw [own_bs_app]
  have e1 : (P ++ own_by (n % 100 / 10) :: own_by (n % 100 % 10) :: Q).drop P.length = own_by (n % 100 / 10) :: own_by (n % 100 % 10) :: Q := List.drop_left' rfl
  have e2 : (P ++ x :: y :: Q).drop (P.length + 2) = Q := by rw [List.drop_append, List.drop_eq_nil_of_le (by omega)]; simp
  rw [e1, e2]
  simp [own_bs, own_by]
theorem own_pt1 {vs : List Value} {c n : Nat} (h : n < 10) (h1 : 1 ≤ c) (hc : c ≤ vs.length) : vs.set (c - 1) (own_by (n % 10)) = own_pt vs c n := by
  unfold own_pt
  rw [show SBG.digits n = 1 by unfold SBG.digits; rw [if_pos h]]
  have e : own_bs (own_dg 1 n) = [own_by (n % 10)] := rfl
  rw [e, List.set_eq_take_append_cons_drop, if_pos (by omega), show c - 1 + 1 = c by omega, List.append_assoc]; rfl
theorem own_pt2 {vs : List Value} {c n : Nat} (h0 : ¬ n < 10) (h : n < 100) (h1 : 2 ≤ c) (hc : c ≤ vs.length) : (vs.set (c - 1) (own_by (n % 10))).set (c - 1 - 1) (own_by (n / 10)) = own_pt vs c n := by
  obtain ⟨P, x, y, Q, rfl, rfl⟩ := own_split2 vs c h1 hc
  rw [show P.length + 2 - 1 - 1 = P.length by omega, show P.length + 2 - 1 = P.length + 1 by omega, own_set2]
  unfold own_pt
  rw [show SBG.digits n = 2 by unfold SBG.digits; rw [if_neg h0, if_pos h], show P.length + 2 - 2 = P.length by omega, List.take_left' rfl]
  have e : own_bs (own_dg 2 n) = [own_by (n / 10), own_by (n % 10)] := by
    show [Value.int (Int32.ofNat (48 + n / 10 % 10)).toInt8.toInt32, _] = _
    rw [show n / 10 % 10 = n / 10 by omega]; rfl
  have e2 : (P ++ x :: y :: Q).drop (P.length + 2) = Q := by rw [List.drop_append, List.drop_eq_nil_of_le (by omega)]; simp
  rw [e, e2]; simp
theorem own_ptS {vs : List Value} {c : Nat} {x : Int32} (hx : x < 0) (h1 : own_isz x ≤ c) (hc : c ≤ vs.length) : (own_pt vs c (own_mag x)).set (c - SBG.digits (own_mag x) - 1) (.int (45 : Int32)) = vs.take (c - own_isz x) ++ own_bs (own_istr x) ++ vs.drop c := by
  have e : own_isz x = SBG.digits (own_mag x) + 1 := by unfold own_isz own_sg; rw [if_pos hx]
  rw [e] at h1 ⊢
  unfold own_pt own_istr
  rw [if_pos hx, own_bs_app]
  have hl : (vs.take (c - SBG.digits (own_mag x))).length = c - SBG.digits (own_mag x) := by rw [List.length_take]; omega
  rw [List.append_assoc, List.set_append_left _ _ (by omega), List.set_eq_take_append_cons_drop, if_pos (by omega), List.take_take, List.drop_eq_nil_of_le (by omega), Nat.min_eq_left (by omega)]
  have e2 : own_bs [(45 : Int32)] = [Value.int (45 : Int32)] := by decide
  rw [e2, show c - (SBG.digits (own_mag x) + 1) = c - SBG.digits (own_mag x) - 1 by omega]
  simp
theorem own_ptP {vs : List Value} {c : Nat} {x : Int32} (hx : ¬ x < 0) : own_pt vs c (own_mag x) = vs.take (c - own_isz x) ++ own_bs (own_istr x) ++ vs.drop c := by
  have e : own_isz x = SBG.digits (own_mag x) := by unfold own_isz own_sg; rw [if_neg hx]; rfl
  unfold own_pt own_istr
  rw [e, if_neg hx, List.nil_append]

theorem d19_0 : decode jdk_33_method_13_code 0 = .ok (.iconst 1, 1) := by decide +kernel
theorem d19_1 : decode jdk_33_method_13_code 1 = .ok (.istore_n 1, 1) := by decide +kernel
theorem d19_2 : decode jdk_33_method_13_code 2 = .ok (.iload_n 0, 1) := by decide +kernel
theorem d19_3 : decode jdk_33_method_13_code 3 = .ok (.ifCond .lt 8, 3) := by decide +kernel
theorem d19_6 : decode jdk_33_method_13_code 6 = .ok (.iconst 0, 1) := by decide +kernel
theorem d19_7 : decode jdk_33_method_13_code 7 = .ok (.istore_n 1, 1) := by decide +kernel
theorem d19_8 : decode jdk_33_method_13_code 8 = .ok (.iload_n 0, 1) := by decide +kernel
theorem d19_9 : decode jdk_33_method_13_code 9 = .ok (.ineg, 1) := by decide +kernel
theorem d19_10 : decode jdk_33_method_13_code 10 = .ok (.istore_n 0, 1) := by decide +kernel
theorem d19_11 : decode jdk_33_method_13_code 11 = .ok (.bipush (-10), 2) := by decide +kernel
theorem d19_13 : decode jdk_33_method_13_code 13 = .ok (.istore_n 2, 1) := by decide +kernel
theorem d19_14 : decode jdk_33_method_13_code 14 = .ok (.iconst 1, 1) := by decide +kernel
theorem d19_15 : decode jdk_33_method_13_code 15 = .ok (.istore_n 3, 1) := by decide +kernel
theorem d19_16 : decode jdk_33_method_13_code 16 = .ok (.iload_n 3, 1) := by decide +kernel
theorem d19_17 : decode jdk_33_method_13_code 17 = .ok (.bipush 10, 2) := by decide +kernel
theorem d19_19 : decode jdk_33_method_13_code 19 = .ok (.if_icmp .ge 23, 3) := by decide +kernel
theorem d19_22 : decode jdk_33_method_13_code 22 = .ok (.iload_n 0, 1) := by decide +kernel
theorem d19_23 : decode jdk_33_method_13_code 23 = .ok (.iload_n 2, 1) := by decide +kernel
theorem d19_24 : decode jdk_33_method_13_code 24 = .ok (.if_icmp .le 7, 3) := by decide +kernel
theorem d19_27 : decode jdk_33_method_13_code 27 = .ok (.iload_n 3, 1) := by decide +kernel
theorem d19_28 : decode jdk_33_method_13_code 28 = .ok (.iload_n 1, 1) := by decide +kernel
theorem d19_29 : decode jdk_33_method_13_code 29 = .ok (.iadd, 1) := by decide +kernel
theorem d19_30 : decode jdk_33_method_13_code 30 = .ok (.ireturn, 1) := by decide +kernel
theorem d19_31 : decode jdk_33_method_13_code 31 = .ok (.bipush 10, 2) := by decide +kernel
theorem d19_33 : decode jdk_33_method_13_code 33 = .ok (.iload_n 2, 1) := by decide +kernel
theorem d19_34 : decode jdk_33_method_13_code 34 = .ok (.imul, 1) := by decide +kernel
theorem d19_35 : decode jdk_33_method_13_code 35 = .ok (.istore_n 2, 1) := by decide +kernel
theorem d19_36 : decode jdk_33_method_13_code 36 = .ok (.iinc 3 1, 3) := by decide +kernel
theorem d19_39 : decode jdk_33_method_13_code 39 = .ok (.goto (-23), 3) := by decide +kernel
theorem d19_42 : decode jdk_33_method_13_code 42 = .ok (.bipush 10, 2) := by decide +kernel
theorem d19_44 : decode jdk_33_method_13_code 44 = .ok (.iload_n 1, 1) := by decide +kernel
theorem d19_45 : decode jdk_33_method_13_code 45 = .ok (.iadd, 1) := by decide +kernel
theorem d19_46 : decode jdk_33_method_13_code 46 = .ok (.ireturn, 1) := by decide +kernel
theorem pf19 : plainFor (⟨"java/lang/Integer", "stringSize", "(I)I"⟩ : MethodName) = true := by first | exact plainFor_of_name (by first | (simp [plainName, overriddenIn]; done) | decide +kernel) | decide +kernel
theorem ef_strSize (m : MethodId) (z0 : Int32) : entryFrame m #[(.int z0)] 4 = mkF m 0 #[.val (.int z0), .unset, .unset, .unset] [] := by first | rfl | (simp [entryFrame, mkF, argsToLocals, Value.category, *]; done) | rfl
set_option maxRecDepth 65536 in
set_option maxHeartbeats 40000000 in
theorem rm_strSize {l : Launch} {Z : State} {a0 : Array Value} {n0 : Nat} (G : Gl Z a0 n0) {h0 : Heap} (O : Old Z n0 h0) (x : Int32) :
    Ct [] l Z n0 (⟨"java/lang/Integer", "stringSize", "(I)I"⟩ : MethodName) jdk_33_method_13_code 4 (some .int) ({ frames := 0, cells := 0, slots := 0, locals := 0 } : Room) #[(.int x)] h0 (fun v h => h = h0 ∧ v = some (.int (Int32.ofNat (own_isz x)))) := by
  refine Ct.intro pf19 ?_
  intro p e s m below meth c C
  refine AtW.cast ?_ (ef_strSize m x)
  have hle := own_mag_le x
  have lt1 : (-10 : Int32) < SBG.negI (own_mag x) ↔ own_mag x < 10 := by rw [show (-10 : Int32) = SBG.negI 10 by decide +kernel]; exact SBG.negI_lt hle 10 (by omega)
  have lt2 : (-100 : Int32) < SBG.negI (own_mag x) ↔ own_mag x < 100 := by rw [show (-100 : Int32) = SBG.negI 100 by decide +kernel]; exact SBG.negI_lt hle 100 (by omega)
  have lt3 : (-1000 : Int32) < SBG.negI (own_mag x) ↔ own_mag x < 1000 := by rw [show (-1000 : Int32) = SBG.negI 1000 by decide +kernel]; exact SBG.negI_lt hle 1000 (by omega)
  have lt4 : (-10000 : Int32) < SBG.negI (own_mag x) ↔ own_mag x < 10000 := by rw [show (-10000 : Int32) = SBG.negI 10000 by decide +kernel]; exact SBG.negI_lt hle 10000 (by omega)
  have lt5 : (-100000 : Int32) < SBG.negI (own_mag x) ↔ own_mag x < 100000 := by rw [show (-100000 : Int32) = SBG.negI 100000 by decide +kernel]; exact SBG.negI_lt hle 100000 (by omega)
  have lt6 : (-1000000 : Int32) < SBG.negI (own_mag x) ↔ own_mag x < 1000000 := by rw [show (-1000000 : Int32) = SBG.negI 1000000 by decide +kernel]; exact SBG.negI_lt hle 1000000 (by omega)
  have lt7 : (-10000000 : Int32) < SBG.negI (own_mag x) ↔ own_mag x < 10000000 := by rw [show (-10000000 : Int32) = SBG.negI 10000000 by decide +kernel]; exact SBG.negI_lt hle 10000000 (by omega)
  have lt8 : (-100000000 : Int32) < SBG.negI (own_mag x) ↔ own_mag x < 100000000 := by rw [show (-100000000 : Int32) = SBG.negI 100000000 by decide +kernel]; exact SBG.negI_lt hle 100000000 (by omega)
  have lt9 : (-1000000000 : Int32) < SBG.negI (own_mag x) ↔ own_mag x < 1000000000 := by rw [show (-1000000000 : Int32) = SBG.negI 1000000000 by decide +kernel]; exact SBG.negI_lt hle 1000000000 (by omega)
  have LOOP : ∀ sg : Nat, own_isz x = SBG.digits (own_mag x) + sg → AtW p l e ({ frames := 0, cells := 0, slots := 0, locals := 0 } : Room) s m #[(.int x)] below meth c n0 (fun v h => h = h0 ∧ v = some (.int (Int32.ofNat (own_isz x)))) h0 0 0 (mkF m 11 #[.val (.int (SBG.negI (own_mag x))), .val (.int (Int32.ofNat sg)), .unset, .unset] []) := by
    intro sg hsg
    refine w_bipush (q := 13) (v := (-10 : Int32)) C (by rfl) d19_11 rfl ?_
    refine w_istoreN (q := 14) (L' := #[.val (.int (SBG.negI (own_mag x))), .val (.int (Int32.ofNat sg)), .val (.int (-10 : Int32)), .unset]) C rfl d19_13 rfl ?_
    refine w_iconst (q := 15) (v := (1 : Int32)) C (by rfl) d19_14 rfl ?_
    refine w_istoreN (q := 16) (L' := #[.val (.int (SBG.negI (own_mag x))), .val (.int (Int32.ofNat sg)), .val (.int (-10 : Int32)), .val (.int (1 : Int32))]) C rfl d19_15 rfl ?_
    refine w_iloadN (q := 17) C rfl d19_16 rfl ?_
    refine w_bipush (q := 19) (v := (10 : Int32)) C (by rfl) d19_17 rfl ?_
    refine w_icmp_ge_f (q := 22) C d19_19 rfl (by decide) ?_
    refine w_iloadN (q := 23) C rfl d19_22 rfl ?_
    refine w_iloadN (q := 24) C rfl d19_23 rfl ?_
    by_cases q1 : (-10 : Int32) < (SBG.negI (own_mag x))
    · refine w_icmp_le_f (q := 27) C d19_24 rfl q1 ?_
      refine w_iloadN (q := 28) C rfl d19_27 rfl ?_
      refine w_iloadN (q := 29) C rfl d19_28 rfl ?_
      refine w_iadd (q := 30) C rfl d19_29 rfl ?_
      rw [show ((1 : Int32) + (Int32.ofNat sg)) = (Int32.ofNat (1 + sg)) from own_add 1 sg]
      exact w_retI C rfl d19_30 (by decide) (by decide) ⟨rfl, by rw [hsg, show SBG.digits (own_mag x) = 1 by (try rw [lt1] at q1); unfold SBG.digits; (repeat' split) <;> omega]⟩
    · refine w_icmp_le_t (q := 31) C d19_24 (by decide) (by decide) q1 ?_
      rw [lt1] at q1
      refine w_bipush (q := 33) (v := (10 : Int32)) C (by rfl) d19_31 rfl ?_
      refine w_iloadN (q := 34) C rfl d19_33 rfl ?_
      refine w_imul (q := 35) (z := (-100 : Int32)) C (by decide) d19_34 rfl ?_
      refine w_istoreN (q := 36) (L' := #[.val (.int (SBG.negI (own_mag x))), .val (.int (Int32.ofNat sg)), .val (.int (-100 : Int32)), .val (.int (1 : Int32))]) C rfl d19_35 rfl ?_
      refine w_iinc (q := 39) (L' := #[.val (.int (SBG.negI (own_mag x))), .val (.int (Int32.ofNat sg)), .val (.int (-100 : Int32)), .val (.int (2 : Int32))]) C rfl (by decide) rfl d19_36 rfl ?_
      refine w_goto (q := 16) C d19_39 (by decide) (by decide) ?_
      refine w_iloadN (q := 17) C rfl d19_16 rfl ?_
      refine w_bipush (q := 19) (v := (10 : Int32)) C (by rfl) d19_17 rfl ?_
      refine w_icmp_ge_f (q := 22) C d19_19 rfl (by decide) ?_
      refine w_iloadN (q := 23) C rfl d19_22 rfl ?_
      refine w_iloadN (q := 24) C rfl d19_23 rfl ?_
      by_cases q2 : (-100 : Int32) < (SBG.negI (own_mag x))
      · refine w_icmp_le_f (q := 27) C d19_24 rfl q2 ?_
        refine w_iloadN (q := 28) C rfl d19_27 rfl ?_
        refine w_iloadN (q := 29) C rfl d19_28 rfl ?_
        refine w_iadd (q := 30) C rfl d19_29 rfl ?_
        rw [show ((2 : Int32) + (Int32.ofNat sg)) = (Int32.ofNat (2 + sg)) from own_add 2 sg]
        exact w_retI C rfl d19_30 (by decide) (by decide) ⟨rfl, by rw [hsg, show SBG.digits (own_mag x) = 2 by (try rw [lt2] at q2); unfold SBG.digits; (repeat' split) <;> omega]⟩
      · refine w_icmp_le_t (q := 31) C d19_24 (by decide) (by decide) q2 ?_
        rw [lt2] at q2
        refine w_bipush (q := 33) (v := (10 : Int32)) C (by rfl) d19_31 rfl ?_
        refine w_iloadN (q := 34) C rfl d19_33 rfl ?_
        refine w_imul (q := 35) (z := (-1000 : Int32)) C (by decide) d19_34 rfl ?_
        refine w_istoreN (q := 36) (L' := #[.val (.int (SBG.negI (own_mag x))), .val (.int (Int32.ofNat sg)), .val (.int (-1000 : Int32)), .val (.int (2 : Int32))]) C rfl d19_35 rfl ?_
        refine w_iinc (q := 39) (L' := #[.val (.int (SBG.negI (own_mag x))), .val (.int (Int32.ofNat sg)), .val (.int (-1000 : Int32)), .val (.int (3 : Int32))]) C rfl (by decide) rfl d19_36 rfl ?_
        refine w_goto (q := 16) C d19_39 (by decide) (by decide) ?_
        refine w_iloadN (q := 17) C rfl d19_16 rfl ?_
        refine w_bipush (q := 19) (v := (10 : Int32)) C (by rfl) d19_17 rfl ?_
        refine w_icmp_ge_f (q := 22) C d19_19 rfl (by decide) ?_
        refine w_iloadN (q := 23) C rfl d19_22 rfl ?_
        refine w_iloadN (q := 24) C rfl d19_23 rfl ?_
        by_cases q3 : (-1000 : Int32) < (SBG.negI (own_mag x))
        · refine w_icmp_le_f (q := 27) C d19_24 rfl q3 ?_
          refine w_iloadN (q := 28) C rfl d19_27 rfl ?_
          refine w_iloadN (q := 29) C rfl d19_28 rfl ?_
          refine w_iadd (q := 30) C rfl d19_29 rfl ?_
          rw [show ((3 : Int32) + (Int32.ofNat sg)) = (Int32.ofNat (3 + sg)) from own_add 3 sg]
          exact w_retI C rfl d19_30 (by decide) (by decide) ⟨rfl, by rw [hsg, show SBG.digits (own_mag x) = 3 by (try rw [lt3] at q3); unfold SBG.digits; (repeat' split) <;> omega]⟩
        · refine w_icmp_le_t (q := 31) C d19_24 (by decide) (by decide) q3 ?_
          rw [lt3] at q3
          refine w_bipush (q := 33) (v := (10 : Int32)) C (by rfl) d19_31 rfl ?_
          refine w_iloadN (q := 34) C rfl d19_33 rfl ?_
          refine w_imul (q := 35) (z := (-10000 : Int32)) C (by decide) d19_34 rfl ?_
          refine w_istoreN (q := 36) (L' := #[.val (.int (SBG.negI (own_mag x))), .val (.int (Int32.ofNat sg)), .val (.int (-10000 : Int32)), .val (.int (3 : Int32))]) C rfl d19_35 rfl ?_
          refine w_iinc (q := 39) (L' := #[.val (.int (SBG.negI (own_mag x))), .val (.int (Int32.ofNat sg)), .val (.int (-10000 : Int32)), .val (.int (4 : Int32))]) C rfl (by decide) rfl d19_36 rfl ?_
          refine w_goto (q := 16) C d19_39 (by decide) (by decide) ?_
          refine w_iloadN (q := 17) C rfl d19_16 rfl ?_
          refine w_bipush (q := 19) (v := (10 : Int32)) C (by rfl) d19_17 rfl ?_
          refine w_icmp_ge_f (q := 22) C d19_19 rfl (by decide) ?_
          refine w_iloadN (q := 23) C rfl d19_22 rfl ?_
          refine w_iloadN (q := 24) C rfl d19_23 rfl ?_
          by_cases q4 : (-10000 : Int32) < (SBG.negI (own_mag x))
          · refine w_icmp_le_f (q := 27) C d19_24 rfl q4 ?_
            refine w_iloadN (q := 28) C rfl d19_27 rfl ?_
            refine w_iloadN (q := 29) C rfl d19_28 rfl ?_
            refine w_iadd (q := 30) C rfl d19_29 rfl ?_
            rw [show ((4 : Int32) + (Int32.ofNat sg)) = (Int32.ofNat (4 + sg)) from own_add 4 sg]
            exact w_retI C rfl d19_30 (by decide) (by decide) ⟨rfl, by rw [hsg, show SBG.digits (own_mag x) = 4 by (try rw [lt4] at q4); unfold SBG.digits; (repeat' split) <;> omega]⟩
          · refine w_icmp_le_t (q := 31) C d19_24 (by decide) (by decide) q4 ?_
            rw [lt4] at q4
            refine w_bipush (q := 33) (v := (10 : Int32)) C (by rfl) d19_31 rfl ?_
            refine w_iloadN (q := 34) C rfl d19_33 rfl ?_
            refine w_imul (q := 35) (z := (-100000 : Int32)) C (by decide) d19_34 rfl ?_
            refine w_istoreN (q := 36) (L' := #[.val (.int (SBG.negI (own_mag x))), .val (.int (Int32.ofNat sg)), .val (.int (-100000 : Int32)), .val (.int (4 : Int32))]) C rfl d19_35 rfl ?_
            refine w_iinc (q := 39) (L' := #[.val (.int (SBG.negI (own_mag x))), .val (.int (Int32.ofNat sg)), .val (.int (-100000 : Int32)), .val (.int (5 : Int32))]) C rfl (by decide) rfl d19_36 rfl ?_
            refine w_goto (q := 16) C d19_39 (by decide) (by decide) ?_
            refine w_iloadN (q := 17) C rfl d19_16 rfl ?_
            refine w_bipush (q := 19) (v := (10 : Int32)) C (by rfl) d19_17 rfl ?_
            refine w_icmp_ge_f (q := 22) C d19_19 rfl (by decide) ?_
            refine w_iloadN (q := 23) C rfl d19_22 rfl ?_
            refine w_iloadN (q := 24) C rfl d19_23 rfl ?_
            by_cases q5 : (-100000 : Int32) < (SBG.negI (own_mag x))
            · refine w_icmp_le_f (q := 27) C d19_24 rfl q5 ?_
              refine w_iloadN (q := 28) C rfl d19_27 rfl ?_
              refine w_iloadN (q := 29) C rfl d19_28 rfl ?_
              refine w_iadd (q := 30) C rfl d19_29 rfl ?_
              rw [show ((5 : Int32) + (Int32.ofNat sg)) = (Int32.ofNat (5 + sg)) from own_add 5 sg]
              exact w_retI C rfl d19_30 (by decide) (by decide) ⟨rfl, by rw [hsg, show SBG.digits (own_mag x) = 5 by (try rw [lt5] at q5); unfold SBG.digits; (repeat' split) <;> omega]⟩
            · refine w_icmp_le_t (q := 31) C d19_24 (by decide) (by decide) q5 ?_
              rw [lt5] at q5
              refine w_bipush (q := 33) (v := (10 : Int32)) C (by rfl) d19_31 rfl ?_
              refine w_iloadN (q := 34) C rfl d19_33 rfl ?_
              refine w_imul (q := 35) (z := (-1000000 : Int32)) C (by decide) d19_34 rfl ?_
              refine w_istoreN (q := 36) (L' := #[.val (.int (SBG.negI (own_mag x))), .val (.int (Int32.ofNat sg)), .val (.int (-1000000 : Int32)), .val (.int (5 : Int32))]) C rfl d19_35 rfl ?_
              refine w_iinc (q := 39) (L' := #[.val (.int (SBG.negI (own_mag x))), .val (.int (Int32.ofNat sg)), .val (.int (-1000000 : Int32)), .val (.int (6 : Int32))]) C rfl (by decide) rfl d19_36 rfl ?_
              refine w_goto (q := 16) C d19_39 (by decide) (by decide) ?_
              refine w_iloadN (q := 17) C rfl d19_16 rfl ?_
              refine w_bipush (q := 19) (v := (10 : Int32)) C (by rfl) d19_17 rfl ?_
              refine w_icmp_ge_f (q := 22) C d19_19 rfl (by decide) ?_
              refine w_iloadN (q := 23) C rfl d19_22 rfl ?_
              refine w_iloadN (q := 24) C rfl d19_23 rfl ?_
              by_cases q6 : (-1000000 : Int32) < (SBG.negI (own_mag x))
              · refine w_icmp_le_f (q := 27) C d19_24 rfl q6 ?_
                refine w_iloadN (q := 28) C rfl d19_27 rfl ?_
                refine w_iloadN (q := 29) C rfl d19_28 rfl ?_
                refine w_iadd (q := 30) C rfl d19_29 rfl ?_
                rw [show ((6 : Int32) + (Int32.ofNat sg)) = (Int32.ofNat (6 + sg)) from own_add 6 sg]
                exact w_retI C rfl d19_30 (by decide) (by decide) ⟨rfl, by rw [hsg, show SBG.digits (own_mag x) = 6 by (try rw [lt6] at q6); unfold SBG.digits; (repeat' split) <;> omega]⟩
              · refine w_icmp_le_t (q := 31) C d19_24 (by decide) (by decide) q6 ?_
                rw [lt6] at q6
                refine w_bipush (q := 33) (v := (10 : Int32)) C (by rfl) d19_31 rfl ?_
                refine w_iloadN (q := 34) C rfl d19_33 rfl ?_
                refine w_imul (q := 35) (z := (-10000000 : Int32)) C (by decide) d19_34 rfl ?_
                refine w_istoreN (q := 36) (L' := #[.val (.int (SBG.negI (own_mag x))), .val (.int (Int32.ofNat sg)), .val (.int (-10000000 : Int32)), .val (.int (6 : Int32))]) C rfl d19_35 rfl ?_
                refine w_iinc (q := 39) (L' := #[.val (.int (SBG.negI (own_mag x))), .val (.int (Int32.ofNat sg)), .val (.int (-10000000 : Int32)), .val (.int (7 : Int32))]) C rfl (by decide) rfl d19_36 rfl ?_
                refine w_goto (q := 16) C d19_39 (by decide) (by decide) ?_
                refine w_iloadN (q := 17) C rfl d19_16 rfl ?_
                refine w_bipush (q := 19) (v := (10 : Int32)) C (by rfl) d19_17 rfl ?_
                refine w_icmp_ge_f (q := 22) C d19_19 rfl (by decide) ?_
                refine w_iloadN (q := 23) C rfl d19_22 rfl ?_
                refine w_iloadN (q := 24) C rfl d19_23 rfl ?_
                by_cases q7 : (-10000000 : Int32) < (SBG.negI (own_mag x))
                · refine w_icmp_le_f (q := 27) C d19_24 rfl q7 ?_
                  refine w_iloadN (q := 28) C rfl d19_27 rfl ?_
                  refine w_iloadN (q := 29) C rfl d19_28 rfl ?_
                  refine w_iadd (q := 30) C rfl d19_29 rfl ?_
                  rw [show ((7 : Int32) + (Int32.ofNat sg)) = (Int32.ofNat (7 + sg)) from own_add 7 sg]
                  exact w_retI C rfl d19_30 (by decide) (by decide) ⟨rfl, by rw [hsg, show SBG.digits (own_mag x) = 7 by (try rw [lt7] at q7); unfold SBG.digits; (repeat' split) <;> omega]⟩
                · refine w_icmp_le_t (q := 31) C d19_24 (by decide) (by decide) q7 ?_
                  rw [lt7] at q7
                  refine w_bipush (q := 33) (v := (10 : Int32)) C (by rfl) d19_31 rfl ?_
                  refine w_iloadN (q := 34) C rfl d19_33 rfl ?_
                  refine w_imul (q := 35) (z := (-100000000 : Int32)) C (by decide) d19_34 rfl ?_
                  refine w_istoreN (q := 36) (L' := #[.val (.int (SBG.negI (own_mag x))), .val (.int (Int32.ofNat sg)), .val (.int (-100000000 : Int32)), .val (.int (7 : Int32))]) C rfl d19_35 rfl ?_
                  refine w_iinc (q := 39) (L' := #[.val (.int (SBG.negI (own_mag x))), .val (.int (Int32.ofNat sg)), .val (.int (-100000000 : Int32)), .val (.int (8 : Int32))]) C rfl (by decide) rfl d19_36 rfl ?_
                  refine w_goto (q := 16) C d19_39 (by decide) (by decide) ?_
                  refine w_iloadN (q := 17) C rfl d19_16 rfl ?_
                  refine w_bipush (q := 19) (v := (10 : Int32)) C (by rfl) d19_17 rfl ?_
                  refine w_icmp_ge_f (q := 22) C d19_19 rfl (by decide) ?_
                  refine w_iloadN (q := 23) C rfl d19_22 rfl ?_
                  refine w_iloadN (q := 24) C rfl d19_23 rfl ?_
                  by_cases q8 : (-100000000 : Int32) < (SBG.negI (own_mag x))
                  · refine w_icmp_le_f (q := 27) C d19_24 rfl q8 ?_
                    refine w_iloadN (q := 28) C rfl d19_27 rfl ?_
                    refine w_iloadN (q := 29) C rfl d19_28 rfl ?_
                    refine w_iadd (q := 30) C rfl d19_29 rfl ?_
                    rw [show ((8 : Int32) + (Int32.ofNat sg)) = (Int32.ofNat (8 + sg)) from own_add 8 sg]
                    exact w_retI C rfl d19_30 (by decide) (by decide) ⟨rfl, by rw [hsg, show SBG.digits (own_mag x) = 8 by (try rw [lt8] at q8); unfold SBG.digits; (repeat' split) <;> omega]⟩
                  · refine w_icmp_le_t (q := 31) C d19_24 (by decide) (by decide) q8 ?_
                    rw [lt8] at q8
                    refine w_bipush (q := 33) (v := (10 : Int32)) C (by rfl) d19_31 rfl ?_
                    refine w_iloadN (q := 34) C rfl d19_33 rfl ?_
                    refine w_imul (q := 35) (z := (-1000000000 : Int32)) C (by decide) d19_34 rfl ?_
                    refine w_istoreN (q := 36) (L' := #[.val (.int (SBG.negI (own_mag x))), .val (.int (Int32.ofNat sg)), .val (.int (-1000000000 : Int32)), .val (.int (8 : Int32))]) C rfl d19_35 rfl ?_
                    refine w_iinc (q := 39) (L' := #[.val (.int (SBG.negI (own_mag x))), .val (.int (Int32.ofNat sg)), .val (.int (-1000000000 : Int32)), .val (.int (9 : Int32))]) C rfl (by decide) rfl d19_36 rfl ?_
                    refine w_goto (q := 16) C d19_39 (by decide) (by decide) ?_
                    refine w_iloadN (q := 17) C rfl d19_16 rfl ?_
                    refine w_bipush (q := 19) (v := (10 : Int32)) C (by rfl) d19_17 rfl ?_
                    refine w_icmp_ge_f (q := 22) C d19_19 rfl (by decide) ?_
                    refine w_iloadN (q := 23) C rfl d19_22 rfl ?_
                    refine w_iloadN (q := 24) C rfl d19_23 rfl ?_
                    by_cases q9 : (-1000000000 : Int32) < (SBG.negI (own_mag x))
                    · refine w_icmp_le_f (q := 27) C d19_24 rfl q9 ?_
                      refine w_iloadN (q := 28) C rfl d19_27 rfl ?_
                      refine w_iloadN (q := 29) C rfl d19_28 rfl ?_
                      refine w_iadd (q := 30) C rfl d19_29 rfl ?_
                      rw [show ((9 : Int32) + (Int32.ofNat sg)) = (Int32.ofNat (9 + sg)) from own_add 9 sg]
                      exact w_retI C rfl d19_30 (by decide) (by decide) ⟨rfl, by rw [hsg, show SBG.digits (own_mag x) = 9 by (try rw [lt9] at q9); unfold SBG.digits; (repeat' split) <;> omega]⟩
                    · refine w_icmp_le_t (q := 31) C d19_24 (by decide) (by decide) q9 ?_
                      rw [lt9] at q9
                      refine w_bipush (q := 33) (v := (10 : Int32)) C (by rfl) d19_31 rfl ?_
                      refine w_iloadN (q := 34) C rfl d19_33 rfl ?_
                      refine w_imul (q := 35) (z := (-1410065408 : Int32)) C (by decide) d19_34 rfl ?_
                      refine w_istoreN (q := 36) (L' := #[.val (.int (SBG.negI (own_mag x))), .val (.int (Int32.ofNat sg)), .val (.int (-1410065408 : Int32)), .val (.int (9 : Int32))]) C rfl d19_35 rfl ?_
                      refine w_iinc (q := 39) (L' := #[.val (.int (SBG.negI (own_mag x))), .val (.int (Int32.ofNat sg)), .val (.int (-1410065408 : Int32)), .val (.int (10 : Int32))]) C rfl (by decide) rfl d19_36 rfl ?_
                      refine w_goto (q := 16) C d19_39 (by decide) (by decide) ?_
                      refine w_iloadN (q := 17) C rfl d19_16 rfl ?_
                      refine w_bipush (q := 19) (v := (10 : Int32)) C (by rfl) d19_17 rfl ?_
                      refine w_icmp_ge_t (q := 42) C d19_19 (by decide) (by decide) (by decide) ?_
                      refine w_bipush (q := 44) (v := (10 : Int32)) C (by rfl) d19_42 rfl ?_
                      refine w_iloadN (q := 45) C rfl d19_44 rfl ?_
                      refine w_iadd (q := 46) C rfl d19_45 rfl ?_
                      rw [show ((10 : Int32) + (Int32.ofNat sg)) = (Int32.ofNat (10 + sg)) from own_add 10 sg]
                      exact w_retI C rfl d19_46 (by decide) (by decide) ⟨rfl, by rw [hsg, show SBG.digits (own_mag x) = 10 by unfold SBG.digits; (repeat' split) <;> omega]⟩
  refine w_iconst (q := 1) (v := (1 : Int32)) C (by rfl) d19_0 rfl ?_
  refine w_istoreN (q := 2) (L' := #[.val (.int x), .val (.int (1 : Int32)), .unset, .unset]) C rfl d19_1 rfl ?_
  refine w_iloadN (q := 3) C rfl d19_2 rfl ?_
  by_cases q : x < 0
  · refine w_if_lt_t (q := 11) C d19_3 (by decide) (by decide) q ?_
    have J := LOOP 1 (by unfold own_isz own_sg; rw [if_pos q])
    rw [← own_mag_neg q] at J
    exact J
  · refine w_if_lt_f (q := 6) C d19_3 rfl q ?_
    refine w_iconst (q := 7) (v := (0 : Int32)) C (by rfl) d19_6 rfl ?_
    refine w_istoreN (q := 8) (L' := #[.val (.int x), .val (.int (0 : Int32)), .unset, .unset]) C rfl d19_7 rfl ?_
    refine w_iloadN (q := 9) C rfl d19_8 rfl ?_
    refine w_ineg (q := 10) C rfl d19_9 rfl ?_
    rw [show (-x) = (SBG.negI (own_mag x)) from own_mag_pos q]
    refine w_istoreN (q := 11) (L' := #[.val (.int (SBG.negI (own_mag x))), .val (.int (0 : Int32)), .unset, .unset]) C rfl d19_10 rfl ?_
    exact LOOP 0 (by unfold own_isz own_sg; rw [if_neg q])
theorem d21_0 : decode jdk_33_method_12_code 0 = .ok (.iload_n 1, 1) := by decide +kernel
theorem d21_1 : decode jdk_33_method_12_code 1 = .ok (.istore 5, 2) := by decide +kernel
theorem d21_3 : decode jdk_33_method_12_code 3 = .ok (.iload_n 0, 1) := by decide +kernel
theorem d21_4 : decode jdk_33_method_12_code 4 = .ok (.ifCond .ge 7, 3) := by decide +kernel
theorem d21_7 : decode jdk_33_method_12_code 7 = .ok (.iconst 1, 1) := by decide +kernel
theorem d21_8 : decode jdk_33_method_12_code 8 = .ok (.goto 4, 3) := by decide +kernel
theorem d21_11 : decode jdk_33_method_12_code 11 = .ok (.iconst 0, 1) := by decide +kernel
theorem d21_12 : decode jdk_33_method_12_code 12 = .ok (.istore 6, 2) := by decide +kernel
theorem d21_14 : decode jdk_33_method_12_code 14 = .ok (.iload 6, 2) := by decide +kernel
theorem d21_16 : decode jdk_33_method_12_code 16 = .ok (.ifCond .ne 6, 3) := by decide +kernel
theorem d21_19 : decode jdk_33_method_12_code 19 = .ok (.iload_n 0, 1) := by decide +kernel
theorem d21_20 : decode jdk_33_method_12_code 20 = .ok (.ineg, 1) := by decide +kernel
theorem d21_21 : decode jdk_33_method_12_code 21 = .ok (.istore_n 0, 1) := by decide +kernel
theorem d21_22 : decode jdk_33_method_12_code 22 = .ok (.iload_n 0, 1) := by decide +kernel
theorem d21_23 : decode jdk_33_method_12_code 23 = .ok (.bipush (-100), 2) := by decide +kernel
theorem d21_25 : decode jdk_33_method_12_code 25 = .ok (.if_icmp .gt 47, 3) := by decide +kernel
theorem d21_28 : decode jdk_33_method_12_code 28 = .ok (.iload_n 0, 1) := by decide +kernel
theorem d21_29 : decode jdk_33_method_12_code 29 = .ok (.bipush 100, 2) := by decide +kernel
theorem d21_31 : decode jdk_33_method_12_code 31 = .ok (.idiv, 1) := by decide +kernel
theorem d21_32 : decode jdk_33_method_12_code 32 = .ok (.istore_n 3, 1) := by decide +kernel
theorem d21_33 : decode jdk_33_method_12_code 33 = .ok (.iload_n 3, 1) := by decide +kernel
theorem d21_34 : decode jdk_33_method_12_code 34 = .ok (.bipush 100, 2) := by decide +kernel
theorem d21_36 : decode jdk_33_method_12_code 36 = .ok (.imul, 1) := by decide +kernel
theorem d21_37 : decode jdk_33_method_12_code 37 = .ok (.iload_n 0, 1) := by decide +kernel
theorem d21_38 : decode jdk_33_method_12_code 38 = .ok (.isub, 1) := by decide +kernel
theorem d21_39 : decode jdk_33_method_12_code 39 = .ok (.istore 4, 2) := by decide +kernel
theorem d21_41 : decode jdk_33_method_12_code 41 = .ok (.iload_n 3, 1) := by decide +kernel
theorem d21_42 : decode jdk_33_method_12_code 42 = .ok (.istore_n 0, 1) := by decide +kernel
theorem d21_43 : decode jdk_33_method_12_code 43 = .ok (.aload_n 2, 1) := by decide +kernel
theorem d21_44 : decode jdk_33_method_12_code 44 = .ok (.iinc 5 (-1), 3) := by decide +kernel
theorem d21_47 : decode jdk_33_method_12_code 47 = .ok (.iload 5, 2) := by decide +kernel
theorem d21_49 : decode jdk_33_method_12_code 49 = .ok (.getstatic 83, 3) := by decide +kernel
theorem d21_52 : decode jdk_33_method_12_code 52 = .ok (.iload 4, 2) := by decide +kernel
theorem d21_54 : decode jdk_33_method_12_code 54 = .ok (.baload, 1) := by decide +kernel
theorem d21_55 : decode jdk_33_method_12_code 55 = .ok (.bastore, 1) := by decide +kernel
theorem d21_56 : decode jdk_33_method_12_code 56 = .ok (.aload_n 2, 1) := by decide +kernel
theorem d21_57 : decode jdk_33_method_12_code 57 = .ok (.iinc 5 (-1), 3) := by decide +kernel
theorem d21_60 : decode jdk_33_method_12_code 60 = .ok (.iload 5, 2) := by decide +kernel
theorem d21_62 : decode jdk_33_method_12_code 62 = .ok (.getstatic 87, 3) := by decide +kernel
theorem d21_65 : decode jdk_33_method_12_code 65 = .ok (.iload 4, 2) := by decide +kernel
theorem d21_67 : decode jdk_33_method_12_code 67 = .ok (.baload, 1) := by decide +kernel
theorem d21_68 : decode jdk_33_method_12_code 68 = .ok (.bastore, 1) := by decide +kernel
theorem d21_69 : decode jdk_33_method_12_code 69 = .ok (.goto (-47), 3) := by decide +kernel
theorem d21_72 : decode jdk_33_method_12_code 72 = .ok (.aload_n 2, 1) := by decide +kernel
theorem d21_73 : decode jdk_33_method_12_code 73 = .ok (.iinc 5 (-1), 3) := by decide +kernel
theorem d21_76 : decode jdk_33_method_12_code 76 = .ok (.iload 5, 2) := by decide +kernel
theorem d21_78 : decode jdk_33_method_12_code 78 = .ok (.getstatic 83, 3) := by decide +kernel
theorem d21_81 : decode jdk_33_method_12_code 81 = .ok (.iload_n 0, 1) := by decide +kernel
theorem d21_82 : decode jdk_33_method_12_code 82 = .ok (.ineg, 1) := by decide +kernel
theorem d21_83 : decode jdk_33_method_12_code 83 = .ok (.baload, 1) := by decide +kernel
theorem d21_84 : decode jdk_33_method_12_code 84 = .ok (.bastore, 1) := by decide +kernel
theorem d21_85 : decode jdk_33_method_12_code 85 = .ok (.iload_n 0, 1) := by decide +kernel
theorem d21_86 : decode jdk_33_method_12_code 86 = .ok (.bipush (-9), 2) := by decide +kernel
theorem d21_88 : decode jdk_33_method_12_code 88 = .ok (.if_icmp .ge 16, 3) := by decide +kernel
theorem d21_91 : decode jdk_33_method_12_code 91 = .ok (.aload_n 2, 1) := by decide +kernel
theorem d21_92 : decode jdk_33_method_12_code 92 = .ok (.iinc 5 (-1), 3) := by decide +kernel
theorem d21_95 : decode jdk_33_method_12_code 95 = .ok (.iload 5, 2) := by decide +kernel
theorem d21_97 : decode jdk_33_method_12_code 97 = .ok (.getstatic 87, 3) := by decide +kernel
theorem d21_100 : decode jdk_33_method_12_code 100 = .ok (.iload_n 0, 1) := by decide +kernel
theorem d21_101 : decode jdk_33_method_12_code 101 = .ok (.ineg, 1) := by decide +kernel
theorem d21_102 : decode jdk_33_method_12_code 102 = .ok (.baload, 1) := by decide +kernel
theorem d21_103 : decode jdk_33_method_12_code 103 = .ok (.bastore, 1) := by decide +kernel
theorem d21_104 : decode jdk_33_method_12_code 104 = .ok (.iload 6, 2) := by decide +kernel
theorem d21_106 : decode jdk_33_method_12_code 106 = .ok (.ifCond .eq 12, 3) := by decide +kernel
theorem d21_109 : decode jdk_33_method_12_code 109 = .ok (.aload_n 2, 1) := by decide +kernel
theorem d21_110 : decode jdk_33_method_12_code 110 = .ok (.iinc 5 (-1), 3) := by decide +kernel
theorem d21_113 : decode jdk_33_method_12_code 113 = .ok (.iload 5, 2) := by decide +kernel
theorem d21_115 : decode jdk_33_method_12_code 115 = .ok (.bipush 45, 2) := by decide +kernel
theorem d21_117 : decode jdk_33_method_12_code 117 = .ok (.bastore, 1) := by decide +kernel
theorem d21_118 : decode jdk_33_method_12_code 118 = .ok (.iload 5, 2) := by decide +kernel
theorem d21_120 : decode jdk_33_method_12_code 120 = .ok (.ireturn, 1) := by decide +kernel
theorem pf21 : plainFor (⟨"java/lang/Integer", "getChars", "(II[B)I"⟩ : MethodName) = true := by first | exact plainFor_of_name (by first | (simp [plainName, overriddenIn]; done) | decide +kernel) | decide +kernel
theorem ef_getChars (m : MethodId) (z0 : Int32) (z1 : Int32) (z2 : Addr) : entryFrame m #[(.int z0), (.int z1), (.ref z2)] 7 = mkF m 0 #[.val (.int z0), .val (.int z1), .val (.ref z2), .unset, .unset, .unset, .unset] [] := by first | rfl | (simp [entryFrame, mkF, argsToLocals, Value.category, *]; done) | rfl
set_option maxRecDepth 65536 in
set_option maxHeartbeats 40000000 in
theorem rm_getChars {l : Launch} {Z : State} {a0 : Array Value} {n0 : Nat} (G : Gl Z a0 n0) {h0 : Heap} (O : Old Z n0 h0) (x : Int32) (idx : Nat) (t : Addr) (vs : List Value) (V : Ar Z h0 t .byte vs) (hfit : own_isz x ≤ idx) (hidx : idx ≤ vs.length) (hge : n0 ≤ t) :
    Ct [] l Z n0 (⟨"java/lang/Integer", "getChars", "(II[B)I"⟩ : MethodName) jdk_33_method_12_code 7 (some .int) ({ frames := 0, cells := 0, slots := 0, locals := 0 } : Room) #[(.int x), (.int (Int32.ofNat idx)), (.ref t)] h0 (fun v h => Keep h0 h [t] ∧ ∃ z : Int32, v = some (.int z) ∧ Ar Z h t .byte (vs.take (idx - own_isz x) ++ own_bs (own_istr x) ++ vs.drop idx)) := by
  refine Ct.intro pf21 ?_
  intro p e s m below meth c C
  refine AtW.cast ?_ (ef_getChars m x (Int32.ofNat idx) t)
  have hle := own_mag_le x
  have hvl := V.1
  obtain ⟨x1, S1, l1, A1⟩ := G.d1
  obtain ⟨x2, S2, l2, A2⟩ := G.d2
  have n1 : x1 ≠ t := Nat.ne_of_lt (Nat.lt_of_lt_of_le (by rw [← O.1]; exact l1) hge)
  have n2 : x2 ≠ t := Nat.ne_of_lt (Nat.lt_of_lt_of_le (by rw [← O.1]; exact l2) hge)
  have LOOP : ∀ (sg : Int32) (F : List Value) (ee : Nat), (∀ (h1 : Heap) (z0 : Int32) (s3 s4 : Slot), Keep h0 h1 [t] → Ar Z h1 t .byte F → One s3 → One s4 → AtW p l e ({ frames := 0, cells := 0, slots := 0, locals := 0 } : Room) s m #[(.int x), (.int (Int32.ofNat idx)), (.ref t)] below meth c n0 (fun v h => Keep h0 h [t] ∧ ∃ z : Int32, v = some (.int z) ∧ Ar Z h t .byte (vs.take (idx - own_isz x) ++ own_bs (own_istr x) ++ vs.drop idx)) h1 0 0 (mkF m 104 #[.val (.int z0), .val (.int (Int32.ofNat idx)), .val (.ref t), s3, s4, .val (.int (Int32.ofNat ee)), .val (.int sg)] [])) → ∀ (k N : Nat), N < k → N ≤ 2 ^ 31 → ∀ (cp : Nat) (h1 : Heap) (us : List Value) (s3 s4 : Slot), SBG.digits N ≤ cp → cp ≤ us.length → us.length < 2 ^ 31 → Keep h0 h1 [t] → Ar Z h1 t .byte us → One s3 → One s4 → own_pt us cp N = F → cp - SBG.digits N = ee → AtW p l e ({ frames := 0, cells := 0, slots := 0, locals := 0 } : Room) s m #[(.int x), (.int (Int32.ofNat idx)), (.ref t)] below meth c n0 (fun v h => Keep h0 h [t] ∧ ∃ z : Int32, v = some (.int z) ∧ Ar Z h t .byte (vs.take (idx - own_isz x) ++ own_bs (own_istr x) ++ vs.drop idx)) h1 0 0 (mkF m 22 #[.val (.int (SBG.negI N)), .val (.int (Int32.ofNat idx)), .val (.ref t), s3, s4, .val (.int (Int32.ofNat cp)), .val (.int sg)] []) := by
    intro sg F ee FIN
    intro k
    induction k with
    | zero =>
      intro N hN
      exact absurd hN (by omega)
    | succ k ih =>
      intro N hN hle cp h1 us s3 s4 hd hc hl K U o3 o4 hF he
      have hcl : cp < 2 ^ 31 := by omega
      have hc1 : 1 ≤ cp := Nat.le_trans (SBG.digits_pos N).1 hd
      have hm : (-100 : Int32) < SBG.negI N ↔ N < 100 := by rw [show (-100 : Int32) = SBG.negI 100 by decide +kernel]; exact SBG.negI_lt hle 100 (by omega)
      have hm9 : SBG.negI N < (-9 : Int32) ↔ 9 < N := by rw [show (-9 : Int32) = SBG.negI 9 by decide +kernel]; exact SBG.negI_lt (by omega) N hle
      refine w_iloadN (q := 23) C rfl d21_22 rfl ?_
      refine w_bipush (q := 25) (v := (-100 : Int32)) C (by rfl) d21_23 rfl ?_
      by_cases q1 : (-100 : Int32) < (SBG.negI N)
      · refine w_icmp_gt_t (q := 72) C d21_25 (by decide) (by decide) q1 ?_
        rw [hm] at q1
        refine w_aloadN (q := 73) C rfl rfl d21_72 rfl ?_
        refine w_iinc (q := 76) (L' := #[.val (.int (SBG.negI N)), .val (.int (Int32.ofNat idx)), .val (.ref t), s3, s4, .val (.int (Int32.ofNat (cp - 1))), .val (.int sg)]) C rfl (own_dec hc1) rfl d21_73 rfl ?_
        refine w_iload (q := 78) C rfl d21_76 rfl ?_
        have Oh1 : Old Z n0 h1 := O.keep K (allS hge all0)
        refine w_getS (q := 81) (host := "") C (Or.inl (G.1 _ (List.mem_of_getElem? (i := 132) rfl))) Via.refl (S1.ext Oh1.2) d21_78 rfl ?_
        refine w_iloadN (q := 82) C rfl d21_81 rfl ?_
        refine w_ineg (q := 83) C rfl d21_82 rfl ?_
        rw [show (-(SBG.negI N)) = (Int32.ofNat N) from SBG.neg_negI (by omega)]
        refine w_baload (q := 84) (i := N) (v := (.int (Int32.ofNat (48 + N % 10)))) C ((A1.ext Oh1.2)) rfl (own_ones_get (by omega)) d21_83 rfl ?_
        refine w_bastore (q := 85) (z := (Int32.ofNat (48 + N % 10)).toInt8.toInt32) (i := (cp - 1)) C rfl U rfl (by omega) hge d21_84 rfl ?_
        intro h59 Wh59 Vh59
        have K2 := K.wr Wh59 (Or.inl (List.mem_cons_self ..))
        refine w_iloadN (q := 86) C rfl d21_85 rfl ?_
        refine w_bipush (q := 88) (v := (-9 : Int32)) C (by rfl) d21_86 rfl ?_
        by_cases q2 : (SBG.negI N) < (-9 : Int32)
        · refine w_icmp_ge_f (q := 91) C d21_88 rfl q2 ?_
          rw [hm9] at q2
          have hdg2 : SBG.digits N = 2 := by unfold SBG.digits; rw [if_neg (by omega), if_pos q1]
          refine w_aloadN (q := 92) C rfl rfl d21_91 rfl ?_
          refine w_iinc (q := 95) (L' := #[.val (.int (SBG.negI N)), .val (.int (Int32.ofNat idx)), .val (.ref t), s3, s4, .val (.int (Int32.ofNat (cp - 1 - 1))), .val (.int sg)]) C rfl (own_dec (by omega)) rfl d21_92 rfl ?_
          refine w_iload (q := 97) C rfl d21_95 rfl ?_
          have Oh59 : Old Z n0 h59 := O.keep K2 (allS hge all0)
          refine w_getS (q := 100) (host := "") C (Or.inl (G.1 _ (List.mem_of_getElem? (i := 227) rfl))) Via.refl (S2.ext Oh59.2) d21_97 rfl ?_
          refine w_iloadN (q := 101) C rfl d21_100 rfl ?_
          refine w_ineg (q := 102) C rfl d21_101 rfl ?_
          rw [show (-(SBG.negI N)) = (Int32.ofNat N) from SBG.neg_negI (by omega)]
          refine w_baload (q := 103) (i := N) (v := (.int (Int32.ofNat (48 + N / 10)))) C ((A2.ext Oh59.2)) rfl (own_tens_get (by omega)) d21_102 rfl ?_
          refine w_bastore (q := 104) (z := (Int32.ofNat (48 + N / 10)).toInt8.toInt32) (i := (cp - 1 - 1)) C rfl Vh59 rfl (by rw [List.length_set]; omega) hge d21_103 rfl ?_
          intro h60 Wh60 Vh60
          have e9 : cp - 1 - 1 = ee := by omega
          have q := own_pt2 (vs := us) (c := cp) (n := N) (by omega) q1 (by omega) hc
          rw [hF] at q
          rw [e9]
          exact FIN h60 _ _ _ (K2.wr Wh60 (Or.inl (List.mem_cons_self ..))) (by rw [← q]; exact Vh60) o3 o4
        · refine w_icmp_ge_t (q := 104) C d21_88 (by decide) (by decide) q2 ?_
          rw [hm9] at q2
          have e9 : cp - 1 = ee := by rw [← he, show SBG.digits N = 1 by unfold SBG.digits; rw [if_pos (by omega)]]
          have q := own_pt1 (vs := us) (c := cp) (n := N) (by omega) hc1 hc
          rw [hF] at q
          rw [e9]
          exact FIN h59 _ _ _ K2 (by rw [← q]; exact Vh59) o3 o4
      · refine w_icmp_gt_f (q := 28) C d21_25 rfl q1 ?_
        rw [hm, Nat.not_lt] at q1
        have hd2 := own_dig100 q1 hle
        refine w_iloadN (q := 29) C rfl d21_28 rfl ?_
        refine w_bipush (q := 31) (v := (100 : Int32)) C (by rfl) d21_29 rfl ?_
        refine w_idiv (q := 32) C (by decide) rfl d21_31 rfl ?_
        rw [show ((SBG.negI N) / (100 : Int32)) = (SBG.negI (N / 100)) from SBG.negI_div100 hle]
        refine w_istoreN (q := 33) (L' := #[.val (.int (SBG.negI N)), .val (.int (Int32.ofNat idx)), .val (.ref t), .val (.int (SBG.negI (N / 100))), s4, .val (.int (Int32.ofNat cp)), .val (.int sg)]) C (Jvm.Free.XS.store1 (o := s3) rfl o3 rfl) d21_32 rfl ?_
        refine w_iloadN (q := 34) C rfl d21_33 rfl ?_
        refine w_bipush (q := 36) (v := (100 : Int32)) C (by rfl) d21_34 rfl ?_
        refine w_imul (q := 37) C rfl d21_36 rfl ?_
        refine w_iloadN (q := 38) C rfl d21_37 rfl ?_
        refine w_isub (q := 39) C rfl d21_38 rfl ?_
        rw [show (((SBG.negI (N / 100)) * (100 : Int32)) - (SBG.negI N)) = (Int32.ofNat (N % 100)) from SBG.negI_rem hle]
        refine w_istore (q := 41) (L' := #[.val (.int (SBG.negI N)), .val (.int (Int32.ofNat idx)), .val (.ref t), .val (.int (SBG.negI (N / 100))), .val (.int (Int32.ofNat (N % 100))), .val (.int (Int32.ofNat cp)), .val (.int sg)]) C (Jvm.Free.XS.store1 (o := s4) rfl o4 rfl) d21_39 rfl ?_
        refine w_iloadN (q := 42) C rfl d21_41 rfl ?_
        refine w_istoreN (q := 43) (L' := #[.val (.int (SBG.negI (N / 100))), .val (.int (Int32.ofNat idx)), .val (.ref t), .val (.int (SBG.negI (N / 100))), .val (.int (Int32.ofNat (N % 100))), .val (.int (Int32.ofNat cp)), .val (.int sg)]) C rfl d21_42 rfl ?_
        refine w_aloadN (q := 44) C rfl rfl d21_43 rfl ?_
        refine w_iinc (q := 47) (L' := #[.val (.int (SBG.negI (N / 100))), .val (.int (Int32.ofNat idx)), .val (.ref t), .val (.int (SBG.negI (N / 100))), .val (.int (Int32.ofNat (N % 100))), .val (.int (Int32.ofNat (cp - 1))), .val (.int sg)]) C rfl (own_dec hc1) rfl d21_44 rfl ?_
        refine w_iload (q := 49) C rfl d21_47 rfl ?_
        have Oh1 : Old Z n0 h1 := O.keep K (allS hge all0)
        refine w_getS (q := 52) (host := "") C (Or.inl (G.1 _ (List.mem_of_getElem? (i := 132) rfl))) Via.refl (S1.ext Oh1.2) d21_49 rfl ?_
        refine w_iload (q := 54) C rfl d21_52 rfl ?_
        refine w_baload (q := 55) (i := (N % 100)) (v := (.int (Int32.ofNat (48 + N % 100 % 10)))) C ((A1.ext Oh1.2)) rfl (own_ones_get (by omega)) d21_54 rfl ?_
        refine w_bastore (q := 56) (z := (Int32.ofNat (48 + N % 100 % 10)).toInt8.toInt32) (i := (cp - 1)) C rfl U rfl (by omega) hge d21_55 rfl ?_
        intro h61 Wh61 Vh61
        have K2 := K.wr Wh61 (Or.inl (List.mem_cons_self ..))
        refine w_aloadN (q := 57) C rfl rfl d21_56 rfl ?_
        refine w_iinc (q := 60) (L' := #[.val (.int (SBG.negI (N / 100))), .val (.int (Int32.ofNat idx)), .val (.ref t), .val (.int (SBG.negI (N / 100))), .val (.int (Int32.ofNat (N % 100))), .val (.int (Int32.ofNat (cp - 1 - 1))), .val (.int sg)]) C rfl (own_dec (by omega)) rfl d21_57 rfl ?_
        refine w_iload (q := 62) C rfl d21_60 rfl ?_
        have Oh61 : Old Z n0 h61 := O.keep K2 (allS hge all0)
        refine w_getS (q := 65) (host := "") C (Or.inl (G.1 _ (List.mem_of_getElem? (i := 227) rfl))) Via.refl (S2.ext Oh61.2) d21_62 rfl ?_
        refine w_iload (q := 67) C rfl d21_65 rfl ?_
        refine w_baload (q := 68) (i := (N % 100)) (v := (.int (Int32.ofNat (48 + N % 100 / 10)))) C ((A2.ext Oh61.2)) rfl (own_tens_get (by omega)) d21_67 rfl ?_
        refine w_bastore (q := 69) (z := (Int32.ofNat (48 + N % 100 / 10)).toInt8.toInt32) (i := (cp - 1 - 1)) C rfl Vh61 rfl (by rw [List.length_set]; omega) hge d21_68 rfl ?_
        intro h62 Wh62 Vh62
        refine w_goto (q := 22) C d21_69 (by decide) (by decide) ?_
        exact ih (N / 100) (by omega) (by omega) (cp - 1 - 1) h62 _ _ _ (by omega) (by rw [List.length_set, List.length_set]; omega) (by rw [List.length_set, List.length_set]; exact hl) (K2.wr Wh62 (Or.inl (List.mem_cons_self ..))) Vh62 (One.val rfl) (One.val rfl) (Eq.trans (own_pt100 q1 hle hd hc) hF) (by omega)
  refine w_iloadN (q := 1) C rfl d21_0 rfl ?_
  refine w_istore (q := 3) (L' := #[.val (.int x), .val (.int (Int32.ofNat idx)), .val (.ref t), .unset, .unset, .val (.int (Int32.ofNat idx)), .unset]) C rfl d21_1 rfl ?_
  refine w_iloadN (q := 4) C rfl d21_3 rfl ?_
  by_cases q : x < 0
  · refine w_if_ge_f (q := 7) C d21_4 rfl q ?_
    refine w_iconst (q := 8) (v := (1 : Int32)) C (by rfl) d21_7 rfl ?_
    refine w_goto (q := 12) C d21_8 (by decide) (by decide) ?_
    refine w_istore (q := 14) (L' := #[.val (.int x), .val (.int (Int32.ofNat idx)), .val (.ref t), .unset, .unset, .val (.int (Int32.ofNat idx)), .val (.int (1 : Int32))]) C rfl d21_12 rfl ?_
    refine w_iload (q := 16) C rfl d21_14 rfl ?_
    refine w_if_ne_t (q := 22) C d21_16 (by decide) (by decide) (by decide) ?_
    have hz : own_isz x = SBG.digits (own_mag x) + 1 := by unfold own_isz own_sg; rw [if_pos q]
    have FINX : ∀ (h1 : Heap) (z0 : Int32) (s3 s4 : Slot), Keep h0 h1 [t] → Ar Z h1 t .byte (own_pt vs idx (own_mag x)) → One s3 → One s4 → AtW p l e ({ frames := 0, cells := 0, slots := 0, locals := 0 } : Room) s m #[(.int x), (.int (Int32.ofNat idx)), (.ref t)] below meth c n0 (fun v h => Keep h0 h [t] ∧ ∃ z : Int32, v = some (.int z) ∧ Ar Z h t .byte (vs.take (idx - own_isz x) ++ own_bs (own_istr x) ++ vs.drop idx)) h1 0 0 (mkF m 104 #[.val (.int z0), .val (.int (Int32.ofNat idx)), .val (.ref t), s3, s4, .val (.int (Int32.ofNat (idx - SBG.digits (own_mag x)))), .val (.int (1 : Int32))] []) := by
      intro h1 z0 s3 s4 K U o3 o4
      show AtW p l e _ s m _ below meth c n0 _ h1 0 0 (mkF m 104 #[.val (.int z0), .val (.int (Int32.ofNat idx)), .val (.ref t), s3, s4, .val (.int (Int32.ofNat (idx - SBG.digits (own_mag x)))), .val (.int (1 : Int32))] [])
      refine w_iload (q := 106) C rfl d21_104 rfl ?_
      refine w_if_eq_f (q := 109) C d21_106 rfl (by decide) ?_
      refine w_aloadN (q := 110) C rfl rfl d21_109 rfl ?_
      refine w_iinc (q := 113) (L' := #[.val (.int z0), .val (.int (Int32.ofNat idx)), .val (.ref t), s3, s4, .val (.int (Int32.ofNat (idx - SBG.digits (own_mag x) - 1))), .val (.int (1 : Int32))]) C rfl (own_dec (by omega)) rfl d21_110 rfl ?_
      refine w_iload (q := 115) C rfl d21_113 rfl ?_
      refine w_bipush (q := 117) (v := (45 : Int32)) C (by rfl) d21_115 rfl ?_
      refine w_bastore (q := 118) (z := (45 : Int32)) (i := (idx - SBG.digits (own_mag x) - 1)) C rfl U rfl (by unfold own_pt; simp only [List.length_append, List.length_take, List.length_drop, own_bs_len, own_dg_len]; omega) hge d21_117 rfl ?_
      intro h63 Wh63 Vh63
      refine w_iload (q := 120) C rfl d21_118 rfl ?_
      exact w_retI C rfl d21_120 (by decide) (by decide) ⟨K.wr Wh63 (Or.inl (List.mem_cons_self ..)), _, rfl, by rw [← own_ptS q hfit hidx]; exact Vh63⟩
    have J := LOOP 1 (own_pt vs idx (own_mag x)) (idx - SBG.digits (own_mag x)) FINX (own_mag x + 1) (own_mag x) (by omega) hle idx h0 vs .unset .unset (by omega) hidx hvl (Keep.refl _ _) V One.u One.u rfl rfl
    rw [← own_mag_neg q] at J
    exact J
  · refine w_if_ge_t (q := 11) C d21_4 (by decide) (by decide) q ?_
    refine w_iconst (q := 12) (v := (0 : Int32)) C (by rfl) d21_11 rfl ?_
    refine w_istore (q := 14) (L' := #[.val (.int x), .val (.int (Int32.ofNat idx)), .val (.ref t), .unset, .unset, .val (.int (Int32.ofNat idx)), .val (.int (0 : Int32))]) C rfl d21_12 rfl ?_
    refine w_iload (q := 16) C rfl d21_14 rfl ?_
    refine w_if_ne_f (q := 19) C d21_16 rfl (by decide) ?_
    refine w_iloadN (q := 20) C rfl d21_19 rfl ?_
    refine w_ineg (q := 21) C rfl d21_20 rfl ?_
    rw [show (-x) = (SBG.negI (own_mag x)) from own_mag_pos q]
    refine w_istoreN (q := 22) (L' := #[.val (.int (SBG.negI (own_mag x))), .val (.int (Int32.ofNat idx)), .val (.ref t), .unset, .unset, .val (.int (Int32.ofNat idx)), .val (.int (0 : Int32))]) C rfl d21_21 rfl ?_
    have hz : own_isz x = SBG.digits (own_mag x) := by unfold own_isz own_sg; rw [if_neg q]; rfl
    refine LOOP 0 (own_pt vs idx (own_mag x)) (idx - SBG.digits (own_mag x)) ?_ (own_mag x + 1) (own_mag x) (by omega) hle idx h0 vs _ _ (by omega) hidx hvl (Keep.refl _ _) V One.u One.u rfl rfl
    intro h1 z0 s3 s4 K U o3 o4
    show AtW p l e _ s m _ below meth c n0 _ h1 0 0 (mkF m 104 #[.val (.int z0), .val (.int (Int32.ofNat idx)), .val (.ref t), s3, s4, .val (.int (Int32.ofNat (idx - SBG.digits (own_mag x)))), .val (.int (0 : Int32))] [])
    refine w_iload (q := 106) C rfl d21_104 rfl ?_
    refine w_if_eq_t (q := 118) C d21_106 (by decide) (by decide) (by decide) ?_
    refine w_iload (q := 120) C rfl d21_118 rfl ?_
    exact w_retI C rfl d21_120 (by decide) (by decide) ⟨K, _, rfl, by rw [← own_ptP q]; exact U⟩
theorem d20_0 : decode jdk_68_method_68_code 0 = .ok (.getstatic 18, 3) := by decide +kernel
theorem d20_3 : decode jdk_68_method_68_code 3 = .ok (.ifCond .eq 14, 3) := by decide +kernel
theorem d20_6 : decode jdk_68_method_68_code 6 = .ok (.aload_n 0, 1) := by decide +kernel
theorem d20_7 : decode jdk_68_method_68_code 7 = .ok (.getfield 22, 3) := by decide +kernel
theorem d20_10 : decode jdk_68_method_68_code 10 = .ok (.ifCond .ne 7, 3) := by decide +kernel
theorem d20_13 : decode jdk_68_method_68_code 13 = .ok (.iconst 1, 1) := by decide +kernel
theorem d20_14 : decode jdk_68_method_68_code 14 = .ok (.goto 4, 3) := by decide +kernel
theorem d20_17 : decode jdk_68_method_68_code 17 = .ok (.iconst 0, 1) := by decide +kernel
theorem d20_18 : decode jdk_68_method_68_code 18 = .ok (.ireturn, 1) := by decide +kernel
theorem pf20 : plainFor (⟨"java/lang/AbstractStringBuilder", "isLatin1", "()Z"⟩ : MethodName) = true := by first | exact plainFor_of_name (by first | (simp [plainName, overriddenIn]; done) | decide +kernel) | decide +kernel
theorem ef_asbLatin1 (m : MethodId) (z0 : Addr) : entryFrame m #[(.ref z0)] 1 = mkF m 0 #[.val (.ref z0)] [] := by first | rfl | (simp [entryFrame, mkF, argsToLocals, Value.category, *]; done) | rfl
set_option maxRecDepth 65536 in
set_option maxHeartbeats 40000000 in
theorem rm_asbLatin1 {l : Launch} {Z : State} {a0 : Array Value} {n0 : Nat} (G : Gl Z a0 n0) {h0 : Heap} (O : Old Z n0 h0) (b : Addr) (t : Addr) (cs : List Int32) (cap : Nat) (B : Sb Z h0 b t cs cap) :
    Ct [] l Z n0 (⟨"java/lang/AbstractStringBuilder", "isLatin1", "()Z"⟩ : MethodName) jdk_68_method_68_code 1 (some .boolean) ({ frames := 0, cells := 0, slots := 0, locals := 0 } : Room) #[(.ref b)] h0 (fun v h => h = h0 ∧ v = some (.int 1)) := by
  refine Ct.intro pf20 ?_
  intro p e s m below meth c C
  refine AtW.cast ?_ (ef_asbLatin1 m b)
  obtain ⟨E, hr, hlc, FC, FN, FV, E2, A⟩ := id B
  obtain ⟨zc, SC, hzc⟩ := G.cs
  refine w_getS (q := 3) (host := "") C (Or.inl (G.1 _ (List.mem_of_getElem? (i := 50) rfl))) Via.refl (SC.ext O.2) d20_0 rfl ?_
  refine w_if_eq_f (q := 6) C d20_3 rfl hzc ?_
  refine w_aloadN (q := 7) C rfl rfl d20_6 rfl ?_
  refine w_getF (q := 10) (host := "") C (Or.inl (G.1 _ (List.mem_of_getElem? (i := 53) rfl))) Via.refl FC d20_7 rfl ?_
  refine w_if_ne_f (q := 13) C d20_10 rfl (by decide) ?_
  refine w_iconst (q := 14) (v := (1 : Int32)) C (by rfl) d20_13 rfl ?_
  refine w_goto (q := 18) C d20_14 (by decide) (by decide) ?_
  exact w_retZ (z := (1 : Int32)) C (t := .boolean) rfl (by simp) (by decide) d20_18 (by decide) (by decide) ⟨rfl, rfl⟩
theorem d18_0 : decode jdk_68_method_32_code 0 = .ok (.aload_n 0, 1) := by decide +kernel
theorem d18_1 : decode jdk_68_method_32_code 1 = .ok (.getfield 79, 3) := by decide +kernel
theorem d18_4 : decode jdk_68_method_32_code 4 = .ok (.istore_n 2, 1) := by decide +kernel
theorem d18_5 : decode jdk_68_method_32_code 5 = .ok (.iload_n 2, 1) := by decide +kernel
theorem d18_6 : decode jdk_68_method_32_code 6 = .ok (.iload_n 1, 1) := by decide +kernel
theorem d18_7 : decode jdk_68_method_32_code 7 = .ok (.invokestatic 245, 3) := by decide +kernel
theorem d18_10 : decode jdk_68_method_32_code 10 = .ok (.iadd, 1) := by decide +kernel
theorem d18_11 : decode jdk_68_method_32_code 11 = .ok (.istore_n 3, 1) := by decide +kernel
theorem d18_12 : decode jdk_68_method_32_code 12 = .ok (.aload_n 0, 1) := by decide +kernel
theorem d18_13 : decode jdk_68_method_32_code 13 = .ok (.iload_n 3, 1) := by decide +kernel
theorem d18_14 : decode jdk_68_method_32_code 14 = .ok (.invokevirtual 100, 3) := by decide +kernel
theorem d18_17 : decode jdk_68_method_32_code 17 = .ok (.aload_n 0, 1) := by decide +kernel
theorem d18_18 : decode jdk_68_method_32_code 18 = .ok (.invokevirtual 83, 3) := by decide +kernel
theorem d18_21 : decode jdk_68_method_32_code 21 = .ok (.ifCond .eq 16, 3) := by decide +kernel
theorem d18_24 : decode jdk_68_method_32_code 24 = .ok (.iload_n 1, 1) := by decide +kernel
theorem d18_25 : decode jdk_68_method_32_code 25 = .ok (.iload_n 3, 1) := by decide +kernel
theorem d18_26 : decode jdk_68_method_32_code 26 = .ok (.aload_n 0, 1) := by decide +kernel
theorem d18_27 : decode jdk_68_method_32_code 27 = .ok (.getfield 15, 3) := by decide +kernel
theorem d18_30 : decode jdk_68_method_32_code 30 = .ok (.invokestatic 248, 3) := by decide +kernel
theorem d18_33 : decode jdk_68_method_32_code 33 = .ok (.pop, 1) := by decide +kernel
theorem d18_34 : decode jdk_68_method_32_code 34 = .ok (.goto 14, 3) := by decide +kernel
theorem d18_37 : decode jdk_68_method_32_code 37 = .ok (.iload_n 1, 1) := by decide +kernel
theorem d18_38 : decode jdk_68_method_32_code 38 = .ok (.iload_n 2, 1) := by decide +kernel
theorem d18_39 : decode jdk_68_method_32_code 39 = .ok (.iload_n 3, 1) := by decide +kernel
theorem d18_40 : decode jdk_68_method_32_code 40 = .ok (.aload_n 0, 1) := by decide +kernel
theorem d18_41 : decode jdk_68_method_32_code 41 = .ok (.getfield 15, 3) := by decide +kernel
theorem d18_44 : decode jdk_68_method_32_code 44 = .ok (.invokestatic 251, 3) := by decide +kernel
theorem d18_47 : decode jdk_68_method_32_code 47 = .ok (.pop, 1) := by decide +kernel
theorem d18_48 : decode jdk_68_method_32_code 48 = .ok (.aload_n 0, 1) := by decide +kernel
theorem d18_49 : decode jdk_68_method_32_code 49 = .ok (.iload_n 3, 1) := by decide +kernel
theorem d18_50 : decode jdk_68_method_32_code 50 = .ok (.putfield 79, 3) := by decide +kernel
theorem d18_53 : decode jdk_68_method_32_code 53 = .ok (.aload_n 0, 1) := by decide +kernel
theorem d18_54 : decode jdk_68_method_32_code 54 = .ok (.areturn, 1) := by decide +kernel
theorem pf18 : plainFor (⟨"java/lang/AbstractStringBuilder", "append", "(I)Ljava/lang/AbstractStringBuilder;"⟩ : MethodName) = true := by first | exact plainFor_of_name (by first | (simp [plainName, overriddenIn]; done) | decide +kernel) | decide +kernel
theorem ef_asbAppI (m : MethodId) (z0 : Addr) (z1 : Int32) : entryFrame m #[(.ref z0), (.int z1)] 4 = mkF m 0 #[.val (.ref z0), .val (.int z1), .unset, .unset] [] := by first | rfl | (simp [entryFrame, mkF, argsToLocals, Value.category, *]; done) | rfl
set_option maxRecDepth 65536 in
set_option maxHeartbeats 40000000 in
theorem rm_asbAppI {l : Launch} {Z : State} {a0 : Array Value} {n0 : Nat} (G : Gl Z a0 n0) {h0 : Heap} (O : Old Z n0 h0) (b : Addr) (t : Addr) (cs : List Int32) (cap : Nat) (x : Int32) (B : Sb Z h0 b t cs cap) (hfit : cs.length + own_isz x ≤ cap ∨ (cs.length + own_isz x ≤ 2 * cap + 2 ∧ 2 * cap + 2 ≤ 34)) (hge : n0 ≤ b) (hgt : n0 ≤ t) :
    Ct [] l Z n0 (⟨"java/lang/AbstractStringBuilder", "append", "(I)Ljava/lang/AbstractStringBuilder;"⟩ : MethodName) jdk_68_method_32_code 4 (some (.object "java/lang/AbstractStringBuilder")) ({ frames := 4, cells := 1, slots := 34, locals := 62 } : Room) #[(.ref b), (.int x)] h0 (fun v h => Keep h0 h [b, t] ∧ v = some (.ref b) ∧ ∃ u cap', (u = t ∨ h0.size ≤ u) ∧ cap' = (if cs.length + own_isz x ≤ cap then cap else 2 * cap + 2) ∧ Sb Z h b u (cs ++ own_istr x) cap') := by
  refine Ct.intro pf18 ?_
  intro p e s m below meth c C
  refine AtW.cast ?_ (ef_asbAppI m b x)
  obtain ⟨E, hr, hlc, FC, FN, FV, E2, A⟩ := id B
  have hcl := B.capl
  have hdl := own_istr_len x
  have hdm := own_isz_le x
  refine w_aloadN (q := 1) C rfl rfl d18_0 rfl ?_
  refine w_getF (q := 4) (host := "") C (Or.inl (G.1 _ (List.mem_of_getElem? (i := 84) rfl))) Via.refl FN d18_1 rfl ?_
  refine w_istoreN (q := 5) (L' := #[.val (.ref b), .val (.int x), .val (.int (Int32.ofNat cs.length)), .unset]) C rfl d18_4 rfl ?_
  refine w_iloadN (q := 6) C rfl d18_5 rfl ?_
  refine w_iloadN (q := 7) C rfl d18_6 rfl ?_
  refine w_callS (q := 10) (argsL := [(.int x)]) (S := [(.int (Int32.ofNat cs.length))]) (W := 1) (cells' := 0) (slots' := 0) C (G.1 _ (List.mem_of_getElem? (i := 120) rfl)) (G.1 _ (List.mem_of_getElem? (i := 121) rfl)) (G.1 _ (List.mem_of_getElem? (i := 122) rfl)) (G.1 _ (List.mem_of_getElem? (i := 123) rfl)) (by decide) (rm_strSize G O x) rfl (lenOf pd_16 rfl) rfl (by decide) (own_leb rfl) (by decide) rfl rfl (by decide) (by decide) d18_7 rfl ?_
  rintro _ h64 ⟨eh65, rfl⟩
  rw [eh65]
  show AtW p l e _ s m _ below meth c n0 _ h0 0 0 (mkF m 10 #[.val (.ref b), .val (.int x), .val (.int (Int32.ofNat cs.length)), .unset] [(.int (Int32.ofNat (own_isz x))), (.int (Int32.ofNat cs.length))])
  refine w_iadd (q := 11) C rfl d18_10 rfl ?_
  rw [show ((Int32.ofNat cs.length) + (Int32.ofNat (own_isz x))) = (Int32.ofNat (cs.length + own_isz x)) from own_add _ _]
  refine w_istoreN (q := 12) (L' := #[.val (.ref b), .val (.int x), .val (.int (Int32.ofNat cs.length)), .val (.int (Int32.ofNat (cs.length + own_isz x)))]) C rfl d18_11 rfl ?_
  refine w_aloadN (q := 13) C rfl rfl d18_12 rfl ?_
  refine w_iloadN (q := 14) C rfl d18_13 rfl ?_
  refine w_callP (q := 17) (argsL := [(.int (Int32.ofNat (cs.length + own_isz x)))]) (S := []) (W := 0) (cells' := 1) (slots' := 34) (a := b) C E (G.1 _ (List.mem_of_getElem? (i := 86) rfl)) (G.1 _ (List.mem_of_getElem? (i := 87) rfl)) (NI.of_sel (args := #[]) (z := ({ cls := "java/lang/AbstractStringBuilder", name := "ensureCapacityInternal", desc := "(I)V" } : Jvm.MethodName)) (mvT C.2.2.2.1 (G.1 _ (List.mem_of_getElem? (i := 89) rfl)))) (G.1 _ (List.mem_of_getElem? (i := 88) rfl)) (G.1 _ (List.mem_of_getElem? (i := 47) rfl)) (G.1 _ (List.mem_of_getElem? (i := 90) rfl)) (by decide) (rm_ensGrow G O b t cs cap (cs.length + own_isz x) B hfit hge) rfl (lenOf pd_5 rfl) rfl (by decide) (own_leb rfl) (by decide) rfl rfl (by decide) (by decide) d18_14 rfl ?_
  rintro _ h66 ⟨Kh66, rfl, u, cap', hu, hcp, B'⟩
  show AtW p l e _ s m _ below meth c n0 _ h66 1 34 (mkF m 17 #[.val (.ref b), .val (.int x), .val (.int (Int32.ofNat cs.length)), .val (.int (Int32.ofNat (cs.length + own_isz x)))] [])
  have hgu : n0 ≤ u := hu.elim (fun q => by rw [q]; exact hgt) (fun q => Nat.le_trans (Old_le O) q)
  have O0 := O
  replace O := O.keep Kh66 (allS hge all0)
  have hfit' : cs.length + own_isz x ≤ cap' := by rw [hcp]; split <;> omega
  clear E hlc FC FN FV E2 A
  obtain ⟨E, hr, hlc, FC, FN, FV, E2, A⟩ := id B'
  refine w_aloadN (q := 18) C rfl rfl d18_17 rfl ?_
  refine w_callV (q := 21) (argsL := []) (S := []) (W := 0) (cells' := 1) (slots' := 34) (a := b) C E (G.1 _ (List.mem_of_getElem? (i := 124) rfl)) (G.1 _ (List.mem_of_getElem? (i := 125) rfl)) (w_nf C (G.1 _ (List.mem_of_getElem? (i := 127) rfl))) (G.1 _ (List.mem_of_getElem? (i := 127) rfl)) (G.1 _ (List.mem_of_getElem? (i := 126) rfl)) (G.1 _ (List.mem_of_getElem? (i := 47) rfl)) (G.1 _ (List.mem_of_getElem? (i := 128) rfl)) (by decide) (rm_asbLatin1 G O b u cs cap' B') rfl (lenOf pd_17 rfl) rfl (by decide) (own_leb rfl) (by decide) rfl rfl (by decide) (by decide) d18_18 rfl ?_
  rintro _ h67 ⟨eh68, rfl⟩
  rw [eh68]
  show AtW p l e _ s m _ below meth c n0 _ h66 1 34 (mkF m 21 #[.val (.ref b), .val (.int x), .val (.int (Int32.ofNat cs.length)), .val (.int (Int32.ofNat (cs.length + own_isz x)))] [(.int (1 : Int32))])
  refine w_if_eq_f (q := 24) C d18_21 rfl (by decide) ?_
  refine w_iloadN (q := 25) C rfl d18_24 rfl ?_
  refine w_iloadN (q := 26) C rfl d18_25 rfl ?_
  refine w_aloadN (q := 27) C rfl rfl d18_26 rfl ?_
  refine w_getF (q := 30) (host := "") C (Or.inl (G.1 _ (List.mem_of_getElem? (i := 51) rfl))) Via.refl FV d18_27 rfl ?_
  refine w_callS (q := 33) (argsL := [(.int x), (.int (Int32.ofNat (cs.length + own_isz x))), (.ref u)]) (S := []) (W := 0) (cells' := 1) (slots' := 34) C (G.1 _ (List.mem_of_getElem? (i := 129) rfl)) (G.1 _ (List.mem_of_getElem? (i := 130) rfl)) (G.1 _ (List.mem_of_getElem? (i := 122) rfl)) (G.1 _ (List.mem_of_getElem? (i := 131) rfl)) (by decide) (rm_getChars G O x (cs.length + own_isz x) u _ A (by omega) (by simp only [List.length_append, own_bs_len, List.length_replicate]; omega) hgu) rfl (lenOf pd_18 rfl) rfl (by decide) (own_leb rfl) (by decide) rfl rfl (by decide) (by decide) d18_30 rfl ?_
  rintro _ h69 ⟨Kh69, zr, rfl, V⟩
  show AtW p l e _ s m _ below meth c n0 _ h69 1 34 (mkF m 33 #[.val (.ref b), .val (.int x), .val (.int (Int32.ofNat cs.length)), .val (.int (Int32.ofNat (cs.length + own_isz x)))] [(.int zr)])
  have hbt := B'.ne
  replace E := E.keep Kh69
  replace FC := FC.keep Kh69 (ninS hbt nin0)
  replace FN := FN.keep Kh69 (ninS hbt nin0)
  replace FV := FV.keep Kh69 (ninS hbt nin0)
  replace E2 := E2.keep Kh69
  have hL2 : L1 (cs ++ own_istr x) := hr.app (own_istr_L1 x)
  rw [show cs.length + own_isz x - own_isz x = cs.length by omega, ← hdl, own_appd cs (own_istr x) cap' (by rw [hdl]; exact hfit')] at V
  refine w_pop (q := 34) C rfl d18_33 rfl ?_
  refine w_goto (q := 48) C d18_34 (by decide) (by decide) ?_
  refine w_aloadN (q := 49) C rfl rfl d18_48 rfl ?_
  refine w_iloadN (q := 50) C rfl d18_49 rfl ?_
  rw [show (Int32.ofNat (cs.length + own_isz x)) = (Int32.ofNat (cs ++ own_istr x).length) from (by rw [List.length_append, hdl])]
  refine w_putF (q := 53) (host := "") (v' := (.int (Int32.ofNat (cs ++ own_istr x).length))) C (G.1 _ (List.mem_of_getElem? (i := 84) rfl)) Via.refl FN E (Or.inl (G.1 _ (List.mem_of_getElem? (i := 85) rfl))) (G.1 _ (List.mem_of_getElem? (i := 38) rfl)) (ty := .int) (by decide) rfl rfl hge d18_50 rfl ?_
  intro h70 Wh70
  replace FN := FN.same Wh70
  replace FC := FC.other Wh70 (Or.inr (slot_ne (Or.inl (G.1 _ (List.mem_of_getElem? (i := 54) rfl))) (Or.inl (G.1 _ (List.mem_of_getElem? (i := 85) rfl))) (by decide) (t := .byte) (t' := .int) (by decide) (by decide)))
  replace FV := FV.other Wh70 (Or.inr (slot_ne (Or.inl (G.1 _ (List.mem_of_getElem? (i := 52) rfl))) (Or.inl (G.1 _ (List.mem_of_getElem? (i := 85) rfl))) (by decide) (t := (.array .byte)) (t' := .int) (by decide) (by decide)))
  replace E := E.wr Wh70
  replace E2 := E2.wr Wh70
  replace V := V.other Wh70 (Ne.symm hbt)
  refine w_aloadN (q := 54) C rfl rfl d18_53 rfl ?_
  exact w_retA C rfl rfl rfl d18_54 (by decide) (by decide) ⟨(((Keep.refl h0 [b, t]).trans Kh66 (allS (P := fun x => x ∈ [b, t] ∨ h0.size ≤ x) (Or.inl (by simp)) all0)).trans Kh69 (allS (P := fun x => x ∈ [b, t] ∨ h0.size ≤ x) (hu.elim (fun q => Or.inl (by simp [q])) Or.inr) all0)).wr Wh70 (Or.inl (by simp)), rfl, u, cap', hu, hcp, E, hL2, by rw [List.length_append, hdl]; exact hfit', FC, FN, FV, E2, V⟩
theorem d17_0 : decode jdk_67_method_15_code 0 = .ok (.aload_n 0, 1) := by decide +kernel
theorem d17_1 : decode jdk_67_method_15_code 1 = .ok (.iload_n 1, 1) := by decide +kernel
theorem d17_2 : decode jdk_67_method_15_code 2 = .ok (.invokespecial 53, 3) := by decide +kernel
theorem d17_5 : decode jdk_67_method_15_code 5 = .ok (.pop, 1) := by decide +kernel
theorem d17_6 : decode jdk_67_method_15_code 6 = .ok (.aload_n 0, 1) := by decide +kernel
theorem d17_7 : decode jdk_67_method_15_code 7 = .ok (.areturn, 1) := by decide +kernel
theorem pf17 : plainFor (⟨"java/lang/StringBuilder", "append", "(I)Ljava/lang/StringBuilder;"⟩ : MethodName) = true := by first | exact plainFor_of_name (by first | (simp [plainName, overriddenIn]; done) | decide +kernel) | decide +kernel
theorem ef_sbAppI (m : MethodId) (z0 : Addr) (z1 : Int32) : entryFrame m #[(.ref z0), (.int z1)] 2 = mkF m 0 #[.val (.ref z0), .val (.int z1)] [] := by first | rfl | (simp [entryFrame, mkF, argsToLocals, Value.category, *]; done) | rfl
set_option maxRecDepth 65536 in
set_option maxHeartbeats 40000000 in
theorem rm_sbAppI {l : Launch} {Z : State} {a0 : Array Value} {n0 : Nat} (G : Gl Z a0 n0) {h0 : Heap} (O : Old Z n0 h0) (b : Addr) (t : Addr) (cs : List Int32) (cap : Nat) (x : Int32) (B : Sb Z h0 b t cs cap) (hfit : cs.length + own_isz x ≤ cap ∨ (cs.length + own_isz x ≤ 2 * cap + 2 ∧ 2 * cap + 2 ≤ 34)) (hge : n0 ≤ b) (hgt : n0 ≤ t) :
    Ct [] l Z n0 (⟨"java/lang/StringBuilder", "append", "(I)Ljava/lang/StringBuilder;"⟩ : MethodName) jdk_67_method_15_code 2 (some (.object "java/lang/StringBuilder")) ({ frames := 5, cells := 1, slots := 34, locals := 77 } : Room) #[(.ref b), (.int x)] h0 (fun v h => Keep h0 h [b, t] ∧ v = some (.ref b) ∧ ∃ u cap', (u = t ∨ h0.size ≤ u) ∧ cap' = (if cs.length + own_isz x ≤ cap then cap else 2 * cap + 2) ∧ Sb Z h b u (cs ++ own_istr x) cap') := by
  refine Ct.intro pf17 ?_
  intro p e s m below meth c C
  refine AtW.cast ?_ (ef_sbAppI m b x)
  have E := B.1
  refine w_aloadN (q := 1) C rfl rfl d17_0 rfl ?_
  refine w_iloadN (q := 2) C rfl d17_1 rfl ?_
  refine w_callU (q := 5) (argsL := [(.int x)]) (S := []) (W := 0) (cells' := 1) (slots' := 34) (a := b) C E (G.1 _ (List.mem_of_getElem? (i := 116) rfl)) (G.1 _ (List.mem_of_getElem? (i := 117) rfl)) (NI.of_sel (z := ({ cls := "java/lang/AbstractStringBuilder", name := "ensureCapacityInternal", desc := "(I)V" } : Jvm.MethodName)) (G.1 _ (List.mem_of_getElem? (i := 89) rfl))) (G.1 _ (List.mem_of_getElem? (i := 68) rfl)) (G.1 _ (List.mem_of_getElem? (i := 47) rfl)) (G.1 _ (List.mem_of_getElem? (i := 119) rfl)) (by decide) (by decide) (rm_asbAppI G O b t cs cap x B hfit hge hgt) rfl (lenOf pd_15 rfl) rfl (by decide) (own_leb rfl) (by decide) rfl rfl (by decide) (by decide) d17_2 rfl ?_
  rintro _ h71 ⟨Kh71, rfl, R⟩
  show AtW p l e _ s m _ below meth c n0 _ h71 1 34 (mkF m 5 #[.val (.ref b), .val (.int x)] [(.ref b)])
  refine w_pop (q := 6) C rfl d17_5 rfl ?_
  refine w_aloadN (q := 7) C rfl rfl d17_6 rfl ?_
  exact w_retA C rfl rfl rfl d17_7 (by decide) (by decide) ⟨Kh71, rfl, R⟩
theorem d25_0 : decode jdk_68_method_64_code 0 = .ok (.aload_n 0, 1) := by decide +kernel
theorem d25_1 : decode jdk_68_method_64_code 1 = .ok (.getfield 15, 3) := by decide +kernel
theorem d25_4 : decode jdk_68_method_64_code 4 = .ok (.areturn, 1) := by decide +kernel
theorem pf25 : plainFor (⟨"java/lang/AbstractStringBuilder", "getValue", "()[B"⟩ : MethodName) = true := by first | exact plainFor_of_name (by first | (simp [plainName, overriddenIn]; done) | decide +kernel) | decide +kernel
theorem ef_asbValue (m : MethodId) (z0 : Addr) : entryFrame m #[(.ref z0)] 1 = mkF m 0 #[.val (.ref z0)] [] := by first | rfl | (simp [entryFrame, mkF, argsToLocals, Value.category, *]; done) | rfl
set_option maxRecDepth 65536 in
set_option maxHeartbeats 40000000 in
theorem rm_asbValue {l : Launch} {Z : State} {a0 : Array Value} {n0 : Nat} (G : Gl Z a0 n0) {h0 : Heap} (O : Old Z n0 h0) (b : Addr) (t : Addr) (cs : List Int32) (cap : Nat) (B : Sb Z h0 b t cs cap) :
    Ct [] l Z n0 (⟨"java/lang/AbstractStringBuilder", "getValue", "()[B"⟩ : MethodName) jdk_68_method_64_code 1 (some (.array .byte)) ({ frames := 0, cells := 0, slots := 0, locals := 0 } : Room) #[(.ref b)] h0 (fun v h => h = h0 ∧ v = some (.ref t)) := by
  refine Ct.intro pf25 ?_
  intro p e s m below meth c C
  refine AtW.cast ?_ (ef_asbValue m b)
  obtain ⟨E, hr, hlc, FC, FN, FV, E2, A⟩ := id B
  refine w_aloadN (q := 1) C rfl rfl d25_0 rfl ?_
  refine w_getF (q := 4) (host := "") C (Or.inl (G.1 _ (List.mem_of_getElem? (i := 51) rfl))) Via.refl FV d25_1 rfl ?_
  exact w_retA C rfl rfl rfl d25_4 (by decide) (by decide) ⟨rfl, rfl⟩
theorem d27_0 : decode jdk_68_method_6_code 0 = .ok (.aload_n 0, 1) := by decide +kernel
theorem d27_1 : decode jdk_68_method_6_code 1 = .ok (.getfield 79, 3) := by decide +kernel
theorem d27_4 : decode jdk_68_method_6_code 4 = .ok (.ireturn, 1) := by decide +kernel
theorem pf27 : plainFor (⟨"java/lang/AbstractStringBuilder", "length", "()I"⟩ : MethodName) = true := by first | exact plainFor_of_name (by first | (simp [plainName, overriddenIn]; done) | decide +kernel) | decide +kernel
theorem ef_asbLen (m : MethodId) (z0 : Addr) : entryFrame m #[(.ref z0)] 1 = mkF m 0 #[.val (.ref z0)] [] := by first | rfl | (simp [entryFrame, mkF, argsToLocals, Value.category, *]; done) | rfl
set_option maxRecDepth 65536 in
set_option maxHeartbeats 40000000 in
theorem rm_asbLen {l : Launch} {Z : State} {a0 : Array Value} {n0 : Nat} (G : Gl Z a0 n0) {h0 : Heap} (O : Old Z n0 h0) (b : Addr) (t : Addr) (cs : List Int32) (cap : Nat) (B : Sb Z h0 b t cs cap) :
    Ct [] l Z n0 (⟨"java/lang/AbstractStringBuilder", "length", "()I"⟩ : MethodName) jdk_68_method_6_code 1 (some .int) ({ frames := 0, cells := 0, slots := 0, locals := 0 } : Room) #[(.ref b)] h0 (fun v h => h = h0 ∧ v = some (.int (Int32.ofNat cs.length))) := by
  refine Ct.intro pf27 ?_
  intro p e s m below meth c C
  refine AtW.cast ?_ (ef_asbLen m b)
  obtain ⟨E, hr, hlc, FC, FN, FV, E2, A⟩ := id B
  refine w_aloadN (q := 1) C rfl rfl d27_0 rfl ?_
  refine w_getF (q := 4) (host := "") C (Or.inl (G.1 _ (List.mem_of_getElem? (i := 84) rfl))) Via.refl FN d27_1 rfl ?_
  exact w_retI C rfl d27_4 (by decide) (by decide) ⟨rfl, rfl⟩
theorem d26_0 : decode jdk_67_method_93_code 0 = .ok (.aload_n 0, 1) := by decide +kernel
theorem d26_1 : decode jdk_67_method_93_code 1 = .ok (.invokespecial 343, 3) := by decide +kernel
theorem d26_4 : decode jdk_67_method_93_code 4 = .ok (.ireturn, 1) := by decide +kernel
theorem pf26 : plainFor (⟨"java/lang/StringBuilder", "length", "()I"⟩ : MethodName) = true := by first | exact plainFor_of_name (by first | (simp [plainName, overriddenIn]; done) | decide +kernel) | decide +kernel
theorem ef_sbLen (m : MethodId) (z0 : Addr) : entryFrame m #[(.ref z0)] 1 = mkF m 0 #[.val (.ref z0)] [] := by first | rfl | (simp [entryFrame, mkF, argsToLocals, Value.category, *]; done) | rfl
set_option maxRecDepth 65536 in
set_option maxHeartbeats 40000000 in
theorem rm_sbLen {l : Launch} {Z : State} {a0 : Array Value} {n0 : Nat} (G : Gl Z a0 n0) {h0 : Heap} (O : Old Z n0 h0) (b : Addr) (t : Addr) (cs : List Int32) (cap : Nat) (B : Sb Z h0 b t cs cap) :
    Ct [] l Z n0 (⟨"java/lang/StringBuilder", "length", "()I"⟩ : MethodName) jdk_67_method_93_code 1 (some .int) ({ frames := 1, cells := 0, slots := 0, locals := 12 } : Room) #[(.ref b)] h0 (fun v h => h = h0 ∧ v = some (.int (Int32.ofNat cs.length))) := by
  refine Ct.intro pf26 ?_
  intro p e s m below meth c C
  refine AtW.cast ?_ (ef_sbLen m b)
  obtain ⟨E, hr, hlc, FC, FN, FV, E2, A⟩ := id B
  refine w_aloadN (q := 1) C rfl rfl d26_0 rfl ?_
  refine w_callU (q := 4) (argsL := []) (S := []) (W := 0) (cells' := 0) (slots' := 0) (a := b) C E (G.1 _ (List.mem_of_getElem? (i := 159) rfl)) (G.1 _ (List.mem_of_getElem? (i := 155) rfl)) (NI.of_sel (z := ({ cls := "java/lang/AbstractStringBuilder", name := "ensureCapacityInternal", desc := "(I)V" } : Jvm.MethodName)) (G.1 _ (List.mem_of_getElem? (i := 89) rfl))) (G.1 _ (List.mem_of_getElem? (i := 68) rfl)) (G.1 _ (List.mem_of_getElem? (i := 47) rfl)) (G.1 _ (List.mem_of_getElem? (i := 160) rfl)) (by decide) (by decide) (rm_asbLen G O b t cs cap B) rfl (lenOf pd_8 rfl) rfl (by decide) (own_leb rfl) (by decide) rfl rfl (by decide) (by decide) d26_1 rfl ?_
  rintro _ h72 ⟨eh73, rfl⟩
  rw [eh73]
  show AtW p l e _ s m _ below meth c n0 _ h0 0 0 (mkF m 4 #[.val (.ref b)] [(.int (Int32.ofNat cs.length))])
  exact w_retI C rfl d26_4 (by decide) (by decide) ⟨rfl, rfl⟩
theorem d30_0 : decode jdk_65_method_131_code 0 = .ok (.iload_n 1, 1) := by decide +kernel
theorem d30_1 : decode jdk_65_method_131_code 1 = .ok (.iload_n 0, 1) := by decide +kernel
theorem d30_2 : decode jdk_65_method_131_code 2 = .ok (.if_icmp .ge 35, 3) := by decide +kernel
theorem d30_5 : decode jdk_65_method_131_code 5 = .ok (.new 43, 3) := by decide +kernel
theorem d30_8 : decode jdk_65_method_131_code 8 = .ok (.dup, 1) := by decide +kernel
theorem d30_9 : decode jdk_65_method_131_code 9 = .ok (.new 45, 3) := by decide +kernel
theorem d30_12 : decode jdk_65_method_131_code 12 = .ok (.dup, 1) := by decide +kernel
theorem d30_13 : decode jdk_65_method_131_code 13 = .ok (.invokespecial 47, 3) := by decide +kernel
theorem d30_16 : decode jdk_65_method_131_code 16 = .ok (.iload_n 0, 1) := by decide +kernel
theorem d30_17 : decode jdk_65_method_131_code 17 = .ok (.invokevirtual 54, 3) := by decide +kernel
theorem d30_20 : decode jdk_65_method_131_code 20 = .ok (.ldc_w 337, 3) := by decide +kernel
theorem d30_23 : decode jdk_65_method_131_code 23 = .ok (.invokevirtual 50, 3) := by decide +kernel
theorem d30_26 : decode jdk_65_method_131_code 26 = .ok (.iload_n 1, 1) := by decide +kernel
theorem d30_27 : decode jdk_65_method_131_code 27 = .ok (.invokevirtual 54, 3) := by decide +kernel
theorem d30_30 : decode jdk_65_method_131_code 30 = .ok (.invokevirtual 61, 3) := by decide +kernel
theorem d30_33 : decode jdk_65_method_131_code 33 = .ok (.invokespecial 65, 3) := by decide +kernel
theorem d30_36 : decode jdk_65_method_131_code 36 = .ok (.athrow, 1) := by decide +kernel
theorem d30_37 : decode jdk_65_method_131_code 37 = .ok (.return_, 1) := by decide +kernel
theorem pf30 : plainFor (⟨"java/util/Arrays", "checkLength", "(II)V"⟩ : MethodName) = true := by first | exact plainFor_of_name (by first | (simp [plainName, overriddenIn]; done) | decide +kernel) | decide +kernel
theorem ef_checkLen (m : MethodId) (z0 : Int32) (z1 : Int32) : entryFrame m #[(.int z0), (.int z1)] 2 = mkF m 0 #[.val (.int z0), .val (.int z1)] [] := by first | rfl | (simp [entryFrame, mkF, argsToLocals, Value.category, *]; done) | rfl
set_option maxRecDepth 65536 in
set_option maxHeartbeats 40000000 in
theorem rm_checkLen {l : Launch} {Z : State} {a0 : Array Value} {n0 : Nat} (G : Gl Z a0 n0) {h0 : Heap} (O : Old Z n0 h0) (x : Int32) (y : Int32) (hxy : ¬ y < x) :
    Ct [] l Z n0 (⟨"java/util/Arrays", "checkLength", "(II)V"⟩ : MethodName) jdk_65_method_131_code 2 none ({ frames := 0, cells := 0, slots := 0, locals := 0 } : Room) #[(.int x), (.int y)] h0 (fun v h => h = h0 ∧ v = none) := by
  refine Ct.intro pf30 ?_
  intro p e s m below meth c C
  refine AtW.cast ?_ (ef_checkLen m x y)
  refine w_iloadN (q := 1) C rfl d30_0 rfl ?_
  refine w_iloadN (q := 2) C rfl d30_1 rfl ?_
  refine w_icmp_ge_t (q := 37) C d30_2 (by decide) (by decide) hxy ?_
  exact w_retV C rfl d30_37 (by decide) (by decide) ⟨rfl, rfl⟩
theorem d29_0 : decode jdk_65_method_133_code 0 = .ok (.iload_n 1, 1) := by decide +kernel
theorem d29_1 : decode jdk_65_method_133_code 1 = .ok (.iload_n 2, 1) := by decide +kernel
theorem d29_2 : decode jdk_65_method_133_code 2 = .ok (.invokestatic 343, 3) := by decide +kernel
theorem d29_5 : decode jdk_65_method_133_code 5 = .ok (.iload_n 2, 1) := by decide +kernel
theorem d29_6 : decode jdk_65_method_133_code 6 = .ok (.iload_n 1, 1) := by decide +kernel
theorem d29_7 : decode jdk_65_method_133_code 7 = .ok (.isub, 1) := by decide +kernel
theorem d29_8 : decode jdk_65_method_133_code 8 = .ok (.istore_n 3, 1) := by decide +kernel
theorem d29_9 : decode jdk_65_method_133_code 9 = .ok (.iload_n 3, 1) := by decide +kernel
theorem d29_10 : decode jdk_65_method_133_code 10 = .ok (.newarray .byte, 2) := by decide +kernel
theorem d29_12 : decode jdk_65_method_133_code 12 = .ok (.astore 4, 2) := by decide +kernel
theorem d29_14 : decode jdk_65_method_133_code 14 = .ok (.aload_n 0, 1) := by decide +kernel
theorem d29_15 : decode jdk_65_method_133_code 15 = .ok (.iload_n 1, 1) := by decide +kernel
theorem d29_16 : decode jdk_65_method_133_code 16 = .ok (.aload 4, 2) := by decide +kernel
theorem d29_18 : decode jdk_65_method_133_code 18 = .ok (.iconst 0, 1) := by decide +kernel
theorem d29_19 : decode jdk_65_method_133_code 19 = .ok (.aload_n 0, 1) := by decide +kernel
theorem d29_20 : decode jdk_65_method_133_code 20 = .ok (.arraylength, 1) := by decide +kernel
theorem d29_21 : decode jdk_65_method_133_code 21 = .ok (.iload_n 1, 1) := by decide +kernel
theorem d29_22 : decode jdk_65_method_133_code 22 = .ok (.isub, 1) := by decide +kernel
theorem d29_23 : decode jdk_65_method_133_code 23 = .ok (.iload_n 3, 1) := by decide +kernel
theorem d29_24 : decode jdk_65_method_133_code 24 = .ok (.invokestatic 304, 3) := by decide +kernel
theorem d29_27 : decode jdk_65_method_133_code 27 = .ok (.invokestatic 150, 3) := by decide +kernel
theorem d29_30 : decode jdk_65_method_133_code 30 = .ok (.aload 4, 2) := by decide +kernel
theorem d29_32 : decode jdk_65_method_133_code 32 = .ok (.areturn, 1) := by decide +kernel
theorem pf29 : plainFor (⟨"java/util/Arrays", "copyOfRangeByte", "([BII)[B"⟩ : MethodName) = true := by first | exact plainFor_of_name (by first | (simp [plainName, overriddenIn]; done) | decide +kernel) | decide +kernel
theorem ef_cpRangeB (m : MethodId) (z0 : Addr) (z1 : Int32) (z2 : Int32) : entryFrame m #[(.ref z0), (.int z1), (.int z2)] 5 = mkF m 0 #[.val (.ref z0), .val (.int z1), .val (.int z2), .unset, .unset] [] := by first | rfl | (simp [entryFrame, mkF, argsToLocals, Value.category, *]; done) | rfl
set_option maxRecDepth 65536 in
set_option maxHeartbeats 40000000 in
theorem rm_cpRangeB {l : Launch} {Z : State} {a0 : Array Value} {n0 : Nat} (G : Gl Z a0 n0) {h0 : Heap} (O : Old Z n0 h0) (t : Addr) (vs : List Value) (n : Nat) (A : Ar Z h0 t .byte vs) (hn : n ≤ vs.length) (hnc : n ≤ 20) :
    Ct [] l Z n0 (⟨"java/util/Arrays", "copyOfRangeByte", "([BII)[B"⟩ : MethodName) jdk_65_method_133_code 5 (some (.array .byte)) ({ frames := 1, cells := 1, slots := 20, locals := 18 } : Room) #[(.ref t), (.int (0 : Int32)), (.int (Int32.ofNat n))] h0 (fun v h => Keep h0 h [] ∧ ∃ u, v = some (.ref u) ∧ h0.size ≤ u ∧ Ar Z h u .byte (vs.take n)) := by
  refine Ct.intro pf29 ?_
  intro p e s m below meth c C
  refine AtW.cast ?_ (ef_cpRangeB m t (0 : Int32) (Int32.ofNat n))
  have hvl := A.1
  refine w_iloadN (q := 1) C rfl d29_0 rfl ?_
  refine w_iloadN (q := 2) C rfl d29_1 rfl ?_
  refine w_callS (q := 5) (argsL := [(.int (0 : Int32)), (.int (Int32.ofNat n))]) (S := []) (W := 0) (cells' := 0) (slots' := 0) C (G.1 _ (List.mem_of_getElem? (i := 169) rfl)) (G.1 _ (List.mem_of_getElem? (i := 170) rfl)) (G.1 _ (List.mem_of_getElem? (i := 164) rfl)) (G.1 _ (List.mem_of_getElem? (i := 171) rfl)) (by decide) (rm_checkLen G O 0 _ (ofNat_neg (by omega))) rfl (lenOf pd_23 rfl) rfl (by decide) (own_leb rfl) (by decide) rfl rfl (by decide) (by decide) d29_2 rfl ?_
  rintro _ h74 ⟨eh75, rfl⟩
  rw [eh75]
  show AtW p l e _ s m _ below meth c n0 _ h0 0 0 (mkF m 5 #[.val (.ref t), .val (.int (0 : Int32)), .val (.int (Int32.ofNat n)), .unset, .unset] [])
  refine w_iloadN (q := 6) C rfl d29_5 rfl ?_
  refine w_iloadN (q := 7) C rfl d29_6 rfl ?_
  refine w_isub (q := 8) C rfl d29_7 rfl ?_
  rw [show ((Int32.ofNat n) - (0 : Int32)) = (Int32.ofNat n) from Int32.sub_zero _]
  refine w_istoreN (q := 9) (L' := #[.val (.ref t), .val (.int (0 : Int32)), .val (.int (Int32.ofNat n)), .val (.int (Int32.ofNat n)), .unset]) C rfl d29_8 rfl ?_
  refine w_iloadN (q := 10) C rfl d29_9 rfl ?_
  refine w_newArrE (q := 12) (cap := 20) (cells' := 1) (slots' := 20) (ad := "[B") C (G.1 _ (List.mem_of_getElem? (i := 7) rfl)) rfl (ofNat_neg (by omega)) (by rw [ofNat_nat (by omega)]; exact hnc) (by decide) rfl rfl (by decide) (by decide) rfl d29_10 rfl ?_
  intro h76 u g_u Eh76 V_u X_u
  rw [ofNat_nat (by omega)] at V_u
  have K1 : Keep h0 h76 [] := Keep.of_ext Eh76
  have hg0 : h0.size ≤ u := Nat.le_of_eq g_u.symm
  have ge : n0 ≤ u := Nat.le_trans (Old_le O) hg0
  replace O := Old_k0 O K1
  replace A := Ar_k0 A K1
  refine w_astore (q := 14) (L' := #[.val (.ref t), .val (.int (0 : Int32)), .val (.int (Int32.ofNat n)), .val (.int (Int32.ofNat n)), .val (.ref u)]) C rfl rfl d29_12 rfl ?_
  refine w_aloadN (q := 15) C rfl rfl d29_14 rfl ?_
  refine w_iloadN (q := 16) C rfl d29_15 rfl ?_
  refine w_aload (q := 18) C rfl rfl d29_16 rfl ?_
  refine w_iconst (q := 19) (v := (0 : Int32)) C (by rfl) d29_18 rfl ?_
  refine w_aloadN (q := 20) C rfl rfl d29_19 rfl ?_
  refine w_len (q := 21) (z := (Int32.ofNat vs.length)) C A rfl d29_20 rfl ?_
  refine w_iloadN (q := 22) C rfl d29_21 rfl ?_
  refine w_isub (q := 23) C rfl d29_22 rfl ?_
  rw [show ((Int32.ofNat vs.length) - (0 : Int32)) = (Int32.ofNat vs.length) from Int32.sub_zero _]
  refine w_iloadN (q := 24) C rfl d29_23 rfl ?_
  refine w_callS (q := 27) (argsL := [(.int (Int32.ofNat vs.length)), (.int (Int32.ofNat n))]) (S := [(.int (0 : Int32)), (.ref u), (.int (0 : Int32)), (.ref t)]) (W := 4) (cells' := 1) (slots' := 20) C (G.1 _ (List.mem_of_getElem? (i := 172) rfl)) (G.1 _ (List.mem_of_getElem? (i := 173) rfl)) (G.1 _ (List.mem_of_getElem? (i := 174) rfl)) (G.1 _ (List.mem_of_getElem? (i := 175) rfl)) (by decide) (rm_mmin G O _ _) rfl (lenOf pd_24 rfl) rfl (by decide) (own_leb rfl) (by decide) rfl rfl (by decide) (by decide) d29_24 rfl ?_
  rintro _ h77 ⟨eh78, rfl⟩
  rw [eh78]
  show AtW p l e _ s m _ below meth c n0 _ h76 1 20 (mkF m 27 #[.val (.ref t), .val (.int (0 : Int32)), .val (.int (Int32.ofNat n)), .val (.int (Int32.ofNat n)), .val (.ref u)] [(.int (if (Int32.ofNat n) < (Int32.ofNat vs.length) then (Int32.ofNat n) else (Int32.ofNat vs.length))), (.int (0 : Int32)), (.ref u), (.int (0 : Int32)), (.ref t)])
  rw [show (if (Int32.ofNat n) < (Int32.ofNat vs.length) then (Int32.ofNat n) else (Int32.ofNat vs.length)) = (Int32.ofNat n) from by split; rfl; rename_i q; rw [own_nlt (by omega) hvl] at q; congr 1; omega]
  refine w_copy (q := 30) (S := []) (sp := 0) (dp := 0) (nn := n) (W := 0) C (G.1 _ (List.mem_of_getElem? (i := 176) rfl)) (G.1 _ (List.mem_of_getElem? (i := 110) rfl)) (G.1 _ (List.mem_of_getElem? (i := 108) rfl)) (G.1 _ (List.mem_of_getElem? (i := 109) rfl)) A V_u rfl (by omega) (by rw [List.length_replicate]; omega) ge rfl (by decide) (own_leb rfl) (by decide) rfl d29_27 rfl ?_
  intro h79 Kh79 Vh79
  refine w_aload (q := 32) C rfl rfl d29_30 rfl ?_
  exact w_retA C rfl rfl rfl d29_32 (by decide) (by decide) ⟨own_K1 K1 Kh79 hg0, u, rfl, hg0, by simpa using Vh79⟩
theorem d28_0 : decode jdk_65_method_132_code 0 = .ok (.iload_n 1, 1) := by decide +kernel
theorem d28_1 : decode jdk_65_method_132_code 1 = .ok (.ifCond .ne 9, 3) := by decide +kernel
theorem d28_4 : decode jdk_65_method_132_code 4 = .ok (.iload_n 2, 1) := by decide +kernel
theorem d28_5 : decode jdk_65_method_132_code 5 = .ok (.aload_n 0, 1) := by decide +kernel
theorem d28_6 : decode jdk_65_method_132_code 6 = .ok (.arraylength, 1) := by decide +kernel
theorem d28_7 : decode jdk_65_method_132_code 7 = .ok (.if_icmp .eq 10, 3) := by decide +kernel
theorem d28_10 : decode jdk_65_method_132_code 10 = .ok (.aload_n 0, 1) := by decide +kernel
theorem d28_11 : decode jdk_65_method_132_code 11 = .ok (.iload_n 1, 1) := by decide +kernel
theorem d28_12 : decode jdk_65_method_132_code 12 = .ok (.iload_n 2, 1) := by decide +kernel
theorem d28_13 : decode jdk_65_method_132_code 13 = .ok (.invokestatic 339, 3) := by decide +kernel
theorem d28_16 : decode jdk_65_method_132_code 16 = .ok (.areturn, 1) := by decide +kernel
theorem d28_17 : decode jdk_65_method_132_code 17 = .ok (.aload_n 0, 1) := by decide +kernel
theorem d28_18 : decode jdk_65_method_132_code 18 = .ok (.invokevirtual 310, 3) := by decide +kernel
theorem d28_21 : decode jdk_65_method_132_code 21 = .ok (.checkcast 311, 3) := by decide +kernel
theorem d28_24 : decode jdk_65_method_132_code 24 = .ok (.areturn, 1) := by decide +kernel
theorem pf28 : plainFor (⟨"java/util/Arrays", "copyOfRange", "([BII)[B"⟩ : MethodName) = true := by first | exact plainFor_of_name (by first | (simp [plainName, overriddenIn]; done) | decide +kernel) | decide +kernel
theorem ef_cpRange (m : MethodId) (z0 : Addr) (z1 : Int32) (z2 : Int32) : entryFrame m #[(.ref z0), (.int z1), (.int z2)] 3 = mkF m 0 #[.val (.ref z0), .val (.int z1), .val (.int z2)] [] := by first | rfl | (simp [entryFrame, mkF, argsToLocals, Value.category, *]; done) | rfl
set_option maxRecDepth 65536 in
set_option maxHeartbeats 40000000 in
theorem rm_cpRange {l : Launch} {Z : State} {a0 : Array Value} {n0 : Nat} (G : Gl Z a0 n0) {h0 : Heap} (O : Old Z n0 h0) (t : Addr) (vs : List Value) (n : Nat) (A : Ar Z h0 t .byte vs) (X : Exa Z h0 t "[B") (hn : n ≤ vs.length) (hnc : n ≤ 20) :
    Ct [] l Z n0 (⟨"java/util/Arrays", "copyOfRange", "([BII)[B"⟩ : MethodName) jdk_65_method_132_code 3 (some (.array .byte)) ({ frames := 2, cells := 1, slots := 20, locals := 34 } : Room) #[(.ref t), (.int (0 : Int32)), (.int (Int32.ofNat n))] h0 (fun v h => Keep h0 h [] ∧ ∃ u, v = some (.ref u) ∧ h0.size ≤ u ∧ Ar Z h u .byte (vs.take n)) := by
  refine Ct.intro pf28 ?_
  intro p e s m below meth c C
  refine AtW.cast ?_ (ef_cpRange m t (0 : Int32) (Int32.ofNat n))
  have hvl := A.1
  refine w_iloadN (q := 1) C rfl d28_0 rfl ?_
  refine w_if_ne_f (q := 4) C d28_1 rfl (by decide) ?_
  refine w_iloadN (q := 5) C rfl d28_4 rfl ?_
  refine w_aloadN (q := 6) C rfl rfl d28_5 rfl ?_
  refine w_len (q := 7) (z := (Int32.ofNat vs.length)) C A rfl d28_6 rfl ?_
  by_cases q1 : (Int32.ofNat n) = (Int32.ofNat vs.length)
  · refine w_icmp_eq_t (q := 17) C d28_7 (by decide) (by decide) q1 ?_
    rw [own_neq (by omega) hvl] at q1
    refine w_aloadN (q := 18) C rfl rfl d28_17 rfl ?_
    refine w_clone (q := 21) (cap := 20) (W := 0) (cells' := 1) (slots' := 20) C (G.1 _ (List.mem_of_getElem? (i := 246) rfl)) (G.1 _ (List.mem_of_getElem? (i := 247) rfl)) (G.1 _ (List.mem_of_getElem? (i := 251) rfl)) (G.1 _ (List.mem_of_getElem? (i := 249) rfl)) (G.1 _ (List.mem_of_getElem? (i := 250) rfl)) (G.1 _ (List.mem_of_getElem? (i := 252) rfl)) A X rfl (by decide) (own_leb rfl) (by decide) (by omega) rfl rfl (by decide) (by decide) d28_18 rfl ?_
    intro h80 u g_u Eh80 V_u X_u
    refine w_cast (q := 24) C (G.1 _ (List.mem_of_getElem? (i := 253) rfl)) (Ins.self X_u) d28_21 rfl ?_
    exact w_retA C rfl rfl rfl d28_24 (by decide) (by decide) ⟨Keep.of_ext Eh80, u, rfl, Nat.le_of_eq g_u.symm, by rw [q1, List.take_length]; exact V_u⟩
  · refine w_icmp_eq_f (q := 10) C d28_7 rfl q1 ?_
    refine w_aloadN (q := 11) C rfl rfl d28_10 rfl ?_
    refine w_iloadN (q := 12) C rfl d28_11 rfl ?_
    refine w_iloadN (q := 13) C rfl d28_12 rfl ?_
    refine w_callS (q := 16) (argsL := [(.ref t), (.int (0 : Int32)), (.int (Int32.ofNat n))]) (S := []) (W := 0) (cells' := 1) (slots' := 20) C (G.1 _ (List.mem_of_getElem? (i := 166) rfl)) (G.1 _ (List.mem_of_getElem? (i := 167) rfl)) (G.1 _ (List.mem_of_getElem? (i := 164) rfl)) (G.1 _ (List.mem_of_getElem? (i := 168) rfl)) (by decide) (rm_cpRangeB G O t vs n A (by omega) hnc) rfl (lenOf pd_22 rfl) rfl (by decide) (own_leb rfl) (by decide) rfl rfl (by decide) (by decide) d28_13 rfl ?_
    rintro _ h81 ⟨Kh81, u, rfl, hg, V⟩
    show AtW p l e _ s m _ below meth c n0 _ h81 1 20 (mkF m 16 #[.val (.ref t), .val (.int (0 : Int32)), .val (.int (Int32.ofNat n))] [(.ref u)])
    exact w_retA C rfl rfl rfl d28_16 (by decide) (by decide) ⟨Kh81, u, rfl, hg, V⟩
theorem d24_0 : decode jdk_42_method_150_code 0 = .ok (.aload_n 0, 1) := by decide +kernel
theorem d24_1 : decode jdk_42_method_150_code 1 = .ok (.invokespecial 1, 3) := by decide +kernel
theorem d24_4 : decode jdk_42_method_150_code 4 = .ok (.aload_n 1, 1) := by decide +kernel
theorem d24_5 : decode jdk_42_method_150_code 5 = .ok (.invokevirtual 552, 3) := by decide +kernel
theorem d24_8 : decode jdk_42_method_150_code 8 = .ok (.astore_n 3, 1) := by decide +kernel
theorem d24_9 : decode jdk_42_method_150_code 9 = .ok (.aload_n 1, 1) := by decide +kernel
theorem d24_10 : decode jdk_42_method_150_code 10 = .ok (.invokevirtual 549, 3) := by decide +kernel
theorem d24_13 : decode jdk_42_method_150_code 13 = .ok (.istore 4, 2) := by decide +kernel
theorem d24_15 : decode jdk_42_method_150_code 15 = .ok (.aload_n 1, 1) := by decide +kernel
theorem d24_16 : decode jdk_42_method_150_code 16 = .ok (.invokevirtual 1047, 3) := by decide +kernel
theorem d24_19 : decode jdk_42_method_150_code 19 = .ok (.ifCond .eq 22, 3) := by decide +kernel
theorem d24_22 : decode jdk_42_method_150_code 22 = .ok (.aload_n 0, 1) := by decide +kernel
theorem d24_23 : decode jdk_42_method_150_code 23 = .ok (.iconst 0, 1) := by decide +kernel
theorem d24_24 : decode jdk_42_method_150_code 24 = .ok (.putfield 15, 3) := by decide +kernel
theorem d24_27 : decode jdk_42_method_150_code 27 = .ok (.aload_n 0, 1) := by decide +kernel
theorem d24_28 : decode jdk_42_method_150_code 28 = .ok (.aload_n 3, 1) := by decide +kernel
theorem d24_29 : decode jdk_42_method_150_code 29 = .ok (.iconst 0, 1) := by decide +kernel
theorem d24_30 : decode jdk_42_method_150_code 30 = .ok (.iload 4, 2) := by decide +kernel
theorem d24_32 : decode jdk_42_method_150_code 32 = .ok (.invokestatic 54, 3) := by decide +kernel
theorem d24_35 : decode jdk_42_method_150_code 35 = .ok (.putfield 9, 3) := by decide +kernel
theorem d24_38 : decode jdk_42_method_150_code 38 = .ok (.goto 59, 3) := by decide +kernel
theorem d24_41 : decode jdk_42_method_150_code 41 = .ok (.getstatic 38, 3) := by decide +kernel
theorem d24_44 : decode jdk_42_method_150_code 44 = .ok (.ifCond .eq 35, 3) := by decide +kernel
theorem d24_47 : decode jdk_42_method_150_code 47 = .ok (.aload_n 1, 1) := by decide +kernel
theorem d24_48 : decode jdk_42_method_150_code 48 = .ok (.getfield 1048, 3) := by decide +kernel
theorem d24_51 : decode jdk_42_method_150_code 51 = .ok (.ifCond .eq 28, 3) := by decide +kernel
theorem d24_54 : decode jdk_42_method_150_code 54 = .ok (.aload_n 0, 1) := by decide +kernel
theorem d24_55 : decode jdk_42_method_150_code 55 = .ok (.aload_n 3, 1) := by decide +kernel
theorem d24_56 : decode jdk_42_method_150_code 56 = .ok (.iconst 0, 1) := by decide +kernel
theorem d24_57 : decode jdk_42_method_150_code 57 = .ok (.iload 4, 2) := by decide +kernel
theorem d24_59 : decode jdk_42_method_150_code 59 = .ok (.invokestatic 1051, 3) := by decide +kernel
theorem d24_62 : decode jdk_42_method_150_code 62 = .ok (.putfield 9, 3) := by decide +kernel
theorem d24_65 : decode jdk_42_method_150_code 65 = .ok (.aload_n 0, 1) := by decide +kernel
theorem d24_66 : decode jdk_42_method_150_code 66 = .ok (.aload_n 0, 1) := by decide +kernel
theorem d24_67 : decode jdk_42_method_150_code 67 = .ok (.getfield 9, 3) := by decide +kernel
theorem d24_70 : decode jdk_42_method_150_code 70 = .ok (.iload 4, 2) := by decide +kernel
theorem d24_72 : decode jdk_42_method_150_code 72 = .ok (.invokestatic 47, 3) := by decide +kernel
theorem d24_75 : decode jdk_42_method_150_code 75 = .ok (.putfield 15, 3) := by decide +kernel
theorem d24_78 : decode jdk_42_method_150_code 78 = .ok (.return_, 1) := by decide +kernel
theorem d24_79 : decode jdk_42_method_150_code 79 = .ok (.aload_n 0, 1) := by decide +kernel
theorem d24_80 : decode jdk_42_method_150_code 80 = .ok (.iconst 1, 1) := by decide +kernel
theorem d24_81 : decode jdk_42_method_150_code 81 = .ok (.putfield 15, 3) := by decide +kernel
theorem d24_84 : decode jdk_42_method_150_code 84 = .ok (.aload_n 0, 1) := by decide +kernel
theorem d24_85 : decode jdk_42_method_150_code 85 = .ok (.aload_n 3, 1) := by decide +kernel
theorem d24_86 : decode jdk_42_method_150_code 86 = .ok (.iconst 0, 1) := by decide +kernel
theorem d24_87 : decode jdk_42_method_150_code 87 = .ok (.iload 4, 2) := by decide +kernel
theorem d24_89 : decode jdk_42_method_150_code 89 = .ok (.iconst 1, 1) := by decide +kernel
theorem d24_90 : decode jdk_42_method_150_code 90 = .ok (.ishl, 1) := by decide +kernel
theorem d24_91 : decode jdk_42_method_150_code 91 = .ok (.invokestatic 54, 3) := by decide +kernel
theorem d24_94 : decode jdk_42_method_150_code 94 = .ok (.putfield 9, 3) := by decide +kernel
theorem d24_97 : decode jdk_42_method_150_code 97 = .ok (.return_, 1) := by decide +kernel
theorem pf24 : plainFor (⟨"java/lang/String", "<init>", "(Ljava/lang/AbstractStringBuilder;Ljava/lang/Void;)V"⟩ : MethodName) = true := by first | exact plainFor_of_name (by first | (simp [plainName, overriddenIn]; done) | decide +kernel) | decide +kernel
theorem ef_strinitASB (m : MethodId) (z0 : Addr) (z1 : Addr) : entryFrame m #[(.ref z0), (.ref z1), .null] 5 = mkF m 0 #[.val (.ref z0), .val (.ref z1), .val .null, .unset, .unset] [] := by first | rfl | (simp [entryFrame, mkF, argsToLocals, Value.category, *]; done) | rfl
set_option maxRecDepth 65536 in
set_option maxHeartbeats 40000000 in
theorem rm_strinitASB {l : Launch} {Z : State} {a0 : Array Value} {n0 : Nat} (G : Gl Z a0 n0) {h0 : Heap} (O : Old Z n0 h0) (a : Addr) (b : Addr) (t : Addr) (cs : List Int32) (cap : Nat) (E : Exa Z h0 a "java/lang/String") (FV : Fld Z h0 a "java/lang/String" "value" "[B" .null) (FC : Fld Z h0 a "java/lang/String" "coder" "B" (.int (0 : Int32))) (hge : n0 ≤ a) (B : Sb Z h0 b t cs cap) (htc : cs.length ≤ 20) :
    Ct [] l Z n0 (⟨"java/lang/String", "<init>", "(Ljava/lang/AbstractStringBuilder;Ljava/lang/Void;)V"⟩ : MethodName) jdk_42_method_150_code 5 none ({ frames := 3, cells := 1, slots := 20, locals := 49 } : Room) #[(.ref a), (.ref b), .null] h0 (fun v h => Keep h0 h [a] ∧ v = none ∧ Str Z h a cs) := by
  refine Ct.intro pf24 ?_
  intro p e s m below meth c C
  refine AtW.cast ?_ (ef_strinitASB m a b)
  obtain ⟨E', hr, hlc, FC', FN', FV', E2, A⟩ := id B
  have hcl := B.capl
  have hAlt := E.lt
  refine w_aloadN (q := 1) C rfl rfl d24_0 rfl ?_
  refine w_initO (q := 4) (W := 0) C (G.1 _ (List.mem_of_getElem? (i := 147) rfl)) (G.1 _ (List.mem_of_getElem? (i := 24) rfl)) (G.1 _ (List.mem_of_getElem? (i := 25) rfl)) rfl (by decide) (own_leb rfl) (by decide) d24_1 rfl ?_
  refine w_aloadN (q := 5) C rfl rfl d24_4 rfl ?_
  refine w_callV (q := 8) (argsL := []) (S := []) (W := 0) (cells' := 0) (slots' := 0) (a := b) C E' (G.1 _ (List.mem_of_getElem? (i := 148) rfl)) (G.1 _ (List.mem_of_getElem? (i := 149) rfl)) (w_nf C (G.1 _ (List.mem_of_getElem? (i := 151) rfl))) (G.1 _ (List.mem_of_getElem? (i := 151) rfl)) (G.1 _ (List.mem_of_getElem? (i := 150) rfl)) (G.1 _ (List.mem_of_getElem? (i := 47) rfl)) (G.1 _ (List.mem_of_getElem? (i := 152) rfl)) (by decide) (rm_asbValue G O b t cs cap B) rfl (lenOf pd_21 rfl) rfl (by decide) (own_leb rfl) (by decide) rfl rfl (by decide) (by decide) d24_5 rfl ?_
  rintro _ h82 ⟨eh83, rfl⟩
  rw [eh83]
  show AtW p l e _ s m _ below meth c n0 _ h0 0 0 (mkF m 8 #[.val (.ref a), .val (.ref b), .val .null, .unset, .unset] [(.ref t)])
  refine w_astoreN (q := 9) (L' := #[.val (.ref a), .val (.ref b), .val .null, .val (.ref t), .unset]) C rfl rfl d24_8 rfl ?_
  refine w_aloadN (q := 10) C rfl rfl d24_9 rfl ?_
  refine w_callV (q := 13) (argsL := []) (S := []) (W := 0) (cells' := 0) (slots' := 0) (a := b) C E' (G.1 _ (List.mem_of_getElem? (i := 153) rfl)) (G.1 _ (List.mem_of_getElem? (i := 154) rfl)) (NI.nf (NI.of_sel (args := #[]) (z := ({ cls := "java/lang/AbstractStringBuilder", name := "ensureCapacityInternal", desc := "(I)V" } : Jvm.MethodName)) (mvT C.2.2.2.1 (G.1 _ (List.mem_of_getElem? (i := 89) rfl))))) (G.1 _ (List.mem_of_getElem? (i := 156) rfl)) (G.1 _ (List.mem_of_getElem? (i := 157) rfl)) (G.1 _ (List.mem_of_getElem? (i := 39) rfl)) (G.1 _ (List.mem_of_getElem? (i := 158) rfl)) (by decide) (rm_sbLen G O b t cs cap B) rfl (lenOf pd_8 rfl) rfl (by decide) (own_leb rfl) (by decide) rfl rfl (by decide) (by decide) d24_10 rfl ?_
  rintro _ h84 ⟨eh85, rfl⟩
  rw [eh85]
  show AtW p l e _ s m _ below meth c n0 _ h0 0 0 (mkF m 13 #[.val (.ref a), .val (.ref b), .val .null, .val (.ref t), .unset] [(.int (Int32.ofNat cs.length))])
  refine w_istore (q := 15) (L' := #[.val (.ref a), .val (.ref b), .val .null, .val (.ref t), .val (.int (Int32.ofNat cs.length))]) C rfl d24_13 rfl ?_
  refine w_aloadN (q := 16) C rfl rfl d24_15 rfl ?_
  refine w_callV (q := 19) (argsL := []) (S := []) (W := 0) (cells' := 0) (slots' := 0) (a := b) C E' (G.1 _ (List.mem_of_getElem? (i := 161) rfl)) (G.1 _ (List.mem_of_getElem? (i := 125) rfl)) (w_nf C (G.1 _ (List.mem_of_getElem? (i := 127) rfl))) (G.1 _ (List.mem_of_getElem? (i := 127) rfl)) (G.1 _ (List.mem_of_getElem? (i := 126) rfl)) (G.1 _ (List.mem_of_getElem? (i := 47) rfl)) (G.1 _ (List.mem_of_getElem? (i := 128) rfl)) (by decide) (rm_asbLatin1 G O b t cs cap B) rfl (lenOf pd_17 rfl) rfl (by decide) (own_leb rfl) (by decide) rfl rfl (by decide) (by decide) d24_16 rfl ?_
  rintro _ h86 ⟨eh87, rfl⟩
  rw [eh87]
  show AtW p l e _ s m _ below meth c n0 _ h0 0 0 (mkF m 19 #[.val (.ref a), .val (.ref b), .val .null, .val (.ref t), .val (.int (Int32.ofNat cs.length))] [(.int (1 : Int32))])
  refine w_if_eq_f (q := 22) C d24_19 rfl (by decide) ?_
  refine w_aloadN (q := 23) C rfl rfl d24_22 rfl ?_
  refine w_iconst (q := 24) (v := (0 : Int32)) C (by rfl) d24_23 rfl ?_
  have hta : t ≠ a := Ne.symm (ne_exa E E2 (by decide))
  refine w_putF (q := 27) (host := "") (v' := (.int (0 : Int32))) C (G.1 _ (List.mem_of_getElem? (i := 83) rfl)) Via.refl FC E (Or.inr ⟨(G.1 _ (List.mem_of_getElem? (i := 9) rfl)), rfl, rfl⟩) (G.1 _ (List.mem_of_getElem? (i := 6) rfl)) (ty := .byte) (by decide) rfl rfl hge d24_24 rfl ?_
  intro h88 Wh88
  have K2 : Keep h0 h88 [a] := (Keep.refl h0 [a]).wr Wh88 (Or.inl (List.mem_cons_self ..))
  replace FC := FC.same Wh88
  replace FV := FV.other Wh88 (Or.inr (slot_ne (Or.inr (G.1 _ (List.mem_of_getElem? (i := 8) rfl))) (Or.inr (G.1 _ (List.mem_of_getElem? (i := 9) rfl))) (by decide) (t := .array .byte) (t' := .byte) (by decide) (by decide)))
  replace E := E.wr Wh88
  replace A := A.other Wh88 hta
  replace E2 := E2.wr Wh88
  replace O := O.wr Wh88 hge
  refine w_aloadN (q := 28) C rfl rfl d24_27 rfl ?_
  refine w_aloadN (q := 29) C rfl rfl d24_28 rfl ?_
  refine w_iconst (q := 30) (v := (0 : Int32)) C (by rfl) d24_29 rfl ?_
  refine w_iload (q := 32) C rfl d24_30 rfl ?_
  refine w_callS (q := 35) (argsL := [(.ref t), (.int (0 : Int32)), (.int (Int32.ofNat cs.length))]) (S := [(.ref a)]) (W := 1) (cells' := 1) (slots' := 20) C (G.1 _ (List.mem_of_getElem? (i := 162) rfl)) (G.1 _ (List.mem_of_getElem? (i := 163) rfl)) (G.1 _ (List.mem_of_getElem? (i := 164) rfl)) (G.1 _ (List.mem_of_getElem? (i := 165) rfl)) (by decide) (rm_cpRange G O t _ cs.length A E2 (by simp only [List.length_append, own_bs_len, List.length_replicate]; omega) htc) rfl (lenOf pd_22 rfl) rfl (by decide) (own_leb rfl) (by decide) rfl rfl (by decide) (by decide) d24_32 rfl ?_
  rintro _ h89 ⟨Kh89, u, rfl, hgu, V⟩
  show AtW p l e _ s m _ below meth c n0 _ h89 1 20 (mkF m 35 #[.val (.ref a), .val (.ref b), .val .null, .val (.ref t), .val (.int (Int32.ofNat cs.length))] [(.ref u), (.ref a)])
  rw [List.take_left' (own_bs_len cs)] at V
  replace E := Exa_k0 E Kh89
  replace FC := Fld_k0 FC Kh89
  replace FV := Fld_k0 FV Kh89
  have hua : u ≠ a := Ne.symm (Nat.ne_of_lt (Nat.lt_of_lt_of_le hAlt (Nat.le_trans K2.1 hgu)))
  refine w_putF (q := 38) (host := "") (v' := (.ref u)) C (G.1 _ (List.mem_of_getElem? (i := 76) rfl)) Via.refl FV E (Or.inr ⟨(G.1 _ (List.mem_of_getElem? (i := 8) rfl)), rfl, rfl⟩) (G.1 _ (List.mem_of_getElem? (i := 6) rfl)) (ty := (.array .byte)) (by decide) rfl rfl hge d24_35 rfl ?_
  intro h90 Wh90
  replace FV := FV.same Wh90
  replace FC := FC.other Wh90 (Or.inr (slot_ne (Or.inr (G.1 _ (List.mem_of_getElem? (i := 9) rfl))) (Or.inr (G.1 _ (List.mem_of_getElem? (i := 8) rfl))) (by decide) (t := .byte) (t' := .array .byte) (by decide) (by decide)))
  replace E := E.wr Wh90
  replace V := V.other Wh90 hua
  refine w_goto (q := 97) C d24_38 (by decide) (by decide) ?_
  exact w_retV C rfl d24_97 (by decide) (by decide) ⟨(own_K0 K2 Kh89).wr Wh90 (Or.inl (List.mem_cons_self ..)), rfl, E, hr, u, FC, FV, V⟩
theorem d23_0 : decode jdk_42_method_53_code 0 = .ok (.aload_n 0, 1) := by decide +kernel
theorem d23_1 : decode jdk_42_method_53_code 1 = .ok (.aload_n 1, 1) := by decide +kernel
theorem d23_2 : decode jdk_42_method_53_code 2 = .ok (.aconst_null, 1) := by decide +kernel
theorem d23_3 : decode jdk_42_method_53_code 3 = .ok (.invokespecial 489, 3) := by decide +kernel
theorem d23_6 : decode jdk_42_method_53_code 6 = .ok (.return_, 1) := by decide +kernel
theorem pf23 : plainFor (⟨"java/lang/String", "<init>", "(Ljava/lang/StringBuilder;)V"⟩ : MethodName) = true := by first | exact plainFor_of_name (by first | (simp [plainName, overriddenIn]; done) | decide +kernel) | decide +kernel
theorem ef_strinitSB (m : MethodId) (z0 : Addr) (z1 : Addr) : entryFrame m #[(.ref z0), (.ref z1)] 2 = mkF m 0 #[.val (.ref z0), .val (.ref z1)] [] := by first | rfl | (simp [entryFrame, mkF, argsToLocals, Value.category, *]; done) | rfl
set_option maxRecDepth 65536 in
set_option maxHeartbeats 40000000 in
theorem rm_strinitSB {l : Launch} {Z : State} {a0 : Array Value} {n0 : Nat} (G : Gl Z a0 n0) {h0 : Heap} (O : Old Z n0 h0) (a : Addr) (b : Addr) (t : Addr) (cs : List Int32) (cap : Nat) (E : Exa Z h0 a "java/lang/String") (FV : Fld Z h0 a "java/lang/String" "value" "[B" .null) (FC : Fld Z h0 a "java/lang/String" "coder" "B" (.int (0 : Int32))) (hge : n0 ≤ a) (B : Sb Z h0 b t cs cap) (htc : cs.length ≤ 20) :
    Ct [] l Z n0 (⟨"java/lang/String", "<init>", "(Ljava/lang/StringBuilder;)V"⟩ : MethodName) jdk_42_method_53_code 2 none ({ frames := 4, cells := 1, slots := 20, locals := 65 } : Room) #[(.ref a), (.ref b)] h0 (fun v h => Keep h0 h [a] ∧ v = none ∧ Str Z h a cs) := by
  refine Ct.intro pf23 ?_
  intro p e s m below meth c C
  refine AtW.cast ?_ (ef_strinitSB m a b)
  refine w_aloadN (q := 1) C rfl rfl d23_0 rfl ?_
  refine w_aloadN (q := 2) C rfl rfl d23_1 rfl ?_
  refine w_aconst_null (q := 3) C d23_2 rfl ?_
  refine w_callI (q := 6) (argsL := [(.ref b), .null]) (S := []) (W := 0) (cells' := 1) (slots' := 20) (a := a) C rfl (G.1 _ (List.mem_of_getElem? (i := 144) rfl)) (G.1 _ (List.mem_of_getElem? (i := 145) rfl)) (G.1 _ (List.mem_of_getElem? (i := 5) rfl)) (G.1 _ (List.mem_of_getElem? (i := 146) rfl)) (by decide) (rm_strinitASB G O a b t cs cap E FV FC hge B htc) rfl (lenOf pd_20 rfl) rfl (by decide) (own_leb rfl) (by decide) rfl rfl (by decide) (by decide) d23_3 rfl ?_
  rintro _ h91 ⟨Kh91, rfl, S⟩
  show AtW p l e _ s m _ below meth c n0 _ h91 1 20 (mkF m 6 #[.val (.ref a), .val (.ref b)] [])
  exact w_retV C rfl d23_6 (by decide) (by decide) ⟨Kh91, rfl, S⟩
theorem d22_0 : decode jdk_67_method_42_code 0 = .ok (.new 18, 3) := by decide +kernel
theorem d22_3 : decode jdk_67_method_42_code 3 = .ok (.dup, 1) := by decide +kernel
theorem d22_4 : decode jdk_67_method_42_code 4 = .ok (.aload_n 0, 1) := by decide +kernel
theorem d22_5 : decode jdk_67_method_42_code 5 = .ok (.invokespecial 137, 3) := by decide +kernel
theorem d22_8 : decode jdk_67_method_42_code 8 = .ok (.areturn, 1) := by decide +kernel
theorem pf22 : plainFor (⟨"java/lang/StringBuilder", "toString", "()Ljava/lang/String;"⟩ : MethodName) = true := by first | exact plainFor_of_name (by first | (simp [plainName, overriddenIn]; done) | decide +kernel) | decide +kernel
theorem ef_sbStr (m : MethodId) (z0 : Addr) : entryFrame m #[(.ref z0)] 1 = mkF m 0 #[.val (.ref z0)] [] := by first | rfl | (simp [entryFrame, mkF, argsToLocals, Value.category, *]; done) | rfl
set_option maxRecDepth 65536 in
set_option maxHeartbeats 40000000 in
theorem rm_sbStr {l : Launch} {Z : State} {a0 : Array Value} {n0 : Nat} (G : Gl Z a0 n0) {h0 : Heap} (O : Old Z n0 h0) (b : Addr) (t : Addr) (cs : List Int32) (cap : Nat) (B : Sb Z h0 b t cs cap) (htc : cs.length ≤ 20) :
    Ct [] l Z n0 (⟨"java/lang/StringBuilder", "toString", "()Ljava/lang/String;"⟩ : MethodName) jdk_67_method_42_code 1 (some (.object "java/lang/String")) ({ frames := 5, cells := 2, slots := 24, locals := 79 } : Room) #[(.ref b)] h0 (fun v h => Keep h0 h [] ∧ ∃ a, v = some (.ref a) ∧ h0.size ≤ a ∧ Str Z h a cs) := by
  refine Ct.intro pf22 ?_
  intro p e s m below meth c C
  refine AtW.cast ?_ (ef_sbStr m b)
  refine w_new (q := 3) (cells' := 1) (slots' := 4) C (G.1 _ (List.mem_of_getElem? (i := 139) rfl)) (G.1 _ (List.mem_of_getElem? (i := 6) rfl)) (G.1 _ (List.mem_of_getElem? (i := 5) rfl)) rfl rfl (by decide) (by decide) d22_0 rfl ?_
  intro h92 a g_a Eh92 A_a D_a
  have F_value_a : Fld Z h92 a "java/lang/String" "value" "[B" .null := D_a (Or.inr (G.1 _ (List.mem_of_getElem? (i := 8) rfl))) (ty := (.array .byte)) (by decide)
  have F_coder_a : Fld Z h92 a "java/lang/String" "coder" "B" (.int (0 : Int32)) := D_a (Or.inr (G.1 _ (List.mem_of_getElem? (i := 9) rfl))) (ty := .byte) (by decide)
  have hge : n0 ≤ a := by rw [g_a]; exact Old_le O
  have hg0 : h0.size ≤ a := Nat.le_of_eq g_a.symm
  have K1 : Keep h0 h92 [] := Keep.of_ext Eh92
  replace O := Old_k0 O K1
  refine w_dup (q := 4) C rfl d22_3 rfl ?_
  refine w_aloadN (q := 5) C rfl rfl d22_4 rfl ?_
  refine w_callI (q := 8) (argsL := [(.ref b)]) (S := [(.ref a)]) (W := 1) (cells' := 2) (slots' := 24) (a := a) C rfl (G.1 _ (List.mem_of_getElem? (i := 140) rfl)) (G.1 _ (List.mem_of_getElem? (i := 141) rfl)) (G.1 _ (List.mem_of_getElem? (i := 5) rfl)) (G.1 _ (List.mem_of_getElem? (i := 143) rfl)) (by decide) (rm_strinitSB G O a b t cs cap A_a F_value_a F_coder_a hge (Sb_k0 B K1) htc) rfl (lenOf pd_19 rfl) rfl (by decide) (own_leb rfl) (by decide) rfl rfl (by decide) (by decide) d22_5 rfl ?_
  rintro _ h93 ⟨Kh93, rfl, S⟩
  show AtW p l e _ s m _ below meth c n0 _ h93 2 24 (mkF m 8 #[.val (.ref b)] [(.ref a)])
  exact w_retA C rfl rfl rfl d22_8 (by decide) (by decide) ⟨own_K1 K1 Kh93 hg0, a, rfl, hg0, S⟩
theorem AtS.addOr {p : Program} {l : Launch} {e : Env} {R : Room} {s : State} {m : MethodId} {args : Array Value} {below : List Frame} {meth : Method} {c : Code} {n0 : Nat} {Q : Option Value → Heap → Prop} {h : Heap} {cells slots : Nat} {Z : State} {own : String} {EL : List (String × Nat)} {mk : Nat} {sf : List Addr} {g : JFrame} {x : Addr} (q : x ∈ sf ∨ mk ≤ x) (h2 : x < h.size) (K : AtS p l e R s m args below meth c Z EL own n0 Q mk (x :: sf) h cells slots g) : AtS p l e R s m args below meth c Z EL own n0 Q mk sf h cells slots g :=
  q.elim (fun q => AtS.weak K (Nat.le_refl _) (fun y hy => (List.mem_cons.mp hy).elim (fun e => e ▸ q) id)) (fun q => AtS.add q h2 K)

def own_cap (n : Nat) : Nat := if n ≤ 16 then 16 else 34
theorem own_cap_step {n d cap cap' : Nat} (h : cap = own_cap n) (hd : d ≤ 18) (hn : n + d ≤ 34) (hc : cap' = if n + d ≤ cap then cap else 2 * cap + 2) : cap' = own_cap (n + d) := by
  unfold own_cap at *; (repeat' split at h) <;> subst h <;> (repeat' split) <;> (repeat' split at hc) <;> omega
theorem own_cap_fit {n d cap : Nat} (h : cap = own_cap n) (hd : d ≤ 18) (hn : n + d ≤ 34) : n + d ≤ cap ∨ (n + d ≤ 2 * cap + 2 ∧ 2 * cap + 2 ≤ 34) := by
  unfold own_cap at h; (repeat' split at h) <;> subst h <;> omega

theorem own_fldinj {Z : State} {h : Heap} {a : Addr} {C n d : String} {v w : Value} (F : Fld Z h a C n d v) (G : Fld Z h a C n d w) : v = w := by
  obtain ⟨c1, cf1, k1, i1, f1, a1, a2, -, -, -, -, a7⟩ := F
  obtain ⟨c2, cf2, k2, i2, f2, b1, b2, -, -, -, -, b7⟩ := G
  cases a1.symm.trans b1
  cases a2.symm.trans b2
  exact Option.some.inj (a7.symm.trans b7)
theorem own_hst {Z : State} {h : Heap} {a b : Addr} {cs : List Int32} {a0 : Array Value} {n : Nat} (S : Str Z h a cs) (E : Exa Z h b "java/lang/StringBuilder") (wi : (Jvm.Cond.instantiable "java/lang/StringBuilder" n).before a0 Z = true) : ∀ x, Fld Z h a "java/lang/String" "value" "[B" (.ref x) → x ≠ b := fun x F => by
  obtain ⟨-, -, t, -, f2, A⟩ := S
  have e : Value.ref x = .ref t := own_fldinj F f2
  obtain rfl : x = t := by injection e
  obtain ⟨l, k, V⟩ := A
  exact Ne.symm (E.neArv V wi)

theorem d1_0 : decode method_3_code 0 = .ok (.iload_n 0, 1) := by decide +kernel
theorem d1_1 : decode method_3_code 1 = .ok (.ifCond .ne 6, 3) := by decide +kernel
theorem d1_4 : decode method_3_code 4 = .ok (.ldc 50, 2) := by decide +kernel
theorem d1_6 : decode method_3_code 6 = .ok (.areturn, 1) := by decide +kernel
theorem d1_7 : decode method_3_code 7 = .ok (.iload_n 0, 1) := by decide +kernel
theorem d1_8 : decode method_3_code 8 = .ok (.iconst 1, 1) := by decide +kernel
theorem d1_9 : decode method_3_code 9 = .ok (.if_icmp .ne 8, 3) := by decide +kernel
theorem d1_12 : decode method_3_code 12 = .ok (.iload_n 1, 1) := by decide +kernel
theorem d1_13 : decode method_3_code 13 = .ok (.invokestatic 52, 3) := by decide +kernel
theorem d1_16 : decode method_3_code 16 = .ok (.areturn, 1) := by decide +kernel
theorem d1_17 : decode method_3_code 17 = .ok (.iconst 2, 1) := by decide +kernel
theorem d1_18 : decode method_3_code 18 = .ok (.newarray .char, 2) := by decide +kernel
theorem d1_20 : decode method_3_code 20 = .ok (.astore_n 3, 1) := by decide +kernel
theorem d1_21 : decode method_3_code 21 = .ok (.aload_n 3, 1) := by decide +kernel
theorem d1_22 : decode method_3_code 22 = .ok (.iconst 0, 1) := by decide +kernel
theorem d1_23 : decode method_3_code 23 = .ok (.iload_n 1, 1) := by decide +kernel
theorem d1_24 : decode method_3_code 24 = .ok (.castore, 1) := by decide +kernel
theorem d1_25 : decode method_3_code 25 = .ok (.aload_n 3, 1) := by decide +kernel
theorem d1_26 : decode method_3_code 26 = .ok (.iconst 1, 1) := by decide +kernel
theorem d1_27 : decode method_3_code 27 = .ok (.iload_n 2, 1) := by decide +kernel
theorem d1_28 : decode method_3_code 28 = .ok (.castore, 1) := by decide +kernel
theorem d1_29 : decode method_3_code 29 = .ok (.new 33, 3) := by decide +kernel
theorem d1_32 : decode method_3_code 32 = .ok (.dup, 1) := by decide +kernel
theorem d1_33 : decode method_3_code 33 = .ok (.aload_n 3, 1) := by decide +kernel
theorem d1_34 : decode method_3_code 34 = .ok (.invokespecial 56, 3) := by decide +kernel
theorem d1_37 : decode method_3_code 37 = .ok (.areturn, 1) := by decide +kernel
theorem pf1 : plainFor (⟨"org/dalvista/LabelLinePinLaw", "make", "(ICC)Ljava/lang/String;"⟩ : MethodName) = true := by first | exact plainFor_of_name (by first | (simp [plainName, overriddenIn]; done) | decide +kernel) | decide +kernel
theorem ef_makef (m : MethodId) (z0 : Int32) (z1 : Int32) (z2 : Int32) : entryFrame m #[(.int z0), (.int z1), (.int z2)] 4 = mkF m 0 #[.val (.int z0), .val (.int z1), .val (.int z2), .unset] [] := by first | rfl | (simp [entryFrame, mkF, argsToLocals, Value.category, *]; done) | rfl
set_option maxRecDepth 65536 in
set_option maxHeartbeats 40000000 in
theorem rm_makef {l : Launch} {Z : State} {a0 : Array Value} {n0 : Nat} (G : Gl Z a0 n0) {h0 : Heap} (O : Old Z n0 h0) (n : Nat) (x0 : Int32) (x1 : Int32) (hn : n ≤ 2) (hx0 : ¬ x0 < 0 ∧ ¬ 255 < x0) (hx1 : ¬ x1 < 0 ∧ ¬ 255 < x1) :
    Cs [] l Z consts_1 n0 (⟨"org/dalvista/LabelLinePinLaw", "make", "(ICC)Ljava/lang/String;"⟩ : MethodName) method_3_code 4 (some (.object "java/lang/String")) ({ frames := 4, cells := 3, slots := 8, locals := 66 } : Room) #[(.int (Int32.ofNat n)), (.int x0), (.int x1)] h0 (fun v h => Keep h0 h [] ∧ ∃ a, v = some (.ref a) ∧ Str Z h a ([x0, x1].take n)) := by
  refine Cs.intro pf1 ?_
  intro p e s m below meth c C
  refine AtS.cast ?_ (ef_makef m (Int32.ofNat n) x0 x1)
  rcases n with _ | _ | _ | n
  · show AtS p l e _ s m _ below meth c Z _ _ n0 _ _ _ h0 0 0 (mkF m 0 #[.val (.int (0 : Int32)), .val (.int x0), .val (.int x1), .unset] [])
    refine s_iloadN (q := 1) C rfl d1_0 rfl ?_
    refine s_if_ne_f (q := 4) C d1_1 rfl (by decide) ?_
    refine s_ldc (q := 6) (n := 0) (cells' := 2) (slots' := 4) (vs := []) C G.el G.sa (G.1 _ (List.mem_of_getElem? (i := 4) rfl)) (by decide) (by decide +kernel) (by decide) (by decide +kernel) (by decide) rfl rfl (by decide) (by decide) d1_4 rfl ?_
    intro h94 s95 t96 Eh94 e1_s95 e2_s95 e3_s95 e4_s95 hne_s95
    have S_s95 : Str Z h94 s95 [] := ⟨e1_s95, (fun c hc => absurd hc List.not_mem_nil), t96, e2_s95, e3_s95, e4_s95⟩
    exact s_retA C G.el rfl rfl rfl d1_6 (by decide) (by decide) ⟨Keep.of_ext Eh94, s95, rfl, S_s95⟩
  · show AtS p l e _ s m _ below meth c Z _ _ n0 _ _ _ h0 0 0 (mkF m 0 #[.val (.int (1 : Int32)), .val (.int x0), .val (.int x1), .unset] [])
    refine s_iloadN (q := 1) C rfl d1_0 rfl ?_
    refine s_if_ne_t (q := 7) C d1_1 (by decide) (by decide) (by decide) ?_
    refine s_iloadN (q := 8) C rfl d1_7 rfl ?_
    refine s_iconst (q := 9) (v := (1 : Int32)) C (by rfl) d1_8 rfl ?_
    refine s_icmp_ne_f (q := 12) C d1_9 rfl (by decide) ?_
    refine s_iloadN (q := 13) C rfl d1_12 rfl ?_
    refine s_callS1 (q := 16) (argsL := [(.int x0)]) (S := []) (W := 0) (cells' := 2) (slots' := 5) C (G.1 _ (List.mem_of_getElem? (i := 272) rfl)) (G.1 _ (List.mem_of_getElem? (i := 273) rfl)) (G.1 _ (List.mem_of_getElem? (i := 5) rfl)) (G.1 _ (List.mem_of_getElem? (i := 274) rfl)) (by decide) (rm_valueOfC G O x0 hx0) rfl (lenOf pd_41 rfl) rfl (by decide) (own_leb rfl) (by decide) rfl rfl (by decide) (by decide) (wl := []) (fun _ _ q => q.1) all0 d1_13 rfl ?_
    rintro _ h97 ⟨Kh97, a, rfl, S1⟩
    show AtS p l e _ s m _ below meth c Z _ _ n0 _ _ _ h97 2 5 (mkF m 16 #[.val (.int (1 : Int32)), .val (.int x0), .val (.int x1), .unset] [(.ref a)])
    exact s_retA C G.el rfl rfl rfl d1_16 (by decide) (by decide) ⟨Kh97, a, rfl, S1⟩
  · show AtS p l e _ s m _ below meth c Z _ _ n0 _ _ _ h0 0 0 (mkF m 0 #[.val (.int (2 : Int32)), .val (.int x0), .val (.int x1), .unset] [])
    refine s_iloadN (q := 1) C rfl d1_0 rfl ?_
    refine s_if_ne_t (q := 7) C d1_1 (by decide) (by decide) (by decide) ?_
    refine s_iloadN (q := 8) C rfl d1_7 rfl ?_
    refine s_iconst (q := 9) (v := (1 : Int32)) C (by rfl) d1_8 rfl ?_
    refine s_icmp_ne_t (q := 17) C d1_9 (by decide) (by decide) (by decide) ?_
    refine s_iconst (q := 18) (v := (2 : Int32)) C (by rfl) d1_17 rfl ?_
    refine s_newArr (q := 20) (cap := 2) (cells' := 1) (slots' := 2) C (G.1 _ (List.mem_of_getElem? (i := 228) rfl)) rfl (by decide) (by decide) (by decide) rfl rfl (by decide) (by decide) d1_18 rfl ?_
    intro h98 o99 g_o99 Eh98 V_o99
    replace V_o99 : Ar Z h98 o99 .char [(.int (0 : Int32)), (.int (0 : Int32))] := V_o99
    have ge_o99 : n0 ≤ o99 := by rw [g_o99]; exact Old_le O
    have sz_o99 : h0.size ≤ o99 := Nat.le_of_eq g_o99.symm
    have K100 : Keep h0 h98 [] := Keep.of_ext Eh98
    refine s_astoreN (q := 21) (L' := #[.val (.int (2 : Int32)), .val (.int x0), .val (.int x1), .val (.ref o99)]) C rfl rfl d1_20 rfl ?_
    refine s_aloadN (q := 22) C rfl rfl d1_21 rfl ?_
    refine s_iconst (q := 23) (v := (0 : Int32)) C (by rfl) d1_22 rfl ?_
    refine s_iloadN (q := 24) C rfl d1_23 rfl ?_
    refine s_castore (q := 25) (z := x0) (i := 0) C (own_nar hx0.1 hx0.2) V_o99 rfl (own_ltb rfl) ge_o99 d1_24 rfl ?_
    intro h101 Wh101 Vh101
    have K102 := K100.wr Wh101 (Or.inr sz_o99)
    refine s_aloadN (q := 26) C rfl rfl d1_25 rfl ?_
    refine s_iconst (q := 27) (v := (1 : Int32)) C (by rfl) d1_26 rfl ?_
    refine s_iloadN (q := 28) C rfl d1_27 rfl ?_
    refine s_castore (q := 29) (z := x1) (i := 1) C (own_nar hx1.1 hx1.2) Vh101 rfl (own_ltb rfl) ge_o99 d1_28 rfl ?_
    intro h103 Wh103 Vh103
    have K104 := K102.wr Wh103 (Or.inr sz_o99)
    replace O := Old_k0 O K104
    have VA : Ar Z h103 o99 .char (List.map Value.int [x0, x1]) := Vh103
    have KX := K104
    refine s_new (q := 32) (cells' := 2) (slots' := 6) C (G.1 _ (List.mem_of_getElem? (i := 229) rfl)) (G.1 _ (List.mem_of_getElem? (i := 6) rfl)) (G.1 _ (List.mem_of_getElem? (i := 5) rfl)) rfl rfl (by decide) (by decide) d1_29 rfl ?_
    intro h105 o106 g_o106 Eh105 A_o106 D_o106
    have F_value_o106 : Fld Z h105 o106 "java/lang/String" "value" "[B" .null := D_o106 (Or.inr (G.1 _ (List.mem_of_getElem? (i := 8) rfl))) (ty := (.array .byte)) (by decide)
    have F_coder_o106 : Fld Z h105 o106 "java/lang/String" "coder" "B" (.int (0 : Int32)) := D_o106 (Or.inr (G.1 _ (List.mem_of_getElem? (i := 9) rfl))) (ty := .byte) (by decide)
    have ge_o106 : n0 ≤ o106 := by rw [g_o106]; exact Old_le O
    have K107 : Keep h103 h105 [] := Keep.of_ext Eh105
    have O108 := Old_k0 O K107
    refine s_dup (q := 33) C rfl d1_32 rfl ?_
    refine s_aloadN (q := 34) C rfl rfl d1_33 rfl ?_
    have hL_S1 : L1 [x0, x1] := (own_L1c hx0 (own_L1c hx1 (fun c hc => absurd hc List.not_mem_nil)))
    refine s_callI1 (q := 37) (argsL := [(.ref o99)]) (S := [(.ref o106)]) (W := 1) (cells' := 3) (slots' := 8) (a := o106) C rfl (G.1 _ (List.mem_of_getElem? (i := 230) rfl)) (G.1 _ (List.mem_of_getElem? (i := 231) rfl)) (G.1 _ (List.mem_of_getElem? (i := 5) rfl)) (G.1 _ (List.mem_of_getElem? (i := 232) rfl)) (by decide) (rm_strinit G O108 o106 o99 [x0, x1] A_o106 F_value_o106 F_coder_o106 ge_o106 (Ar_k0 VA K107) hL_S1 (own_leb rfl) (by simp)) rfl (lenOf pd_33 rfl) rfl (by decide) (own_leb rfl) (by decide) rfl rfl (by decide) (by decide) (wl := [o106]) (fun _ _ q => q.1) (allS (SfOk.mem (by simp)) (all0)) d1_34 rfl ?_
    rintro _ h109 ⟨Kh109, rfl, S1⟩
    show AtS p l e _ s m _ below meth c Z _ _ n0 _ _ _ h109 3 8 (mkF m 37 #[.val (.int (2 : Int32)), .val (.int x0), .val (.int x1), .val (.ref o99)] [(.ref o106)])
    have K110 : Keep h103 h109 [] := own_K1 K107 Kh109 (Nat.le_of_eq g_o106.symm)
    replace VA := Ar_k0 VA K110
    replace O := Old_k0 O K110
    exact s_retA C G.el rfl rfl rfl d1_37 (by decide) (by decide) ⟨own_K0 KX K110, o106, rfl, S1⟩
  · exact absurd hn (by omega)
theorem d3_0 : decode jdk_30_method_1_code 0 = .ok (.aload_n 0, 1) := by decide +kernel
theorem d3_1 : decode jdk_30_method_1_code 1 = .ok (.invokespecial 1, 3) := by decide +kernel
theorem d3_4 : decode jdk_30_method_1_code 4 = .ok (.return_, 1) := by decide +kernel
theorem pf3 : plainFor (⟨"java/lang/Record", "<init>", "()V"⟩ : MethodName) = true := by first | exact plainFor_of_name (by first | (simp [plainName, overriddenIn]; done) | decide +kernel) | decide +kernel
theorem ef_record (m : MethodId) (z0 : Addr) : entryFrame m #[(.ref z0)] 1 = mkF m 0 #[.val (.ref z0)] [] := by first | rfl | (simp [entryFrame, mkF, argsToLocals, Value.category, *]; done) | rfl
set_option maxRecDepth 65536 in
set_option maxHeartbeats 40000000 in
theorem rm_record {l : Launch} {Z : State} {a0 : Array Value} {n0 : Nat} (G : Gl Z a0 n0) {h0 : Heap} (O : Old Z n0 h0) (a : Addr) :
    Ct [] l Z n0 (⟨"java/lang/Record", "<init>", "()V"⟩ : MethodName) jdk_30_method_1_code 1 none ({ frames := 1, cells := 0, slots := 0, locals := 12 } : Room) #[(.ref a)] h0 (fun v h => h = h0 ∧ v = none) := by
  refine Ct.intro pf3 ?_
  intro p e s m below meth c C
  refine AtW.cast ?_ (ef_record m a)
  refine w_aloadN (q := 1) C rfl rfl d3_0 rfl ?_
  refine w_initO (q := 4) (W := 0) C (G.1 _ (List.mem_of_getElem? (i := 23) rfl)) (G.1 _ (List.mem_of_getElem? (i := 24) rfl)) (G.1 _ (List.mem_of_getElem? (i := 25) rfl)) rfl (by decide) (own_leb rfl) (by decide) d3_1 rfl ?_
  exact w_retV C rfl d3_4 (by decide) (by decide) ⟨rfl, rfl⟩
theorem d2_0 : decode prog_1_method_1_code 0 = .ok (.aload_n 0, 1) := by decide +kernel
theorem d2_1 : decode prog_1_method_1_code 1 = .ok (.invokespecial 1, 3) := by decide +kernel
theorem d2_4 : decode prog_1_method_1_code 4 = .ok (.aload_n 0, 1) := by decide +kernel
theorem d2_5 : decode prog_1_method_1_code 5 = .ok (.aload_n 1, 1) := by decide +kernel
theorem d2_6 : decode prog_1_method_1_code 6 = .ok (.putfield 7, 3) := by decide +kernel
theorem d2_9 : decode prog_1_method_1_code 9 = .ok (.aload_n 0, 1) := by decide +kernel
theorem d2_10 : decode prog_1_method_1_code 10 = .ok (.iload_n 2, 1) := by decide +kernel
theorem d2_11 : decode prog_1_method_1_code 11 = .ok (.putfield 13, 3) := by decide +kernel
theorem d2_14 : decode prog_1_method_1_code 14 = .ok (.aload_n 0, 1) := by decide +kernel
theorem d2_15 : decode prog_1_method_1_code 15 = .ok (.aload_n 3, 1) := by decide +kernel
theorem d2_16 : decode prog_1_method_1_code 16 = .ok (.putfield 17, 3) := by decide +kernel
theorem d2_19 : decode prog_1_method_1_code 19 = .ok (.return_, 1) := by decide +kernel
theorem pf2 : plainFor (⟨"org/dalvista/Label", "<init>", "(Ljava/lang/String;ILjava/lang/String;)V"⟩ : MethodName) = true := by first | exact plainFor_of_name (by first | (simp [plainName, overriddenIn]; done) | decide +kernel) | decide +kernel
theorem ef_lbinit (m : MethodId) (z0 : Addr) (z1 : Addr) (z2 : Int32) (z3 : Addr) : entryFrame m #[(.ref z0), (.ref z1), (.int z2), (.ref z3)] 4 = mkF m 0 #[.val (.ref z0), .val (.ref z1), .val (.int z2), .val (.ref z3)] [] := by first | rfl | (simp [entryFrame, mkF, argsToLocals, Value.category, *]; done) | rfl
set_option maxRecDepth 65536 in
set_option maxHeartbeats 40000000 in
theorem rm_lbinit {l : Launch} {Z : State} {a0 : Array Value} {n0 : Nat} (G : Gl Z a0 n0) {h0 : Heap} (O : Old Z n0 h0) (a : Addr) (ks : Addr) (nb : Int32) (df : Addr) (E : Exa Z h0 a "org/dalvista/Label") (F_kind : Fld Z h0 a "org/dalvista/Label" "kind" "Ljava/lang/String;" .null) (F_number : Fld Z h0 a "org/dalvista/Label" "number" "I" (.int (0 : Int32))) (F_definition : Fld Z h0 a "org/dalvista/Label" "definition" "Ljava/lang/String;" .null) (hge : n0 ≤ a) :
    Ct [] l Z n0 (⟨"org/dalvista/Label", "<init>", "(Ljava/lang/String;ILjava/lang/String;)V"⟩ : MethodName) prog_1_method_1_code 4 none ({ frames := 2, cells := 0, slots := 0, locals := 24 } : Room) #[(.ref a), (.ref ks), (.int nb), (.ref df)] h0 (fun v h => Keep h0 h [a] ∧ v = none ∧ Exa Z h a "org/dalvista/Label" ∧ Fld Z h a "org/dalvista/Label" "kind" "Ljava/lang/String;" (.ref ks) ∧ Fld Z h a "org/dalvista/Label" "number" "I" (.int nb) ∧ Fld Z h a "org/dalvista/Label" "definition" "Ljava/lang/String;" (.ref df)) := by
  refine Ct.intro pf2 ?_
  intro p e s m below meth c C
  refine AtW.cast ?_ (ef_lbinit m a ks nb df)
  refine w_aloadN (q := 1) C rfl rfl d2_0 rfl ?_
  refine w_callI (q := 4) (argsL := []) (S := []) (W := 0) (cells' := 0) (slots' := 0) (a := a) C rfl (G.1 _ (List.mem_of_getElem? (i := 18) rfl)) (G.1 _ (List.mem_of_getElem? (i := 19) rfl)) (G.1 _ (List.mem_of_getElem? (i := 21) rfl)) (G.1 _ (List.mem_of_getElem? (i := 22) rfl)) (by decide) (rm_record G O a) rfl (lenOf pd_3 rfl) rfl (by decide) (own_leb rfl) (by decide) rfl rfl (by decide) (by decide) d2_1 rfl ?_
  rintro _ h111 ⟨eh112, rfl⟩
  rw [eh112]
  show AtW p l e _ s m _ below meth c n0 _ h0 0 0 (mkF m 4 #[.val (.ref a), .val (.ref ks), .val (.int nb), .val (.ref df)] [])
  refine w_aloadN (q := 5) C rfl rfl d2_4 rfl ?_
  refine w_aloadN (q := 6) C rfl rfl d2_5 rfl ?_
  refine w_putF (q := 9) (host := "") (v' := (.ref ks)) C (G.1 _ (List.mem_of_getElem? (i := 26) rfl)) Via.refl F_kind E (Or.inr ⟨(G.1 _ (List.mem_of_getElem? (i := 27) rfl)), rfl, rfl⟩) (G.1 _ (List.mem_of_getElem? (i := 13) rfl)) (ty := (.object "java/lang/String")) (by decide) rfl rfl hge d2_6 rfl ?_
  intro h113 Wh113
  replace E := E.wr Wh113
  replace F_kind := F_kind.same Wh113
  replace F_number := F_number.other Wh113 (Or.inr (slot_ne (Or.inr (G.1 _ (List.mem_of_getElem? (i := 29) rfl))) (Or.inr (G.1 _ (List.mem_of_getElem? (i := 27) rfl))) (by decide) (t := .int) (t' := (.object "java/lang/String")) (by decide) (by decide)))
  replace F_definition := F_definition.other Wh113 (Or.inr (slot_ne (Or.inr (G.1 _ (List.mem_of_getElem? (i := 31) rfl))) (Or.inr (G.1 _ (List.mem_of_getElem? (i := 27) rfl))) (by decide) (t := (.object "java/lang/String")) (t' := (.object "java/lang/String")) (by decide) (by decide)))
  have K114 : Keep h0 h113 [a] := (Keep.refl h0 [a]).wr Wh113 (Or.inl (List.mem_cons_self ..))
  refine w_aloadN (q := 10) C rfl rfl d2_9 rfl ?_
  refine w_iloadN (q := 11) C rfl d2_10 rfl ?_
  refine w_putF (q := 14) (host := "") (v' := (.int nb)) C (G.1 _ (List.mem_of_getElem? (i := 28) rfl)) Via.refl F_number E (Or.inr ⟨(G.1 _ (List.mem_of_getElem? (i := 29) rfl)), rfl, rfl⟩) (G.1 _ (List.mem_of_getElem? (i := 13) rfl)) (ty := .int) (by decide) rfl rfl hge d2_11 rfl ?_
  intro h115 Wh115
  replace E := E.wr Wh115
  replace F_kind := F_kind.other Wh115 (Or.inr (slot_ne (Or.inr (G.1 _ (List.mem_of_getElem? (i := 27) rfl))) (Or.inr (G.1 _ (List.mem_of_getElem? (i := 29) rfl))) (by decide) (t := (.object "java/lang/String")) (t' := .int) (by decide) (by decide)))
  replace F_number := F_number.same Wh115
  replace F_definition := F_definition.other Wh115 (Or.inr (slot_ne (Or.inr (G.1 _ (List.mem_of_getElem? (i := 31) rfl))) (Or.inr (G.1 _ (List.mem_of_getElem? (i := 29) rfl))) (by decide) (t := (.object "java/lang/String")) (t' := .int) (by decide) (by decide)))
  have K116 : Keep h0 h115 [a] := K114.wr Wh115 (Or.inl (List.mem_cons_self ..))
  refine w_aloadN (q := 15) C rfl rfl d2_14 rfl ?_
  refine w_aloadN (q := 16) C rfl rfl d2_15 rfl ?_
  refine w_putF (q := 19) (host := "") (v' := (.ref df)) C (G.1 _ (List.mem_of_getElem? (i := 30) rfl)) Via.refl F_definition E (Or.inr ⟨(G.1 _ (List.mem_of_getElem? (i := 31) rfl)), rfl, rfl⟩) (G.1 _ (List.mem_of_getElem? (i := 13) rfl)) (ty := (.object "java/lang/String")) (by decide) rfl rfl hge d2_16 rfl ?_
  intro h117 Wh117
  replace E := E.wr Wh117
  replace F_kind := F_kind.other Wh117 (Or.inr (slot_ne (Or.inr (G.1 _ (List.mem_of_getElem? (i := 27) rfl))) (Or.inr (G.1 _ (List.mem_of_getElem? (i := 31) rfl))) (by decide) (t := (.object "java/lang/String")) (t' := (.object "java/lang/String")) (by decide) (by decide)))
  replace F_number := F_number.other Wh117 (Or.inr (slot_ne (Or.inr (G.1 _ (List.mem_of_getElem? (i := 29) rfl))) (Or.inr (G.1 _ (List.mem_of_getElem? (i := 31) rfl))) (by decide) (t := .int) (t' := (.object "java/lang/String")) (by decide) (by decide)))
  replace F_definition := F_definition.same Wh117
  have K118 : Keep h0 h117 [a] := K116.wr Wh117 (Or.inl (List.mem_cons_self ..))
  exact w_retV C rfl d2_19 (by decide) (by decide) ⟨K118, rfl, E, F_kind, F_number, F_definition⟩
theorem d8_0 : decode prog_1_method_2_code 0 = .ok (.new 20, 3) := by decide +kernel
theorem d8_3 : decode prog_1_method_2_code 3 = .ok (.dup, 1) := by decide +kernel
theorem d8_4 : decode prog_1_method_2_code 4 = .ok (.invokespecial 22, 3) := by decide +kernel
theorem d8_7 : decode prog_1_method_2_code 7 = .ok (.ldc 23, 2) := by decide +kernel
theorem d8_9 : decode prog_1_method_2_code 9 = .ok (.invokevirtual 25, 3) := by decide +kernel
theorem d8_12 : decode prog_1_method_2_code 12 = .ok (.aload_n 0, 1) := by decide +kernel
theorem d8_13 : decode prog_1_method_2_code 13 = .ok (.getfield 7, 3) := by decide +kernel
theorem d8_16 : decode prog_1_method_2_code 16 = .ok (.invokevirtual 25, 3) := by decide +kernel
theorem d8_19 : decode prog_1_method_2_code 19 = .ok (.aload_n 0, 1) := by decide +kernel
theorem d8_20 : decode prog_1_method_2_code 20 = .ok (.getfield 13, 3) := by decide +kernel
theorem d8_23 : decode prog_1_method_2_code 23 = .ok (.invokevirtual 29, 3) := by decide +kernel
theorem d8_26 : decode prog_1_method_2_code 26 = .ok (.ldc 32, 2) := by decide +kernel
theorem d8_28 : decode prog_1_method_2_code 28 = .ok (.invokevirtual 25, 3) := by decide +kernel
theorem d8_31 : decode prog_1_method_2_code 31 = .ok (.invokevirtual 34, 3) := by decide +kernel
theorem d8_34 : decode prog_1_method_2_code 34 = .ok (.areturn, 1) := by decide +kernel
theorem pf8 : plainFor (⟨"org/dalvista/Label", "name", "()Ljava/lang/String;"⟩ : MethodName) = true := by first | exact plainFor_of_name (by first | (simp [plainName, overriddenIn]; done) | decide +kernel) | decide +kernel
theorem ef_namef (m : MethodId) (z0 : Addr) : entryFrame m #[(.ref z0)] 1 = mkF m 0 #[.val (.ref z0)] [] := by first | rfl | (simp [entryFrame, mkF, argsToLocals, Value.category, *]; done) | rfl
set_option maxRecDepth 65536 in
set_option maxHeartbeats 40000000 in
theorem rm_namef {l : Launch} {Z : State} {a0 : Array Value} {n0 : Nat} (G : Gl Z a0 n0) {h0 : Heap} (O : Old Z n0 h0) (a : Addr) (d : Addr) (cs : List Int32) (x : Int32) (F : Fld Z h0 a "org/dalvista/Label" "kind" "Ljava/lang/String;" (.ref d)) (FX : Fld Z h0 a "org/dalvista/Label" "number" "I" (.int x)) (S : Str Z h0 d cs) (hlen : cs.length ≤ 2) :
    Cs [] l Z consts_1 n0 (⟨"org/dalvista/Label", "name", "()Ljava/lang/String;"⟩ : MethodName) prog_1_method_2_code 1 (some (.object "java/lang/String")) ({ frames := 6, cells := 12, slots := 200, locals := 91 } : Room) #[(.ref a)] h0 (fun v h => Keep h0 h [] ∧ ∃ r, v = some (.ref r) ∧ Str Z h r ((([(36 : Int32), (40 : Int32)] ++ cs) ++ own_istr x) ++ [(41 : Int32)])) := by
  refine Cs.intro pf8 ?_
  intro p e s m below meth c C
  refine AtS.cast ?_ (ef_namef m a)
  have hiz := own_isz_le x
  have hil := own_istr_len x
  refine s_new (q := 3) (cells' := 1) (slots' := 4) C (G.1 _ (List.mem_of_getElem? (i := 37) rfl)) (G.1 _ (List.mem_of_getElem? (i := 38) rfl)) (G.1 _ (List.mem_of_getElem? (i := 39) rfl)) rfl rfl (by decide) (by decide) d8_0 rfl ?_
  intro h119 o120 g_o120 Eh119 A_o120 D_o120
  have F_value_o120 : Fld Z h119 o120 "java/lang/AbstractStringBuilder" "value" "[B" .null := D_o120 (Or.inl (G.1 _ (List.mem_of_getElem? (i := 52) rfl))) (ty := (.array .byte)) (by decide)
  have F_coder_o120 : Fld Z h119 o120 "java/lang/AbstractStringBuilder" "coder" "B" (.int (0 : Int32)) := D_o120 (Or.inl (G.1 _ (List.mem_of_getElem? (i := 54) rfl))) (ty := .byte) (by decide)
  have F_count_o120 : Fld Z h119 o120 "java/lang/AbstractStringBuilder" "count" "I" (.int (0 : Int32)) := D_o120 (Or.inl (G.1 _ (List.mem_of_getElem? (i := 85) rfl))) (ty := .int) (by decide)
  have ge_o120 : n0 ≤ o120 := by rw [g_o120]; exact Old_le O
  have sz_o120 : h0.size ≤ o120 := Nat.le_of_eq g_o120.symm
  have K121 : Keep h0 h119 [] := Keep.of_ext Eh119
  have O122 := Old_k0 O K121
  refine s_dup (q := 4) C rfl d8_3 rfl ?_
  refine AtS.mark ?_
  refine s_callI1 (q := 7) (argsL := []) (S := [(.ref o120)]) (W := 1) (cells' := 2) (slots' := 20) (a := o120) C rfl (G.1 _ (List.mem_of_getElem? (i := 40) rfl)) (G.1 _ (List.mem_of_getElem? (i := 41) rfl)) (G.1 _ (List.mem_of_getElem? (i := 39) rfl)) (G.1 _ (List.mem_of_getElem? (i := 42) rfl)) (by decide) (rm_sbinit G O122 o120 A_o120 F_value_o120 F_coder_o120 F_count_o120 ge_o120) rfl (lenOf pd_3 rfl) rfl (by decide) (own_leb rfl) (by decide) rfl rfl (by decide) (by decide) (wl := [o120]) (fun _ _ q => q.1) (allS (SfOk.exa A_o120 (by decide)) (all0)) d8_4 rfl ?_
  rintro _ h125 ⟨Kh125, rfl, t123, hg_t123, B124⟩
  show AtS p l e _ s m _ below meth c Z _ _ n0 _ _ _ h125 2 20 (mkF m 7 #[.val (.ref a)] [(.ref o120)])
  have K126 : Keep h0 h125 [] := own_K1 K121 Kh125 sz_o120
  have O127 := Old_k0 O K126
  have sz_t123 : h0.size ≤ t123 := Nat.le_trans K121.1 hg_t123
  have ge_t123 : n0 ≤ t123 := Nat.le_trans (Old_le O) sz_t123
  refine AtS.add (x := t123) hg_t123 B124.tlt ?_
  show AtS p l e _ s m _ below meth c Z _ _ n0 _ _ _ h125 2 20 (mkF m 7 #[.val (.ref a)] [(.ref o120)])
  have hc128 : (16 : Nat) = own_cap ([] : List Int32).length := by decide
  refine s_ldc (q := 9) (n := 8) (cells' := 4) (slots' := 32) (vs := [(.int (36 : Int32)), (.int (40 : Int32))]) C G.el G.sa (G.1 _ (List.mem_of_getElem? (i := 60) rfl)) (by decide) (by decide +kernel) (by decide) (by decide +kernel) (by decide) rfl rfl (by decide) (by decide) d8_7 rfl ?_
  intro h129 s130 t131 Eh129 e1_s130 e2_s130 e3_s130 e4_s130 hne_s130
  have S_s130 : Str Z h129 s130 [(36 : Int32), (40 : Int32)] := ⟨e1_s130, (own_L1c (by decide) (own_L1c (by decide) (fun c hc => absurd hc List.not_mem_nil))), t131, e2_s130, e3_s130, e4_s130⟩
  have K132 : Keep h0 h129 [] := own_K0 K126 (Keep.of_ext Eh129)
  have O133 := Old_k0 O K132
  have B134 := Sb_k0 B124 (Keep.of_ext Eh129)
  have SX135 := S_s130
  refine AtS.mark ?_
  refine s_callV1 (q := 12) (argsL := [(.ref s130)]) (S := []) (W := 0) (cells' := 5) (slots' := 66) (a := o120) C B134.1 (G.1 _ (List.mem_of_getElem? (i := 61) rfl)) (G.1 _ (List.mem_of_getElem? (i := 62) rfl)) (s_nf (G.1 _ (List.mem_of_getElem? (i := 64) rfl))) (G.1 _ (List.mem_of_getElem? (i := 64) rfl)) (G.1 _ (List.mem_of_getElem? (i := 63) rfl)) (G.1 _ (List.mem_of_getElem? (i := 39) rfl)) (G.1 _ (List.mem_of_getElem? (i := 65) rfl)) (by decide) (rm_sbApp G O133 o120 t123 [] 16 s130 [(36 : Int32), (40 : Int32)] B134 SX135 (own_cap_fit hc128 (by first | omega | (simp only [List.length_append, List.length_cons, List.length_nil]; omega)) (by first | omega | (simp only [List.length_append, List.length_cons, List.length_nil]; omega))) ge_o120 ge_t123 (ne_exa SX135.1 B134.1 (by decide)) (own_hst SX135 B134.1 (G.1 _ (List.mem_of_getElem? (i := 38) rfl)))) rfl (lenOf pd_6 rfl) rfl (by decide) (own_leb rfl) (by decide) rfl rfl (by decide) (by decide) (wl := [o120, t123]) (fun _ _ q => q.1) (allS (SfOk.exa B134.1 (by decide)) (allS (SfOk.mem (by simp)) (all0))) d8_9 rfl ?_
  rintro _ h141 ⟨Kh141, rfl, u137, cap138, hu139, hcp140, B136⟩
  show AtS p l e _ s m _ below meth c Z _ _ n0 _ _ _ h141 5 66 (mkF m 12 #[.val (.ref a)] [(.ref o120)])
  have K142 : Keep h0 h141 [] := K132.trans Kh141 (allS (P := fun x => x ∈ [] ∨ h0.size ≤ x) (Or.inr sz_o120) (allS (Or.inr sz_t123) all0))
  have O143 := Old_k0 O K142
  replace B136 : Sb Z h141 o120 u137 [(36 : Int32), (40 : Int32)] cap138 := B136
  have sz_u137 : h0.size ≤ u137 := hu139.elim (fun q => by rw [q]; exact sz_t123) (fun q => Nat.le_trans K132.1 q)
  have ge_u137 : n0 ≤ u137 := Nat.le_trans (Old_le O) sz_u137
  have hc144 : cap138 = own_cap [(36 : Int32), (40 : Int32)].length := (own_cap_step hc128 (by first | omega | (simp only [List.length_append, List.length_cons, List.length_nil]; omega)) (by first | omega | (simp only [List.length_append, List.length_cons, List.length_nil]; omega)) hcp140).trans (by first | rfl | (simp only [List.length_append, own_istr_len]; done) | (congr 1; simp only [List.length_append, List.length_cons, List.length_nil]; omega))
  refine AtS.addOr (x := u137) (hu139.elim (fun q => Or.inl (by rw [q]; simp)) Or.inr) B136.tlt ?_
  show AtS p l e _ s m _ below meth c Z _ _ n0 _ _ _ h141 5 66 (mkF m 12 #[.val (.ref a)] [(.ref o120)])
  refine s_aloadN (q := 13) C rfl rfl d8_12 rfl ?_
  refine s_getF (q := 16) (host := "") C (Or.inl (G.1 _ (List.mem_of_getElem? (i := 26) rfl))) Via.refl (Fld_k0 F K142) d8_13 rfl ?_
  have SX145 := (Str_k0 S K142)
  refine AtS.mark ?_
  refine s_callV1 (q := 19) (argsL := [(.ref d)]) (S := []) (W := 0) (cells' := 6) (slots' := 100) (a := o120) C B136.1 (G.1 _ (List.mem_of_getElem? (i := 61) rfl)) (G.1 _ (List.mem_of_getElem? (i := 62) rfl)) (s_nf (G.1 _ (List.mem_of_getElem? (i := 64) rfl))) (G.1 _ (List.mem_of_getElem? (i := 64) rfl)) (G.1 _ (List.mem_of_getElem? (i := 63) rfl)) (G.1 _ (List.mem_of_getElem? (i := 39) rfl)) (G.1 _ (List.mem_of_getElem? (i := 65) rfl)) (by decide) (rm_sbApp G O143 o120 u137 [(36 : Int32), (40 : Int32)] cap138 d cs B136 SX145 (own_cap_fit hc144 (by first | omega | (simp only [List.length_append, List.length_cons, List.length_nil]; omega)) (by first | omega | (simp only [List.length_append, List.length_cons, List.length_nil]; omega))) ge_o120 ge_u137 (ne_exa SX145.1 B136.1 (by decide)) (own_hst SX145 B136.1 (G.1 _ (List.mem_of_getElem? (i := 38) rfl)))) rfl (lenOf pd_6 rfl) rfl (by decide) (own_leb rfl) (by decide) rfl rfl (by decide) (by decide) (wl := [o120, u137]) (fun _ _ q => q.1) (allS (SfOk.exa B136.1 (by decide)) (allS (SfOk.mem (by simp)) (all0))) d8_16 rfl ?_
  rintro _ h151 ⟨Kh151, rfl, u147, cap148, hu149, hcp150, B146⟩
  show AtS p l e _ s m _ below meth c Z _ _ n0 _ _ _ h151 6 100 (mkF m 19 #[.val (.ref a)] [(.ref o120)])
  have K152 : Keep h0 h151 [] := K142.trans Kh151 (allS (P := fun x => x ∈ [] ∨ h0.size ≤ x) (Or.inr sz_o120) (allS (Or.inr sz_u137) all0))
  have O153 := Old_k0 O K152
  replace B146 : Sb Z h151 o120 u147 ([(36 : Int32), (40 : Int32)] ++ cs) cap148 := B146
  have sz_u147 : h0.size ≤ u147 := hu149.elim (fun q => by rw [q]; exact sz_u137) (fun q => Nat.le_trans K142.1 q)
  have ge_u147 : n0 ≤ u147 := Nat.le_trans (Old_le O) sz_u147
  have hc154 : cap148 = own_cap ([(36 : Int32), (40 : Int32)] ++ cs).length := (own_cap_step hc144 (by first | omega | (simp only [List.length_append, List.length_cons, List.length_nil]; omega)) (by first | omega | (simp only [List.length_append, List.length_cons, List.length_nil]; omega)) hcp150).trans (by first | rfl | (simp only [List.length_append, own_istr_len]; done) | (congr 1; simp only [List.length_append, List.length_cons, List.length_nil]; omega))
  refine AtS.addOr (x := u147) (hu149.elim (fun q => Or.inl (by rw [q]; simp)) Or.inr) B146.tlt ?_
  show AtS p l e _ s m _ below meth c Z _ _ n0 _ _ _ h151 6 100 (mkF m 19 #[.val (.ref a)] [(.ref o120)])
  refine s_aloadN (q := 20) C rfl rfl d8_19 rfl ?_
  refine s_getF (q := 23) (host := "") C (Or.inl (G.1 _ (List.mem_of_getElem? (i := 28) rfl))) Via.refl (Fld_k0 FX K152) d8_20 rfl ?_
  refine AtS.mark ?_
  refine s_callV1 (q := 26) (argsL := [(.int x)]) (S := []) (W := 0) (cells' := 7) (slots' := 134) (a := o120) C B146.1 (G.1 _ (List.mem_of_getElem? (i := 111) rfl)) (G.1 _ (List.mem_of_getElem? (i := 112) rfl)) (s_nf (G.1 _ (List.mem_of_getElem? (i := 114) rfl))) (G.1 _ (List.mem_of_getElem? (i := 114) rfl)) (G.1 _ (List.mem_of_getElem? (i := 113) rfl)) (G.1 _ (List.mem_of_getElem? (i := 39) rfl)) (G.1 _ (List.mem_of_getElem? (i := 115) rfl)) (by decide) (rm_sbAppI G O153 o120 u147 ([(36 : Int32), (40 : Int32)] ++ cs) cap148 x B146 (own_cap_fit hc154 (by first | omega | (simp only [List.length_append, List.length_cons, List.length_nil]; omega)) (by first | omega | (simp only [List.length_append, List.length_cons, List.length_nil]; omega))) ge_o120 ge_u147) rfl (lenOf pd_14 rfl) rfl (by decide) (own_leb rfl) (by decide) rfl rfl (by decide) (by decide) (wl := [o120, u147]) (fun _ _ q => q.1) (allS (SfOk.exa B146.1 (by decide)) (allS (SfOk.mem (by simp)) (all0))) d8_23 rfl ?_
  rintro _ h160 ⟨Kh160, rfl, u156, cap157, hu158, hcp159, B155⟩
  show AtS p l e _ s m _ below meth c Z _ _ n0 _ _ _ h160 7 134 (mkF m 26 #[.val (.ref a)] [(.ref o120)])
  have K161 : Keep h0 h160 [] := K152.trans Kh160 (allS (P := fun x => x ∈ [] ∨ h0.size ≤ x) (Or.inr sz_o120) (allS (Or.inr sz_u147) all0))
  have O162 := Old_k0 O K161
  replace B155 : Sb Z h160 o120 u156 (([(36 : Int32), (40 : Int32)] ++ cs) ++ (own_istr x)) cap157 := B155
  have sz_u156 : h0.size ≤ u156 := hu158.elim (fun q => by rw [q]; exact sz_u147) (fun q => Nat.le_trans K152.1 q)
  have ge_u156 : n0 ≤ u156 := Nat.le_trans (Old_le O) sz_u156
  have hc163 : cap157 = own_cap (([(36 : Int32), (40 : Int32)] ++ cs) ++ (own_istr x)).length := (own_cap_step hc154 (by first | omega | (simp only [List.length_append, List.length_cons, List.length_nil]; omega)) (by first | omega | (simp only [List.length_append, List.length_cons, List.length_nil]; omega)) hcp159).trans (by first | rfl | (simp only [List.length_append, own_istr_len]; done) | (congr 1; simp only [List.length_append, List.length_cons, List.length_nil]; omega))
  refine AtS.addOr (x := u156) (hu158.elim (fun q => Or.inl (by rw [q]; simp)) Or.inr) B155.tlt ?_
  show AtS p l e _ s m _ below meth c Z _ _ n0 _ _ _ h160 7 134 (mkF m 26 #[.val (.ref a)] [(.ref o120)])
  refine s_ldc (q := 28) (n := 4) (cells' := 9) (slots' := 142) (vs := [(.int (41 : Int32))]) C G.el G.sa (G.1 _ (List.mem_of_getElem? (i := 133) rfl)) (by decide) (by decide +kernel) (by decide) (by decide +kernel) (by decide) rfl rfl (by decide) (by decide) d8_26 rfl ?_
  intro h164 s165 t166 Eh164 e1_s165 e2_s165 e3_s165 e4_s165 hne_s165
  have S_s165 : Str Z h164 s165 [(41 : Int32)] := ⟨e1_s165, (own_L1c (by decide) (fun c hc => absurd hc List.not_mem_nil)), t166, e2_s165, e3_s165, e4_s165⟩
  have K167 : Keep h0 h164 [] := own_K0 K161 (Keep.of_ext Eh164)
  have O168 := Old_k0 O K167
  have B169 := Sb_k0 B155 (Keep.of_ext Eh164)
  have SX170 := S_s165
  refine AtS.mark ?_
  refine s_callV1 (q := 31) (argsL := [(.ref s165)]) (S := []) (W := 0) (cells' := 10) (slots' := 176) (a := o120) C B169.1 (G.1 _ (List.mem_of_getElem? (i := 61) rfl)) (G.1 _ (List.mem_of_getElem? (i := 62) rfl)) (s_nf (G.1 _ (List.mem_of_getElem? (i := 64) rfl))) (G.1 _ (List.mem_of_getElem? (i := 64) rfl)) (G.1 _ (List.mem_of_getElem? (i := 63) rfl)) (G.1 _ (List.mem_of_getElem? (i := 39) rfl)) (G.1 _ (List.mem_of_getElem? (i := 65) rfl)) (by decide) (rm_sbApp G O168 o120 u156 (([(36 : Int32), (40 : Int32)] ++ cs) ++ (own_istr x)) cap157 s165 [(41 : Int32)] B169 SX170 (own_cap_fit hc163 (by first | omega | (simp only [List.length_append, List.length_cons, List.length_nil]; omega)) (by first | omega | (simp only [List.length_append, List.length_cons, List.length_nil]; omega))) ge_o120 ge_u156 (ne_exa SX170.1 B169.1 (by decide)) (own_hst SX170 B169.1 (G.1 _ (List.mem_of_getElem? (i := 38) rfl)))) rfl (lenOf pd_6 rfl) rfl (by decide) (own_leb rfl) (by decide) rfl rfl (by decide) (by decide) (wl := [o120, u156]) (fun _ _ q => q.1) (allS (SfOk.exa B169.1 (by decide)) (allS (SfOk.mem (by simp)) (all0))) d8_28 rfl ?_
  rintro _ h176 ⟨Kh176, rfl, u172, cap173, hu174, hcp175, B171⟩
  show AtS p l e _ s m _ below meth c Z _ _ n0 _ _ _ h176 10 176 (mkF m 31 #[.val (.ref a)] [(.ref o120)])
  have K177 : Keep h0 h176 [] := K167.trans Kh176 (allS (P := fun x => x ∈ [] ∨ h0.size ≤ x) (Or.inr sz_o120) (allS (Or.inr sz_u156) all0))
  have O178 := Old_k0 O K177
  replace B171 : Sb Z h176 o120 u172 ((([(36 : Int32), (40 : Int32)] ++ cs) ++ (own_istr x)) ++ [(41 : Int32)]) cap173 := B171
  have sz_u172 : h0.size ≤ u172 := hu174.elim (fun q => by rw [q]; exact sz_u156) (fun q => Nat.le_trans K167.1 q)
  have ge_u172 : n0 ≤ u172 := Nat.le_trans (Old_le O) sz_u172
  have hc179 : cap173 = own_cap ((([(36 : Int32), (40 : Int32)] ++ cs) ++ (own_istr x)) ++ [(41 : Int32)]).length := (own_cap_step hc163 (by first | omega | (simp only [List.length_append, List.length_cons, List.length_nil]; omega)) (by first | omega | (simp only [List.length_append, List.length_cons, List.length_nil]; omega)) hcp175).trans (by first | rfl | (simp only [List.length_append, own_istr_len]; done) | (congr 1; simp only [List.length_append, List.length_cons, List.length_nil]; omega))
  refine AtS.addOr (x := u172) (hu174.elim (fun q => Or.inl (by rw [q]; simp)) Or.inr) B171.tlt ?_
  show AtS p l e _ s m _ below meth c Z _ _ n0 _ _ _ h176 10 176 (mkF m 31 #[.val (.ref a)] [(.ref o120)])
  refine s_callV1 (q := 34) (argsL := []) (S := []) (W := 0) (cells' := 12) (slots' := 200) (a := o120) C B171.1 (G.1 _ (List.mem_of_getElem? (i := 134) rfl)) (G.1 _ (List.mem_of_getElem? (i := 135) rfl)) (s_nf (G.1 _ (List.mem_of_getElem? (i := 137) rfl))) (G.1 _ (List.mem_of_getElem? (i := 137) rfl)) (G.1 _ (List.mem_of_getElem? (i := 136) rfl)) (G.1 _ (List.mem_of_getElem? (i := 39) rfl)) (G.1 _ (List.mem_of_getElem? (i := 138) rfl)) (by decide) (rm_sbStr G O178 o120 u172 ((([(36 : Int32), (40 : Int32)] ++ cs) ++ (own_istr x)) ++ [(41 : Int32)]) cap173 B171 (by first | omega | (simp only [List.length_append, List.length_cons, List.length_nil]; omega))) rfl (lenOf pd_4 rfl) rfl (by decide) (own_leb rfl) (by decide) rfl rfl (by decide) (by decide) (wl := []) (fun _ _ q => q.1) all0 d8_31 rfl ?_
  rintro _ h181 ⟨Kh181, r180, rfl, hg_r180, S1⟩
  show AtS p l e _ s m _ below meth c Z _ _ n0 _ _ _ h181 12 200 (mkF m 34 #[.val (.ref a)] [(.ref r180)])
  have K182 : Keep h0 h181 [] := own_K0 K177 Kh181
  have sz_r180 : h0.size ≤ r180 := Nat.le_trans K177.1 hg_r180
  replace O := Old_k0 O K182
  exact s_retA C G.el rfl rfl rfl d8_34 (by decide) (by decide) ⟨K182, r180, rfl, S1⟩
theorem d5_0 : decode prog_1_method_3_code 0 = .ok (.new 20, 3) := by decide +kernel
theorem d5_3 : decode prog_1_method_3_code 3 = .ok (.dup, 1) := by decide +kernel
theorem d5_4 : decode prog_1_method_3_code 4 = .ok (.invokespecial 22, 3) := by decide +kernel
theorem d5_7 : decode prog_1_method_3_code 7 = .ok (.aload_n 0, 1) := by decide +kernel
theorem d5_8 : decode prog_1_method_3_code 8 = .ok (.invokevirtual 38, 3) := by decide +kernel
theorem d5_11 : decode prog_1_method_3_code 11 = .ok (.invokevirtual 25, 3) := by decide +kernel
theorem d5_14 : decode prog_1_method_3_code 14 = .ok (.ldc 41, 2) := by decide +kernel
theorem d5_16 : decode prog_1_method_3_code 16 = .ok (.invokevirtual 25, 3) := by decide +kernel
theorem d5_19 : decode prog_1_method_3_code 19 = .ok (.aload_n 0, 1) := by decide +kernel
theorem d5_20 : decode prog_1_method_3_code 20 = .ok (.getfield 17, 3) := by decide +kernel
theorem d5_23 : decode prog_1_method_3_code 23 = .ok (.invokevirtual 25, 3) := by decide +kernel
theorem d5_26 : decode prog_1_method_3_code 26 = .ok (.invokevirtual 34, 3) := by decide +kernel
theorem d5_29 : decode prog_1_method_3_code 29 = .ok (.areturn, 1) := by decide +kernel
theorem pf5 : plainFor (⟨"org/dalvista/Label", "line", "()Ljava/lang/String;"⟩ : MethodName) = true := by first | exact plainFor_of_name (by first | (simp [plainName, overriddenIn]; done) | decide +kernel) | decide +kernel
theorem ef_linef (m : MethodId) (z0 : Addr) : entryFrame m #[(.ref z0)] 1 = mkF m 0 #[.val (.ref z0)] [] := by first | rfl | (simp [entryFrame, mkF, argsToLocals, Value.category, *]; done) | rfl
set_option maxRecDepth 65536 in
set_option maxHeartbeats 40000000 in
theorem rm_linef {l : Launch} {Z : State} {a0 : Array Value} {n0 : Nat} (G : Gl Z a0 n0) {h0 : Heap} (O : Old Z n0 h0) (a : Addr) (d : Addr) (cs : List Int32) (x : Int32) (d2 : Addr) (ds : List Int32) (F : Fld Z h0 a "org/dalvista/Label" "kind" "Ljava/lang/String;" (.ref d)) (FX : Fld Z h0 a "org/dalvista/Label" "number" "I" (.int x)) (S : Str Z h0 d cs) (hlen : cs.length ≤ 2) (F2 : Fld Z h0 a "org/dalvista/Label" "definition" "Ljava/lang/String;" (.ref d2)) (S2 : Str Z h0 d2 ds) (hlen2 : ds.length ≤ 2) (E : Exa Z h0 a "org/dalvista/Label") :
    Cs [] l Z consts_1 n0 (⟨"org/dalvista/Label", "line", "()Ljava/lang/String;"⟩ : MethodName) prog_1_method_3_code 1 (some (.object "java/lang/String")) ({ frames := 7, cells := 21, slots := 358, locals := 104 } : Room) #[(.ref a)] h0 (fun v h => Keep h0 h [] ∧ ∃ r, v = some (.ref r) ∧ Str Z h r ((((([(36 : Int32), (40 : Int32)] ++ cs) ++ own_istr x) ++ [(41 : Int32)]) ++ [(58 : Int32), (32 : Int32)]) ++ ds)) := by
  refine Cs.intro pf5 ?_
  intro p e s m below meth c C
  refine AtS.cast ?_ (ef_linef m a)
  have hiz := own_isz_le x
  have hil := own_istr_len x
  have hnl : ((([(36 : Int32), (40 : Int32)] ++ cs) ++ own_istr x) ++ [(41 : Int32)]).length = cs.length + own_isz x + 3 := by simp only [List.length_append, own_istr_len, List.length_cons, List.length_nil]; omega
  refine s_new (q := 3) (cells' := 1) (slots' := 4) C (G.1 _ (List.mem_of_getElem? (i := 37) rfl)) (G.1 _ (List.mem_of_getElem? (i := 38) rfl)) (G.1 _ (List.mem_of_getElem? (i := 39) rfl)) rfl rfl (by decide) (by decide) d5_0 rfl ?_
  intro h183 o184 g_o184 Eh183 A_o184 D_o184
  have F_value_o184 : Fld Z h183 o184 "java/lang/AbstractStringBuilder" "value" "[B" .null := D_o184 (Or.inl (G.1 _ (List.mem_of_getElem? (i := 52) rfl))) (ty := (.array .byte)) (by decide)
  have F_coder_o184 : Fld Z h183 o184 "java/lang/AbstractStringBuilder" "coder" "B" (.int (0 : Int32)) := D_o184 (Or.inl (G.1 _ (List.mem_of_getElem? (i := 54) rfl))) (ty := .byte) (by decide)
  have F_count_o184 : Fld Z h183 o184 "java/lang/AbstractStringBuilder" "count" "I" (.int (0 : Int32)) := D_o184 (Or.inl (G.1 _ (List.mem_of_getElem? (i := 85) rfl))) (ty := .int) (by decide)
  have ge_o184 : n0 ≤ o184 := by rw [g_o184]; exact Old_le O
  have sz_o184 : h0.size ≤ o184 := Nat.le_of_eq g_o184.symm
  have K185 : Keep h0 h183 [] := Keep.of_ext Eh183
  have O186 := Old_k0 O K185
  refine s_dup (q := 4) C rfl d5_3 rfl ?_
  refine AtS.mark ?_
  refine s_callI1 (q := 7) (argsL := []) (S := [(.ref o184)]) (W := 1) (cells' := 2) (slots' := 20) (a := o184) C rfl (G.1 _ (List.mem_of_getElem? (i := 40) rfl)) (G.1 _ (List.mem_of_getElem? (i := 41) rfl)) (G.1 _ (List.mem_of_getElem? (i := 39) rfl)) (G.1 _ (List.mem_of_getElem? (i := 42) rfl)) (by decide) (rm_sbinit G O186 o184 A_o184 F_value_o184 F_coder_o184 F_count_o184 ge_o184) rfl (lenOf pd_3 rfl) rfl (by decide) (own_leb rfl) (by decide) rfl rfl (by decide) (by decide) (wl := [o184]) (fun _ _ q => q.1) (allS (SfOk.exa A_o184 (by decide)) (all0)) d5_4 rfl ?_
  rintro _ h189 ⟨Kh189, rfl, t187, hg_t187, B188⟩
  show AtS p l e _ s m _ below meth c Z _ _ n0 _ _ _ h189 2 20 (mkF m 7 #[.val (.ref a)] [(.ref o184)])
  have K190 : Keep h0 h189 [] := own_K1 K185 Kh189 sz_o184
  have O191 := Old_k0 O K190
  have sz_t187 : h0.size ≤ t187 := Nat.le_trans K185.1 hg_t187
  have ge_t187 : n0 ≤ t187 := Nat.le_trans (Old_le O) sz_t187
  refine AtS.add (x := t187) hg_t187 B188.tlt ?_
  show AtS p l e _ s m _ below meth c Z _ _ n0 _ _ _ h189 2 20 (mkF m 7 #[.val (.ref a)] [(.ref o184)])
  have hc192 : (16 : Nat) = own_cap ([] : List Int32).length := by decide
  refine s_aloadN (q := 8) C rfl rfl d5_7 rfl ?_
  refine s_callV2 (q := 11) (argsL := []) (S := [(.ref o184)]) (W := 1) (cells' := 14) (slots' := 220) (a := a) C G.el (Exa_k0 E K190) (G.1 _ (List.mem_of_getElem? (i := 55) rfl)) (G.1 _ (List.mem_of_getElem? (i := 56) rfl)) (s_nf (G.1 _ (List.mem_of_getElem? (i := 58) rfl))) (G.1 _ (List.mem_of_getElem? (i := 58) rfl)) (G.1 _ (List.mem_of_getElem? (i := 57) rfl)) (G.1 _ (List.mem_of_getElem? (i := 14) rfl)) (G.1 _ (List.mem_of_getElem? (i := 59) rfl)) (by decide) (rm_namef G O191 a d cs x (Fld_k0 F K190) (Fld_k0 FX K190) (Str_k0 S K190) hlen) rfl (lenOf pd_4 rfl) rfl (by decide) (own_leb rfl) (by decide) rfl rfl (by decide) (by decide) d5_8 rfl ?_
  rintro _ h193 ⟨Kh193, r9, rfl, S9⟩
  show AtS p l e _ s m _ below meth c Z _ _ n0 _ _ _ h193 14 220 (mkF m 11 #[.val (.ref a)] [(.ref r9), (.ref o184)])
  have K194 : Keep h0 h193 [] := own_K0 K190 Kh193
  have O195 := Old_k0 O K194
  have B196 := Sb_k0 B188 Kh193
  have SX197 := S9
  refine AtS.mark ?_
  refine s_callV1 (q := 14) (argsL := [(.ref r9)]) (S := []) (W := 0) (cells' := 15) (slots' := 254) (a := o184) C B196.1 (G.1 _ (List.mem_of_getElem? (i := 61) rfl)) (G.1 _ (List.mem_of_getElem? (i := 62) rfl)) (s_nf (G.1 _ (List.mem_of_getElem? (i := 64) rfl))) (G.1 _ (List.mem_of_getElem? (i := 64) rfl)) (G.1 _ (List.mem_of_getElem? (i := 63) rfl)) (G.1 _ (List.mem_of_getElem? (i := 39) rfl)) (G.1 _ (List.mem_of_getElem? (i := 65) rfl)) (by decide) (rm_sbApp G O195 o184 t187 [] 16 r9 ((([(36 : Int32), (40 : Int32)] ++ cs) ++ own_istr x) ++ [(41 : Int32)]) B196 SX197 (own_cap_fit hc192 (by first | omega | (simp only [List.length_append, List.length_cons, List.length_nil] at *; omega)) (by first | omega | (simp only [List.length_append, List.length_cons, List.length_nil] at *; omega))) ge_o184 ge_t187 (ne_exa SX197.1 B196.1 (by decide)) (own_hst SX197 B196.1 (G.1 _ (List.mem_of_getElem? (i := 38) rfl)))) rfl (lenOf pd_6 rfl) rfl (by decide) (own_leb rfl) (by decide) rfl rfl (by decide) (by decide) (wl := [o184, t187]) (fun _ _ q => q.1) (allS (SfOk.exa B196.1 (by decide)) (allS (SfOk.mem (by simp)) (all0))) d5_11 rfl ?_
  rintro _ h203 ⟨Kh203, rfl, u199, cap200, hu201, hcp202, B198⟩
  show AtS p l e _ s m _ below meth c Z _ _ n0 _ _ _ h203 15 254 (mkF m 14 #[.val (.ref a)] [(.ref o184)])
  have K204 : Keep h0 h203 [] := K194.trans Kh203 (allS (P := fun x => x ∈ [] ∨ h0.size ≤ x) (Or.inr sz_o184) (allS (Or.inr sz_t187) all0))
  have O205 := Old_k0 O K204
  replace B198 : Sb Z h203 o184 u199 ((([(36 : Int32), (40 : Int32)] ++ cs) ++ own_istr x) ++ [(41 : Int32)]) cap200 := B198
  have sz_u199 : h0.size ≤ u199 := hu201.elim (fun q => by rw [q]; exact sz_t187) (fun q => Nat.le_trans K194.1 q)
  have ge_u199 : n0 ≤ u199 := Nat.le_trans (Old_le O) sz_u199
  have hc206 : cap200 = own_cap ((([(36 : Int32), (40 : Int32)] ++ cs) ++ own_istr x) ++ [(41 : Int32)]).length := (own_cap_step hc192 (by first | omega | (simp only [List.length_append, List.length_cons, List.length_nil] at *; omega)) (by first | omega | (simp only [List.length_append, List.length_cons, List.length_nil] at *; omega)) hcp202).trans (by first | rfl | (simp only [List.length_append, own_istr_len]; done) | (congr 1; simp only [List.length_append, List.length_cons, List.length_nil]; omega))
  refine AtS.addOr (x := u199) (hu201.elim (fun q => Or.inl (by rw [q]; simp)) Or.inr) B198.tlt ?_
  show AtS p l e _ s m _ below meth c Z _ _ n0 _ _ _ h203 15 254 (mkF m 14 #[.val (.ref a)] [(.ref o184)])
  refine s_ldc (q := 16) (n := 8) (cells' := 17) (slots' := 266) (vs := [(.int (58 : Int32)), (.int (32 : Int32))]) C G.el G.sa (G.1 _ (List.mem_of_getElem? (i := 177) rfl)) (by decide) (by decide +kernel) (by decide) (by decide +kernel) (by decide) rfl rfl (by decide) (by decide) d5_14 rfl ?_
  intro h207 s208 t209 Eh207 e1_s208 e2_s208 e3_s208 e4_s208 hne_s208
  have S_s208 : Str Z h207 s208 [(58 : Int32), (32 : Int32)] := ⟨e1_s208, (own_L1c (by decide) (own_L1c (by decide) (fun c hc => absurd hc List.not_mem_nil))), t209, e2_s208, e3_s208, e4_s208⟩
  have K210 : Keep h0 h207 [] := own_K0 K204 (Keep.of_ext Eh207)
  have O211 := Old_k0 O K210
  have B212 := Sb_k0 B198 (Keep.of_ext Eh207)
  have SX213 := S_s208
  refine AtS.mark ?_
  refine s_callV1 (q := 19) (argsL := [(.ref s208)]) (S := []) (W := 0) (cells' := 18) (slots' := 300) (a := o184) C B212.1 (G.1 _ (List.mem_of_getElem? (i := 61) rfl)) (G.1 _ (List.mem_of_getElem? (i := 62) rfl)) (s_nf (G.1 _ (List.mem_of_getElem? (i := 64) rfl))) (G.1 _ (List.mem_of_getElem? (i := 64) rfl)) (G.1 _ (List.mem_of_getElem? (i := 63) rfl)) (G.1 _ (List.mem_of_getElem? (i := 39) rfl)) (G.1 _ (List.mem_of_getElem? (i := 65) rfl)) (by decide) (rm_sbApp G O211 o184 u199 ((([(36 : Int32), (40 : Int32)] ++ cs) ++ own_istr x) ++ [(41 : Int32)]) cap200 s208 [(58 : Int32), (32 : Int32)] B212 SX213 (own_cap_fit hc206 (by first | omega | (simp only [List.length_append, List.length_cons, List.length_nil] at *; omega)) (by first | omega | (simp only [List.length_append, List.length_cons, List.length_nil] at *; omega))) ge_o184 ge_u199 (ne_exa SX213.1 B212.1 (by decide)) (own_hst SX213 B212.1 (G.1 _ (List.mem_of_getElem? (i := 38) rfl)))) rfl (lenOf pd_6 rfl) rfl (by decide) (own_leb rfl) (by decide) rfl rfl (by decide) (by decide) (wl := [o184, u199]) (fun _ _ q => q.1) (allS (SfOk.exa B212.1 (by decide)) (allS (SfOk.mem (by simp)) (all0))) d5_16 rfl ?_
  rintro _ h219 ⟨Kh219, rfl, u215, cap216, hu217, hcp218, B214⟩
  show AtS p l e _ s m _ below meth c Z _ _ n0 _ _ _ h219 18 300 (mkF m 19 #[.val (.ref a)] [(.ref o184)])
  have K220 : Keep h0 h219 [] := K210.trans Kh219 (allS (P := fun x => x ∈ [] ∨ h0.size ≤ x) (Or.inr sz_o184) (allS (Or.inr sz_u199) all0))
  have O221 := Old_k0 O K220
  replace B214 : Sb Z h219 o184 u215 (((([(36 : Int32), (40 : Int32)] ++ cs) ++ own_istr x) ++ [(41 : Int32)]) ++ [(58 : Int32), (32 : Int32)]) cap216 := B214
  have sz_u215 : h0.size ≤ u215 := hu217.elim (fun q => by rw [q]; exact sz_u199) (fun q => Nat.le_trans K210.1 q)
  have ge_u215 : n0 ≤ u215 := Nat.le_trans (Old_le O) sz_u215
  have hc222 : cap216 = own_cap (((([(36 : Int32), (40 : Int32)] ++ cs) ++ own_istr x) ++ [(41 : Int32)]) ++ [(58 : Int32), (32 : Int32)]).length := (own_cap_step hc206 (by first | omega | (simp only [List.length_append, List.length_cons, List.length_nil] at *; omega)) (by first | omega | (simp only [List.length_append, List.length_cons, List.length_nil] at *; omega)) hcp218).trans (by first | rfl | (simp only [List.length_append, own_istr_len]; done) | (congr 1; simp only [List.length_append, List.length_cons, List.length_nil]; omega))
  refine AtS.addOr (x := u215) (hu217.elim (fun q => Or.inl (by rw [q]; simp)) Or.inr) B214.tlt ?_
  show AtS p l e _ s m _ below meth c Z _ _ n0 _ _ _ h219 18 300 (mkF m 19 #[.val (.ref a)] [(.ref o184)])
  refine s_aloadN (q := 20) C rfl rfl d5_19 rfl ?_
  refine s_getF (q := 23) (host := "") C (Or.inl (G.1 _ (List.mem_of_getElem? (i := 30) rfl))) Via.refl (Fld_k0 F2 K220) d5_20 rfl ?_
  have SX223 := (Str_k0 S2 K220)
  refine AtS.mark ?_
  refine s_callV1 (q := 26) (argsL := [(.ref d2)]) (S := []) (W := 0) (cells' := 19) (slots' := 334) (a := o184) C B214.1 (G.1 _ (List.mem_of_getElem? (i := 61) rfl)) (G.1 _ (List.mem_of_getElem? (i := 62) rfl)) (s_nf (G.1 _ (List.mem_of_getElem? (i := 64) rfl))) (G.1 _ (List.mem_of_getElem? (i := 64) rfl)) (G.1 _ (List.mem_of_getElem? (i := 63) rfl)) (G.1 _ (List.mem_of_getElem? (i := 39) rfl)) (G.1 _ (List.mem_of_getElem? (i := 65) rfl)) (by decide) (rm_sbApp G O221 o184 u215 (((([(36 : Int32), (40 : Int32)] ++ cs) ++ own_istr x) ++ [(41 : Int32)]) ++ [(58 : Int32), (32 : Int32)]) cap216 d2 ds B214 SX223 (own_cap_fit hc222 (by first | omega | (simp only [List.length_append, List.length_cons, List.length_nil] at *; omega)) (by first | omega | (simp only [List.length_append, List.length_cons, List.length_nil] at *; omega))) ge_o184 ge_u215 (ne_exa SX223.1 B214.1 (by decide)) (own_hst SX223 B214.1 (G.1 _ (List.mem_of_getElem? (i := 38) rfl)))) rfl (lenOf pd_6 rfl) rfl (by decide) (own_leb rfl) (by decide) rfl rfl (by decide) (by decide) (wl := [o184, u215]) (fun _ _ q => q.1) (allS (SfOk.exa B214.1 (by decide)) (allS (SfOk.mem (by simp)) (all0))) d5_23 rfl ?_
  rintro _ h229 ⟨Kh229, rfl, u225, cap226, hu227, hcp228, B224⟩
  show AtS p l e _ s m _ below meth c Z _ _ n0 _ _ _ h229 19 334 (mkF m 26 #[.val (.ref a)] [(.ref o184)])
  have K230 : Keep h0 h229 [] := K220.trans Kh229 (allS (P := fun x => x ∈ [] ∨ h0.size ≤ x) (Or.inr sz_o184) (allS (Or.inr sz_u215) all0))
  have O231 := Old_k0 O K230
  replace B224 : Sb Z h229 o184 u225 ((((([(36 : Int32), (40 : Int32)] ++ cs) ++ own_istr x) ++ [(41 : Int32)]) ++ [(58 : Int32), (32 : Int32)]) ++ ds) cap226 := B224
  have sz_u225 : h0.size ≤ u225 := hu227.elim (fun q => by rw [q]; exact sz_u215) (fun q => Nat.le_trans K220.1 q)
  have ge_u225 : n0 ≤ u225 := Nat.le_trans (Old_le O) sz_u225
  have hc232 : cap226 = own_cap ((((([(36 : Int32), (40 : Int32)] ++ cs) ++ own_istr x) ++ [(41 : Int32)]) ++ [(58 : Int32), (32 : Int32)]) ++ ds).length := (own_cap_step hc222 (by first | omega | (simp only [List.length_append, List.length_cons, List.length_nil] at *; omega)) (by first | omega | (simp only [List.length_append, List.length_cons, List.length_nil] at *; omega)) hcp228).trans (by first | rfl | (simp only [List.length_append, own_istr_len]; done) | (congr 1; simp only [List.length_append, List.length_cons, List.length_nil]; omega))
  refine AtS.addOr (x := u225) (hu227.elim (fun q => Or.inl (by rw [q]; simp)) Or.inr) B224.tlt ?_
  show AtS p l e _ s m _ below meth c Z _ _ n0 _ _ _ h229 19 334 (mkF m 26 #[.val (.ref a)] [(.ref o184)])
  refine s_callV1 (q := 29) (argsL := []) (S := []) (W := 0) (cells' := 21) (slots' := 358) (a := o184) C B224.1 (G.1 _ (List.mem_of_getElem? (i := 134) rfl)) (G.1 _ (List.mem_of_getElem? (i := 135) rfl)) (s_nf (G.1 _ (List.mem_of_getElem? (i := 137) rfl))) (G.1 _ (List.mem_of_getElem? (i := 137) rfl)) (G.1 _ (List.mem_of_getElem? (i := 136) rfl)) (G.1 _ (List.mem_of_getElem? (i := 39) rfl)) (G.1 _ (List.mem_of_getElem? (i := 138) rfl)) (by decide) (rm_sbStr G O231 o184 u225 ((((([(36 : Int32), (40 : Int32)] ++ cs) ++ own_istr x) ++ [(41 : Int32)]) ++ [(58 : Int32), (32 : Int32)]) ++ ds) cap226 B224 (by first | omega | (simp only [List.length_append, List.length_cons, List.length_nil] at *; omega))) rfl (lenOf pd_4 rfl) rfl (by decide) (own_leb rfl) (by decide) rfl rfl (by decide) (by decide) (wl := []) (fun _ _ q => q.1) all0 d5_26 rfl ?_
  rintro _ h234 ⟨Kh234, r233, rfl, hg_r233, S1⟩
  show AtS p l e _ s m _ below meth c Z _ _ n0 _ _ _ h234 21 358 (mkF m 29 #[.val (.ref a)] [(.ref r233)])
  have K235 : Keep h0 h234 [] := own_K0 K230 Kh234
  have sz_r233 : h0.size ≤ r233 := Nat.le_trans K230.1 hg_r233
  replace O := Old_k0 O K235
  exact s_retA C G.el rfl rfl rfl d5_29 (by decide) (by decide) ⟨K235, r233, rfl, S1⟩
theorem own_i64 {x y : Int64} : x < y ↔ x.toInt < y.toInt := Int64.lt_iff_toInt_lt
theorem own_absm (x : Int32) : (x < 0 → (-x.toInt64).toInt = (own_mag x : Int)) ∧ (¬ x < 0 → x.toInt64.toInt = (own_mag x : Int)) := by
  have r := rng32 x
  have c1 := c_i2l x
  have c2 := c_lneg x.toInt64
  have e0 : (0 : Int32).toInt = 0 := rfl
  have r2 := Int64.le_toInt (-x.toInt64)
  have r3 := Int64.toInt_lt (-x.toInt64)
  rw [own_lt, e0, c1] at *
  unfold own_mag
  constructor <;> intro h <;> omega
theorem own_dig64 {m p : Int64} {N P : Nat} (hm : m.toInt = N) (hp : p.toInt = P) (hP : 0 < P) (hN : N ≤ 2 ^ 31) : ((m / p) % 10).toInt32 = Int32.ofNat (N / P % 10) := by
  have hp1 : p ≠ -1 := fun q => by rw [q] at hp; have e : (-1 : Int64).toInt = -1 := rfl; omega
  have d := (c_ldiv m p P hp hp1).1 (by omega)
  have hd : (m / p).toInt = ((N / P : Nat) : Int) := by rw [d, hm]; rfl
  have r : ((m / p) % 10).toInt = ((N / P % 10 : Nat) : Int) := by
    rw [Int64.toInt_mod, hd, show (10 : Int64).toInt = 10 from rfl, Int.tmod_eq_emod_of_nonneg (Int.natCast_nonneg _)]; rfl
  rw [own_eq, own_nat (by omega), Int64.toInt_toInt32, r]
  exact Int.bmod_eq_of_le (by omega) (by omega)

theorem d33_0 : decode method_5_code 0 = .ok (.iconst 1, 1) := by decide +kernel
theorem d33_1 : decode method_5_code 1 = .ok (.istore_n 2, 1) := by decide +kernel
theorem d33_2 : decode method_5_code 2 = .ok (.lload_n 0, 1) := by decide +kernel
theorem d33_3 : decode method_5_code 3 = .ok (.ldc2_w 59, 3) := by decide +kernel
theorem d33_6 : decode method_5_code 6 = .ok (.lcmp, 1) := by decide +kernel
theorem d33_7 : decode method_5_code 7 = .ok (.ifCond .lt 5, 3) := by decide +kernel
theorem d33_10 : decode method_5_code 10 = .ok (.iconst 2, 1) := by decide +kernel
theorem d33_11 : decode method_5_code 11 = .ok (.istore_n 2, 1) := by decide +kernel
theorem d33_12 : decode method_5_code 12 = .ok (.lload_n 0, 1) := by decide +kernel
theorem d33_13 : decode method_5_code 13 = .ok (.ldc2_w 61, 3) := by decide +kernel
theorem d33_16 : decode method_5_code 16 = .ok (.lcmp, 1) := by decide +kernel
theorem d33_17 : decode method_5_code 17 = .ok (.ifCond .lt 5, 3) := by decide +kernel
theorem d33_20 : decode method_5_code 20 = .ok (.iconst 3, 1) := by decide +kernel
theorem d33_21 : decode method_5_code 21 = .ok (.istore_n 2, 1) := by decide +kernel
theorem d33_22 : decode method_5_code 22 = .ok (.lload_n 0, 1) := by decide +kernel
theorem d33_23 : decode method_5_code 23 = .ok (.ldc2_w 63, 3) := by decide +kernel
theorem d33_26 : decode method_5_code 26 = .ok (.lcmp, 1) := by decide +kernel
theorem d33_27 : decode method_5_code 27 = .ok (.ifCond .lt 5, 3) := by decide +kernel
theorem d33_30 : decode method_5_code 30 = .ok (.iconst 4, 1) := by decide +kernel
theorem d33_31 : decode method_5_code 31 = .ok (.istore_n 2, 1) := by decide +kernel
theorem d33_32 : decode method_5_code 32 = .ok (.lload_n 0, 1) := by decide +kernel
theorem d33_33 : decode method_5_code 33 = .ok (.ldc2_w 65, 3) := by decide +kernel
theorem d33_36 : decode method_5_code 36 = .ok (.lcmp, 1) := by decide +kernel
theorem d33_37 : decode method_5_code 37 = .ok (.ifCond .lt 5, 3) := by decide +kernel
theorem d33_40 : decode method_5_code 40 = .ok (.iconst 5, 1) := by decide +kernel
theorem d33_41 : decode method_5_code 41 = .ok (.istore_n 2, 1) := by decide +kernel
theorem d33_42 : decode method_5_code 42 = .ok (.lload_n 0, 1) := by decide +kernel
theorem d33_43 : decode method_5_code 43 = .ok (.ldc2_w 67, 3) := by decide +kernel
theorem d33_46 : decode method_5_code 46 = .ok (.lcmp, 1) := by decide +kernel
theorem d33_47 : decode method_5_code 47 = .ok (.ifCond .lt 6, 3) := by decide +kernel
theorem d33_50 : decode method_5_code 50 = .ok (.bipush 6, 2) := by decide +kernel
theorem d33_52 : decode method_5_code 52 = .ok (.istore_n 2, 1) := by decide +kernel
theorem d33_53 : decode method_5_code 53 = .ok (.lload_n 0, 1) := by decide +kernel
theorem d33_54 : decode method_5_code 54 = .ok (.ldc2_w 69, 3) := by decide +kernel
theorem d33_57 : decode method_5_code 57 = .ok (.lcmp, 1) := by decide +kernel
theorem d33_58 : decode method_5_code 58 = .ok (.ifCond .lt 6, 3) := by decide +kernel
theorem d33_61 : decode method_5_code 61 = .ok (.bipush 7, 2) := by decide +kernel
theorem d33_63 : decode method_5_code 63 = .ok (.istore_n 2, 1) := by decide +kernel
theorem d33_64 : decode method_5_code 64 = .ok (.lload_n 0, 1) := by decide +kernel
theorem d33_65 : decode method_5_code 65 = .ok (.ldc2_w 71, 3) := by decide +kernel
theorem d33_68 : decode method_5_code 68 = .ok (.lcmp, 1) := by decide +kernel
theorem d33_69 : decode method_5_code 69 = .ok (.ifCond .lt 6, 3) := by decide +kernel
theorem d33_72 : decode method_5_code 72 = .ok (.bipush 8, 2) := by decide +kernel
theorem d33_74 : decode method_5_code 74 = .ok (.istore_n 2, 1) := by decide +kernel
theorem d33_75 : decode method_5_code 75 = .ok (.lload_n 0, 1) := by decide +kernel
theorem d33_76 : decode method_5_code 76 = .ok (.ldc2_w 73, 3) := by decide +kernel
theorem d33_79 : decode method_5_code 79 = .ok (.lcmp, 1) := by decide +kernel
theorem d33_80 : decode method_5_code 80 = .ok (.ifCond .lt 6, 3) := by decide +kernel
theorem d33_83 : decode method_5_code 83 = .ok (.bipush 9, 2) := by decide +kernel
theorem d33_85 : decode method_5_code 85 = .ok (.istore_n 2, 1) := by decide +kernel
theorem d33_86 : decode method_5_code 86 = .ok (.lload_n 0, 1) := by decide +kernel
theorem d33_87 : decode method_5_code 87 = .ok (.ldc2_w 75, 3) := by decide +kernel
theorem d33_90 : decode method_5_code 90 = .ok (.lcmp, 1) := by decide +kernel
theorem d33_91 : decode method_5_code 91 = .ok (.ifCond .lt 6, 3) := by decide +kernel
theorem d33_94 : decode method_5_code 94 = .ok (.bipush 10, 2) := by decide +kernel
theorem d33_96 : decode method_5_code 96 = .ok (.istore_n 2, 1) := by decide +kernel
theorem d33_97 : decode method_5_code 97 = .ok (.iload_n 2, 1) := by decide +kernel
theorem d33_98 : decode method_5_code 98 = .ok (.ireturn, 1) := by decide +kernel
theorem pf33 : plainFor (⟨"org/dalvista/LabelLinePinLaw", "digits", "(J)I"⟩ : MethodName) = true := by first | exact plainFor_of_name (by first | (simp [plainName, overriddenIn]; done) | decide +kernel) | decide +kernel
theorem ef_digitsf (m : MethodId) (z0 : Int64) : entryFrame m #[(.long z0)] 3 = mkF m 0 #[.val (.long z0), .second, .unset] [] := by first | (simp [entryFrame, mkF, argsToLocals, Value.category, *]; done) | rfl
set_option maxRecDepth 65536 in
set_option maxHeartbeats 40000000 in
theorem rm_digitsf {l : Launch} {Z : State} {a0 : Array Value} {n0 : Nat} (G : Gl Z a0 n0) {h0 : Heap} (O : Old Z n0 h0) (mm : Int64) (N : Nat) (hm : mm.toInt = (N : Int)) (hN : N ≤ 2 ^ 31) :
    Ct [] l Z n0 (⟨"org/dalvista/LabelLinePinLaw", "digits", "(J)I"⟩ : MethodName) method_5_code 3 (some .int) ({ frames := 0, cells := 0, slots := 0, locals := 0 } : Room) #[(.long mm)] h0 (fun v h => h = h0 ∧ v = some (.int (Int32.ofNat (SBG.digits N)))) := by
  refine Ct.intro pf33 ?_
  intro p e s m below meth c C
  refine AtW.cast ?_ (ef_digitsf m mm)
  have lt1 : lcmpW mm (10 : Int64) < 0 ↔ N < 10 := by rw [lw_lt, own_i64, hm, show (10 : Int64).toInt = 10 from rfl]; omega
  have lt2 : lcmpW mm (100 : Int64) < 0 ↔ N < 100 := by rw [lw_lt, own_i64, hm, show (100 : Int64).toInt = 100 from rfl]; omega
  have lt3 : lcmpW mm (1000 : Int64) < 0 ↔ N < 1000 := by rw [lw_lt, own_i64, hm, show (1000 : Int64).toInt = 1000 from rfl]; omega
  have lt4 : lcmpW mm (10000 : Int64) < 0 ↔ N < 10000 := by rw [lw_lt, own_i64, hm, show (10000 : Int64).toInt = 10000 from rfl]; omega
  have lt5 : lcmpW mm (100000 : Int64) < 0 ↔ N < 100000 := by rw [lw_lt, own_i64, hm, show (100000 : Int64).toInt = 100000 from rfl]; omega
  have lt6 : lcmpW mm (1000000 : Int64) < 0 ↔ N < 1000000 := by rw [lw_lt, own_i64, hm, show (1000000 : Int64).toInt = 1000000 from rfl]; omega
  have lt7 : lcmpW mm (10000000 : Int64) < 0 ↔ N < 10000000 := by rw [lw_lt, own_i64, hm, show (10000000 : Int64).toInt = 10000000 from rfl]; omega
  have lt8 : lcmpW mm (100000000 : Int64) < 0 ↔ N < 100000000 := by rw [lw_lt, own_i64, hm, show (100000000 : Int64).toInt = 100000000 from rfl]; omega
  have lt9 : lcmpW mm (1000000000 : Int64) < 0 ↔ N < 1000000000 := by rw [lw_lt, own_i64, hm, show (1000000000 : Int64).toInt = 1000000000 from rfl]; omega
  refine w_iconst (q := 1) (v := (1 : Int32)) C (by rfl) d33_0 rfl ?_
  refine w_istoreN (q := 2) (L' := #[.val (.long mm), .second, .val (.int (1 : Int32))]) C rfl d33_1 rfl ?_
  refine w_lloadN (q := 3) C rfl d33_2 rfl ?_
  refine w_ldc2J (q := 6) C (G.1 _ (List.mem_of_getElem? (i := 184) rfl)) d33_3 rfl ?_
  refine w_lcmp (q := 7) C rfl d33_6 rfl ?_
  by_cases q1 : (lcmpW mm (10 : Int64)) < 0
  · refine w_if_lt_t (q := 12) C d33_7 (by decide) (by decide) q1 ?_
    rw [lt1] at q1
    refine w_lloadN (q := 13) C rfl d33_12 rfl ?_
    refine w_ldc2J (q := 16) C (G.1 _ (List.mem_of_getElem? (i := 185) rfl)) d33_13 rfl ?_
    refine w_lcmp (q := 17) C rfl d33_16 rfl ?_
    refine w_if_lt_t (q := 22) C d33_17 (by decide) (by decide) (lt2.mpr (by omega)) ?_
    refine w_lloadN (q := 23) C rfl d33_22 rfl ?_
    refine w_ldc2J (q := 26) C (G.1 _ (List.mem_of_getElem? (i := 186) rfl)) d33_23 rfl ?_
    refine w_lcmp (q := 27) C rfl d33_26 rfl ?_
    refine w_if_lt_t (q := 32) C d33_27 (by decide) (by decide) (lt3.mpr (by omega)) ?_
    refine w_lloadN (q := 33) C rfl d33_32 rfl ?_
    refine w_ldc2J (q := 36) C (G.1 _ (List.mem_of_getElem? (i := 187) rfl)) d33_33 rfl ?_
    refine w_lcmp (q := 37) C rfl d33_36 rfl ?_
    refine w_if_lt_t (q := 42) C d33_37 (by decide) (by decide) (lt4.mpr (by omega)) ?_
    refine w_lloadN (q := 43) C rfl d33_42 rfl ?_
    refine w_ldc2J (q := 46) C (G.1 _ (List.mem_of_getElem? (i := 188) rfl)) d33_43 rfl ?_
    refine w_lcmp (q := 47) C rfl d33_46 rfl ?_
    refine w_if_lt_t (q := 53) C d33_47 (by decide) (by decide) (lt5.mpr (by omega)) ?_
    refine w_lloadN (q := 54) C rfl d33_53 rfl ?_
    refine w_ldc2J (q := 57) C (G.1 _ (List.mem_of_getElem? (i := 189) rfl)) d33_54 rfl ?_
    refine w_lcmp (q := 58) C rfl d33_57 rfl ?_
    refine w_if_lt_t (q := 64) C d33_58 (by decide) (by decide) (lt6.mpr (by omega)) ?_
    refine w_lloadN (q := 65) C rfl d33_64 rfl ?_
    refine w_ldc2J (q := 68) C (G.1 _ (List.mem_of_getElem? (i := 190) rfl)) d33_65 rfl ?_
    refine w_lcmp (q := 69) C rfl d33_68 rfl ?_
    refine w_if_lt_t (q := 75) C d33_69 (by decide) (by decide) (lt7.mpr (by omega)) ?_
    refine w_lloadN (q := 76) C rfl d33_75 rfl ?_
    refine w_ldc2J (q := 79) C (G.1 _ (List.mem_of_getElem? (i := 191) rfl)) d33_76 rfl ?_
    refine w_lcmp (q := 80) C rfl d33_79 rfl ?_
    refine w_if_lt_t (q := 86) C d33_80 (by decide) (by decide) (lt8.mpr (by omega)) ?_
    refine w_lloadN (q := 87) C rfl d33_86 rfl ?_
    refine w_ldc2J (q := 90) C (G.1 _ (List.mem_of_getElem? (i := 192) rfl)) d33_87 rfl ?_
    refine w_lcmp (q := 91) C rfl d33_90 rfl ?_
    refine w_if_lt_t (q := 97) C d33_91 (by decide) (by decide) (lt9.mpr (by omega)) ?_
    refine w_iloadN (q := 98) C rfl d33_97 rfl ?_
    exact w_retI C rfl d33_98 (by decide) (by decide) ⟨rfl, by rw [show SBG.digits N = 1 by unfold SBG.digits; (repeat' split) <;> omega]; rfl⟩
  · refine w_if_lt_f (q := 10) C d33_7 rfl q1 ?_
    rw [lt1] at q1
    refine w_iconst (q := 11) (v := (2 : Int32)) C (by rfl) d33_10 rfl ?_
    refine w_istoreN (q := 12) (L' := #[.val (.long mm), .second, .val (.int (2 : Int32))]) C rfl d33_11 rfl ?_
    refine w_lloadN (q := 13) C rfl d33_12 rfl ?_
    refine w_ldc2J (q := 16) C (G.1 _ (List.mem_of_getElem? (i := 185) rfl)) d33_13 rfl ?_
    refine w_lcmp (q := 17) C rfl d33_16 rfl ?_
    by_cases q2 : (lcmpW mm (100 : Int64)) < 0
    · refine w_if_lt_t (q := 22) C d33_17 (by decide) (by decide) q2 ?_
      rw [lt2] at q2
      refine w_lloadN (q := 23) C rfl d33_22 rfl ?_
      refine w_ldc2J (q := 26) C (G.1 _ (List.mem_of_getElem? (i := 186) rfl)) d33_23 rfl ?_
      refine w_lcmp (q := 27) C rfl d33_26 rfl ?_
      refine w_if_lt_t (q := 32) C d33_27 (by decide) (by decide) (lt3.mpr (by omega)) ?_
      refine w_lloadN (q := 33) C rfl d33_32 rfl ?_
      refine w_ldc2J (q := 36) C (G.1 _ (List.mem_of_getElem? (i := 187) rfl)) d33_33 rfl ?_
      refine w_lcmp (q := 37) C rfl d33_36 rfl ?_
      refine w_if_lt_t (q := 42) C d33_37 (by decide) (by decide) (lt4.mpr (by omega)) ?_
      refine w_lloadN (q := 43) C rfl d33_42 rfl ?_
      refine w_ldc2J (q := 46) C (G.1 _ (List.mem_of_getElem? (i := 188) rfl)) d33_43 rfl ?_
      refine w_lcmp (q := 47) C rfl d33_46 rfl ?_
      refine w_if_lt_t (q := 53) C d33_47 (by decide) (by decide) (lt5.mpr (by omega)) ?_
      refine w_lloadN (q := 54) C rfl d33_53 rfl ?_
      refine w_ldc2J (q := 57) C (G.1 _ (List.mem_of_getElem? (i := 189) rfl)) d33_54 rfl ?_
      refine w_lcmp (q := 58) C rfl d33_57 rfl ?_
      refine w_if_lt_t (q := 64) C d33_58 (by decide) (by decide) (lt6.mpr (by omega)) ?_
      refine w_lloadN (q := 65) C rfl d33_64 rfl ?_
      refine w_ldc2J (q := 68) C (G.1 _ (List.mem_of_getElem? (i := 190) rfl)) d33_65 rfl ?_
      refine w_lcmp (q := 69) C rfl d33_68 rfl ?_
      refine w_if_lt_t (q := 75) C d33_69 (by decide) (by decide) (lt7.mpr (by omega)) ?_
      refine w_lloadN (q := 76) C rfl d33_75 rfl ?_
      refine w_ldc2J (q := 79) C (G.1 _ (List.mem_of_getElem? (i := 191) rfl)) d33_76 rfl ?_
      refine w_lcmp (q := 80) C rfl d33_79 rfl ?_
      refine w_if_lt_t (q := 86) C d33_80 (by decide) (by decide) (lt8.mpr (by omega)) ?_
      refine w_lloadN (q := 87) C rfl d33_86 rfl ?_
      refine w_ldc2J (q := 90) C (G.1 _ (List.mem_of_getElem? (i := 192) rfl)) d33_87 rfl ?_
      refine w_lcmp (q := 91) C rfl d33_90 rfl ?_
      refine w_if_lt_t (q := 97) C d33_91 (by decide) (by decide) (lt9.mpr (by omega)) ?_
      refine w_iloadN (q := 98) C rfl d33_97 rfl ?_
      exact w_retI C rfl d33_98 (by decide) (by decide) ⟨rfl, by rw [show SBG.digits N = 2 by unfold SBG.digits; (repeat' split) <;> omega]; rfl⟩
    · refine w_if_lt_f (q := 20) C d33_17 rfl q2 ?_
      rw [lt2] at q2
      refine w_iconst (q := 21) (v := (3 : Int32)) C (by rfl) d33_20 rfl ?_
      refine w_istoreN (q := 22) (L' := #[.val (.long mm), .second, .val (.int (3 : Int32))]) C rfl d33_21 rfl ?_
      refine w_lloadN (q := 23) C rfl d33_22 rfl ?_
      refine w_ldc2J (q := 26) C (G.1 _ (List.mem_of_getElem? (i := 186) rfl)) d33_23 rfl ?_
      refine w_lcmp (q := 27) C rfl d33_26 rfl ?_
      by_cases q3 : (lcmpW mm (1000 : Int64)) < 0
      · refine w_if_lt_t (q := 32) C d33_27 (by decide) (by decide) q3 ?_
        rw [lt3] at q3
        refine w_lloadN (q := 33) C rfl d33_32 rfl ?_
        refine w_ldc2J (q := 36) C (G.1 _ (List.mem_of_getElem? (i := 187) rfl)) d33_33 rfl ?_
        refine w_lcmp (q := 37) C rfl d33_36 rfl ?_
        refine w_if_lt_t (q := 42) C d33_37 (by decide) (by decide) (lt4.mpr (by omega)) ?_
        refine w_lloadN (q := 43) C rfl d33_42 rfl ?_
        refine w_ldc2J (q := 46) C (G.1 _ (List.mem_of_getElem? (i := 188) rfl)) d33_43 rfl ?_
        refine w_lcmp (q := 47) C rfl d33_46 rfl ?_
        refine w_if_lt_t (q := 53) C d33_47 (by decide) (by decide) (lt5.mpr (by omega)) ?_
        refine w_lloadN (q := 54) C rfl d33_53 rfl ?_
        refine w_ldc2J (q := 57) C (G.1 _ (List.mem_of_getElem? (i := 189) rfl)) d33_54 rfl ?_
        refine w_lcmp (q := 58) C rfl d33_57 rfl ?_
        refine w_if_lt_t (q := 64) C d33_58 (by decide) (by decide) (lt6.mpr (by omega)) ?_
        refine w_lloadN (q := 65) C rfl d33_64 rfl ?_
        refine w_ldc2J (q := 68) C (G.1 _ (List.mem_of_getElem? (i := 190) rfl)) d33_65 rfl ?_
        refine w_lcmp (q := 69) C rfl d33_68 rfl ?_
        refine w_if_lt_t (q := 75) C d33_69 (by decide) (by decide) (lt7.mpr (by omega)) ?_
        refine w_lloadN (q := 76) C rfl d33_75 rfl ?_
        refine w_ldc2J (q := 79) C (G.1 _ (List.mem_of_getElem? (i := 191) rfl)) d33_76 rfl ?_
        refine w_lcmp (q := 80) C rfl d33_79 rfl ?_
        refine w_if_lt_t (q := 86) C d33_80 (by decide) (by decide) (lt8.mpr (by omega)) ?_
        refine w_lloadN (q := 87) C rfl d33_86 rfl ?_
        refine w_ldc2J (q := 90) C (G.1 _ (List.mem_of_getElem? (i := 192) rfl)) d33_87 rfl ?_
        refine w_lcmp (q := 91) C rfl d33_90 rfl ?_
        refine w_if_lt_t (q := 97) C d33_91 (by decide) (by decide) (lt9.mpr (by omega)) ?_
        refine w_iloadN (q := 98) C rfl d33_97 rfl ?_
        exact w_retI C rfl d33_98 (by decide) (by decide) ⟨rfl, by rw [show SBG.digits N = 3 by unfold SBG.digits; (repeat' split) <;> omega]; rfl⟩
      · refine w_if_lt_f (q := 30) C d33_27 rfl q3 ?_
        rw [lt3] at q3
        refine w_iconst (q := 31) (v := (4 : Int32)) C (by rfl) d33_30 rfl ?_
        refine w_istoreN (q := 32) (L' := #[.val (.long mm), .second, .val (.int (4 : Int32))]) C rfl d33_31 rfl ?_
        refine w_lloadN (q := 33) C rfl d33_32 rfl ?_
        refine w_ldc2J (q := 36) C (G.1 _ (List.mem_of_getElem? (i := 187) rfl)) d33_33 rfl ?_
        refine w_lcmp (q := 37) C rfl d33_36 rfl ?_
        by_cases q4 : (lcmpW mm (10000 : Int64)) < 0
        · refine w_if_lt_t (q := 42) C d33_37 (by decide) (by decide) q4 ?_
          rw [lt4] at q4
          refine w_lloadN (q := 43) C rfl d33_42 rfl ?_
          refine w_ldc2J (q := 46) C (G.1 _ (List.mem_of_getElem? (i := 188) rfl)) d33_43 rfl ?_
          refine w_lcmp (q := 47) C rfl d33_46 rfl ?_
          refine w_if_lt_t (q := 53) C d33_47 (by decide) (by decide) (lt5.mpr (by omega)) ?_
          refine w_lloadN (q := 54) C rfl d33_53 rfl ?_
          refine w_ldc2J (q := 57) C (G.1 _ (List.mem_of_getElem? (i := 189) rfl)) d33_54 rfl ?_
          refine w_lcmp (q := 58) C rfl d33_57 rfl ?_
          refine w_if_lt_t (q := 64) C d33_58 (by decide) (by decide) (lt6.mpr (by omega)) ?_
          refine w_lloadN (q := 65) C rfl d33_64 rfl ?_
          refine w_ldc2J (q := 68) C (G.1 _ (List.mem_of_getElem? (i := 190) rfl)) d33_65 rfl ?_
          refine w_lcmp (q := 69) C rfl d33_68 rfl ?_
          refine w_if_lt_t (q := 75) C d33_69 (by decide) (by decide) (lt7.mpr (by omega)) ?_
          refine w_lloadN (q := 76) C rfl d33_75 rfl ?_
          refine w_ldc2J (q := 79) C (G.1 _ (List.mem_of_getElem? (i := 191) rfl)) d33_76 rfl ?_
          refine w_lcmp (q := 80) C rfl d33_79 rfl ?_
          refine w_if_lt_t (q := 86) C d33_80 (by decide) (by decide) (lt8.mpr (by omega)) ?_
          refine w_lloadN (q := 87) C rfl d33_86 rfl ?_
          refine w_ldc2J (q := 90) C (G.1 _ (List.mem_of_getElem? (i := 192) rfl)) d33_87 rfl ?_
          refine w_lcmp (q := 91) C rfl d33_90 rfl ?_
          refine w_if_lt_t (q := 97) C d33_91 (by decide) (by decide) (lt9.mpr (by omega)) ?_
          refine w_iloadN (q := 98) C rfl d33_97 rfl ?_
          exact w_retI C rfl d33_98 (by decide) (by decide) ⟨rfl, by rw [show SBG.digits N = 4 by unfold SBG.digits; (repeat' split) <;> omega]; rfl⟩
        · refine w_if_lt_f (q := 40) C d33_37 rfl q4 ?_
          rw [lt4] at q4
          refine w_iconst (q := 41) (v := (5 : Int32)) C (by rfl) d33_40 rfl ?_
          refine w_istoreN (q := 42) (L' := #[.val (.long mm), .second, .val (.int (5 : Int32))]) C rfl d33_41 rfl ?_
          refine w_lloadN (q := 43) C rfl d33_42 rfl ?_
          refine w_ldc2J (q := 46) C (G.1 _ (List.mem_of_getElem? (i := 188) rfl)) d33_43 rfl ?_
          refine w_lcmp (q := 47) C rfl d33_46 rfl ?_
          by_cases q5 : (lcmpW mm (100000 : Int64)) < 0
          · refine w_if_lt_t (q := 53) C d33_47 (by decide) (by decide) q5 ?_
            rw [lt5] at q5
            refine w_lloadN (q := 54) C rfl d33_53 rfl ?_
            refine w_ldc2J (q := 57) C (G.1 _ (List.mem_of_getElem? (i := 189) rfl)) d33_54 rfl ?_
            refine w_lcmp (q := 58) C rfl d33_57 rfl ?_
            refine w_if_lt_t (q := 64) C d33_58 (by decide) (by decide) (lt6.mpr (by omega)) ?_
            refine w_lloadN (q := 65) C rfl d33_64 rfl ?_
            refine w_ldc2J (q := 68) C (G.1 _ (List.mem_of_getElem? (i := 190) rfl)) d33_65 rfl ?_
            refine w_lcmp (q := 69) C rfl d33_68 rfl ?_
            refine w_if_lt_t (q := 75) C d33_69 (by decide) (by decide) (lt7.mpr (by omega)) ?_
            refine w_lloadN (q := 76) C rfl d33_75 rfl ?_
            refine w_ldc2J (q := 79) C (G.1 _ (List.mem_of_getElem? (i := 191) rfl)) d33_76 rfl ?_
            refine w_lcmp (q := 80) C rfl d33_79 rfl ?_
            refine w_if_lt_t (q := 86) C d33_80 (by decide) (by decide) (lt8.mpr (by omega)) ?_
            refine w_lloadN (q := 87) C rfl d33_86 rfl ?_
            refine w_ldc2J (q := 90) C (G.1 _ (List.mem_of_getElem? (i := 192) rfl)) d33_87 rfl ?_
            refine w_lcmp (q := 91) C rfl d33_90 rfl ?_
            refine w_if_lt_t (q := 97) C d33_91 (by decide) (by decide) (lt9.mpr (by omega)) ?_
            refine w_iloadN (q := 98) C rfl d33_97 rfl ?_
            exact w_retI C rfl d33_98 (by decide) (by decide) ⟨rfl, by rw [show SBG.digits N = 5 by unfold SBG.digits; (repeat' split) <;> omega]; rfl⟩
          · refine w_if_lt_f (q := 50) C d33_47 rfl q5 ?_
            rw [lt5] at q5
            refine w_bipush (q := 52) (v := (6 : Int32)) C (by rfl) d33_50 rfl ?_
            refine w_istoreN (q := 53) (L' := #[.val (.long mm), .second, .val (.int (6 : Int32))]) C rfl d33_52 rfl ?_
            refine w_lloadN (q := 54) C rfl d33_53 rfl ?_
            refine w_ldc2J (q := 57) C (G.1 _ (List.mem_of_getElem? (i := 189) rfl)) d33_54 rfl ?_
            refine w_lcmp (q := 58) C rfl d33_57 rfl ?_
            by_cases q6 : (lcmpW mm (1000000 : Int64)) < 0
            · refine w_if_lt_t (q := 64) C d33_58 (by decide) (by decide) q6 ?_
              rw [lt6] at q6
              refine w_lloadN (q := 65) C rfl d33_64 rfl ?_
              refine w_ldc2J (q := 68) C (G.1 _ (List.mem_of_getElem? (i := 190) rfl)) d33_65 rfl ?_
              refine w_lcmp (q := 69) C rfl d33_68 rfl ?_
              refine w_if_lt_t (q := 75) C d33_69 (by decide) (by decide) (lt7.mpr (by omega)) ?_
              refine w_lloadN (q := 76) C rfl d33_75 rfl ?_
              refine w_ldc2J (q := 79) C (G.1 _ (List.mem_of_getElem? (i := 191) rfl)) d33_76 rfl ?_
              refine w_lcmp (q := 80) C rfl d33_79 rfl ?_
              refine w_if_lt_t (q := 86) C d33_80 (by decide) (by decide) (lt8.mpr (by omega)) ?_
              refine w_lloadN (q := 87) C rfl d33_86 rfl ?_
              refine w_ldc2J (q := 90) C (G.1 _ (List.mem_of_getElem? (i := 192) rfl)) d33_87 rfl ?_
              refine w_lcmp (q := 91) C rfl d33_90 rfl ?_
              refine w_if_lt_t (q := 97) C d33_91 (by decide) (by decide) (lt9.mpr (by omega)) ?_
              refine w_iloadN (q := 98) C rfl d33_97 rfl ?_
              exact w_retI C rfl d33_98 (by decide) (by decide) ⟨rfl, by rw [show SBG.digits N = 6 by unfold SBG.digits; (repeat' split) <;> omega]; rfl⟩
            · refine w_if_lt_f (q := 61) C d33_58 rfl q6 ?_
              rw [lt6] at q6
              refine w_bipush (q := 63) (v := (7 : Int32)) C (by rfl) d33_61 rfl ?_
              refine w_istoreN (q := 64) (L' := #[.val (.long mm), .second, .val (.int (7 : Int32))]) C rfl d33_63 rfl ?_
              refine w_lloadN (q := 65) C rfl d33_64 rfl ?_
              refine w_ldc2J (q := 68) C (G.1 _ (List.mem_of_getElem? (i := 190) rfl)) d33_65 rfl ?_
              refine w_lcmp (q := 69) C rfl d33_68 rfl ?_
              by_cases q7 : (lcmpW mm (10000000 : Int64)) < 0
              · refine w_if_lt_t (q := 75) C d33_69 (by decide) (by decide) q7 ?_
                rw [lt7] at q7
                refine w_lloadN (q := 76) C rfl d33_75 rfl ?_
                refine w_ldc2J (q := 79) C (G.1 _ (List.mem_of_getElem? (i := 191) rfl)) d33_76 rfl ?_
                refine w_lcmp (q := 80) C rfl d33_79 rfl ?_
                refine w_if_lt_t (q := 86) C d33_80 (by decide) (by decide) (lt8.mpr (by omega)) ?_
                refine w_lloadN (q := 87) C rfl d33_86 rfl ?_
                refine w_ldc2J (q := 90) C (G.1 _ (List.mem_of_getElem? (i := 192) rfl)) d33_87 rfl ?_
                refine w_lcmp (q := 91) C rfl d33_90 rfl ?_
                refine w_if_lt_t (q := 97) C d33_91 (by decide) (by decide) (lt9.mpr (by omega)) ?_
                refine w_iloadN (q := 98) C rfl d33_97 rfl ?_
                exact w_retI C rfl d33_98 (by decide) (by decide) ⟨rfl, by rw [show SBG.digits N = 7 by unfold SBG.digits; (repeat' split) <;> omega]; rfl⟩
              · refine w_if_lt_f (q := 72) C d33_69 rfl q7 ?_
                rw [lt7] at q7
                refine w_bipush (q := 74) (v := (8 : Int32)) C (by rfl) d33_72 rfl ?_
                refine w_istoreN (q := 75) (L' := #[.val (.long mm), .second, .val (.int (8 : Int32))]) C rfl d33_74 rfl ?_
                refine w_lloadN (q := 76) C rfl d33_75 rfl ?_
                refine w_ldc2J (q := 79) C (G.1 _ (List.mem_of_getElem? (i := 191) rfl)) d33_76 rfl ?_
                refine w_lcmp (q := 80) C rfl d33_79 rfl ?_
                by_cases q8 : (lcmpW mm (100000000 : Int64)) < 0
                · refine w_if_lt_t (q := 86) C d33_80 (by decide) (by decide) q8 ?_
                  rw [lt8] at q8
                  refine w_lloadN (q := 87) C rfl d33_86 rfl ?_
                  refine w_ldc2J (q := 90) C (G.1 _ (List.mem_of_getElem? (i := 192) rfl)) d33_87 rfl ?_
                  refine w_lcmp (q := 91) C rfl d33_90 rfl ?_
                  refine w_if_lt_t (q := 97) C d33_91 (by decide) (by decide) (lt9.mpr (by omega)) ?_
                  refine w_iloadN (q := 98) C rfl d33_97 rfl ?_
                  exact w_retI C rfl d33_98 (by decide) (by decide) ⟨rfl, by rw [show SBG.digits N = 8 by unfold SBG.digits; (repeat' split) <;> omega]; rfl⟩
                · refine w_if_lt_f (q := 83) C d33_80 rfl q8 ?_
                  rw [lt8] at q8
                  refine w_bipush (q := 85) (v := (9 : Int32)) C (by rfl) d33_83 rfl ?_
                  refine w_istoreN (q := 86) (L' := #[.val (.long mm), .second, .val (.int (9 : Int32))]) C rfl d33_85 rfl ?_
                  refine w_lloadN (q := 87) C rfl d33_86 rfl ?_
                  refine w_ldc2J (q := 90) C (G.1 _ (List.mem_of_getElem? (i := 192) rfl)) d33_87 rfl ?_
                  refine w_lcmp (q := 91) C rfl d33_90 rfl ?_
                  by_cases q9 : (lcmpW mm (1000000000 : Int64)) < 0
                  · refine w_if_lt_t (q := 97) C d33_91 (by decide) (by decide) q9 ?_
                    rw [lt9] at q9
                    refine w_iloadN (q := 98) C rfl d33_97 rfl ?_
                    exact w_retI C rfl d33_98 (by decide) (by decide) ⟨rfl, by rw [show SBG.digits N = 9 by unfold SBG.digits; (repeat' split) <;> omega]; rfl⟩
                  · refine w_if_lt_f (q := 94) C d33_91 rfl q9 ?_
                    rw [lt9] at q9
                    refine w_bipush (q := 96) (v := (10 : Int32)) C (by rfl) d33_94 rfl ?_
                    refine w_istoreN (q := 97) (L' := #[.val (.long mm), .second, .val (.int (10 : Int32))]) C rfl d33_96 rfl ?_
                    refine w_iloadN (q := 98) C rfl d33_97 rfl ?_
                    exact w_retI C rfl d33_98 (by decide) (by decide) ⟨rfl, by rw [show SBG.digits N = 10 by unfold SBG.digits; (repeat' split) <;> omega]; rfl⟩
theorem d32_0 : decode jdk_29_method_61_code 0 = .ok (.lload_n 0, 1) := by decide +kernel
theorem d32_1 : decode jdk_29_method_61_code 1 = .ok (.lconst 0, 1) := by decide +kernel
theorem d32_2 : decode jdk_29_method_61_code 2 = .ok (.lcmp, 1) := by decide +kernel
theorem d32_3 : decode jdk_29_method_61_code 3 = .ok (.ifCond .ge 8, 3) := by decide +kernel
theorem d32_6 : decode jdk_29_method_61_code 6 = .ok (.lload_n 0, 1) := by decide +kernel
theorem d32_7 : decode jdk_29_method_61_code 7 = .ok (.lneg, 1) := by decide +kernel
theorem d32_8 : decode jdk_29_method_61_code 8 = .ok (.goto 4, 3) := by decide +kernel
theorem d32_11 : decode jdk_29_method_61_code 11 = .ok (.lload_n 0, 1) := by decide +kernel
theorem d32_12 : decode jdk_29_method_61_code 12 = .ok (.lreturn, 1) := by decide +kernel
theorem pf32 : plainFor (⟨"java/lang/Math", "abs", "(J)J"⟩ : MethodName) = true := by first | exact plainFor_of_name (by first | (simp [plainName, overriddenIn]; done) | decide +kernel) | decide +kernel
theorem ef_absL (m : MethodId) (z0 : Int64) : entryFrame m #[(.long z0)] 2 = mkF m 0 #[.val (.long z0), .second] [] := by first | (simp [entryFrame, mkF, argsToLocals, Value.category, *]; done) | rfl
set_option maxRecDepth 65536 in
set_option maxHeartbeats 40000000 in
theorem rm_absL {l : Launch} {Z : State} {a0 : Array Value} {n0 : Nat} (G : Gl Z a0 n0) {h0 : Heap} (O : Old Z n0 h0) (x : Int32) :
    Ct [] l Z n0 (⟨"java/lang/Math", "abs", "(J)J"⟩ : MethodName) jdk_29_method_61_code 2 (some .long) ({ frames := 0, cells := 0, slots := 0, locals := 0 } : Room) #[(.long x.toInt64)] h0 (fun v h => h = h0 ∧ ∃ m : Int64, v = some (.long m) ∧ m.toInt = (own_mag x : Int)) := by
  refine Ct.intro pf32 ?_
  intro p e s m below meth c C
  refine AtW.cast ?_ (ef_absL m x.toInt64)
  have habs := own_absm x
  have hlt : lcmpW x.toInt64 (0 : Int64) < 0 ↔ x < 0 := by rw [lw_lt, own_i64, own_lt, c_i2l]; rfl
  refine w_lloadN (q := 1) C rfl d32_0 rfl ?_
  refine w_lconst (q := 2) (v := (0 : Int64)) C (by rfl) d32_1 rfl ?_
  refine w_lcmp (q := 3) C rfl d32_2 rfl ?_
  by_cases q1 : (lcmpW x.toInt64 (0 : Int64)) < 0
  · refine w_if_ge_f (q := 6) C d32_3 rfl q1 ?_
    refine w_lloadN (q := 7) C rfl d32_6 rfl ?_
    refine w_lneg (q := 8) C rfl d32_7 rfl ?_
    refine w_goto (q := 12) C d32_8 (by decide) (by decide) ?_
    exact w_retJ C rfl d32_12 (by decide) (by decide) ⟨rfl, _, rfl, habs.1 (hlt.mp q1)⟩
  · refine w_if_ge_t (q := 11) C d32_3 (by decide) (by decide) q1 ?_
    refine w_lloadN (q := 12) C rfl d32_11 rfl ?_
    exact w_retJ C rfl d32_12 (by decide) (by decide) ⟨rfl, _, rfl, habs.2 (fun q => q1 (hlt.mpr q))⟩
theorem d39_0 : decode method_4_code 0 = .ok (.iload_n 2, 1) := by decide +kernel
theorem d39_1 : decode method_4_code 1 = .ok (.iconst 1, 1) := by decide +kernel
theorem d39_2 : decode method_4_code 2 = .ok (.if_icmp .lt 14, 3) := by decide +kernel
theorem d39_5 : decode method_4_code 5 = .ok (.aload_n 0, 1) := by decide +kernel
theorem d39_6 : decode method_4_code 6 = .ok (.iload_n 1, 1) := by decide +kernel
theorem d39_7 : decode method_4_code 7 = .ok (.invokevirtual 38, 3) := by decide +kernel
theorem d39_10 : decode method_4_code 10 = .ok (.iload_n 3, 1) := by decide +kernel
theorem d39_11 : decode method_4_code 11 = .ok (.if_icmp .eq 5, 3) := by decide +kernel
theorem d39_14 : decode method_4_code 14 = .ok (.iconst 0, 1) := by decide +kernel
theorem d39_15 : decode method_4_code 15 = .ok (.ireturn, 1) := by decide +kernel
theorem d39_16 : decode method_4_code 16 = .ok (.iload_n 2, 1) := by decide +kernel
theorem d39_17 : decode method_4_code 17 = .ok (.iconst 2, 1) := by decide +kernel
theorem d39_18 : decode method_4_code 18 = .ok (.if_icmp .lt 17, 3) := by decide +kernel
theorem d39_21 : decode method_4_code 21 = .ok (.aload_n 0, 1) := by decide +kernel
theorem d39_22 : decode method_4_code 22 = .ok (.iload_n 1, 1) := by decide +kernel
theorem d39_23 : decode method_4_code 23 = .ok (.iconst 1, 1) := by decide +kernel
theorem d39_24 : decode method_4_code 24 = .ok (.iadd, 1) := by decide +kernel
theorem d39_25 : decode method_4_code 25 = .ok (.invokevirtual 38, 3) := by decide +kernel
theorem d39_28 : decode method_4_code 28 = .ok (.iload 4, 2) := by decide +kernel
theorem d39_30 : decode method_4_code 30 = .ok (.if_icmp .eq 5, 3) := by decide +kernel
theorem d39_33 : decode method_4_code 33 = .ok (.iconst 0, 1) := by decide +kernel
theorem d39_34 : decode method_4_code 34 = .ok (.ireturn, 1) := by decide +kernel
theorem d39_35 : decode method_4_code 35 = .ok (.iconst 1, 1) := by decide +kernel
theorem d39_36 : decode method_4_code 36 = .ok (.ireturn, 1) := by decide +kernel
theorem pf39 : plainFor (⟨"org/dalvista/LabelLinePinLaw", "part", "(Ljava/lang/String;IICC)Z"⟩ : MethodName) = true := by first | exact plainFor_of_name (by first | (simp [plainName, overriddenIn]; done) | decide +kernel) | decide +kernel
theorem ef_partf (m : MethodId) (z0 : Addr) (z1 : Int32) (z2 : Int32) (z3 : Int32) (z4 : Int32) : entryFrame m #[(.ref z0), (.int z1), (.int z2), (.int z3), (.int z4)] 5 = mkF m 0 #[.val (.ref z0), .val (.int z1), .val (.int z2), .val (.int z3), .val (.int z4)] [] := by first | rfl | (simp [entryFrame, mkF, argsToLocals, Value.category, *]; done) | rfl
set_option maxRecDepth 65536 in
set_option maxHeartbeats 40000000 in
theorem rm_partf {l : Launch} {Z : State} {a0 : Array Value} {n0 : Nat} (G : Gl Z a0 n0) {h0 : Heap} (O : Old Z n0 h0) (a : Addr) (cs : List Int32) (off : Nat) (n : Nat) (c0 : Int32) (c1 : Int32) (S : Str Z h0 a cs) (hn : n ≤ 2) (g0 : 1 ≤ n → cs[off]? = some c0) (g1 : 2 ≤ n → cs[off + 1]? = some c1) :
    Ct [] l Z n0 (⟨"org/dalvista/LabelLinePinLaw", "part", "(Ljava/lang/String;IICC)Z"⟩ : MethodName) method_4_code 5 (some .boolean) ({ frames := 4, cells := 0, slots := 0, locals := 53 } : Room) #[(.ref a), (.int (Int32.ofNat off)), (.int (Int32.ofNat n)), (.int c0), (.int c1)] h0 (fun v h => h = h0 ∧ v = some (.int 1)) := by
  refine Ct.intro pf39 ?_
  intro p e s m below meth c C
  refine AtW.cast ?_ (ef_partf m a (Int32.ofNat off) (Int32.ofNat n) c0 c1)
  rcases n with _ | _ | _ | n
  · show AtW p l e _ s m _ below meth c n0 _ h0 0 0 (mkF m 0 #[.val (.ref a), .val (.int (Int32.ofNat off)), .val (.int (0 : Int32)), .val (.int c0), .val (.int c1)] [])
    refine w_iloadN (q := 1) C rfl d39_0 rfl ?_
    refine w_iconst (q := 2) (v := (1 : Int32)) C (by rfl) d39_1 rfl ?_
    refine w_icmp_lt_t (q := 16) C d39_2 (by decide) (by decide) (by decide) ?_
    refine w_iloadN (q := 17) C rfl d39_16 rfl ?_
    refine w_iconst (q := 18) (v := (2 : Int32)) C (by rfl) d39_17 rfl ?_
    refine w_icmp_lt_t (q := 35) C d39_18 (by decide) (by decide) (by decide) ?_
    refine w_iconst (q := 36) (v := (1 : Int32)) C (by rfl) d39_35 rfl ?_
    exact w_retZ (z := (1 : Int32)) C (t := .boolean) rfl (by simp) (by decide) d39_36 (by decide) (by decide) ⟨rfl, rfl⟩
  · show AtW p l e _ s m _ below meth c n0 _ h0 0 0 (mkF m 0 #[.val (.ref a), .val (.int (Int32.ofNat off)), .val (.int (1 : Int32)), .val (.int c0), .val (.int c1)] [])
    refine w_iloadN (q := 1) C rfl d39_0 rfl ?_
    refine w_iconst (q := 2) (v := (1 : Int32)) C (by rfl) d39_1 rfl ?_
    refine w_icmp_lt_f (q := 5) C d39_2 rfl (by decide) ?_
    refine w_aloadN (q := 6) C rfl rfl d39_5 rfl ?_
    refine w_iloadN (q := 7) C rfl d39_6 rfl ?_
    refine w_callV (q := 10) (argsL := [(.int (Int32.ofNat off))]) (S := []) (W := 0) (cells' := 0) (slots' := 0) (a := a) C S.1 (G.1 _ (List.mem_of_getElem? (i := 194) rfl)) (G.1 _ (List.mem_of_getElem? (i := 195) rfl)) (w_nf C (G.1 _ (List.mem_of_getElem? (i := 197) rfl))) (G.1 _ (List.mem_of_getElem? (i := 197) rfl)) (G.1 _ (List.mem_of_getElem? (i := 196) rfl)) (G.1 _ (List.mem_of_getElem? (i := 5) rfl)) (G.1 _ (List.mem_of_getElem? (i := 198) rfl)) (by decide) (rm_charAt G O a cs off c0 S (g0 (by omega))) rfl (lenOf pd_27 rfl) rfl (by decide) (own_leb rfl) (by decide) rfl rfl (by decide) (by decide) d39_7 rfl ?_
    rintro _ h236 ⟨eh237, rfl⟩
    rw [eh237]
    show AtW p l e _ s m _ below meth c n0 _ h0 0 0 (mkF m 10 #[.val (.ref a), .val (.int (Int32.ofNat off)), .val (.int (1 : Int32)), .val (.int c0), .val (.int c1)] [(.int c0)])
    refine w_iloadN (q := 11) C rfl d39_10 rfl ?_
    refine w_icmp_eq_t (q := 16) C d39_11 (by decide) (by decide) rfl ?_
    refine w_iloadN (q := 17) C rfl d39_16 rfl ?_
    refine w_iconst (q := 18) (v := (2 : Int32)) C (by rfl) d39_17 rfl ?_
    refine w_icmp_lt_t (q := 35) C d39_18 (by decide) (by decide) (by decide) ?_
    refine w_iconst (q := 36) (v := (1 : Int32)) C (by rfl) d39_35 rfl ?_
    exact w_retZ (z := (1 : Int32)) C (t := .boolean) rfl (by simp) (by decide) d39_36 (by decide) (by decide) ⟨rfl, rfl⟩
  · show AtW p l e _ s m _ below meth c n0 _ h0 0 0 (mkF m 0 #[.val (.ref a), .val (.int (Int32.ofNat off)), .val (.int (2 : Int32)), .val (.int c0), .val (.int c1)] [])
    refine w_iloadN (q := 1) C rfl d39_0 rfl ?_
    refine w_iconst (q := 2) (v := (1 : Int32)) C (by rfl) d39_1 rfl ?_
    refine w_icmp_lt_f (q := 5) C d39_2 rfl (by decide) ?_
    refine w_aloadN (q := 6) C rfl rfl d39_5 rfl ?_
    refine w_iloadN (q := 7) C rfl d39_6 rfl ?_
    refine w_callV (q := 10) (argsL := [(.int (Int32.ofNat off))]) (S := []) (W := 0) (cells' := 0) (slots' := 0) (a := a) C S.1 (G.1 _ (List.mem_of_getElem? (i := 194) rfl)) (G.1 _ (List.mem_of_getElem? (i := 195) rfl)) (w_nf C (G.1 _ (List.mem_of_getElem? (i := 197) rfl))) (G.1 _ (List.mem_of_getElem? (i := 197) rfl)) (G.1 _ (List.mem_of_getElem? (i := 196) rfl)) (G.1 _ (List.mem_of_getElem? (i := 5) rfl)) (G.1 _ (List.mem_of_getElem? (i := 198) rfl)) (by decide) (rm_charAt G O a cs off c0 S (g0 (by omega))) rfl (lenOf pd_27 rfl) rfl (by decide) (own_leb rfl) (by decide) rfl rfl (by decide) (by decide) d39_7 rfl ?_
    rintro _ h238 ⟨eh239, rfl⟩
    rw [eh239]
    show AtW p l e _ s m _ below meth c n0 _ h0 0 0 (mkF m 10 #[.val (.ref a), .val (.int (Int32.ofNat off)), .val (.int (2 : Int32)), .val (.int c0), .val (.int c1)] [(.int c0)])
    refine w_iloadN (q := 11) C rfl d39_10 rfl ?_
    refine w_icmp_eq_t (q := 16) C d39_11 (by decide) (by decide) rfl ?_
    refine w_iloadN (q := 17) C rfl d39_16 rfl ?_
    refine w_iconst (q := 18) (v := (2 : Int32)) C (by rfl) d39_17 rfl ?_
    refine w_icmp_lt_f (q := 21) C d39_18 rfl (by decide) ?_
    refine w_aloadN (q := 22) C rfl rfl d39_21 rfl ?_
    refine w_iloadN (q := 23) C rfl d39_22 rfl ?_
    refine w_iconst (q := 24) (v := (1 : Int32)) C (by rfl) d39_23 rfl ?_
    refine w_iadd (q := 25) C rfl d39_24 rfl ?_
    rw [show ((Int32.ofNat off) + (1 : Int32)) = (Int32.ofNat (off + 1)) from own_one off]
    refine w_callV (q := 28) (argsL := [(.int (Int32.ofNat (off + 1)))]) (S := []) (W := 0) (cells' := 0) (slots' := 0) (a := a) C S.1 (G.1 _ (List.mem_of_getElem? (i := 194) rfl)) (G.1 _ (List.mem_of_getElem? (i := 195) rfl)) (w_nf C (G.1 _ (List.mem_of_getElem? (i := 197) rfl))) (G.1 _ (List.mem_of_getElem? (i := 197) rfl)) (G.1 _ (List.mem_of_getElem? (i := 196) rfl)) (G.1 _ (List.mem_of_getElem? (i := 5) rfl)) (G.1 _ (List.mem_of_getElem? (i := 198) rfl)) (by decide) (rm_charAt G O a cs (off + 1) c1 S (g1 (by omega))) rfl (lenOf pd_27 rfl) rfl (by decide) (own_leb rfl) (by decide) rfl rfl (by decide) (by decide) d39_25 rfl ?_
    rintro _ h240 ⟨eh241, rfl⟩
    rw [eh241]
    show AtW p l e _ s m _ below meth c n0 _ h0 0 0 (mkF m 28 #[.val (.ref a), .val (.int (Int32.ofNat off)), .val (.int (2 : Int32)), .val (.int c0), .val (.int c1)] [(.int c1)])
    refine w_iload (q := 30) C rfl d39_28 rfl ?_
    refine w_icmp_eq_t (q := 35) C d39_30 (by decide) (by decide) rfl ?_
    refine w_iconst (q := 36) (v := (1 : Int32)) C (by rfl) d39_35 rfl ?_
    exact w_retZ (z := (1 : Int32)) C (t := .boolean) rfl (by simp) (by decide) d39_36 (by decide) (by decide) ⟨rfl, rfl⟩
  · exact absurd hn (by omega)
def own_pw : List Int64 := [1, 10, 100, 1000, 10000, 100000, 1000000, 10000000, 100000000, 1000000000, 10000000000]
theorem own_pwt : ∀ j : Fin 11, (own_pw.getD j.val 0).toInt = ((10 ^ j.val : Nat) : Int) := by decide +kernel
theorem own_pwg {j : Nat} (h : j < 11) : (List.map Value.long own_pw)[j]? = some (.long (own_pw.getD j 0)) := by
  have hl : own_pw.length = 11 := rfl
  rw [List.getElem?_map, List.getElem?_eq_getElem (by omega)]; simp [List.getD, h, hl]
theorem d41_0 : decode method_7_code 0 = .ok (.iload 6, 2) := by decide +kernel
theorem d41_2 : decode method_7_code 2 = .ok (.iload 5, 2) := by decide +kernel
theorem d41_4 : decode method_7_code 4 = .ok (.if_icmp .lt 5, 3) := by decide +kernel
theorem d41_7 : decode method_7_code 7 = .ok (.iconst 1, 1) := by decide +kernel
theorem d41_8 : decode method_7_code 8 = .ok (.ireturn, 1) := by decide +kernel
theorem d41_9 : decode method_7_code 9 = .ok (.iload_n 2, 1) := by decide +kernel
theorem d41_10 : decode method_7_code 10 = .ok (.ifCond .ge 15, 3) := by decide +kernel
theorem d41_13 : decode method_7_code 13 = .ok (.iload 6, 2) := by decide +kernel
theorem d41_15 : decode method_7_code 15 = .ok (.ifCond .ne 10, 3) := by decide +kernel
theorem d41_18 : decode method_7_code 18 = .ok (.bipush 45, 2) := by decide +kernel
theorem d41_20 : decode method_7_code 20 = .ok (.istore 7, 2) := by decide +kernel
theorem d41_22 : decode method_7_code 22 = .ok (.goto 105, 3) := by decide +kernel
theorem d41_25 : decode method_7_code 25 = .ok (.iload 5, 2) := by decide +kernel
theorem d41_27 : decode method_7_code 27 = .ok (.iconst 1, 1) := by decide +kernel
theorem d41_28 : decode method_7_code 28 = .ok (.isub, 1) := by decide +kernel
theorem d41_29 : decode method_7_code 29 = .ok (.iload 6, 2) := by decide +kernel
theorem d41_31 : decode method_7_code 31 = .ok (.isub, 1) := by decide +kernel
theorem d41_32 : decode method_7_code 32 = .ok (.istore 8, 2) := by decide +kernel
theorem d41_34 : decode method_7_code 34 = .ok (.bipush 11, 2) := by decide +kernel
theorem d41_36 : decode method_7_code 36 = .ok (.newarray .long, 2) := by decide +kernel
theorem d41_38 : decode method_7_code 38 = .ok (.dup, 1) := by decide +kernel
theorem d41_39 : decode method_7_code 39 = .ok (.iconst 0, 1) := by decide +kernel
theorem d41_40 : decode method_7_code 40 = .ok (.lconst 1, 1) := by decide +kernel
theorem d41_41 : decode method_7_code 41 = .ok (.lastore, 1) := by decide +kernel
theorem d41_42 : decode method_7_code 42 = .ok (.dup, 1) := by decide +kernel
theorem d41_43 : decode method_7_code 43 = .ok (.iconst 1, 1) := by decide +kernel
theorem d41_44 : decode method_7_code 44 = .ok (.ldc2_w 59, 3) := by decide +kernel
theorem d41_47 : decode method_7_code 47 = .ok (.lastore, 1) := by decide +kernel
theorem d41_48 : decode method_7_code 48 = .ok (.dup, 1) := by decide +kernel
theorem d41_49 : decode method_7_code 49 = .ok (.iconst 2, 1) := by decide +kernel
theorem d41_50 : decode method_7_code 50 = .ok (.ldc2_w 61, 3) := by decide +kernel
theorem d41_53 : decode method_7_code 53 = .ok (.lastore, 1) := by decide +kernel
theorem d41_54 : decode method_7_code 54 = .ok (.dup, 1) := by decide +kernel
theorem d41_55 : decode method_7_code 55 = .ok (.iconst 3, 1) := by decide +kernel
theorem d41_56 : decode method_7_code 56 = .ok (.ldc2_w 63, 3) := by decide +kernel
theorem d41_59 : decode method_7_code 59 = .ok (.lastore, 1) := by decide +kernel
theorem d41_60 : decode method_7_code 60 = .ok (.dup, 1) := by decide +kernel
theorem d41_61 : decode method_7_code 61 = .ok (.iconst 4, 1) := by decide +kernel
theorem d41_62 : decode method_7_code 62 = .ok (.ldc2_w 65, 3) := by decide +kernel
theorem d41_65 : decode method_7_code 65 = .ok (.lastore, 1) := by decide +kernel
theorem d41_66 : decode method_7_code 66 = .ok (.dup, 1) := by decide +kernel
theorem d41_67 : decode method_7_code 67 = .ok (.iconst 5, 1) := by decide +kernel
theorem d41_68 : decode method_7_code 68 = .ok (.ldc2_w 67, 3) := by decide +kernel
theorem d41_71 : decode method_7_code 71 = .ok (.lastore, 1) := by decide +kernel
theorem d41_72 : decode method_7_code 72 = .ok (.dup, 1) := by decide +kernel
theorem d41_73 : decode method_7_code 73 = .ok (.bipush 6, 2) := by decide +kernel
theorem d41_75 : decode method_7_code 75 = .ok (.ldc2_w 69, 3) := by decide +kernel
theorem d41_78 : decode method_7_code 78 = .ok (.lastore, 1) := by decide +kernel
theorem d41_79 : decode method_7_code 79 = .ok (.dup, 1) := by decide +kernel
theorem d41_80 : decode method_7_code 80 = .ok (.bipush 7, 2) := by decide +kernel
theorem d41_82 : decode method_7_code 82 = .ok (.ldc2_w 71, 3) := by decide +kernel
theorem d41_85 : decode method_7_code 85 = .ok (.lastore, 1) := by decide +kernel
theorem d41_86 : decode method_7_code 86 = .ok (.dup, 1) := by decide +kernel
theorem d41_87 : decode method_7_code 87 = .ok (.bipush 8, 2) := by decide +kernel
theorem d41_89 : decode method_7_code 89 = .ok (.ldc2_w 73, 3) := by decide +kernel
theorem d41_92 : decode method_7_code 92 = .ok (.lastore, 1) := by decide +kernel
theorem d41_93 : decode method_7_code 93 = .ok (.dup, 1) := by decide +kernel
theorem d41_94 : decode method_7_code 94 = .ok (.bipush 9, 2) := by decide +kernel
theorem d41_96 : decode method_7_code 96 = .ok (.ldc2_w 75, 3) := by decide +kernel
theorem d41_99 : decode method_7_code 99 = .ok (.lastore, 1) := by decide +kernel
theorem d41_100 : decode method_7_code 100 = .ok (.dup, 1) := by decide +kernel
theorem d41_101 : decode method_7_code 101 = .ok (.bipush 10, 2) := by decide +kernel
theorem d41_103 : decode method_7_code 103 = .ok (.ldc2_w 81, 3) := by decide +kernel
theorem d41_106 : decode method_7_code 106 = .ok (.lastore, 1) := by decide +kernel
theorem d41_107 : decode method_7_code 107 = .ok (.astore 9, 2) := by decide +kernel
theorem d41_109 : decode method_7_code 109 = .ok (.bipush 48, 2) := by decide +kernel
theorem d41_111 : decode method_7_code 111 = .ok (.lload_n 3, 1) := by decide +kernel
theorem d41_112 : decode method_7_code 112 = .ok (.aload 9, 2) := by decide +kernel
theorem d41_114 : decode method_7_code 114 = .ok (.iload 8, 2) := by decide +kernel
theorem d41_116 : decode method_7_code 116 = .ok (.laload, 1) := by decide +kernel
theorem d41_117 : decode method_7_code 117 = .ok (.ldiv, 1) := by decide +kernel
theorem d41_118 : decode method_7_code 118 = .ok (.ldc2_w 59, 3) := by decide +kernel
theorem d41_121 : decode method_7_code 121 = .ok (.lrem, 1) := by decide +kernel
theorem d41_122 : decode method_7_code 122 = .ok (.l2i, 1) := by decide +kernel
theorem d41_123 : decode method_7_code 123 = .ok (.iadd, 1) := by decide +kernel
theorem d41_124 : decode method_7_code 124 = .ok (.i2c, 1) := by decide +kernel
theorem d41_125 : decode method_7_code 125 = .ok (.istore 7, 2) := by decide +kernel
theorem d41_127 : decode method_7_code 127 = .ok (.aload_n 0, 1) := by decide +kernel
theorem d41_128 : decode method_7_code 128 = .ok (.iload_n 1, 1) := by decide +kernel
theorem d41_129 : decode method_7_code 129 = .ok (.iload 6, 2) := by decide +kernel
theorem d41_131 : decode method_7_code 131 = .ok (.iadd, 1) := by decide +kernel
theorem d41_132 : decode method_7_code 132 = .ok (.invokevirtual 38, 3) := by decide +kernel
theorem d41_135 : decode method_7_code 135 = .ok (.iload 7, 2) := by decide +kernel
theorem d41_137 : decode method_7_code 137 = .ok (.if_icmp .ne 7, 3) := by decide +kernel
theorem d41_140 : decode method_7_code 140 = .ok (.iconst 1, 1) := by decide +kernel
theorem d41_141 : decode method_7_code 141 = .ok (.goto 4, 3) := by decide +kernel
theorem d41_144 : decode method_7_code 144 = .ok (.iconst 0, 1) := by decide +kernel
theorem d41_145 : decode method_7_code 145 = .ok (.ireturn, 1) := by decide +kernel
theorem pf41 : plainFor (⟨"org/dalvista/LabelLinePinLaw", "numAt", "(Ljava/lang/String;IIJII)Z"⟩ : MethodName) = true := by first | exact plainFor_of_name (by first | (simp [plainName, overriddenIn]; done) | decide +kernel) | decide +kernel
theorem ef_numAt (m : MethodId) (z0 : Addr) (z1 : Int32) (z2 : Int32) (z3 : Int64) (z4 : Int32) (z5 : Int32) : entryFrame m #[(.ref z0), (.int z1), (.int z2), (.long z3), (.int z4), (.int z5)] 10 = mkF m 0 #[.val (.ref z0), .val (.int z1), .val (.int z2), .val (.long z3), .second, .val (.int z4), .val (.int z5), .unset, .unset, .unset] [] := by first | (simp [entryFrame, mkF, argsToLocals, Value.category, *]; done) | rfl
set_option maxRecDepth 65536 in
set_option maxHeartbeats 40000000 in
theorem rm_numAt {l : Launch} {Z : State} {a0 : Array Value} {n0 : Nat} (G : Gl Z a0 n0) {h0 : Heap} (O : Old Z n0 h0) (a : Addr) (cs : List Int32) (off : Nat) (x : Int32) (mm : Int64) (j : Nat) (S : Str Z h0 a cs) (hm : mm.toInt = (own_mag x : Int)) (hof : off ≤ 100) (hg : ∀ j, j < own_isz x → cs[off + j]? = (own_istr x)[j]?) (hj : j ≤ 10) :
    Ct [] l Z n0 (⟨"org/dalvista/LabelLinePinLaw", "numAt", "(Ljava/lang/String;IIJII)Z"⟩ : MethodName) method_7_code 10 (some .boolean) ({ frames := 4, cells := 1, slots := 11, locals := 53 } : Room) #[(.ref a), (.int (Int32.ofNat off)), (.int x), (.long mm), (.int (Int32.ofNat (own_isz x))), (.int (Int32.ofNat j))] h0 (fun v h => Keep h0 h [] ∧ v = some (.int 1)) := by
  refine Ct.intro pf41 ?_
  intro p e s m below meth c C
  refine AtW.cast ?_ (ef_numAt m a (Int32.ofNat off) x mm (Int32.ofNat (own_isz x)) (Int32.ofNat j))
  have hl := S.len
  have hN := own_mag_le x
  have hiz := own_isz_le x
  refine w_iload (q := 2) C rfl d41_0 rfl ?_
  refine w_iload (q := 4) C rfl d41_2 rfl ?_
  by_cases qj : (Int32.ofNat j) < (Int32.ofNat (own_isz x))
  · refine w_icmp_lt_t (q := 9) C d41_4 (by decide) (by decide) qj ?_
    rw [own_nlt (by omega) (by omega)] at qj
    refine w_iloadN (q := 10) C rfl d41_9 rfl ?_
    by_cases q1 : x < 0
    · refine w_if_ge_f (q := 13) C d41_10 rfl q1 ?_
      refine w_iload (q := 15) C rfl d41_13 rfl ?_
      by_cases q2 : (Int32.ofNat j) = 0
      · refine w_if_ne_f (q := 18) C d41_15 rfl q2 ?_
        have hj0 : j = 0 := (own_neq (n := 0) (by omega) (by omega)).mp q2
        have hgd : cs[off + j]? = some 45 := by rw [hg j qj, hj0]; exact own_istr_neg q1
        refine w_bipush (q := 20) (v := (45 : Int32)) C (by rfl) d41_18 rfl ?_
        refine w_istore (q := 22) (L' := #[.val (.ref a), .val (.int (Int32.ofNat off)), .val (.int x), .val (.long mm), .second, .val (.int (Int32.ofNat (own_isz x))), .val (.int (Int32.ofNat j)), .val (.int (45 : Int32)), .unset, .unset]) C rfl d41_20 rfl ?_
        refine w_goto (q := 127) C d41_22 (by decide) (by decide) ?_
        refine w_aloadN (q := 128) C rfl rfl d41_127 rfl ?_
        refine w_iloadN (q := 129) C rfl d41_128 rfl ?_
        refine w_iload (q := 131) C rfl d41_129 rfl ?_
        refine w_iadd (q := 132) C rfl d41_131 rfl ?_
        rw [show ((Int32.ofNat off) + (Int32.ofNat j)) = (Int32.ofNat (off + j)) from own_add _ _]
        refine w_callV (q := 135) (argsL := [(.int (Int32.ofNat (off + j)))]) (S := []) (W := 0) (cells' := 0) (slots' := 0) (a := a) C S.1 (G.1 _ (List.mem_of_getElem? (i := 194) rfl)) (G.1 _ (List.mem_of_getElem? (i := 195) rfl)) (w_nf C (G.1 _ (List.mem_of_getElem? (i := 197) rfl))) (G.1 _ (List.mem_of_getElem? (i := 197) rfl)) (G.1 _ (List.mem_of_getElem? (i := 196) rfl)) (G.1 _ (List.mem_of_getElem? (i := 5) rfl)) (G.1 _ (List.mem_of_getElem? (i := 198) rfl)) (by decide) (rm_charAt G O a cs (off + j) 45 S hgd) rfl (lenOf pd_27 rfl) rfl (by decide) (own_leb rfl) (by decide) rfl rfl (by decide) (by decide) d41_132 rfl ?_
        rintro _ h242 ⟨eh243, rfl⟩
        rw [eh243]
        show AtW p l e _ s m _ below meth c n0 _ h0 0 0 (mkF m 135 #[.val (.ref a), .val (.int (Int32.ofNat off)), .val (.int x), .val (.long mm), .second, .val (.int (Int32.ofNat (own_isz x))), .val (.int (Int32.ofNat j)), .val (.int (45 : Int32)), .unset, .unset] [(.int 45)])
        refine w_iload (q := 137) C rfl d41_135 rfl ?_
        refine w_icmp_ne_f (q := 140) C d41_137 rfl rfl ?_
        refine w_iconst (q := 141) (v := (1 : Int32)) C (by rfl) d41_140 rfl ?_
        refine w_goto (q := 145) C d41_141 (by decide) (by decide) ?_
        exact w_retZ (z := (1 : Int32)) C (t := .boolean) rfl (by simp) (by decide) d41_145 (by decide) (by decide) ⟨Keep.refl _ _, rfl⟩
      · refine w_if_ne_t (q := 25) C d41_15 (by decide) (by decide) q2 ?_
        have hnz : ¬ (x < 0 ∧ j = 0) := fun q => q2 (by rw [q.2]; rfl)
        have hgd := (hg j qj).trans (own_istr_get qj hnz)
        have h10 : own_mag x / 10 ^ (own_isz x - 1 - j) % 10 < 10 := Nat.mod_lt _ (by decide)
        have hcx := own_d48 _ h10
        refine w_iload (q := 27) C rfl d41_25 rfl ?_
        refine w_iconst (q := 28) (v := (1 : Int32)) C (by rfl) d41_27 rfl ?_
        refine w_isub (q := 29) C rfl d41_28 rfl ?_
        rw [show ((Int32.ofNat (own_isz x)) - (1 : Int32)) = (Int32.ofNat (own_isz x - 1)) from own_sub (a := own_isz x) (b := 1) (by omega)]
        refine w_iload (q := 31) C rfl d41_29 rfl ?_
        refine w_isub (q := 32) C rfl d41_31 rfl ?_
        rw [show ((Int32.ofNat (own_isz x - 1)) - (Int32.ofNat j)) = (Int32.ofNat (own_isz x - 1 - j)) from own_sub (by omega)]
        refine w_istore (q := 34) (L' := #[.val (.ref a), .val (.int (Int32.ofNat off)), .val (.int x), .val (.long mm), .second, .val (.int (Int32.ofNat (own_isz x))), .val (.int (Int32.ofNat j)), .unset, .val (.int (Int32.ofNat (own_isz x - 1 - j))), .unset]) C rfl d41_32 rfl ?_
        refine w_bipush (q := 36) (v := (11 : Int32)) C (by rfl) d41_34 rfl ?_
        refine w_newArr (q := 38) (cap := 11) (cells' := 1) (slots' := 11) C (G.1 _ (List.mem_of_getElem? (i := 225) rfl)) rfl (by decide) (by decide) (by decide) rfl rfl (by decide) (by decide) d41_36 rfl ?_
        intro h244 o245 g_o245 Eh244 V_o245
        replace V_o245 : Ar Z h244 o245 .long [(.long (0 : Int64)), (.long (0 : Int64)), (.long (0 : Int64)), (.long (0 : Int64)), (.long (0 : Int64)), (.long (0 : Int64)), (.long (0 : Int64)), (.long (0 : Int64)), (.long (0 : Int64)), (.long (0 : Int64)), (.long (0 : Int64))] := V_o245
        have ge_o245 : n0 ≤ o245 := by rw [g_o245]; exact Old_le O
        have sz_o245 : h0.size ≤ o245 := Nat.le_of_eq g_o245.symm
        have KP : Keep h0 h244 [] := Keep.of_ext Eh244
        refine w_dup (q := 39) C rfl d41_38 rfl ?_
        refine w_iconst (q := 40) (v := (0 : Int32)) C (by rfl) d41_39 rfl ?_
        refine w_lconst (q := 41) (v := (1 : Int64)) C (by rfl) d41_40 rfl ?_
        refine w_lastore (q := 42) (i := 0) C V_o245 rfl (own_ltb rfl) ge_o245 d41_41 rfl ?_
        intro h246 Wh246 Vh246
        have K247 := KP.wr Wh246 (Or.inr sz_o245)
        refine w_dup (q := 43) C rfl d41_42 rfl ?_
        refine w_iconst (q := 44) (v := (1 : Int32)) C (by rfl) d41_43 rfl ?_
        refine w_ldc2J (q := 47) C (G.1 _ (List.mem_of_getElem? (i := 184) rfl)) d41_44 rfl ?_
        refine w_lastore (q := 48) (i := 1) C Vh246 rfl (own_ltb rfl) ge_o245 d41_47 rfl ?_
        intro h248 Wh248 Vh248
        have K249 := K247.wr Wh248 (Or.inr sz_o245)
        refine w_dup (q := 49) C rfl d41_48 rfl ?_
        refine w_iconst (q := 50) (v := (2 : Int32)) C (by rfl) d41_49 rfl ?_
        refine w_ldc2J (q := 53) C (G.1 _ (List.mem_of_getElem? (i := 185) rfl)) d41_50 rfl ?_
        refine w_lastore (q := 54) (i := 2) C Vh248 rfl (own_ltb rfl) ge_o245 d41_53 rfl ?_
        intro h250 Wh250 Vh250
        have K251 := K249.wr Wh250 (Or.inr sz_o245)
        refine w_dup (q := 55) C rfl d41_54 rfl ?_
        refine w_iconst (q := 56) (v := (3 : Int32)) C (by rfl) d41_55 rfl ?_
        refine w_ldc2J (q := 59) C (G.1 _ (List.mem_of_getElem? (i := 186) rfl)) d41_56 rfl ?_
        refine w_lastore (q := 60) (i := 3) C Vh250 rfl (own_ltb rfl) ge_o245 d41_59 rfl ?_
        intro h252 Wh252 Vh252
        have K253 := K251.wr Wh252 (Or.inr sz_o245)
        refine w_dup (q := 61) C rfl d41_60 rfl ?_
        refine w_iconst (q := 62) (v := (4 : Int32)) C (by rfl) d41_61 rfl ?_
        refine w_ldc2J (q := 65) C (G.1 _ (List.mem_of_getElem? (i := 187) rfl)) d41_62 rfl ?_
        refine w_lastore (q := 66) (i := 4) C Vh252 rfl (own_ltb rfl) ge_o245 d41_65 rfl ?_
        intro h254 Wh254 Vh254
        have K255 := K253.wr Wh254 (Or.inr sz_o245)
        refine w_dup (q := 67) C rfl d41_66 rfl ?_
        refine w_iconst (q := 68) (v := (5 : Int32)) C (by rfl) d41_67 rfl ?_
        refine w_ldc2J (q := 71) C (G.1 _ (List.mem_of_getElem? (i := 188) rfl)) d41_68 rfl ?_
        refine w_lastore (q := 72) (i := 5) C Vh254 rfl (own_ltb rfl) ge_o245 d41_71 rfl ?_
        intro h256 Wh256 Vh256
        have K257 := K255.wr Wh256 (Or.inr sz_o245)
        refine w_dup (q := 73) C rfl d41_72 rfl ?_
        refine w_bipush (q := 75) (v := (6 : Int32)) C (by rfl) d41_73 rfl ?_
        refine w_ldc2J (q := 78) C (G.1 _ (List.mem_of_getElem? (i := 189) rfl)) d41_75 rfl ?_
        refine w_lastore (q := 79) (i := 6) C Vh256 rfl (own_ltb rfl) ge_o245 d41_78 rfl ?_
        intro h258 Wh258 Vh258
        have K259 := K257.wr Wh258 (Or.inr sz_o245)
        refine w_dup (q := 80) C rfl d41_79 rfl ?_
        refine w_bipush (q := 82) (v := (7 : Int32)) C (by rfl) d41_80 rfl ?_
        refine w_ldc2J (q := 85) C (G.1 _ (List.mem_of_getElem? (i := 190) rfl)) d41_82 rfl ?_
        refine w_lastore (q := 86) (i := 7) C Vh258 rfl (own_ltb rfl) ge_o245 d41_85 rfl ?_
        intro h260 Wh260 Vh260
        have K261 := K259.wr Wh260 (Or.inr sz_o245)
        refine w_dup (q := 87) C rfl d41_86 rfl ?_
        refine w_bipush (q := 89) (v := (8 : Int32)) C (by rfl) d41_87 rfl ?_
        refine w_ldc2J (q := 92) C (G.1 _ (List.mem_of_getElem? (i := 191) rfl)) d41_89 rfl ?_
        refine w_lastore (q := 93) (i := 8) C Vh260 rfl (own_ltb rfl) ge_o245 d41_92 rfl ?_
        intro h262 Wh262 Vh262
        have K263 := K261.wr Wh262 (Or.inr sz_o245)
        refine w_dup (q := 94) C rfl d41_93 rfl ?_
        refine w_bipush (q := 96) (v := (9 : Int32)) C (by rfl) d41_94 rfl ?_
        refine w_ldc2J (q := 99) C (G.1 _ (List.mem_of_getElem? (i := 192) rfl)) d41_96 rfl ?_
        refine w_lastore (q := 100) (i := 9) C Vh262 rfl (own_ltb rfl) ge_o245 d41_99 rfl ?_
        intro h264 Wh264 Vh264
        have K265 := K263.wr Wh264 (Or.inr sz_o245)
        refine w_dup (q := 101) C rfl d41_100 rfl ?_
        refine w_bipush (q := 103) (v := (10 : Int32)) C (by rfl) d41_101 rfl ?_
        refine w_ldc2J (q := 106) C (G.1 _ (List.mem_of_getElem? (i := 226) rfl)) d41_103 rfl ?_
        refine w_lastore (q := 107) (i := 10) C Vh264 rfl (own_ltb rfl) ge_o245 d41_106 rfl ?_
        intro h266 Wh266 Vh266
        have K267 := K265.wr Wh266 (Or.inr sz_o245)
        have VP : Ar Z h266 o245 .long (List.map Value.long own_pw) := Vh266
        replace O := Old_k0 O K267
        refine w_astore (q := 109) (L' := #[.val (.ref a), .val (.int (Int32.ofNat off)), .val (.int x), .val (.long mm), .second, .val (.int (Int32.ofNat (own_isz x))), .val (.int (Int32.ofNat j)), .unset, .val (.int (Int32.ofNat (own_isz x - 1 - j))), .val (.ref o245)]) C rfl rfl d41_107 rfl ?_
        refine w_bipush (q := 111) (v := (48 : Int32)) C (by rfl) d41_109 rfl ?_
        refine w_lloadN (q := 112) C rfl d41_111 rfl ?_
        refine w_aload (q := 114) C rfl rfl d41_112 rfl ?_
        refine w_iload (q := 116) C rfl d41_114 rfl ?_
        refine w_laload (q := 117) (i := (own_isz x - 1 - j)) (v := (.long (own_pw.getD (own_isz x - 1 - j) 0))) C VP rfl (own_pwg (by omega)) d41_116 rfl ?_
        have hpw : (own_pw.getD (own_isz x - 1 - j) 0).toInt = ((10 ^ (own_isz x - 1 - j) : Nat) : Int) := own_pwt ⟨own_isz x - 1 - j, by omega⟩
        have hpz : 0 < 10 ^ (own_isz x - 1 - j) := Nat.pow_pos (by decide)
        refine w_ldiv (q := 118) C (fun q => by rw [q] at hpw; have e : (0 : Int64).toInt = 0 := rfl; omega) rfl d41_117 rfl ?_
        refine w_ldc2J (q := 121) C (G.1 _ (List.mem_of_getElem? (i := 184) rfl)) d41_118 rfl ?_
        refine w_lrem (q := 122) C (by decide) rfl d41_121 rfl ?_
        refine w_l2i (q := 123) C rfl d41_122 rfl ?_
        rw [show (((mm / (own_pw.getD (own_isz x - 1 - j) 0)) % (10 : Int64)).toInt32) = (Int32.ofNat (own_mag x / 10 ^ (own_isz x - 1 - j) % 10)) from own_dig64 hm hpw hpz hN]
        refine w_iadd (q := 124) C rfl d41_123 rfl ?_
        rw [show ((48 : Int32) + (Int32.ofNat (own_mag x / 10 ^ (own_isz x - 1 - j) % 10))) = (Int32.ofNat (48 + (own_mag x / 10 ^ (own_isz x - 1 - j) % 10))) from own_add 48 _]
        refine w_i2c (q := 125) C rfl d41_124 rfl ?_
        rw [show ((Int32.ofNat (48 + (own_mag x / 10 ^ (own_isz x - 1 - j) % 10))).toUInt32.toUInt16.toUInt32.toInt32) = (Int32.ofNat (48 + (own_mag x / 10 ^ (own_isz x - 1 - j) % 10))) from own_i2c hcx]
        refine w_istore (q := 127) (L' := #[.val (.ref a), .val (.int (Int32.ofNat off)), .val (.int x), .val (.long mm), .second, .val (.int (Int32.ofNat (own_isz x))), .val (.int (Int32.ofNat j)), .val (.int (Int32.ofNat (48 + (own_mag x / 10 ^ (own_isz x - 1 - j) % 10)))), .val (.int (Int32.ofNat (own_isz x - 1 - j))), .val (.ref o245)]) C rfl d41_125 rfl ?_
        refine w_aloadN (q := 128) C rfl rfl d41_127 rfl ?_
        refine w_iloadN (q := 129) C rfl d41_128 rfl ?_
        refine w_iload (q := 131) C rfl d41_129 rfl ?_
        refine w_iadd (q := 132) C rfl d41_131 rfl ?_
        rw [show ((Int32.ofNat off) + (Int32.ofNat j)) = (Int32.ofNat (off + j)) from own_add _ _]
        refine w_callV (q := 135) (argsL := [(.int (Int32.ofNat (off + j)))]) (S := []) (W := 0) (cells' := 1) (slots' := 11) (a := a) C (Str_k0 S K267).1 (G.1 _ (List.mem_of_getElem? (i := 194) rfl)) (G.1 _ (List.mem_of_getElem? (i := 195) rfl)) (w_nf C (G.1 _ (List.mem_of_getElem? (i := 197) rfl))) (G.1 _ (List.mem_of_getElem? (i := 197) rfl)) (G.1 _ (List.mem_of_getElem? (i := 196) rfl)) (G.1 _ (List.mem_of_getElem? (i := 5) rfl)) (G.1 _ (List.mem_of_getElem? (i := 198) rfl)) (by decide) (rm_charAt G O a cs (off + j) (Int32.ofNat (48 + (own_mag x / 10 ^ (own_isz x - 1 - j) % 10))) (Str_k0 S K267) hgd) rfl (lenOf pd_27 rfl) rfl (by decide) (own_leb rfl) (by decide) rfl rfl (by decide) (by decide) d41_132 rfl ?_
        rintro _ h268 ⟨eh269, rfl⟩
        rw [eh269]
        show AtW p l e _ s m _ below meth c n0 _ h266 1 11 (mkF m 135 #[.val (.ref a), .val (.int (Int32.ofNat off)), .val (.int x), .val (.long mm), .second, .val (.int (Int32.ofNat (own_isz x))), .val (.int (Int32.ofNat j)), .val (.int (Int32.ofNat (48 + (own_mag x / 10 ^ (own_isz x - 1 - j) % 10)))), .val (.int (Int32.ofNat (own_isz x - 1 - j))), .val (.ref o245)] [(.int (Int32.ofNat (48 + (own_mag x / 10 ^ (own_isz x - 1 - j) % 10))))])
        refine w_iload (q := 137) C rfl d41_135 rfl ?_
        refine w_icmp_ne_f (q := 140) C d41_137 rfl rfl ?_
        refine w_iconst (q := 141) (v := (1 : Int32)) C (by rfl) d41_140 rfl ?_
        refine w_goto (q := 145) C d41_141 (by decide) (by decide) ?_
        exact w_retZ (z := (1 : Int32)) C (t := .boolean) rfl (by simp) (by decide) d41_145 (by decide) (by decide) ⟨K267, rfl⟩
    · refine w_if_ge_t (q := 25) C d41_10 (by decide) (by decide) q1 ?_
      have hnz : ¬ (x < 0 ∧ j = 0) := fun q => q1 q.1
      have hgd := (hg j qj).trans (own_istr_get qj hnz)
      have h10 : own_mag x / 10 ^ (own_isz x - 1 - j) % 10 < 10 := Nat.mod_lt _ (by decide)
      have hcx := own_d48 _ h10
      refine w_iload (q := 27) C rfl d41_25 rfl ?_
      refine w_iconst (q := 28) (v := (1 : Int32)) C (by rfl) d41_27 rfl ?_
      refine w_isub (q := 29) C rfl d41_28 rfl ?_
      rw [show ((Int32.ofNat (own_isz x)) - (1 : Int32)) = (Int32.ofNat (own_isz x - 1)) from own_sub (a := own_isz x) (b := 1) (by omega)]
      refine w_iload (q := 31) C rfl d41_29 rfl ?_
      refine w_isub (q := 32) C rfl d41_31 rfl ?_
      rw [show ((Int32.ofNat (own_isz x - 1)) - (Int32.ofNat j)) = (Int32.ofNat (own_isz x - 1 - j)) from own_sub (by omega)]
      refine w_istore (q := 34) (L' := #[.val (.ref a), .val (.int (Int32.ofNat off)), .val (.int x), .val (.long mm), .second, .val (.int (Int32.ofNat (own_isz x))), .val (.int (Int32.ofNat j)), .unset, .val (.int (Int32.ofNat (own_isz x - 1 - j))), .unset]) C rfl d41_32 rfl ?_
      refine w_bipush (q := 36) (v := (11 : Int32)) C (by rfl) d41_34 rfl ?_
      refine w_newArr (q := 38) (cap := 11) (cells' := 1) (slots' := 11) C (G.1 _ (List.mem_of_getElem? (i := 225) rfl)) rfl (by decide) (by decide) (by decide) rfl rfl (by decide) (by decide) d41_36 rfl ?_
      intro h270 o271 g_o271 Eh270 V_o271
      replace V_o271 : Ar Z h270 o271 .long [(.long (0 : Int64)), (.long (0 : Int64)), (.long (0 : Int64)), (.long (0 : Int64)), (.long (0 : Int64)), (.long (0 : Int64)), (.long (0 : Int64)), (.long (0 : Int64)), (.long (0 : Int64)), (.long (0 : Int64)), (.long (0 : Int64))] := V_o271
      have ge_o271 : n0 ≤ o271 := by rw [g_o271]; exact Old_le O
      have sz_o271 : h0.size ≤ o271 := Nat.le_of_eq g_o271.symm
      have KP : Keep h0 h270 [] := Keep.of_ext Eh270
      refine w_dup (q := 39) C rfl d41_38 rfl ?_
      refine w_iconst (q := 40) (v := (0 : Int32)) C (by rfl) d41_39 rfl ?_
      refine w_lconst (q := 41) (v := (1 : Int64)) C (by rfl) d41_40 rfl ?_
      refine w_lastore (q := 42) (i := 0) C V_o271 rfl (own_ltb rfl) ge_o271 d41_41 rfl ?_
      intro h272 Wh272 Vh272
      have K273 := KP.wr Wh272 (Or.inr sz_o271)
      refine w_dup (q := 43) C rfl d41_42 rfl ?_
      refine w_iconst (q := 44) (v := (1 : Int32)) C (by rfl) d41_43 rfl ?_
      refine w_ldc2J (q := 47) C (G.1 _ (List.mem_of_getElem? (i := 184) rfl)) d41_44 rfl ?_
      refine w_lastore (q := 48) (i := 1) C Vh272 rfl (own_ltb rfl) ge_o271 d41_47 rfl ?_
      intro h274 Wh274 Vh274
      have K275 := K273.wr Wh274 (Or.inr sz_o271)
      refine w_dup (q := 49) C rfl d41_48 rfl ?_
      refine w_iconst (q := 50) (v := (2 : Int32)) C (by rfl) d41_49 rfl ?_
      refine w_ldc2J (q := 53) C (G.1 _ (List.mem_of_getElem? (i := 185) rfl)) d41_50 rfl ?_
      refine w_lastore (q := 54) (i := 2) C Vh274 rfl (own_ltb rfl) ge_o271 d41_53 rfl ?_
      intro h276 Wh276 Vh276
      have K277 := K275.wr Wh276 (Or.inr sz_o271)
      refine w_dup (q := 55) C rfl d41_54 rfl ?_
      refine w_iconst (q := 56) (v := (3 : Int32)) C (by rfl) d41_55 rfl ?_
      refine w_ldc2J (q := 59) C (G.1 _ (List.mem_of_getElem? (i := 186) rfl)) d41_56 rfl ?_
      refine w_lastore (q := 60) (i := 3) C Vh276 rfl (own_ltb rfl) ge_o271 d41_59 rfl ?_
      intro h278 Wh278 Vh278
      have K279 := K277.wr Wh278 (Or.inr sz_o271)
      refine w_dup (q := 61) C rfl d41_60 rfl ?_
      refine w_iconst (q := 62) (v := (4 : Int32)) C (by rfl) d41_61 rfl ?_
      refine w_ldc2J (q := 65) C (G.1 _ (List.mem_of_getElem? (i := 187) rfl)) d41_62 rfl ?_
      refine w_lastore (q := 66) (i := 4) C Vh278 rfl (own_ltb rfl) ge_o271 d41_65 rfl ?_
      intro h280 Wh280 Vh280
      have K281 := K279.wr Wh280 (Or.inr sz_o271)
      refine w_dup (q := 67) C rfl d41_66 rfl ?_
      refine w_iconst (q := 68) (v := (5 : Int32)) C (by rfl) d41_67 rfl ?_
      refine w_ldc2J (q := 71) C (G.1 _ (List.mem_of_getElem? (i := 188) rfl)) d41_68 rfl ?_
      refine w_lastore (q := 72) (i := 5) C Vh280 rfl (own_ltb rfl) ge_o271 d41_71 rfl ?_
      intro h282 Wh282 Vh282
      have K283 := K281.wr Wh282 (Or.inr sz_o271)
      refine w_dup (q := 73) C rfl d41_72 rfl ?_
      refine w_bipush (q := 75) (v := (6 : Int32)) C (by rfl) d41_73 rfl ?_
      refine w_ldc2J (q := 78) C (G.1 _ (List.mem_of_getElem? (i := 189) rfl)) d41_75 rfl ?_
      refine w_lastore (q := 79) (i := 6) C Vh282 rfl (own_ltb rfl) ge_o271 d41_78 rfl ?_
      intro h284 Wh284 Vh284
      have K285 := K283.wr Wh284 (Or.inr sz_o271)
      refine w_dup (q := 80) C rfl d41_79 rfl ?_
      refine w_bipush (q := 82) (v := (7 : Int32)) C (by rfl) d41_80 rfl ?_
      refine w_ldc2J (q := 85) C (G.1 _ (List.mem_of_getElem? (i := 190) rfl)) d41_82 rfl ?_
      refine w_lastore (q := 86) (i := 7) C Vh284 rfl (own_ltb rfl) ge_o271 d41_85 rfl ?_
      intro h286 Wh286 Vh286
      have K287 := K285.wr Wh286 (Or.inr sz_o271)
      refine w_dup (q := 87) C rfl d41_86 rfl ?_
      refine w_bipush (q := 89) (v := (8 : Int32)) C (by rfl) d41_87 rfl ?_
      refine w_ldc2J (q := 92) C (G.1 _ (List.mem_of_getElem? (i := 191) rfl)) d41_89 rfl ?_
      refine w_lastore (q := 93) (i := 8) C Vh286 rfl (own_ltb rfl) ge_o271 d41_92 rfl ?_
      intro h288 Wh288 Vh288
      have K289 := K287.wr Wh288 (Or.inr sz_o271)
      refine w_dup (q := 94) C rfl d41_93 rfl ?_
      refine w_bipush (q := 96) (v := (9 : Int32)) C (by rfl) d41_94 rfl ?_
      refine w_ldc2J (q := 99) C (G.1 _ (List.mem_of_getElem? (i := 192) rfl)) d41_96 rfl ?_
      refine w_lastore (q := 100) (i := 9) C Vh288 rfl (own_ltb rfl) ge_o271 d41_99 rfl ?_
      intro h290 Wh290 Vh290
      have K291 := K289.wr Wh290 (Or.inr sz_o271)
      refine w_dup (q := 101) C rfl d41_100 rfl ?_
      refine w_bipush (q := 103) (v := (10 : Int32)) C (by rfl) d41_101 rfl ?_
      refine w_ldc2J (q := 106) C (G.1 _ (List.mem_of_getElem? (i := 226) rfl)) d41_103 rfl ?_
      refine w_lastore (q := 107) (i := 10) C Vh290 rfl (own_ltb rfl) ge_o271 d41_106 rfl ?_
      intro h292 Wh292 Vh292
      have K293 := K291.wr Wh292 (Or.inr sz_o271)
      have VP : Ar Z h292 o271 .long (List.map Value.long own_pw) := Vh292
      replace O := Old_k0 O K293
      refine w_astore (q := 109) (L' := #[.val (.ref a), .val (.int (Int32.ofNat off)), .val (.int x), .val (.long mm), .second, .val (.int (Int32.ofNat (own_isz x))), .val (.int (Int32.ofNat j)), .unset, .val (.int (Int32.ofNat (own_isz x - 1 - j))), .val (.ref o271)]) C rfl rfl d41_107 rfl ?_
      refine w_bipush (q := 111) (v := (48 : Int32)) C (by rfl) d41_109 rfl ?_
      refine w_lloadN (q := 112) C rfl d41_111 rfl ?_
      refine w_aload (q := 114) C rfl rfl d41_112 rfl ?_
      refine w_iload (q := 116) C rfl d41_114 rfl ?_
      refine w_laload (q := 117) (i := (own_isz x - 1 - j)) (v := (.long (own_pw.getD (own_isz x - 1 - j) 0))) C VP rfl (own_pwg (by omega)) d41_116 rfl ?_
      have hpw : (own_pw.getD (own_isz x - 1 - j) 0).toInt = ((10 ^ (own_isz x - 1 - j) : Nat) : Int) := own_pwt ⟨own_isz x - 1 - j, by omega⟩
      have hpz : 0 < 10 ^ (own_isz x - 1 - j) := Nat.pow_pos (by decide)
      refine w_ldiv (q := 118) C (fun q => by rw [q] at hpw; have e : (0 : Int64).toInt = 0 := rfl; omega) rfl d41_117 rfl ?_
      refine w_ldc2J (q := 121) C (G.1 _ (List.mem_of_getElem? (i := 184) rfl)) d41_118 rfl ?_
      refine w_lrem (q := 122) C (by decide) rfl d41_121 rfl ?_
      refine w_l2i (q := 123) C rfl d41_122 rfl ?_
      rw [show (((mm / (own_pw.getD (own_isz x - 1 - j) 0)) % (10 : Int64)).toInt32) = (Int32.ofNat (own_mag x / 10 ^ (own_isz x - 1 - j) % 10)) from own_dig64 hm hpw hpz hN]
      refine w_iadd (q := 124) C rfl d41_123 rfl ?_
      rw [show ((48 : Int32) + (Int32.ofNat (own_mag x / 10 ^ (own_isz x - 1 - j) % 10))) = (Int32.ofNat (48 + (own_mag x / 10 ^ (own_isz x - 1 - j) % 10))) from own_add 48 _]
      refine w_i2c (q := 125) C rfl d41_124 rfl ?_
      rw [show ((Int32.ofNat (48 + (own_mag x / 10 ^ (own_isz x - 1 - j) % 10))).toUInt32.toUInt16.toUInt32.toInt32) = (Int32.ofNat (48 + (own_mag x / 10 ^ (own_isz x - 1 - j) % 10))) from own_i2c hcx]
      refine w_istore (q := 127) (L' := #[.val (.ref a), .val (.int (Int32.ofNat off)), .val (.int x), .val (.long mm), .second, .val (.int (Int32.ofNat (own_isz x))), .val (.int (Int32.ofNat j)), .val (.int (Int32.ofNat (48 + (own_mag x / 10 ^ (own_isz x - 1 - j) % 10)))), .val (.int (Int32.ofNat (own_isz x - 1 - j))), .val (.ref o271)]) C rfl d41_125 rfl ?_
      refine w_aloadN (q := 128) C rfl rfl d41_127 rfl ?_
      refine w_iloadN (q := 129) C rfl d41_128 rfl ?_
      refine w_iload (q := 131) C rfl d41_129 rfl ?_
      refine w_iadd (q := 132) C rfl d41_131 rfl ?_
      rw [show ((Int32.ofNat off) + (Int32.ofNat j)) = (Int32.ofNat (off + j)) from own_add _ _]
      refine w_callV (q := 135) (argsL := [(.int (Int32.ofNat (off + j)))]) (S := []) (W := 0) (cells' := 1) (slots' := 11) (a := a) C (Str_k0 S K293).1 (G.1 _ (List.mem_of_getElem? (i := 194) rfl)) (G.1 _ (List.mem_of_getElem? (i := 195) rfl)) (w_nf C (G.1 _ (List.mem_of_getElem? (i := 197) rfl))) (G.1 _ (List.mem_of_getElem? (i := 197) rfl)) (G.1 _ (List.mem_of_getElem? (i := 196) rfl)) (G.1 _ (List.mem_of_getElem? (i := 5) rfl)) (G.1 _ (List.mem_of_getElem? (i := 198) rfl)) (by decide) (rm_charAt G O a cs (off + j) (Int32.ofNat (48 + (own_mag x / 10 ^ (own_isz x - 1 - j) % 10))) (Str_k0 S K293) hgd) rfl (lenOf pd_27 rfl) rfl (by decide) (own_leb rfl) (by decide) rfl rfl (by decide) (by decide) d41_132 rfl ?_
      rintro _ h294 ⟨eh295, rfl⟩
      rw [eh295]
      show AtW p l e _ s m _ below meth c n0 _ h292 1 11 (mkF m 135 #[.val (.ref a), .val (.int (Int32.ofNat off)), .val (.int x), .val (.long mm), .second, .val (.int (Int32.ofNat (own_isz x))), .val (.int (Int32.ofNat j)), .val (.int (Int32.ofNat (48 + (own_mag x / 10 ^ (own_isz x - 1 - j) % 10)))), .val (.int (Int32.ofNat (own_isz x - 1 - j))), .val (.ref o271)] [(.int (Int32.ofNat (48 + (own_mag x / 10 ^ (own_isz x - 1 - j) % 10))))])
      refine w_iload (q := 137) C rfl d41_135 rfl ?_
      refine w_icmp_ne_f (q := 140) C d41_137 rfl rfl ?_
      refine w_iconst (q := 141) (v := (1 : Int32)) C (by rfl) d41_140 rfl ?_
      refine w_goto (q := 145) C d41_141 (by decide) (by decide) ?_
      exact w_retZ (z := (1 : Int32)) C (t := .boolean) rfl (by simp) (by decide) d41_145 (by decide) (by decide) ⟨K293, rfl⟩
  · refine w_icmp_lt_f (q := 7) C d41_4 rfl qj ?_
    refine w_iconst (q := 8) (v := (1 : Int32)) C (by rfl) d41_7 rfl ?_
    exact w_retZ (z := (1 : Int32)) C (t := .boolean) rfl (by simp) (by decide) d41_8 (by decide) (by decide) ⟨Keep.refl _ _, rfl⟩
theorem d40_0 : decode method_6_code 0 = .ok (.aload_n 0, 1) := by decide +kernel
theorem d40_1 : decode method_6_code 1 = .ok (.iload_n 1, 1) := by decide +kernel
theorem d40_2 : decode method_6_code 2 = .ok (.iload_n 2, 1) := by decide +kernel
theorem d40_3 : decode method_6_code 3 = .ok (.lload_n 3, 1) := by decide +kernel
theorem d40_4 : decode method_6_code 4 = .ok (.iload 5, 2) := by decide +kernel
theorem d40_6 : decode method_6_code 6 = .ok (.iconst 0, 1) := by decide +kernel
theorem d40_7 : decode method_6_code 7 = .ok (.invokestatic 77, 3) := by decide +kernel
theorem d40_10 : decode method_6_code 10 = .ok (.ifCond .ne 5, 3) := by decide +kernel
theorem d40_13 : decode method_6_code 13 = .ok (.iconst 0, 1) := by decide +kernel
theorem d40_14 : decode method_6_code 14 = .ok (.ireturn, 1) := by decide +kernel
theorem d40_15 : decode method_6_code 15 = .ok (.aload_n 0, 1) := by decide +kernel
theorem d40_16 : decode method_6_code 16 = .ok (.iload_n 1, 1) := by decide +kernel
theorem d40_17 : decode method_6_code 17 = .ok (.iload_n 2, 1) := by decide +kernel
theorem d40_18 : decode method_6_code 18 = .ok (.lload_n 3, 1) := by decide +kernel
theorem d40_19 : decode method_6_code 19 = .ok (.iload 5, 2) := by decide +kernel
theorem d40_21 : decode method_6_code 21 = .ok (.iconst 1, 1) := by decide +kernel
theorem d40_22 : decode method_6_code 22 = .ok (.invokestatic 77, 3) := by decide +kernel
theorem d40_25 : decode method_6_code 25 = .ok (.ifCond .ne 5, 3) := by decide +kernel
theorem d40_28 : decode method_6_code 28 = .ok (.iconst 0, 1) := by decide +kernel
theorem d40_29 : decode method_6_code 29 = .ok (.ireturn, 1) := by decide +kernel
theorem d40_30 : decode method_6_code 30 = .ok (.aload_n 0, 1) := by decide +kernel
theorem d40_31 : decode method_6_code 31 = .ok (.iload_n 1, 1) := by decide +kernel
theorem d40_32 : decode method_6_code 32 = .ok (.iload_n 2, 1) := by decide +kernel
theorem d40_33 : decode method_6_code 33 = .ok (.lload_n 3, 1) := by decide +kernel
theorem d40_34 : decode method_6_code 34 = .ok (.iload 5, 2) := by decide +kernel
theorem d40_36 : decode method_6_code 36 = .ok (.iconst 2, 1) := by decide +kernel
theorem d40_37 : decode method_6_code 37 = .ok (.invokestatic 77, 3) := by decide +kernel
theorem d40_40 : decode method_6_code 40 = .ok (.ifCond .ne 5, 3) := by decide +kernel
theorem d40_43 : decode method_6_code 43 = .ok (.iconst 0, 1) := by decide +kernel
theorem d40_44 : decode method_6_code 44 = .ok (.ireturn, 1) := by decide +kernel
theorem d40_45 : decode method_6_code 45 = .ok (.aload_n 0, 1) := by decide +kernel
theorem d40_46 : decode method_6_code 46 = .ok (.iload_n 1, 1) := by decide +kernel
theorem d40_47 : decode method_6_code 47 = .ok (.iload_n 2, 1) := by decide +kernel
theorem d40_48 : decode method_6_code 48 = .ok (.lload_n 3, 1) := by decide +kernel
theorem d40_49 : decode method_6_code 49 = .ok (.iload 5, 2) := by decide +kernel
theorem d40_51 : decode method_6_code 51 = .ok (.iconst 3, 1) := by decide +kernel
theorem d40_52 : decode method_6_code 52 = .ok (.invokestatic 77, 3) := by decide +kernel
theorem d40_55 : decode method_6_code 55 = .ok (.ifCond .ne 5, 3) := by decide +kernel
theorem d40_58 : decode method_6_code 58 = .ok (.iconst 0, 1) := by decide +kernel
theorem d40_59 : decode method_6_code 59 = .ok (.ireturn, 1) := by decide +kernel
theorem d40_60 : decode method_6_code 60 = .ok (.aload_n 0, 1) := by decide +kernel
theorem d40_61 : decode method_6_code 61 = .ok (.iload_n 1, 1) := by decide +kernel
theorem d40_62 : decode method_6_code 62 = .ok (.iload_n 2, 1) := by decide +kernel
theorem d40_63 : decode method_6_code 63 = .ok (.lload_n 3, 1) := by decide +kernel
theorem d40_64 : decode method_6_code 64 = .ok (.iload 5, 2) := by decide +kernel
theorem d40_66 : decode method_6_code 66 = .ok (.iconst 4, 1) := by decide +kernel
theorem d40_67 : decode method_6_code 67 = .ok (.invokestatic 77, 3) := by decide +kernel
theorem d40_70 : decode method_6_code 70 = .ok (.ifCond .ne 5, 3) := by decide +kernel
theorem d40_73 : decode method_6_code 73 = .ok (.iconst 0, 1) := by decide +kernel
theorem d40_74 : decode method_6_code 74 = .ok (.ireturn, 1) := by decide +kernel
theorem d40_75 : decode method_6_code 75 = .ok (.aload_n 0, 1) := by decide +kernel
theorem d40_76 : decode method_6_code 76 = .ok (.iload_n 1, 1) := by decide +kernel
theorem d40_77 : decode method_6_code 77 = .ok (.iload_n 2, 1) := by decide +kernel
theorem d40_78 : decode method_6_code 78 = .ok (.lload_n 3, 1) := by decide +kernel
theorem d40_79 : decode method_6_code 79 = .ok (.iload 5, 2) := by decide +kernel
theorem d40_81 : decode method_6_code 81 = .ok (.iconst 5, 1) := by decide +kernel
theorem d40_82 : decode method_6_code 82 = .ok (.invokestatic 77, 3) := by decide +kernel
theorem d40_85 : decode method_6_code 85 = .ok (.ifCond .ne 5, 3) := by decide +kernel
theorem d40_88 : decode method_6_code 88 = .ok (.iconst 0, 1) := by decide +kernel
theorem d40_89 : decode method_6_code 89 = .ok (.ireturn, 1) := by decide +kernel
theorem d40_90 : decode method_6_code 90 = .ok (.aload_n 0, 1) := by decide +kernel
theorem d40_91 : decode method_6_code 91 = .ok (.iload_n 1, 1) := by decide +kernel
theorem d40_92 : decode method_6_code 92 = .ok (.iload_n 2, 1) := by decide +kernel
theorem d40_93 : decode method_6_code 93 = .ok (.lload_n 3, 1) := by decide +kernel
theorem d40_94 : decode method_6_code 94 = .ok (.iload 5, 2) := by decide +kernel
theorem d40_96 : decode method_6_code 96 = .ok (.bipush 6, 2) := by decide +kernel
theorem d40_98 : decode method_6_code 98 = .ok (.invokestatic 77, 3) := by decide +kernel
theorem d40_101 : decode method_6_code 101 = .ok (.ifCond .ne 5, 3) := by decide +kernel
theorem d40_104 : decode method_6_code 104 = .ok (.iconst 0, 1) := by decide +kernel
theorem d40_105 : decode method_6_code 105 = .ok (.ireturn, 1) := by decide +kernel
theorem d40_106 : decode method_6_code 106 = .ok (.aload_n 0, 1) := by decide +kernel
theorem d40_107 : decode method_6_code 107 = .ok (.iload_n 1, 1) := by decide +kernel
theorem d40_108 : decode method_6_code 108 = .ok (.iload_n 2, 1) := by decide +kernel
theorem d40_109 : decode method_6_code 109 = .ok (.lload_n 3, 1) := by decide +kernel
theorem d40_110 : decode method_6_code 110 = .ok (.iload 5, 2) := by decide +kernel
theorem d40_112 : decode method_6_code 112 = .ok (.bipush 7, 2) := by decide +kernel
theorem d40_114 : decode method_6_code 114 = .ok (.invokestatic 77, 3) := by decide +kernel
theorem d40_117 : decode method_6_code 117 = .ok (.ifCond .ne 5, 3) := by decide +kernel
theorem d40_120 : decode method_6_code 120 = .ok (.iconst 0, 1) := by decide +kernel
theorem d40_121 : decode method_6_code 121 = .ok (.ireturn, 1) := by decide +kernel
theorem d40_122 : decode method_6_code 122 = .ok (.aload_n 0, 1) := by decide +kernel
theorem d40_123 : decode method_6_code 123 = .ok (.iload_n 1, 1) := by decide +kernel
theorem d40_124 : decode method_6_code 124 = .ok (.iload_n 2, 1) := by decide +kernel
theorem d40_125 : decode method_6_code 125 = .ok (.lload_n 3, 1) := by decide +kernel
theorem d40_126 : decode method_6_code 126 = .ok (.iload 5, 2) := by decide +kernel
theorem d40_128 : decode method_6_code 128 = .ok (.bipush 8, 2) := by decide +kernel
theorem d40_130 : decode method_6_code 130 = .ok (.invokestatic 77, 3) := by decide +kernel
theorem d40_133 : decode method_6_code 133 = .ok (.ifCond .ne 5, 3) := by decide +kernel
theorem d40_136 : decode method_6_code 136 = .ok (.iconst 0, 1) := by decide +kernel
theorem d40_137 : decode method_6_code 137 = .ok (.ireturn, 1) := by decide +kernel
theorem d40_138 : decode method_6_code 138 = .ok (.aload_n 0, 1) := by decide +kernel
theorem d40_139 : decode method_6_code 139 = .ok (.iload_n 1, 1) := by decide +kernel
theorem d40_140 : decode method_6_code 140 = .ok (.iload_n 2, 1) := by decide +kernel
theorem d40_141 : decode method_6_code 141 = .ok (.lload_n 3, 1) := by decide +kernel
theorem d40_142 : decode method_6_code 142 = .ok (.iload 5, 2) := by decide +kernel
theorem d40_144 : decode method_6_code 144 = .ok (.bipush 9, 2) := by decide +kernel
theorem d40_146 : decode method_6_code 146 = .ok (.invokestatic 77, 3) := by decide +kernel
theorem d40_149 : decode method_6_code 149 = .ok (.ifCond .ne 5, 3) := by decide +kernel
theorem d40_152 : decode method_6_code 152 = .ok (.iconst 0, 1) := by decide +kernel
theorem d40_153 : decode method_6_code 153 = .ok (.ireturn, 1) := by decide +kernel
theorem d40_154 : decode method_6_code 154 = .ok (.aload_n 0, 1) := by decide +kernel
theorem d40_155 : decode method_6_code 155 = .ok (.iload_n 1, 1) := by decide +kernel
theorem d40_156 : decode method_6_code 156 = .ok (.iload_n 2, 1) := by decide +kernel
theorem d40_157 : decode method_6_code 157 = .ok (.lload_n 3, 1) := by decide +kernel
theorem d40_158 : decode method_6_code 158 = .ok (.iload 5, 2) := by decide +kernel
theorem d40_160 : decode method_6_code 160 = .ok (.bipush 10, 2) := by decide +kernel
theorem d40_162 : decode method_6_code 162 = .ok (.invokestatic 77, 3) := by decide +kernel
theorem d40_165 : decode method_6_code 165 = .ok (.ireturn, 1) := by decide +kernel
theorem pf40 : plainFor (⟨"org/dalvista/LabelLinePinLaw", "num", "(Ljava/lang/String;IIJI)Z"⟩ : MethodName) = true := by first | exact plainFor_of_name (by first | (simp [plainName, overriddenIn]; done) | decide +kernel) | decide +kernel
theorem ef_numf (m : MethodId) (z0 : Addr) (z1 : Int32) (z2 : Int32) (z3 : Int64) (z4 : Int32) : entryFrame m #[(.ref z0), (.int z1), (.int z2), (.long z3), (.int z4)] 6 = mkF m 0 #[.val (.ref z0), .val (.int z1), .val (.int z2), .val (.long z3), .second, .val (.int z4)] [] := by first | (simp [entryFrame, mkF, argsToLocals, Value.category, *]; done) | rfl
set_option maxRecDepth 65536 in
set_option maxHeartbeats 40000000 in
theorem rm_numf {l : Launch} {Z : State} {a0 : Array Value} {n0 : Nat} (G : Gl Z a0 n0) {h0 : Heap} (O : Old Z n0 h0) (a : Addr) (cs : List Int32) (off : Nat) (x : Int32) (mm : Int64) (S : Str Z h0 a cs) (hm : mm.toInt = (own_mag x : Int)) (hof : off ≤ 100) (hg : ∀ j, j < own_isz x → cs[off + j]? = (own_istr x)[j]?) :
    Ct [] l Z n0 (⟨"org/dalvista/LabelLinePinLaw", "num", "(Ljava/lang/String;IIJI)Z"⟩ : MethodName) method_6_code 6 (some .boolean) ({ frames := 5, cells := 11, slots := 121, locals := 74 } : Room) #[(.ref a), (.int (Int32.ofNat off)), (.int x), (.long mm), (.int (Int32.ofNat (own_isz x)))] h0 (fun v h => Keep h0 h [] ∧ v = some (.int 1)) := by
  refine Ct.intro pf40 ?_
  intro p e s m below meth c C
  refine AtW.cast ?_ (ef_numf m a (Int32.ofNat off) x mm (Int32.ofNat (own_isz x)))
  refine w_aloadN (q := 1) C rfl rfl d40_0 rfl ?_
  refine w_iloadN (q := 2) C rfl d40_1 rfl ?_
  refine w_iloadN (q := 3) C rfl d40_2 rfl ?_
  refine w_lloadN (q := 4) C rfl d40_3 rfl ?_
  refine w_iload (q := 6) C rfl d40_4 rfl ?_
  refine w_iconst (q := 7) (v := (0 : Int32)) C (by rfl) d40_6 rfl ?_
  refine w_callS (q := 10) (argsL := [(.ref a), (.int (Int32.ofNat off)), (.int x), (.long mm), (.int (Int32.ofNat (own_isz x))), (.int (0 : Int32))]) (S := []) (W := 0) (cells' := 1) (slots' := 11) C (G.1 _ (List.mem_of_getElem? (i := 222) rfl)) (G.1 _ (List.mem_of_getElem? (i := 223) rfl)) (G.1 _ (List.mem_of_getElem? (i := 2) rfl)) (G.1 _ (List.mem_of_getElem? (i := 224) rfl)) (by decide) (rm_numAt G O a cs off x mm 0 S hm hof hg (by decide)) rfl (lenOf pd_32 rfl) rfl (by decide) (own_leb rfl) (by decide) rfl rfl (by decide) (by decide) d40_7 rfl ?_
  rintro _ h296 ⟨Kh296, rfl⟩
  show AtW p l e _ s m _ below meth c n0 _ h296 1 11 (mkF m 10 #[.val (.ref a), .val (.int (Int32.ofNat off)), .val (.int x), .val (.long mm), .second, .val (.int (Int32.ofNat (own_isz x)))] [(.int (1 : Int32))])
  replace S := Str_k0 S Kh296
  replace O := Old_k0 O Kh296
  have K297 := own_K0 (Keep.refl h0 []) Kh296
  refine w_if_ne_t (q := 15) C d40_10 (by decide) (by decide) (by decide) ?_
  refine w_aloadN (q := 16) C rfl rfl d40_15 rfl ?_
  refine w_iloadN (q := 17) C rfl d40_16 rfl ?_
  refine w_iloadN (q := 18) C rfl d40_17 rfl ?_
  refine w_lloadN (q := 19) C rfl d40_18 rfl ?_
  refine w_iload (q := 21) C rfl d40_19 rfl ?_
  refine w_iconst (q := 22) (v := (1 : Int32)) C (by rfl) d40_21 rfl ?_
  refine w_callS (q := 25) (argsL := [(.ref a), (.int (Int32.ofNat off)), (.int x), (.long mm), (.int (Int32.ofNat (own_isz x))), (.int (1 : Int32))]) (S := []) (W := 0) (cells' := 2) (slots' := 22) C (G.1 _ (List.mem_of_getElem? (i := 222) rfl)) (G.1 _ (List.mem_of_getElem? (i := 223) rfl)) (G.1 _ (List.mem_of_getElem? (i := 2) rfl)) (G.1 _ (List.mem_of_getElem? (i := 224) rfl)) (by decide) (rm_numAt G O a cs off x mm 1 S hm hof hg (by decide)) rfl (lenOf pd_32 rfl) rfl (by decide) (own_leb rfl) (by decide) rfl rfl (by decide) (by decide) d40_22 rfl ?_
  rintro _ h298 ⟨Kh298, rfl⟩
  show AtW p l e _ s m _ below meth c n0 _ h298 2 22 (mkF m 25 #[.val (.ref a), .val (.int (Int32.ofNat off)), .val (.int x), .val (.long mm), .second, .val (.int (Int32.ofNat (own_isz x)))] [(.int (1 : Int32))])
  replace S := Str_k0 S Kh298
  replace O := Old_k0 O Kh298
  have K299 := own_K0 K297 Kh298
  refine w_if_ne_t (q := 30) C d40_25 (by decide) (by decide) (by decide) ?_
  refine w_aloadN (q := 31) C rfl rfl d40_30 rfl ?_
  refine w_iloadN (q := 32) C rfl d40_31 rfl ?_
  refine w_iloadN (q := 33) C rfl d40_32 rfl ?_
  refine w_lloadN (q := 34) C rfl d40_33 rfl ?_
  refine w_iload (q := 36) C rfl d40_34 rfl ?_
  refine w_iconst (q := 37) (v := (2 : Int32)) C (by rfl) d40_36 rfl ?_
  refine w_callS (q := 40) (argsL := [(.ref a), (.int (Int32.ofNat off)), (.int x), (.long mm), (.int (Int32.ofNat (own_isz x))), (.int (2 : Int32))]) (S := []) (W := 0) (cells' := 3) (slots' := 33) C (G.1 _ (List.mem_of_getElem? (i := 222) rfl)) (G.1 _ (List.mem_of_getElem? (i := 223) rfl)) (G.1 _ (List.mem_of_getElem? (i := 2) rfl)) (G.1 _ (List.mem_of_getElem? (i := 224) rfl)) (by decide) (rm_numAt G O a cs off x mm 2 S hm hof hg (by decide)) rfl (lenOf pd_32 rfl) rfl (by decide) (own_leb rfl) (by decide) rfl rfl (by decide) (by decide) d40_37 rfl ?_
  rintro _ h300 ⟨Kh300, rfl⟩
  show AtW p l e _ s m _ below meth c n0 _ h300 3 33 (mkF m 40 #[.val (.ref a), .val (.int (Int32.ofNat off)), .val (.int x), .val (.long mm), .second, .val (.int (Int32.ofNat (own_isz x)))] [(.int (1 : Int32))])
  replace S := Str_k0 S Kh300
  replace O := Old_k0 O Kh300
  have K301 := own_K0 K299 Kh300
  refine w_if_ne_t (q := 45) C d40_40 (by decide) (by decide) (by decide) ?_
  refine w_aloadN (q := 46) C rfl rfl d40_45 rfl ?_
  refine w_iloadN (q := 47) C rfl d40_46 rfl ?_
  refine w_iloadN (q := 48) C rfl d40_47 rfl ?_
  refine w_lloadN (q := 49) C rfl d40_48 rfl ?_
  refine w_iload (q := 51) C rfl d40_49 rfl ?_
  refine w_iconst (q := 52) (v := (3 : Int32)) C (by rfl) d40_51 rfl ?_
  refine w_callS (q := 55) (argsL := [(.ref a), (.int (Int32.ofNat off)), (.int x), (.long mm), (.int (Int32.ofNat (own_isz x))), (.int (3 : Int32))]) (S := []) (W := 0) (cells' := 4) (slots' := 44) C (G.1 _ (List.mem_of_getElem? (i := 222) rfl)) (G.1 _ (List.mem_of_getElem? (i := 223) rfl)) (G.1 _ (List.mem_of_getElem? (i := 2) rfl)) (G.1 _ (List.mem_of_getElem? (i := 224) rfl)) (by decide) (rm_numAt G O a cs off x mm 3 S hm hof hg (by decide)) rfl (lenOf pd_32 rfl) rfl (by decide) (own_leb rfl) (by decide) rfl rfl (by decide) (by decide) d40_52 rfl ?_
  rintro _ h302 ⟨Kh302, rfl⟩
  show AtW p l e _ s m _ below meth c n0 _ h302 4 44 (mkF m 55 #[.val (.ref a), .val (.int (Int32.ofNat off)), .val (.int x), .val (.long mm), .second, .val (.int (Int32.ofNat (own_isz x)))] [(.int (1 : Int32))])
  replace S := Str_k0 S Kh302
  replace O := Old_k0 O Kh302
  have K303 := own_K0 K301 Kh302
  refine w_if_ne_t (q := 60) C d40_55 (by decide) (by decide) (by decide) ?_
  refine w_aloadN (q := 61) C rfl rfl d40_60 rfl ?_
  refine w_iloadN (q := 62) C rfl d40_61 rfl ?_
  refine w_iloadN (q := 63) C rfl d40_62 rfl ?_
  refine w_lloadN (q := 64) C rfl d40_63 rfl ?_
  refine w_iload (q := 66) C rfl d40_64 rfl ?_
  refine w_iconst (q := 67) (v := (4 : Int32)) C (by rfl) d40_66 rfl ?_
  refine w_callS (q := 70) (argsL := [(.ref a), (.int (Int32.ofNat off)), (.int x), (.long mm), (.int (Int32.ofNat (own_isz x))), (.int (4 : Int32))]) (S := []) (W := 0) (cells' := 5) (slots' := 55) C (G.1 _ (List.mem_of_getElem? (i := 222) rfl)) (G.1 _ (List.mem_of_getElem? (i := 223) rfl)) (G.1 _ (List.mem_of_getElem? (i := 2) rfl)) (G.1 _ (List.mem_of_getElem? (i := 224) rfl)) (by decide) (rm_numAt G O a cs off x mm 4 S hm hof hg (by decide)) rfl (lenOf pd_32 rfl) rfl (by decide) (own_leb rfl) (by decide) rfl rfl (by decide) (by decide) d40_67 rfl ?_
  rintro _ h304 ⟨Kh304, rfl⟩
  show AtW p l e _ s m _ below meth c n0 _ h304 5 55 (mkF m 70 #[.val (.ref a), .val (.int (Int32.ofNat off)), .val (.int x), .val (.long mm), .second, .val (.int (Int32.ofNat (own_isz x)))] [(.int (1 : Int32))])
  replace S := Str_k0 S Kh304
  replace O := Old_k0 O Kh304
  have K305 := own_K0 K303 Kh304
  refine w_if_ne_t (q := 75) C d40_70 (by decide) (by decide) (by decide) ?_
  refine w_aloadN (q := 76) C rfl rfl d40_75 rfl ?_
  refine w_iloadN (q := 77) C rfl d40_76 rfl ?_
  refine w_iloadN (q := 78) C rfl d40_77 rfl ?_
  refine w_lloadN (q := 79) C rfl d40_78 rfl ?_
  refine w_iload (q := 81) C rfl d40_79 rfl ?_
  refine w_iconst (q := 82) (v := (5 : Int32)) C (by rfl) d40_81 rfl ?_
  refine w_callS (q := 85) (argsL := [(.ref a), (.int (Int32.ofNat off)), (.int x), (.long mm), (.int (Int32.ofNat (own_isz x))), (.int (5 : Int32))]) (S := []) (W := 0) (cells' := 6) (slots' := 66) C (G.1 _ (List.mem_of_getElem? (i := 222) rfl)) (G.1 _ (List.mem_of_getElem? (i := 223) rfl)) (G.1 _ (List.mem_of_getElem? (i := 2) rfl)) (G.1 _ (List.mem_of_getElem? (i := 224) rfl)) (by decide) (rm_numAt G O a cs off x mm 5 S hm hof hg (by decide)) rfl (lenOf pd_32 rfl) rfl (by decide) (own_leb rfl) (by decide) rfl rfl (by decide) (by decide) d40_82 rfl ?_
  rintro _ h306 ⟨Kh306, rfl⟩
  show AtW p l e _ s m _ below meth c n0 _ h306 6 66 (mkF m 85 #[.val (.ref a), .val (.int (Int32.ofNat off)), .val (.int x), .val (.long mm), .second, .val (.int (Int32.ofNat (own_isz x)))] [(.int (1 : Int32))])
  replace S := Str_k0 S Kh306
  replace O := Old_k0 O Kh306
  have K307 := own_K0 K305 Kh306
  refine w_if_ne_t (q := 90) C d40_85 (by decide) (by decide) (by decide) ?_
  refine w_aloadN (q := 91) C rfl rfl d40_90 rfl ?_
  refine w_iloadN (q := 92) C rfl d40_91 rfl ?_
  refine w_iloadN (q := 93) C rfl d40_92 rfl ?_
  refine w_lloadN (q := 94) C rfl d40_93 rfl ?_
  refine w_iload (q := 96) C rfl d40_94 rfl ?_
  refine w_bipush (q := 98) (v := (6 : Int32)) C (by rfl) d40_96 rfl ?_
  refine w_callS (q := 101) (argsL := [(.ref a), (.int (Int32.ofNat off)), (.int x), (.long mm), (.int (Int32.ofNat (own_isz x))), (.int (6 : Int32))]) (S := []) (W := 0) (cells' := 7) (slots' := 77) C (G.1 _ (List.mem_of_getElem? (i := 222) rfl)) (G.1 _ (List.mem_of_getElem? (i := 223) rfl)) (G.1 _ (List.mem_of_getElem? (i := 2) rfl)) (G.1 _ (List.mem_of_getElem? (i := 224) rfl)) (by decide) (rm_numAt G O a cs off x mm 6 S hm hof hg (by decide)) rfl (lenOf pd_32 rfl) rfl (by decide) (own_leb rfl) (by decide) rfl rfl (by decide) (by decide) d40_98 rfl ?_
  rintro _ h308 ⟨Kh308, rfl⟩
  show AtW p l e _ s m _ below meth c n0 _ h308 7 77 (mkF m 101 #[.val (.ref a), .val (.int (Int32.ofNat off)), .val (.int x), .val (.long mm), .second, .val (.int (Int32.ofNat (own_isz x)))] [(.int (1 : Int32))])
  replace S := Str_k0 S Kh308
  replace O := Old_k0 O Kh308
  have K309 := own_K0 K307 Kh308
  refine w_if_ne_t (q := 106) C d40_101 (by decide) (by decide) (by decide) ?_
  refine w_aloadN (q := 107) C rfl rfl d40_106 rfl ?_
  refine w_iloadN (q := 108) C rfl d40_107 rfl ?_
  refine w_iloadN (q := 109) C rfl d40_108 rfl ?_
  refine w_lloadN (q := 110) C rfl d40_109 rfl ?_
  refine w_iload (q := 112) C rfl d40_110 rfl ?_
  refine w_bipush (q := 114) (v := (7 : Int32)) C (by rfl) d40_112 rfl ?_
  refine w_callS (q := 117) (argsL := [(.ref a), (.int (Int32.ofNat off)), (.int x), (.long mm), (.int (Int32.ofNat (own_isz x))), (.int (7 : Int32))]) (S := []) (W := 0) (cells' := 8) (slots' := 88) C (G.1 _ (List.mem_of_getElem? (i := 222) rfl)) (G.1 _ (List.mem_of_getElem? (i := 223) rfl)) (G.1 _ (List.mem_of_getElem? (i := 2) rfl)) (G.1 _ (List.mem_of_getElem? (i := 224) rfl)) (by decide) (rm_numAt G O a cs off x mm 7 S hm hof hg (by decide)) rfl (lenOf pd_32 rfl) rfl (by decide) (own_leb rfl) (by decide) rfl rfl (by decide) (by decide) d40_114 rfl ?_
  rintro _ h310 ⟨Kh310, rfl⟩
  show AtW p l e _ s m _ below meth c n0 _ h310 8 88 (mkF m 117 #[.val (.ref a), .val (.int (Int32.ofNat off)), .val (.int x), .val (.long mm), .second, .val (.int (Int32.ofNat (own_isz x)))] [(.int (1 : Int32))])
  replace S := Str_k0 S Kh310
  replace O := Old_k0 O Kh310
  have K311 := own_K0 K309 Kh310
  refine w_if_ne_t (q := 122) C d40_117 (by decide) (by decide) (by decide) ?_
  refine w_aloadN (q := 123) C rfl rfl d40_122 rfl ?_
  refine w_iloadN (q := 124) C rfl d40_123 rfl ?_
  refine w_iloadN (q := 125) C rfl d40_124 rfl ?_
  refine w_lloadN (q := 126) C rfl d40_125 rfl ?_
  refine w_iload (q := 128) C rfl d40_126 rfl ?_
  refine w_bipush (q := 130) (v := (8 : Int32)) C (by rfl) d40_128 rfl ?_
  refine w_callS (q := 133) (argsL := [(.ref a), (.int (Int32.ofNat off)), (.int x), (.long mm), (.int (Int32.ofNat (own_isz x))), (.int (8 : Int32))]) (S := []) (W := 0) (cells' := 9) (slots' := 99) C (G.1 _ (List.mem_of_getElem? (i := 222) rfl)) (G.1 _ (List.mem_of_getElem? (i := 223) rfl)) (G.1 _ (List.mem_of_getElem? (i := 2) rfl)) (G.1 _ (List.mem_of_getElem? (i := 224) rfl)) (by decide) (rm_numAt G O a cs off x mm 8 S hm hof hg (by decide)) rfl (lenOf pd_32 rfl) rfl (by decide) (own_leb rfl) (by decide) rfl rfl (by decide) (by decide) d40_130 rfl ?_
  rintro _ h312 ⟨Kh312, rfl⟩
  show AtW p l e _ s m _ below meth c n0 _ h312 9 99 (mkF m 133 #[.val (.ref a), .val (.int (Int32.ofNat off)), .val (.int x), .val (.long mm), .second, .val (.int (Int32.ofNat (own_isz x)))] [(.int (1 : Int32))])
  replace S := Str_k0 S Kh312
  replace O := Old_k0 O Kh312
  have K313 := own_K0 K311 Kh312
  refine w_if_ne_t (q := 138) C d40_133 (by decide) (by decide) (by decide) ?_
  refine w_aloadN (q := 139) C rfl rfl d40_138 rfl ?_
  refine w_iloadN (q := 140) C rfl d40_139 rfl ?_
  refine w_iloadN (q := 141) C rfl d40_140 rfl ?_
  refine w_lloadN (q := 142) C rfl d40_141 rfl ?_
  refine w_iload (q := 144) C rfl d40_142 rfl ?_
  refine w_bipush (q := 146) (v := (9 : Int32)) C (by rfl) d40_144 rfl ?_
  refine w_callS (q := 149) (argsL := [(.ref a), (.int (Int32.ofNat off)), (.int x), (.long mm), (.int (Int32.ofNat (own_isz x))), (.int (9 : Int32))]) (S := []) (W := 0) (cells' := 10) (slots' := 110) C (G.1 _ (List.mem_of_getElem? (i := 222) rfl)) (G.1 _ (List.mem_of_getElem? (i := 223) rfl)) (G.1 _ (List.mem_of_getElem? (i := 2) rfl)) (G.1 _ (List.mem_of_getElem? (i := 224) rfl)) (by decide) (rm_numAt G O a cs off x mm 9 S hm hof hg (by decide)) rfl (lenOf pd_32 rfl) rfl (by decide) (own_leb rfl) (by decide) rfl rfl (by decide) (by decide) d40_146 rfl ?_
  rintro _ h314 ⟨Kh314, rfl⟩
  show AtW p l e _ s m _ below meth c n0 _ h314 10 110 (mkF m 149 #[.val (.ref a), .val (.int (Int32.ofNat off)), .val (.int x), .val (.long mm), .second, .val (.int (Int32.ofNat (own_isz x)))] [(.int (1 : Int32))])
  replace S := Str_k0 S Kh314
  replace O := Old_k0 O Kh314
  have K315 := own_K0 K313 Kh314
  refine w_if_ne_t (q := 154) C d40_149 (by decide) (by decide) (by decide) ?_
  refine w_aloadN (q := 155) C rfl rfl d40_154 rfl ?_
  refine w_iloadN (q := 156) C rfl d40_155 rfl ?_
  refine w_iloadN (q := 157) C rfl d40_156 rfl ?_
  refine w_lloadN (q := 158) C rfl d40_157 rfl ?_
  refine w_iload (q := 160) C rfl d40_158 rfl ?_
  refine w_bipush (q := 162) (v := (10 : Int32)) C (by rfl) d40_160 rfl ?_
  refine w_callS (q := 165) (argsL := [(.ref a), (.int (Int32.ofNat off)), (.int x), (.long mm), (.int (Int32.ofNat (own_isz x))), (.int (10 : Int32))]) (S := []) (W := 0) (cells' := 11) (slots' := 121) C (G.1 _ (List.mem_of_getElem? (i := 222) rfl)) (G.1 _ (List.mem_of_getElem? (i := 223) rfl)) (G.1 _ (List.mem_of_getElem? (i := 2) rfl)) (G.1 _ (List.mem_of_getElem? (i := 224) rfl)) (by decide) (rm_numAt G O a cs off x mm 10 S hm hof hg (by decide)) rfl (lenOf pd_32 rfl) rfl (by decide) (own_leb rfl) (by decide) rfl rfl (by decide) (by decide) d40_162 rfl ?_
  rintro _ h316 ⟨Kh316, rfl⟩
  show AtW p l e _ s m _ below meth c n0 _ h316 11 121 (mkF m 165 #[.val (.ref a), .val (.int (Int32.ofNat off)), .val (.int x), .val (.long mm), .second, .val (.int (Int32.ofNat (own_isz x)))] [(.int (1 : Int32))])
  replace S := Str_k0 S Kh316
  replace O := Old_k0 O Kh316
  have K317 := own_K0 K315 Kh316
  exact w_retZ (z := (1 : Int32)) C (t := .boolean) rfl (by simp) (by decide) d40_165 (by decide) (by decide) ⟨K317, rfl⟩
theorem own_m3 (x : Int32) : ∃ k : Nat, k ≤ 2 ∧ (x &&& (3 : Int32)) % (3 : Int32) = Int32.ofNat k := by
  obtain ⟨j, hj, e⟩ := own_maskN x 3 2 (by decide) (by decide)
  have t : ∀ k : Fin 4, ∃ q : Fin 3, (Int32.ofNat k.val) % (3 : Int32) = Int32.ofNat q.val := by decide +kernel
  obtain ⟨q, hq⟩ := t ⟨j, hj⟩
  exact ⟨q.val, by omega, by rw [e]; exact hq⟩
-- CUT
theorem pf0 : plainFor (⟨"org/dalvista/LabelLinePinLaw", "law", "(III)Z"⟩ : MethodName) = true := by first | exact plainFor_of_name (by first | (simp [plainName, overriddenIn]; done) | decide +kernel) | decide +kernel
theorem ef_law (m : MethodId) (z0 : Int32) (z1 : Int32) (z2 : Int32) : entryFrame m #[(.int z0), (.int z1), (.int z2)] maxLocals = mkF m 0 #[.val (.int z0), .val (.int z1), .val (.int z2), .unset, .unset, .unset, .unset, .unset, .unset, .unset, .unset, .unset, .unset, .unset, .unset, .unset, .unset, .unset] [] := by first | (simp [entryFrame, mkF, argsToLocals, Value.category, *, maxLocals]; done) | rfl
set_option maxRecDepth 65536 in
set_option maxHeartbeats 40000000 in
theorem rm_law {l : Launch} {Z : State} {a0 : Array Value} {n0 : Nat} (G : Gl Z a0 n0) {h0 : Heap} (O : Old Z n0 h0) (kk : Int32) (nb : Int32) (dd : Int32) :
    Cs tables_1 l Z consts_1 n0 x code maxLocals ret room_1 #[(.int kk), (.int nb), (.int dd)] h0 (fun v h => v = some (.int 1)) := by
  refine Cs.intro pf0 ?_
  intro p e s m below meth c C
  refine AtS.cast ?_ (ef_law m kk nb dd)
  refine s_iloadN (q := 1) C rfl at_0 rfl ?_
  refine s_bipush (q := 3) (v := (16 : Int32)) C (by rfl) at_1 rfl ?_
  refine s_iushr (q := 4) C rfl at_3 rfl ?_
  refine s_iconst (q := 5) (v := (3 : Int32)) C (by rfl) at_4 rfl ?_
  refine s_iand (q := 6) C rfl at_5 rfl ?_
  refine s_iconst (q := 7) (v := (3 : Int32)) C (by rfl) at_6 rfl ?_
  refine s_irem (q := 8) C (by decide) rfl at_7 rfl ?_
  obtain ⟨k, hk, ek⟩ := own_m3 ((kk.toUInt32 >>> ((16 : Int32) &&& 31).toUInt32).toInt32)
  rw [show ((((kk.toUInt32 >>> ((16 : Int32) &&& 31).toUInt32).toInt32) &&& (3 : Int32)) % (3 : Int32)) = (Int32.ofNat k) from ek]
  refine s_istoreN (q := 9) (L' := #[.val (.int kk), .val (.int nb), .val (.int dd), .val (.int (Int32.ofNat k)), .unset, .unset, .unset, .unset, .unset, .unset, .unset, .unset, .unset, .unset, .unset, .unset, .unset, .unset]) C rfl at_8 rfl ?_
  refine s_iloadN (q := 10) C rfl at_9 rfl ?_
  refine s_sipush (q := 13) (v := (255 : Int32)) C (by rfl) at_10 rfl ?_
  refine s_iand (q := 14) C rfl at_13 rfl ?_
  refine s_i2c (q := 15) C rfl at_14 rfl ?_
  rw [show ((kk &&& (255 : Int32)).toUInt32.toUInt16.toUInt32.toInt32) = (kk &&& (255 : Int32)) from own_i2c (own_255 _)]
  generalize hx0 : (kk &&& (255 : Int32)) = x0
  have hx0' : ¬ x0 < 0 ∧ ¬ 255 < x0 := by rw [← hx0]; exact own_255 _
  clear hx0
  have hx0 := hx0'
  refine s_istore (q := 17) (L' := #[.val (.int kk), .val (.int nb), .val (.int dd), .val (.int (Int32.ofNat k)), .val (.int x0), .unset, .unset, .unset, .unset, .unset, .unset, .unset, .unset, .unset, .unset, .unset, .unset, .unset]) C rfl at_15 rfl ?_
  refine s_iloadN (q := 18) C rfl at_17 rfl ?_
  refine s_bipush (q := 20) (v := (8 : Int32)) C (by rfl) at_18 rfl ?_
  refine s_iushr (q := 21) C rfl at_20 rfl ?_
  refine s_sipush (q := 24) (v := (255 : Int32)) C (by rfl) at_21 rfl ?_
  refine s_iand (q := 25) C rfl at_24 rfl ?_
  refine s_i2c (q := 26) C rfl at_25 rfl ?_
  rw [show ((((kk.toUInt32 >>> ((8 : Int32) &&& 31).toUInt32).toInt32) &&& (255 : Int32)).toUInt32.toUInt16.toUInt32.toInt32) = (((kk.toUInt32 >>> ((8 : Int32) &&& 31).toUInt32).toInt32) &&& (255 : Int32)) from own_i2c (own_255 _)]
  generalize hx1 : (((kk.toUInt32 >>> ((8 : Int32) &&& 31).toUInt32).toInt32) &&& (255 : Int32)) = x1
  have hx1' : ¬ x1 < 0 ∧ ¬ 255 < x1 := by rw [← hx1]; exact own_255 _
  clear hx1
  have hx1 := hx1'
  refine s_istore (q := 28) (L' := #[.val (.int kk), .val (.int nb), .val (.int dd), .val (.int (Int32.ofNat k)), .val (.int x0), .val (.int x1), .unset, .unset, .unset, .unset, .unset, .unset, .unset, .unset, .unset, .unset, .unset, .unset]) C rfl at_26 rfl ?_
  refine s_iloadN (q := 29) C rfl at_28 rfl ?_
  refine s_bipush (q := 31) (v := (16 : Int32)) C (by rfl) at_29 rfl ?_
  refine s_iushr (q := 32) C rfl at_31 rfl ?_
  refine s_iconst (q := 33) (v := (3 : Int32)) C (by rfl) at_32 rfl ?_
  refine s_iand (q := 34) C rfl at_33 rfl ?_
  refine s_iconst (q := 35) (v := (3 : Int32)) C (by rfl) at_34 rfl ?_
  refine s_irem (q := 36) C (by decide) rfl at_35 rfl ?_
  obtain ⟨q, hq, eq⟩ := own_m3 ((dd.toUInt32 >>> ((16 : Int32) &&& 31).toUInt32).toInt32)
  rw [show ((((dd.toUInt32 >>> ((16 : Int32) &&& 31).toUInt32).toInt32) &&& (3 : Int32)) % (3 : Int32)) = (Int32.ofNat q) from eq]
  refine s_istore (q := 38) (L' := #[.val (.int kk), .val (.int nb), .val (.int dd), .val (.int (Int32.ofNat k)), .val (.int x0), .val (.int x1), .val (.int (Int32.ofNat q)), .unset, .unset, .unset, .unset, .unset, .unset, .unset, .unset, .unset, .unset, .unset]) C rfl at_36 rfl ?_
  refine s_iloadN (q := 39) C rfl at_38 rfl ?_
  refine s_sipush (q := 42) (v := (255 : Int32)) C (by rfl) at_39 rfl ?_
  refine s_iand (q := 43) C rfl at_42 rfl ?_
  refine s_i2c (q := 44) C rfl at_43 rfl ?_
  rw [show ((dd &&& (255 : Int32)).toUInt32.toUInt16.toUInt32.toInt32) = (dd &&& (255 : Int32)) from own_i2c (own_255 _)]
  generalize hy0 : (dd &&& (255 : Int32)) = y0
  have hy0' : ¬ y0 < 0 ∧ ¬ 255 < y0 := by rw [← hy0]; exact own_255 _
  clear hy0
  have hy0 := hy0'
  refine s_istore (q := 46) (L' := #[.val (.int kk), .val (.int nb), .val (.int dd), .val (.int (Int32.ofNat k)), .val (.int x0), .val (.int x1), .val (.int (Int32.ofNat q)), .val (.int y0), .unset, .unset, .unset, .unset, .unset, .unset, .unset, .unset, .unset, .unset]) C rfl at_44 rfl ?_
  refine s_iloadN (q := 47) C rfl at_46 rfl ?_
  refine s_bipush (q := 49) (v := (8 : Int32)) C (by rfl) at_47 rfl ?_
  refine s_iushr (q := 50) C rfl at_49 rfl ?_
  refine s_sipush (q := 53) (v := (255 : Int32)) C (by rfl) at_50 rfl ?_
  refine s_iand (q := 54) C rfl at_53 rfl ?_
  refine s_i2c (q := 55) C rfl at_54 rfl ?_
  rw [show ((((dd.toUInt32 >>> ((8 : Int32) &&& 31).toUInt32).toInt32) &&& (255 : Int32)).toUInt32.toUInt16.toUInt32.toInt32) = (((dd.toUInt32 >>> ((8 : Int32) &&& 31).toUInt32).toInt32) &&& (255 : Int32)) from own_i2c (own_255 _)]
  generalize hy1 : (((dd.toUInt32 >>> ((8 : Int32) &&& 31).toUInt32).toInt32) &&& (255 : Int32)) = y1
  have hy1' : ¬ y1 < 0 ∧ ¬ 255 < y1 := by rw [← hy1]; exact own_255 _
  clear hy1
  have hy1 := hy1'
  refine s_istore (q := 57) (L' := #[.val (.int kk), .val (.int nb), .val (.int dd), .val (.int (Int32.ofNat k)), .val (.int x0), .val (.int x1), .val (.int (Int32.ofNat q)), .val (.int y0), .val (.int y1), .unset, .unset, .unset, .unset, .unset, .unset, .unset, .unset, .unset]) C rfl at_55 rfl ?_
  refine s_iloadN (q := 58) C rfl at_57 rfl ?_
  refine s_iload (q := 60) C rfl at_58 rfl ?_
  refine s_iload (q := 62) C rfl at_60 rfl ?_
  refine s_callS2 (q := 65) (argsL := [(.int (Int32.ofNat k)), (.int x0), (.int x1)]) (S := []) (W := 0) (cells' := 3) (slots' := 8) C G.el (G.1 _ (List.mem_of_getElem? (i := 0) rfl)) (G.1 _ (List.mem_of_getElem? (i := 1) rfl)) (G.1 _ (List.mem_of_getElem? (i := 2) rfl)) (G.1 _ (List.mem_of_getElem? (i := 3) rfl)) (by decide) (rm_makef G O k x0 x1 hk hx0 hx1) rfl (lenOf pd_1 rfl) rfl (by decide) (own_leb rfl) (by decide) rfl rfl (by decide) (by decide) at_62 rfl ?_
  rintro _ h318 ⟨Kh318, a, rfl, S⟩
  show AtS p l e _ s m _ below meth c Z _ _ n0 _ _ _ h318 3 8 (mkF m 65 #[.val (.int kk), .val (.int nb), .val (.int dd), .val (.int (Int32.ofNat k)), .val (.int x0), .val (.int x1), .val (.int (Int32.ofNat q)), .val (.int y0), .val (.int y1), .unset, .unset, .unset, .unset, .unset, .unset, .unset, .unset, .unset] [(.ref a)])
  replace O := Old_k0 O Kh318
  refine s_astore (q := 67) (L' := #[.val (.int kk), .val (.int nb), .val (.int dd), .val (.int (Int32.ofNat k)), .val (.int x0), .val (.int x1), .val (.int (Int32.ofNat q)), .val (.int y0), .val (.int y1), .val (.ref a), .unset, .unset, .unset, .unset, .unset, .unset, .unset, .unset]) C rfl rfl at_65 rfl ?_
  refine s_iload (q := 69) C rfl at_67 rfl ?_
  refine s_iload (q := 71) C rfl at_69 rfl ?_
  refine s_iload (q := 73) C rfl at_71 rfl ?_
  refine s_callS2 (q := 76) (argsL := [(.int (Int32.ofNat q)), (.int y0), (.int y1)]) (S := []) (W := 0) (cells' := 6) (slots' := 16) C G.el (G.1 _ (List.mem_of_getElem? (i := 0) rfl)) (G.1 _ (List.mem_of_getElem? (i := 1) rfl)) (G.1 _ (List.mem_of_getElem? (i := 2) rfl)) (G.1 _ (List.mem_of_getElem? (i := 3) rfl)) (by decide) (rm_makef G O q y0 y1 hq hy0 hy1) rfl (lenOf pd_1 rfl) rfl (by decide) (own_leb rfl) (by decide) rfl rfl (by decide) (by decide) at_73 rfl ?_
  rintro _ h319 ⟨Kh319, b, rfl, S2⟩
  show AtS p l e _ s m _ below meth c Z _ _ n0 _ _ _ h319 6 16 (mkF m 76 #[.val (.int kk), .val (.int nb), .val (.int dd), .val (.int (Int32.ofNat k)), .val (.int x0), .val (.int x1), .val (.int (Int32.ofNat q)), .val (.int y0), .val (.int y1), .val (.ref a), .unset, .unset, .unset, .unset, .unset, .unset, .unset, .unset] [(.ref b)])
  replace S := Str_k0 S Kh319
  replace O := Old_k0 O Kh319
  refine s_astore (q := 78) (L' := #[.val (.int kk), .val (.int nb), .val (.int dd), .val (.int (Int32.ofNat k)), .val (.int x0), .val (.int x1), .val (.int (Int32.ofNat q)), .val (.int y0), .val (.int y1), .val (.ref a), .val (.ref b), .unset, .unset, .unset, .unset, .unset, .unset, .unset]) C rfl rfl at_76 rfl ?_
  refine s_new (q := 81) (cells' := 7) (slots' := 19) C (G.1 _ (List.mem_of_getElem? (i := 12) rfl)) (G.1 _ (List.mem_of_getElem? (i := 13) rfl)) (G.1 _ (List.mem_of_getElem? (i := 14) rfl)) rfl rfl (by decide) (by decide) at_78 rfl ?_
  intro h320 o321 g_o321 Eh320 A_o321 D_o321
  have F_kind_o321 : Fld Z h320 o321 "org/dalvista/Label" "kind" "Ljava/lang/String;" .null := D_o321 (Or.inr (G.1 _ (List.mem_of_getElem? (i := 27) rfl))) (ty := (.object "java/lang/String")) (by decide)
  have F_number_o321 : Fld Z h320 o321 "org/dalvista/Label" "number" "I" (.int (0 : Int32)) := D_o321 (Or.inr (G.1 _ (List.mem_of_getElem? (i := 29) rfl))) (ty := .int) (by decide)
  have F_definition_o321 : Fld Z h320 o321 "org/dalvista/Label" "definition" "Ljava/lang/String;" .null := D_o321 (Or.inr (G.1 _ (List.mem_of_getElem? (i := 31) rfl))) (ty := (.object "java/lang/String")) (by decide)
  have ge : n0 ≤ o321 := by rw [g_o321]; exact Old_le O
  have KN : Keep h319 h320 [] := Keep.of_ext Eh320
  have OL : h319.size ≤ o321 := Nat.le_of_eq g_o321.symm
  have O9 := Old_k0 O KN
  refine s_dup (q := 82) C rfl at_81 rfl ?_
  refine s_aload (q := 84) C rfl rfl at_82 rfl ?_
  refine s_iloadN (q := 85) C rfl at_84 rfl ?_
  refine s_aload (q := 87) C rfl rfl at_85 rfl ?_
  refine s_callI1 (q := 90) (argsL := [(.ref a), (.int nb), (.ref b)]) (S := [(.ref o321)]) (W := 1) (cells' := 7) (slots' := 19) (a := o321) C rfl (G.1 _ (List.mem_of_getElem? (i := 15) rfl)) (G.1 _ (List.mem_of_getElem? (i := 16) rfl)) (G.1 _ (List.mem_of_getElem? (i := 14) rfl)) (G.1 _ (List.mem_of_getElem? (i := 17) rfl)) (by decide) (rm_lbinit G O9 o321 a nb b A_o321 F_kind_o321 F_number_o321 F_definition_o321 ge) rfl (lenOf pd_2 rfl) rfl (by decide) (own_leb rfl) (by decide) rfl rfl (by decide) (by decide) (wl := [o321]) (fun _ _ q => q.1) (allS (SfOk.exa A_o321 (by decide)) (all0)) at_87 rfl ?_
  rintro _ h322 ⟨Kh322, rfl, e0, e_kind, e_number, e_definition⟩
  show AtS p l e _ s m _ below meth c Z _ _ n0 _ _ _ h322 7 19 (mkF m 90 #[.val (.int kk), .val (.int nb), .val (.int dd), .val (.int (Int32.ofNat k)), .val (.int x0), .val (.int x1), .val (.int (Int32.ofNat q)), .val (.int y0), .val (.int y1), .val (.ref a), .val (.ref b), .unset, .unset, .unset, .unset, .unset, .unset, .unset] [(.ref o321)])
  have KM : Keep h319 h322 [] := own_K1 KN Kh322 OL
  replace S := Str_k0 S KM
  replace S2 := Str_k0 S2 KM
  replace O := Old_k0 O KM
  have hkl : ([x0, x1].take k).length = k := by rw [List.length_take]; exact Nat.min_eq_left (by simpa using hk)
  have hql : ([y0, y1].take q).length = q := by rw [List.length_take]; exact Nat.min_eq_left (by simpa using hq)
  refine s_callV2 (q := 93) (argsL := []) (S := []) (W := 0) (cells' := 28) (slots' := 377) (a := o321) C G.el e0 (G.1 _ (List.mem_of_getElem? (i := 32) rfl)) (G.1 _ (List.mem_of_getElem? (i := 33) rfl)) (s_nf (G.1 _ (List.mem_of_getElem? (i := 35) rfl))) (G.1 _ (List.mem_of_getElem? (i := 35) rfl)) (G.1 _ (List.mem_of_getElem? (i := 34) rfl)) (G.1 _ (List.mem_of_getElem? (i := 14) rfl)) (G.1 _ (List.mem_of_getElem? (i := 36) rfl)) (by decide) (rm_linef G O o321 a ([x0, x1].take k) nb b ([y0, y1].take q) e_kind e_number S (by omega) e_definition S2 (by omega) e0) rfl (lenOf pd_4 rfl) rfl (by decide) (own_leb rfl) (by decide) rfl rfl (by decide) (by decide) at_90 rfl ?_
  rintro _ h323 ⟨Kh323, r, rfl, T⟩
  show AtS p l e _ s m _ below meth c Z _ _ n0 _ _ _ h323 28 377 (mkF m 93 #[.val (.int kk), .val (.int nb), .val (.int dd), .val (.int (Int32.ofNat k)), .val (.int x0), .val (.int x1), .val (.int (Int32.ofNat q)), .val (.int y0), .val (.int y1), .val (.ref a), .val (.ref b), .unset, .unset, .unset, .unset, .unset, .unset, .unset] [(.ref r)])
  replace O := Old_k0 O Kh323
  have hN := own_mag_le nb
  have hdp := SBG.digits_pos (own_mag nb)
  have hiz := own_isz_le nb
  refine s_astore (q := 95) (L' := #[.val (.int kk), .val (.int nb), .val (.int dd), .val (.int (Int32.ofNat k)), .val (.int x0), .val (.int x1), .val (.int (Int32.ofNat q)), .val (.int y0), .val (.int y1), .val (.ref a), .val (.ref b), .val (.ref r), .unset, .unset, .unset, .unset, .unset, .unset]) C rfl rfl at_93 rfl ?_
  refine s_iloadN (q := 96) C rfl at_95 rfl ?_
  refine s_i2l (q := 97) C rfl at_96 rfl ?_
  refine s_callS1 (q := 100) (argsL := [(.long (nb.toInt64))]) (S := []) (W := 0) (cells' := 28) (slots' := 377) C (G.1 _ (List.mem_of_getElem? (i := 178) rfl)) (G.1 _ (List.mem_of_getElem? (i := 179) rfl)) (G.1 _ (List.mem_of_getElem? (i := 174) rfl)) (G.1 _ (List.mem_of_getElem? (i := 180) rfl)) (by decide) (rm_absL G O nb) rfl (lenOf pd_25 rfl) rfl (by decide) (own_leb rfl) (by decide) rfl rfl (by decide) (by decide) (wl := []) (fun _ _ q => by rw [q.1]; exact Keep.refl _ _) all0 at_97 rfl ?_
  rintro _ h324 ⟨eh325, mm, rfl, hm⟩
  rw [eh325]
  show AtS p l e _ s m _ below meth c Z _ _ n0 _ _ _ h323 28 377 (mkF m 100 #[.val (.int kk), .val (.int nb), .val (.int dd), .val (.int (Int32.ofNat k)), .val (.int x0), .val (.int x1), .val (.int (Int32.ofNat q)), .val (.int y0), .val (.int y1), .val (.ref a), .val (.ref b), .val (.ref r), .unset, .unset, .unset, .unset, .unset, .unset] [(.long mm)])
  refine s_lstore (q := 102) (L' := #[.val (.int kk), .val (.int nb), .val (.int dd), .val (.int (Int32.ofNat k)), .val (.int x0), .val (.int x1), .val (.int (Int32.ofNat q)), .val (.int y0), .val (.int y1), .val (.ref a), .val (.ref b), .val (.ref r), .val (.long mm), .second, .unset, .unset, .unset, .unset]) C rfl at_100 rfl ?_
  refine s_lload (q := 104) C rfl at_102 rfl ?_
  refine s_callS1 (q := 107) (argsL := [(.long mm)]) (S := []) (W := 0) (cells' := 28) (slots' := 377) C (G.1 _ (List.mem_of_getElem? (i := 181) rfl)) (G.1 _ (List.mem_of_getElem? (i := 182) rfl)) (G.1 _ (List.mem_of_getElem? (i := 2) rfl)) (G.1 _ (List.mem_of_getElem? (i := 183) rfl)) (by decide) (rm_digitsf G O mm (own_mag nb) hm hN) rfl (lenOf pd_26 rfl) rfl (by decide) (own_leb rfl) (by decide) rfl rfl (by decide) (by decide) (wl := []) (fun _ _ q => by rw [q.1]; exact Keep.refl _ _) all0 at_104 rfl ?_
  rintro _ h326 ⟨eh327, rfl⟩
  rw [eh327]
  show AtS p l e _ s m _ below meth c Z _ _ n0 _ _ _ h323 28 377 (mkF m 107 #[.val (.int kk), .val (.int nb), .val (.int dd), .val (.int (Int32.ofNat k)), .val (.int x0), .val (.int x1), .val (.int (Int32.ofNat q)), .val (.int y0), .val (.int y1), .val (.ref a), .val (.ref b), .val (.ref r), .val (.long mm), .second, .unset, .unset, .unset, .unset] [(.int (Int32.ofNat (SBG.digits (own_mag nb))))])
  refine s_iloadN (q := 108) C rfl at_107 rfl ?_
  have hFL : ((((([(36 : Int32), (40 : Int32)] ++ ([x0, x1].take k)) ++ own_istr nb) ++ [(41 : Int32)]) ++ [(58 : Int32), (32 : Int32)]) ++ ([y0, y1].take q)).length = 2 + k + (own_isz nb) + 3 + q := by simp only [List.length_append, own_istr_len, hkl, hql, List.length_cons, List.length_nil]; first | done | omega
  have hFE : ((((([(36 : Int32), (40 : Int32)] ++ ([x0, x1].take k)) ++ own_istr nb) ++ [(41 : Int32)]) ++ [(58 : Int32), (32 : Int32)]) ++ ([y0, y1].take q)) = ([(36 : Int32), (40 : Int32)] ++ (([x0, x1].take k) ++ (own_istr nb ++ ([(41 : Int32), (58 : Int32), (32 : Int32)] ++ ([y0, y1].take q))))) := by simp only [List.append_assoc]; rfl
  have gK : ∀ i, ((((([(36 : Int32), (40 : Int32)] ++ ([x0, x1].take k)) ++ own_istr nb) ++ [(41 : Int32)]) ++ [(58 : Int32), (32 : Int32)]) ++ ([y0, y1].take q))[2 + i]? = (([x0, x1].take k) ++ (own_istr nb ++ ([(41 : Int32), (58 : Int32), (32 : Int32)] ++ ([y0, y1].take q))))[i]? := fun i => by rw [hFE, List.getElem?_append_right (by simp)]; congr 1; simp
  have gI : ∀ i, ((((([(36 : Int32), (40 : Int32)] ++ ([x0, x1].take k)) ++ own_istr nb) ++ [(41 : Int32)]) ++ [(58 : Int32), (32 : Int32)]) ++ ([y0, y1].take q))[2 + k + i]? = (own_istr nb ++ ([(41 : Int32), (58 : Int32), (32 : Int32)] ++ ([y0, y1].take q)))[i]? := fun i => by rw [Nat.add_assoc, gK, List.getElem?_append_right (by omega)]; congr 1; omega
  have gS : ∀ i, ((((([(36 : Int32), (40 : Int32)] ++ ([x0, x1].take k)) ++ own_istr nb) ++ [(41 : Int32)]) ++ [(58 : Int32), (32 : Int32)]) ++ ([y0, y1].take q))[2 + k + (own_isz nb) + i]? = ([(41 : Int32), (58 : Int32), (32 : Int32)] ++ ([y0, y1].take q))[i]? := fun i => by rw [Nat.add_assoc, gI, List.getElem?_append_right (by rw [own_istr_len]; omega)]; congr 1; rw [own_istr_len]; omega
  have gQ : ∀ i, ((((([(36 : Int32), (40 : Int32)] ++ ([x0, x1].take k)) ++ own_istr nb) ++ [(41 : Int32)]) ++ [(58 : Int32), (32 : Int32)]) ++ ([y0, y1].take q))[2 + k + (own_isz nb) + 3 + i]? = ([y0, y1].take q)[i]? := fun i => by rw [Nat.add_assoc, gS, List.getElem?_append_right (by simp)]; congr 1; simp
  have J : AtS p l e room_1 s m #[(.int kk), (.int nb), (.int dd)] below meth c Z consts_1 "org/dalvista/LabelLinePinLaw" n0 (fun v h => v = some (.int 1)) h323.size [o321] h323 28 377 (mkF m 117 #[.val (.int kk), .val (.int nb), .val (.int dd), .val (.int (Int32.ofNat k)), .val (.int x0), .val (.int x1), .val (.int (Int32.ofNat q)), .val (.int y0), .val (.int y1), .val (.ref a), .val (.ref b), .val (.ref r), .val (.long mm), .second, .unset, .unset, .unset, .unset] [(.int (Int32.ofNat (own_isz nb)))]) := by
    refine s_istore (q := 119) (L' := #[.val (.int kk), .val (.int nb), .val (.int dd), .val (.int (Int32.ofNat k)), .val (.int x0), .val (.int x1), .val (.int (Int32.ofNat q)), .val (.int y0), .val (.int y1), .val (.ref a), .val (.ref b), .val (.ref r), .val (.long mm), .second, .val (.int (Int32.ofNat (own_isz nb))), .unset, .unset, .unset]) C rfl at_117 rfl ?_
    refine s_iconst (q := 120) (v := (2 : Int32)) C (by rfl) at_119 rfl ?_
    refine s_iloadN (q := 121) C rfl at_120 rfl ?_
    refine s_iadd (q := 122) C rfl at_121 rfl ?_
    rw [show ((2 : Int32) + (Int32.ofNat k)) = (Int32.ofNat (2 + k)) from own_add 2 k]
    refine s_iload (q := 124) C rfl at_122 rfl ?_
    refine s_iadd (q := 125) C rfl at_124 rfl ?_
    rw [show ((Int32.ofNat (2 + k)) + (Int32.ofNat (own_isz nb))) = (Int32.ofNat (2 + k + (own_isz nb))) from own_add _ _]
    refine s_iconst (q := 126) (v := (3 : Int32)) C (by rfl) at_125 rfl ?_
    refine s_iadd (q := 127) C rfl at_126 rfl ?_
    rw [show ((Int32.ofNat (2 + k + (own_isz nb))) + (3 : Int32)) = (Int32.ofNat (2 + k + (own_isz nb) + 3)) from own_add _ 3]
    refine s_iload (q := 129) C rfl at_127 rfl ?_
    refine s_iadd (q := 130) C rfl at_129 rfl ?_
    rw [show ((Int32.ofNat (2 + k + (own_isz nb) + 3)) + (Int32.ofNat q)) = (Int32.ofNat (2 + k + (own_isz nb) + 3 + q)) from own_add _ _]
    refine s_istore (q := 132) (L' := #[.val (.int kk), .val (.int nb), .val (.int dd), .val (.int (Int32.ofNat k)), .val (.int x0), .val (.int x1), .val (.int (Int32.ofNat q)), .val (.int y0), .val (.int y1), .val (.ref a), .val (.ref b), .val (.ref r), .val (.long mm), .second, .val (.int (Int32.ofNat (own_isz nb))), .val (.int (Int32.ofNat (2 + k + (own_isz nb) + 3 + q))), .unset, .unset]) C rfl at_130 rfl ?_
    refine s_aload (q := 134) C rfl rfl at_132 rfl ?_
    refine s_callV1 (q := 137) (argsL := []) (S := []) (W := 0) (cells' := 28) (slots' := 377) (a := r) C T.1 (G.1 _ (List.mem_of_getElem? (i := 193) rfl)) (G.1 _ (List.mem_of_getElem? (i := 72) rfl)) (s_nf (G.1 _ (List.mem_of_getElem? (i := 74) rfl))) (G.1 _ (List.mem_of_getElem? (i := 74) rfl)) (G.1 _ (List.mem_of_getElem? (i := 73) rfl)) (G.1 _ (List.mem_of_getElem? (i := 5) rfl)) (G.1 _ (List.mem_of_getElem? (i := 75) rfl)) (by decide) (rm_length G O r _ T) rfl (lenOf pd_8 rfl) rfl (by decide) (own_leb rfl) (by decide) rfl rfl (by decide) (by decide) (wl := []) (fun _ _ q => by rw [q.1]; exact Keep.refl _ _) all0 at_134 rfl ?_
    rintro _ h328 ⟨eh329, rfl⟩
    rw [eh329]
    show AtS p l e _ s m _ below meth c Z _ _ n0 _ _ _ h323 28 377 (mkF m 137 #[.val (.int kk), .val (.int nb), .val (.int dd), .val (.int (Int32.ofNat k)), .val (.int x0), .val (.int x1), .val (.int (Int32.ofNat q)), .val (.int y0), .val (.int y1), .val (.ref a), .val (.ref b), .val (.ref r), .val (.long mm), .second, .val (.int (Int32.ofNat (own_isz nb))), .val (.int (Int32.ofNat (2 + k + (own_isz nb) + 3 + q))), .unset, .unset] [(.int (Int32.ofNat ((((([(36 : Int32), (40 : Int32)] ++ ([x0, x1].take k)) ++ own_istr nb) ++ [(41 : Int32)]) ++ [(58 : Int32), (32 : Int32)]) ++ ([y0, y1].take q)).length))])
    rw [show (Int32.ofNat ((((([(36 : Int32), (40 : Int32)] ++ ([x0, x1].take k)) ++ own_istr nb) ++ [(41 : Int32)]) ++ [(58 : Int32), (32 : Int32)]) ++ ([y0, y1].take q)).length) = (Int32.ofNat (2 + k + (own_isz nb) + 3 + q)) from by rw [hFL]]
    refine s_iload (q := 139) C rfl at_137 rfl ?_
    refine s_icmp_eq_t (q := 144) C at_139 (by decide) (by decide) rfl ?_
    refine s_aload (q := 146) C rfl rfl at_144 rfl ?_
    refine s_iconst (q := 147) (v := (0 : Int32)) C (by rfl) at_146 rfl ?_
    refine s_callV1 (q := 150) (argsL := [(.int (0 : Int32))]) (S := []) (W := 0) (cells' := 28) (slots' := 377) (a := r) C T.1 (G.1 _ (List.mem_of_getElem? (i := 194) rfl)) (G.1 _ (List.mem_of_getElem? (i := 195) rfl)) (s_nf (G.1 _ (List.mem_of_getElem? (i := 197) rfl))) (G.1 _ (List.mem_of_getElem? (i := 197) rfl)) (G.1 _ (List.mem_of_getElem? (i := 196) rfl)) (G.1 _ (List.mem_of_getElem? (i := 5) rfl)) (G.1 _ (List.mem_of_getElem? (i := 198) rfl)) (by decide) (rm_charAt G O r _ 0 36 T rfl) rfl (lenOf pd_27 rfl) rfl (by decide) (own_leb rfl) (by decide) rfl rfl (by decide) (by decide) (wl := []) (fun _ _ q => by rw [q.1]; exact Keep.refl _ _) all0 at_147 rfl ?_
    rintro _ h330 ⟨eh331, rfl⟩
    rw [eh331]
    show AtS p l e _ s m _ below meth c Z _ _ n0 _ _ _ h323 28 377 (mkF m 150 #[.val (.int kk), .val (.int nb), .val (.int dd), .val (.int (Int32.ofNat k)), .val (.int x0), .val (.int x1), .val (.int (Int32.ofNat q)), .val (.int y0), .val (.int y1), .val (.ref a), .val (.ref b), .val (.ref r), .val (.long mm), .second, .val (.int (Int32.ofNat (own_isz nb))), .val (.int (Int32.ofNat (2 + k + (own_isz nb) + 3 + q))), .unset, .unset] [(.int (36 : Int32))])
    refine s_bipush (q := 152) (v := (36 : Int32)) C (by rfl) at_150 rfl ?_
    refine s_icmp_ne_f (q := 155) C at_152 rfl (by decide) ?_
    refine s_aload (q := 157) C rfl rfl at_155 rfl ?_
    refine s_iconst (q := 158) (v := (1 : Int32)) C (by rfl) at_157 rfl ?_
    refine s_callV1 (q := 161) (argsL := [(.int (1 : Int32))]) (S := []) (W := 0) (cells' := 28) (slots' := 377) (a := r) C T.1 (G.1 _ (List.mem_of_getElem? (i := 194) rfl)) (G.1 _ (List.mem_of_getElem? (i := 195) rfl)) (s_nf (G.1 _ (List.mem_of_getElem? (i := 197) rfl))) (G.1 _ (List.mem_of_getElem? (i := 197) rfl)) (G.1 _ (List.mem_of_getElem? (i := 196) rfl)) (G.1 _ (List.mem_of_getElem? (i := 5) rfl)) (G.1 _ (List.mem_of_getElem? (i := 198) rfl)) (by decide) (rm_charAt G O r _ 1 40 T rfl) rfl (lenOf pd_27 rfl) rfl (by decide) (own_leb rfl) (by decide) rfl rfl (by decide) (by decide) (wl := []) (fun _ _ q => by rw [q.1]; exact Keep.refl _ _) all0 at_158 rfl ?_
    rintro _ h332 ⟨eh333, rfl⟩
    rw [eh333]
    show AtS p l e _ s m _ below meth c Z _ _ n0 _ _ _ h323 28 377 (mkF m 161 #[.val (.int kk), .val (.int nb), .val (.int dd), .val (.int (Int32.ofNat k)), .val (.int x0), .val (.int x1), .val (.int (Int32.ofNat q)), .val (.int y0), .val (.int y1), .val (.ref a), .val (.ref b), .val (.ref r), .val (.long mm), .second, .val (.int (Int32.ofNat (own_isz nb))), .val (.int (Int32.ofNat (2 + k + (own_isz nb) + 3 + q))), .unset, .unset] [(.int (40 : Int32))])
    refine s_bipush (q := 163) (v := (40 : Int32)) C (by rfl) at_161 rfl ?_
    refine s_icmp_eq_t (q := 168) C at_163 (by decide) (by decide) (by decide) ?_
    refine s_aload (q := 170) C rfl rfl at_168 rfl ?_
    refine s_iconst (q := 171) (v := (2 : Int32)) C (by rfl) at_170 rfl ?_
    refine s_iloadN (q := 172) C rfl at_171 rfl ?_
    refine s_iload (q := 174) C rfl at_172 rfl ?_
    refine s_iload (q := 176) C rfl at_174 rfl ?_
    refine s_callS1 (q := 179) (argsL := [(.ref r), (.int (2 : Int32)), (.int (Int32.ofNat k)), (.int x0), (.int x1)]) (S := []) (W := 0) (cells' := 28) (slots' := 377) C (G.1 _ (List.mem_of_getElem? (i := 216) rfl)) (G.1 _ (List.mem_of_getElem? (i := 217) rfl)) (G.1 _ (List.mem_of_getElem? (i := 2) rfl)) (G.1 _ (List.mem_of_getElem? (i := 218) rfl)) (by decide) (rm_partf G O r _ 2 k x0 x1 T hk (fun q => (gK 0).trans (by rw [List.getElem?_append_left (by omega), List.getElem?_take, if_pos (by omega)]; rfl)) (fun q => (gK 1).trans (by rw [List.getElem?_append_left (by omega), List.getElem?_take, if_pos (by omega)]; rfl))) rfl (lenOf pd_30 rfl) rfl (by decide) (own_leb rfl) (by decide) rfl rfl (by decide) (by decide) (wl := []) (fun _ _ q => by rw [q.1]; exact Keep.refl _ _) all0 at_176 rfl ?_
    rintro _ h334 ⟨eh335, rfl⟩
    rw [eh335]
    show AtS p l e _ s m _ below meth c Z _ _ n0 _ _ _ h323 28 377 (mkF m 179 #[.val (.int kk), .val (.int nb), .val (.int dd), .val (.int (Int32.ofNat k)), .val (.int x0), .val (.int x1), .val (.int (Int32.ofNat q)), .val (.int y0), .val (.int y1), .val (.ref a), .val (.ref b), .val (.ref r), .val (.long mm), .second, .val (.int (Int32.ofNat (own_isz nb))), .val (.int (Int32.ofNat (2 + k + (own_isz nb) + 3 + q))), .unset, .unset] [(.int (1 : Int32))])
    refine s_if_ne_t (q := 184) C at_179 (by decide) (by decide) (by decide) ?_
    refine s_iconst (q := 185) (v := (2 : Int32)) C (by rfl) at_184 rfl ?_
    refine s_iloadN (q := 186) C rfl at_185 rfl ?_
    refine s_iadd (q := 187) C rfl at_186 rfl ?_
    rw [show ((2 : Int32) + (Int32.ofNat k)) = (Int32.ofNat (2 + k)) from own_add 2 k]
    refine s_istore (q := 189) (L' := #[.val (.int kk), .val (.int nb), .val (.int dd), .val (.int (Int32.ofNat k)), .val (.int x0), .val (.int x1), .val (.int (Int32.ofNat q)), .val (.int y0), .val (.int y1), .val (.ref a), .val (.ref b), .val (.ref r), .val (.long mm), .second, .val (.int (Int32.ofNat (own_isz nb))), .val (.int (Int32.ofNat (2 + k + (own_isz nb) + 3 + q))), .val (.int (Int32.ofNat (2 + k))), .unset]) C rfl at_187 rfl ?_
    refine s_aload (q := 191) C rfl rfl at_189 rfl ?_
    refine s_iload (q := 193) C rfl at_191 rfl ?_
    refine s_iloadN (q := 194) C rfl at_193 rfl ?_
    refine s_lload (q := 196) C rfl at_194 rfl ?_
    refine s_iload (q := 198) C rfl at_196 rfl ?_
    refine s_callS1 (q := 201) (argsL := [(.ref r), (.int (Int32.ofNat (2 + k))), (.int nb), (.long mm), (.int (Int32.ofNat (own_isz nb)))]) (S := []) (W := 0) (cells' := 39) (slots' := 498) C (G.1 _ (List.mem_of_getElem? (i := 219) rfl)) (G.1 _ (List.mem_of_getElem? (i := 220) rfl)) (G.1 _ (List.mem_of_getElem? (i := 2) rfl)) (G.1 _ (List.mem_of_getElem? (i := 221) rfl)) (by decide) (rm_numf G O r _ (2 + k) nb mm T hm (by omega) (fun j hj => (gI j).trans (List.getElem?_append_left (by rw [own_istr_len]; exact hj)))) rfl (lenOf pd_31 rfl) rfl (by decide) (own_leb rfl) (by decide) rfl rfl (by decide) (by decide) (wl := []) (fun _ _ q => q.1) all0 at_198 rfl ?_
    rintro _ h336 ⟨Kh336, rfl⟩
    show AtS p l e _ s m _ below meth c Z _ _ n0 _ _ _ h336 39 498 (mkF m 201 #[.val (.int kk), .val (.int nb), .val (.int dd), .val (.int (Int32.ofNat k)), .val (.int x0), .val (.int x1), .val (.int (Int32.ofNat q)), .val (.int y0), .val (.int y1), .val (.ref a), .val (.ref b), .val (.ref r), .val (.long mm), .second, .val (.int (Int32.ofNat (own_isz nb))), .val (.int (Int32.ofNat (2 + k + (own_isz nb) + 3 + q))), .val (.int (Int32.ofNat (2 + k))), .unset] [(.int (1 : Int32))])
    replace T := Str_k0 T Kh336
    replace O := Old_k0 O Kh336
    refine s_if_ne_t (q := 206) C at_201 (by decide) (by decide) (by decide) ?_
    refine s_iload (q := 208) C rfl at_206 rfl ?_
    refine s_iload (q := 210) C rfl at_208 rfl ?_
    refine s_iadd (q := 211) C rfl at_210 rfl ?_
    rw [show ((Int32.ofNat (2 + k)) + (Int32.ofNat (own_isz nb))) = (Int32.ofNat (2 + k + (own_isz nb))) from own_add _ _]
    refine s_istore (q := 213) (L' := #[.val (.int kk), .val (.int nb), .val (.int dd), .val (.int (Int32.ofNat k)), .val (.int x0), .val (.int x1), .val (.int (Int32.ofNat q)), .val (.int y0), .val (.int y1), .val (.ref a), .val (.ref b), .val (.ref r), .val (.long mm), .second, .val (.int (Int32.ofNat (own_isz nb))), .val (.int (Int32.ofNat (2 + k + (own_isz nb) + 3 + q))), .val (.int (Int32.ofNat (2 + k))), .val (.int (Int32.ofNat (2 + k + (own_isz nb))))]) C rfl at_211 rfl ?_
    refine s_aload (q := 215) C rfl rfl at_213 rfl ?_
    refine s_iload (q := 217) C rfl at_215 rfl ?_
    refine s_callV1 (q := 220) (argsL := [(.int (Int32.ofNat (2 + k + (own_isz nb))))]) (S := []) (W := 0) (cells' := 39) (slots' := 498) (a := r) C T.1 (G.1 _ (List.mem_of_getElem? (i := 194) rfl)) (G.1 _ (List.mem_of_getElem? (i := 195) rfl)) (s_nf (G.1 _ (List.mem_of_getElem? (i := 197) rfl))) (G.1 _ (List.mem_of_getElem? (i := 197) rfl)) (G.1 _ (List.mem_of_getElem? (i := 196) rfl)) (G.1 _ (List.mem_of_getElem? (i := 5) rfl)) (G.1 _ (List.mem_of_getElem? (i := 198) rfl)) (by decide) (rm_charAt G O r _ (2 + k + (own_isz nb)) 41 T (gS 0)) rfl (lenOf pd_27 rfl) rfl (by decide) (own_leb rfl) (by decide) rfl rfl (by decide) (by decide) (wl := []) (fun _ _ q => by rw [q.1]; exact Keep.refl _ _) all0 at_217 rfl ?_
    rintro _ h337 ⟨eh338, rfl⟩
    rw [eh338]
    show AtS p l e _ s m _ below meth c Z _ _ n0 _ _ _ h336 39 498 (mkF m 220 #[.val (.int kk), .val (.int nb), .val (.int dd), .val (.int (Int32.ofNat k)), .val (.int x0), .val (.int x1), .val (.int (Int32.ofNat q)), .val (.int y0), .val (.int y1), .val (.ref a), .val (.ref b), .val (.ref r), .val (.long mm), .second, .val (.int (Int32.ofNat (own_isz nb))), .val (.int (Int32.ofNat (2 + k + (own_isz nb) + 3 + q))), .val (.int (Int32.ofNat (2 + k))), .val (.int (Int32.ofNat (2 + k + (own_isz nb))))] [(.int (41 : Int32))])
    refine s_bipush (q := 222) (v := (41 : Int32)) C (by rfl) at_220 rfl ?_
    refine s_icmp_ne_f (q := 225) C at_222 rfl (by decide) ?_
    refine s_aload (q := 227) C rfl rfl at_225 rfl ?_
    refine s_iload (q := 229) C rfl at_227 rfl ?_
    refine s_iconst (q := 230) (v := (1 : Int32)) C (by rfl) at_229 rfl ?_
    refine s_iadd (q := 231) C rfl at_230 rfl ?_
    rw [show ((Int32.ofNat (2 + k + (own_isz nb))) + (1 : Int32)) = (Int32.ofNat (2 + k + (own_isz nb) + 1)) from own_add _ 1]
    refine s_callV1 (q := 234) (argsL := [(.int (Int32.ofNat (2 + k + (own_isz nb) + 1)))]) (S := []) (W := 0) (cells' := 39) (slots' := 498) (a := r) C T.1 (G.1 _ (List.mem_of_getElem? (i := 194) rfl)) (G.1 _ (List.mem_of_getElem? (i := 195) rfl)) (s_nf (G.1 _ (List.mem_of_getElem? (i := 197) rfl))) (G.1 _ (List.mem_of_getElem? (i := 197) rfl)) (G.1 _ (List.mem_of_getElem? (i := 196) rfl)) (G.1 _ (List.mem_of_getElem? (i := 5) rfl)) (G.1 _ (List.mem_of_getElem? (i := 198) rfl)) (by decide) (rm_charAt G O r _ (2 + k + (own_isz nb) + 1) 58 T (gS 1)) rfl (lenOf pd_27 rfl) rfl (by decide) (own_leb rfl) (by decide) rfl rfl (by decide) (by decide) (wl := []) (fun _ _ q => by rw [q.1]; exact Keep.refl _ _) all0 at_231 rfl ?_
    rintro _ h339 ⟨eh340, rfl⟩
    rw [eh340]
    show AtS p l e _ s m _ below meth c Z _ _ n0 _ _ _ h336 39 498 (mkF m 234 #[.val (.int kk), .val (.int nb), .val (.int dd), .val (.int (Int32.ofNat k)), .val (.int x0), .val (.int x1), .val (.int (Int32.ofNat q)), .val (.int y0), .val (.int y1), .val (.ref a), .val (.ref b), .val (.ref r), .val (.long mm), .second, .val (.int (Int32.ofNat (own_isz nb))), .val (.int (Int32.ofNat (2 + k + (own_isz nb) + 3 + q))), .val (.int (Int32.ofNat (2 + k))), .val (.int (Int32.ofNat (2 + k + (own_isz nb))))] [(.int (58 : Int32))])
    refine s_bipush (q := 236) (v := (58 : Int32)) C (by rfl) at_234 rfl ?_
    refine s_icmp_ne_f (q := 239) C at_236 rfl (by decide) ?_
    refine s_aload (q := 241) C rfl rfl at_239 rfl ?_
    refine s_iload (q := 243) C rfl at_241 rfl ?_
    refine s_iconst (q := 244) (v := (2 : Int32)) C (by rfl) at_243 rfl ?_
    refine s_iadd (q := 245) C rfl at_244 rfl ?_
    rw [show ((Int32.ofNat (2 + k + (own_isz nb))) + (2 : Int32)) = (Int32.ofNat (2 + k + (own_isz nb) + 2)) from own_add _ 2]
    refine s_callV1 (q := 248) (argsL := [(.int (Int32.ofNat (2 + k + (own_isz nb) + 2)))]) (S := []) (W := 0) (cells' := 39) (slots' := 498) (a := r) C T.1 (G.1 _ (List.mem_of_getElem? (i := 194) rfl)) (G.1 _ (List.mem_of_getElem? (i := 195) rfl)) (s_nf (G.1 _ (List.mem_of_getElem? (i := 197) rfl))) (G.1 _ (List.mem_of_getElem? (i := 197) rfl)) (G.1 _ (List.mem_of_getElem? (i := 196) rfl)) (G.1 _ (List.mem_of_getElem? (i := 5) rfl)) (G.1 _ (List.mem_of_getElem? (i := 198) rfl)) (by decide) (rm_charAt G O r _ (2 + k + (own_isz nb) + 2) 32 T (gS 2)) rfl (lenOf pd_27 rfl) rfl (by decide) (own_leb rfl) (by decide) rfl rfl (by decide) (by decide) (wl := []) (fun _ _ q => by rw [q.1]; exact Keep.refl _ _) all0 at_245 rfl ?_
    rintro _ h341 ⟨eh342, rfl⟩
    rw [eh342]
    show AtS p l e _ s m _ below meth c Z _ _ n0 _ _ _ h336 39 498 (mkF m 248 #[.val (.int kk), .val (.int nb), .val (.int dd), .val (.int (Int32.ofNat k)), .val (.int x0), .val (.int x1), .val (.int (Int32.ofNat q)), .val (.int y0), .val (.int y1), .val (.ref a), .val (.ref b), .val (.ref r), .val (.long mm), .second, .val (.int (Int32.ofNat (own_isz nb))), .val (.int (Int32.ofNat (2 + k + (own_isz nb) + 3 + q))), .val (.int (Int32.ofNat (2 + k))), .val (.int (Int32.ofNat (2 + k + (own_isz nb))))] [(.int (32 : Int32))])
    refine s_bipush (q := 250) (v := (32 : Int32)) C (by rfl) at_248 rfl ?_
    refine s_icmp_eq_t (q := 255) C at_250 (by decide) (by decide) (by decide) ?_
    refine s_aload (q := 257) C rfl rfl at_255 rfl ?_
    refine s_iload (q := 259) C rfl at_257 rfl ?_
    refine s_iconst (q := 260) (v := (3 : Int32)) C (by rfl) at_259 rfl ?_
    refine s_iadd (q := 261) C rfl at_260 rfl ?_
    refine s_iload (q := 263) C rfl at_261 rfl ?_
    refine s_iload (q := 265) C rfl at_263 rfl ?_
    refine s_iload (q := 267) C rfl at_265 rfl ?_
    rw [show ((Int32.ofNat (2 + k + (own_isz nb))) + (3 : Int32)) = (Int32.ofNat (2 + k + (own_isz nb) + 3)) from own_add _ 3]
    refine s_callS1 (q := 270) (argsL := [(.ref r), (.int (Int32.ofNat (2 + k + (own_isz nb) + 3))), (.int (Int32.ofNat q)), (.int y0), (.int y1)]) (S := []) (W := 0) (cells' := 39) (slots' := 498) C (G.1 _ (List.mem_of_getElem? (i := 216) rfl)) (G.1 _ (List.mem_of_getElem? (i := 217) rfl)) (G.1 _ (List.mem_of_getElem? (i := 2) rfl)) (G.1 _ (List.mem_of_getElem? (i := 218) rfl)) (by decide) (rm_partf G O r _ (2 + k + (own_isz nb) + 3) q y0 y1 T hq (fun q2 => (gQ 0).trans (by rw [List.getElem?_take, if_pos (by omega)]; rfl)) (fun q2 => (gQ 1).trans (by rw [List.getElem?_take, if_pos (by omega)]; rfl))) rfl (lenOf pd_30 rfl) rfl (by decide) (own_leb rfl) (by decide) rfl rfl (by decide) (by decide) (wl := []) (fun _ _ q => by rw [q.1]; exact Keep.refl _ _) all0 at_267 rfl ?_
    rintro _ h343 ⟨eh344, rfl⟩
    rw [eh344]
    show AtS p l e _ s m _ below meth c Z _ _ n0 _ _ _ h336 39 498 (mkF m 270 #[.val (.int kk), .val (.int nb), .val (.int dd), .val (.int (Int32.ofNat k)), .val (.int x0), .val (.int x1), .val (.int (Int32.ofNat q)), .val (.int y0), .val (.int y1), .val (.ref a), .val (.ref b), .val (.ref r), .val (.long mm), .second, .val (.int (Int32.ofNat (own_isz nb))), .val (.int (Int32.ofNat (2 + k + (own_isz nb) + 3 + q))), .val (.int (Int32.ofNat (2 + k))), .val (.int (Int32.ofNat (2 + k + (own_isz nb))))] [(.int (1 : Int32))])
    exact s_retZ (z := (1 : Int32)) C G.el (t := .boolean) rfl (by simp) (by decide) at_270 (by decide) (by decide) rfl
  by_cases qn : nb < 0
  · refine s_if_ge_f (q := 111) C at_108 rfl qn ?_
    refine s_iconst (q := 112) (v := (1 : Int32)) C (by rfl) at_111 rfl ?_
    refine s_goto (q := 116) C at_112 (by decide) (by decide) ?_
    refine s_iadd (q := 117) C rfl at_116 rfl ?_
    rw [show ((Int32.ofNat (SBG.digits (own_mag nb))) + (1 : Int32)) = (Int32.ofNat (own_isz nb)) from (own_add _ 1).trans (by unfold own_isz own_sg; rw [if_pos qn])]
    exact J
  · refine s_if_ge_t (q := 115) C at_108 (by decide) (by decide) qn ?_
    refine s_iconst (q := 116) (v := (0 : Int32)) C (by rfl) at_115 rfl ?_
    refine s_iadd (q := 117) C rfl at_116 rfl ?_
    rw [show ((Int32.ofNat (SBG.digits (own_mag nb))) + (0 : Int32)) = (Int32.ofNat (own_isz nb)) from (own_add _ 0).trans (by unfold own_isz own_sg; rw [if_neg qn])]
    exact J
set_option maxRecDepth 65536 in
set_option maxHeartbeats 40000000 in
theorem comes_1 {Post : Tables → Env → Array Value → State → Outcome → State → Prop} (hpost : ∀ tb e args s v u, (limb_1_1.after args s (.returned v) u = true ∧ limb_1_2.after args s (.returned v) u = true ∧ True) → ReturnedEndW s (.returned v) u (Jvm.fieldLocs frame_1_writes args s ++ Jvm.arrayLocs frame_1_arrays args s ++ Jvm.staticLocs frame_1_statics s) 72 4672 → Post tb e args s (.returned v) u) :
    ArmFor flags0 classFile x code maxLocals ret World_1 tables_1 room_1 Calls_1 rest_1 Pre_1 Post := by
  intro l hfl _ _ p e ha hc hk s m args below hf hA hF happ hP
  obtain ⟨hcalls, hrest, hpre⟩ := hP
  obtain ⟨-, -, -, hnamed, -, -, -, hat⟩ := (Spec.applies_iff hf).mp happ
  obtain ⟨hg, hn⟩ := and_e (Cond.before_iff.mp (show (Jvm.Cond.and given_1 narrow_1).before args s = true from hpre))
  obtain ⟨hcount, hg0⟩ := and_e hg
  obtain ⟨ha0, hg1⟩ := and_e hg0
  obtain ⟨ha1, hg2⟩ := and_e hg1
  have ha2 := hg2
  obtain ⟨w0, w1, w2, rfl⟩ : ∃ w0 w1 w2 : Value, args = #[w0, w1, w2] := by
    have hs : args.size = 3 := by simpa [Cond.value, given_1] using hcount
    obtain ⟨L⟩ := args
    match L, hs with
    | [w0, w1, w2], _ => exact ⟨w0, w1, w2, rfl⟩
  have hw := fun d (hd : d ∈ tables_1) => atoms_spec (ws := Jvm.Cond.code x code maxLocals ret :: tables_1) hat d (List.mem_cons_of_mem _ hd)
  have hfit : Fit s := fun {y c} hc i hi => by
    obtain ⟨ha, rfl⟩ := Array.getElem?_eq_some_iff.mp hc
    have q := List.all_eq_true.mp ((Array.all_eq_true_iff_forall_mem.mp hF) _ (Array.getElem_mem ha)) i (List.mem_range.mpr hi)
    simpa [Array.getElem?_eq_getElem hi] using q
  obtain ⟨i0, e0⟩ := is_v ha0
  obtain rfl : w0 = (.int i0) := Option.some.inj e0
  obtain ⟨i1, e1⟩ := is_v ha1
  obtain rfl : w1 = (.int i1) := Option.some.inj e1
  obtain ⟨i2, e2⟩ := is_v ha2
  obtain rfl : w2 = (.int i2) := Option.some.inj e2
  obtain ⟨hsets, hown0⟩ := atoms_of _ (rest_1_c_eq ▸ (show rest_1_c.before _ s = true from hrest))
  have hcs1 := not_v (Cond.before_iff.mp (hsets _ (List.mem_of_getElem? (i := 2) rfl)))
  obtain ⟨zc, ezc⟩ := is_v (Cond.before_iff.mp (hsets _ (List.mem_of_getElem? (i := 1) rfl)))
  have Scs : Sta s s.heap "java/lang/String" "COMPACT_STRINGS" "Z" (.int zc) := Sta.start ezc (Or.inl (hsets _ (List.mem_of_getElem? (i := 0) rfl)))
  have hzc : ¬ (zc = (0 : Int32)) := gotF (Cond.eq_ints ezc (Term.int_eval (0))) hcs1
  obtain ⟨vfm, efm, rfm⟩ := isR_v (Cond.before_iff.mp (hsets _ (List.mem_of_getElem? (i := 8) rfl)))
  have Sfm : Sta s s.heap "jdk/internal/util/Preconditions" "SIOOBE_FORMATTER" "Ljava/util/function/BiFunction;" vfm := Sta.start efm (Or.inl (hsets _ (List.mem_of_getElem? (i := 7) rfl)))
  have hEL : EW s #[(.int i0), (.int i1), (.int i2)] consts_1 := (EW.cons (hw _ (List.mem_of_getElem? (i := 60) rfl)) (by decide +kernel) (EW.cons (hw _ (List.mem_of_getElem? (i := 133) rfl)) (by decide +kernel) (EW.cons (hw _ (List.mem_of_getElem? (i := 177) rfl)) (by decide +kernel) (EW.cons (hw _ (List.mem_of_getElem? (i := 4) rfl)) (by decide +kernel) EW.nil))))
  obtain ⟨xd1, ed1⟩ := exa_v (Cond.before_iff.mp (hsets _ (List.mem_of_getElem? (i := 12) rfl)))
  have Sd1 : Sta s s.heap "java/lang/Integer" "DigitOnes" "[B" (.ref xd1) := Sta.start ed1 (Or.inl (hsets _ (List.mem_of_getElem? (i := 11) rfl)))
  have Xd1 : Exa s s.heap xd1 "[B" := Exa.start ed1 (Cond.before_iff.mp (hsets _ (List.mem_of_getElem? (i := 12) rfl)))
  have Vd1 := own_tabd1 (hw _ (List.mem_of_getElem? (i := 7) rfl)) Xd1 ed1 (Cond.before_iff.mp (hsets _ (List.mem_of_getElem? (i := 13) rfl))) (Cond.before_iff.mp (hsets _ (List.mem_of_getElem? (i := 14) rfl)))
  obtain ⟨xd2, ed2⟩ := exa_v (Cond.before_iff.mp (hsets _ (List.mem_of_getElem? (i := 17) rfl)))
  have Sd2 : Sta s s.heap "java/lang/Integer" "DigitTens" "[B" (.ref xd2) := Sta.start ed2 (Or.inl (hsets _ (List.mem_of_getElem? (i := 16) rfl)))
  have Xd2 : Exa s s.heap xd2 "[B" := Exa.start ed2 (Cond.before_iff.mp (hsets _ (List.mem_of_getElem? (i := 17) rfl)))
  have Vd2 := own_tabd2 (hw _ (List.mem_of_getElem? (i := 7) rfl)) Xd2 ed2 (Cond.before_iff.mp (hsets _ (List.mem_of_getElem? (i := 18) rfl))) (Cond.before_iff.mp (hsets _ (List.mem_of_getElem? (i := 19) rfl)))
  have G : Gl s #[(.int i0), (.int i1), (.int i2)] s.heap.size := ⟨hw, ⟨zc, Scs, hzc⟩, ⟨vfm, Sfm, rfm, by rcases ref_cases rfm with rfl | ⟨a, rfl⟩ <;> rfl⟩, hEL, ⟨xd1, Sd1, Xd1.lt, Vd1⟩, ⟨xd2, Sd2, Xd2.lt, Vd2⟩, trivial⟩
  have hCH : CHv s consts_1 s.vm s.heap := CHv.start hEL (fun q hq => hcalls.1 q hq) (show Jvm.Lit.compactW.before #[(.int i0), (.int i1), (.int i2)] s = true from (hsets _ (List.mem_of_getElem? (i := 2) rfl))) (G.sa _ (by simp [Bundle.stringAtoms])) (G.sa _ (by simp [Bundle.stringAtoms, Bundle.sN]))
  obtain ⟨n, o, h1, h2, h3, v, L, rfl, ⟨N, hQ⟩, -, hq⟩ := rm_law (l := l) G (Old.start s) i0 i1 i2 p e ha hc hk s m _ below hf ((Spec.applies_iff_loose hf).mp happ).1 ⟨rfl, State.Warmed39.refl s, rfl, hCH⟩ trivial
  obtain rfl : v = some (.int 1) := hQ
  refine ⟨n, _, h1, h2, h3, hpost _ _ _ _ _ _ ⟨Cond.after_iff.mpr rfl, Cond.after_iff.mpr (eq_i res_at (Term.int_eval (1)) rfl), trivial⟩ ⟨hq.1, hq.2.1, hq.2.2.1, (hq.2.2.2.sift fun y hy => Or.inr (N y hy)).mono (by decide) (by decide)⟩⟩
theorem main_1_1 : Claimed_1_1 := comes_1 fun _ _ _ _ _ _ h hF => ⟨h.1, hF⟩
theorem main_1_2 : Claimed_1_2 := comes_1 fun _ _ _ _ _ _ h hF => ⟨h.2.1, hF⟩
end Jvm.Pilot.@@N@@
namespace Jvm.Pilot.@@N@@
open Jvm Jvm.ClassFile Sem Op Lib Jvm.Free Jvm.Stand Jvm.Pilot.@@N@@.Jvm.D
/-! MADE BY PROGRAM (witnessworld.py) out of the Statement's table words and the real class files: 31 classes; the members and pool entries that the words name. The judged class is class 1, her method 1. -/
namespace start1
open Jvm.ClassFile
def u (s : String) : CpInfo := .utf8 (stringToUtf16 s)
/-- a pool by its gaps: so many unusable entries, then the entry; so many at the end -/
def gap : Nat → List CpInfo → List CpInfo
  | 0, r => r
  | n + 1, r => .unusable :: gap n r
def poolList (es : List (Nat × CpInfo)) (last : Nat) : List CpInfo := es.foldr (fun e r => gap e.1 (e.2 :: r)) (gap last [])
def pool (es : List (Nat × CpInfo)) (last : Nat) : Array CpInfo := ⟨poolList es last⟩
def fileOf (pool : Array CpInfo) (this : Nat) (attrs : Array Attribute := #[]) (ms : Array MethodInfo := #[]) (fl : Nat := 33) (sup : Nat := 0) (ifs : Array Nat := #[]) (fds : Array FieldInfo := #[]) : ClassFile where
  minorVersion := 0
  majorVersion := 65
  constantPool := pool
  accessFlags := fl
  thisClass := this
  superClass := sup
  interfaces := ifs
  fields := fds
  methods := ms
  attributes := attrs
def plain (name : String) (sup : Option ClassId) : Class where
  name := name
  kind := .ordinary
  loader := none
  accessFlags := 33
  super := sup
  interfaces := #[]
  cf := none
  fields := #[]
  methods := #[]
  instanceTypes := #[]
  staticTypes := #[]
  resolved := #[]
  callSites := []
  init := .initialized
  statics := none
  mirror := none

def pool0 : Array CpInfo := pool [(5, u "<init>"), (0, u "()V"), (1, .class_ 10), (1, u "java/lang/Object"), (85, u "clone"), (0, u "()Ljava/lang/Object;")] 26

def k0c0 : Code := { maxStack := 0, maxLocals := 1, code := object_method_1_code, exceptionTable := #[], attributes := #[] }
def k0m0 : Method := { name := "<init>", desc := "()V", sig := { parameters := [], returnType := none }, accessFlags := 1, code := some k0c0 }
def k0m1 : Method := { name := "clone", desc := "()Ljava/lang/Object;", sig := { parameters := [], returnType := some (.object "java/lang/Object") }, accessFlags := 260, code := none }
/-- java/lang/Object -/
def k0 : Class := { plain "java/lang/Object" none with
  accessFlags := 33
  interfaces := #[]
  cf := some (fileOf pool0 8 #[] #[{ accessFlags := 1, nameIndex := 5, descriptorIndex := 6, attributes := #[] }, { accessFlags := 260, nameIndex := 96, descriptorIndex := 97, attributes := #[] }] 33 0 #[] #[])
  fields := #[]
  methods := #[k0m0, k0m1]
  instanceTypes := #[]
  staticTypes := #[]
  resolved := Array.replicate 124 none
  statics := none }

def pool1 : Array CpInfo := pool [(2, .class_ 4), (1, u "java/lang/Object"), (0, u "<init>"), (0, u "()V"), (0, .methodref 8 9), (0, .class_ 10), (0, .nameAndType 11 12), (0, u "org/dalvista/LabelLinePinLaw"), (0, u "make"), (0, u "(ICC)Ljava/lang/String;"), (0, .class_ 14), (0, u "org/dalvista/Label"), (0, .methodref 13 16), (0, .nameAndType 5 17), (0, u "(Ljava/lang/String;ILjava/lang/String;)V"), (0, .methodref 13 19), (0, .nameAndType 20 21), (0, u "line"), (0, u "()Ljava/lang/String;"), (0, .methodref 23 24), (0, .class_ 25), (0, .nameAndType 26 27), (0, u "java/lang/Math"), (0, u "abs"), (0, u "(J)J"), (0, .methodref 8 29), (0, .nameAndType 30 31), (0, u "digits"), (0, u "(J)I"), (0, .methodref 33 34), (0, .class_ 35), (0, .nameAndType 36 37), (0, u "java/lang/String"), (0, u "length"), (0, u "()I"), (0, .methodref 33 39), (0, .nameAndType 40 41), (0, u "charAt"), (0, u "(I)C"), (0, .methodref 8 43), (0, .nameAndType 44 45), (0, u "part"), (0, u "(Ljava/lang/String;IICC)Z"), (0, .methodref 8 47), (0, .nameAndType 48 49), (0, u "num"), (0, u "(Ljava/lang/String;IIJI)Z"), (0, .string 51), (0, u ""), (0, .methodref 33 53), (0, .nameAndType 54 55), (0, u "valueOf"), (0, u "(C)Ljava/lang/String;"), (0, .methodref 33 57), (0, .nameAndType 5 58), (0, u "([C)V"), (0, .long 10), (1, .long 100), (1, .long 1000), (1, .long 10000), (1, .long 100000), (1, .long 1000000), (1, .long 10000000), (1, .long 100000000), (1, .long 1000000000), (1, .methodref 8 78), (0, .nameAndType 79 80), (0, u "numAt"), (0, u "(Ljava/lang/String;IIJII)Z"), (0, .long 10000000000), (3, u "law"), (0, u "(III)Z")] 3

def k1m0 : Method := { name := "<init>", desc := "()V", sig := { parameters := [], returnType := none }, accessFlags := 1, code := none }
def k1c1 : Code := { maxStack := 6, maxLocals := 18, code := code, exceptionTable := #[], attributes := #[] }
def k1m1 : Method := { name := "law", desc := "(III)Z", sig := { parameters := [.int, .int, .int], returnType := some .boolean }, accessFlags := 9, code := some k1c1 }
def k1c2 : Code := { maxStack := 3, maxLocals := 4, code := method_3_code, exceptionTable := #[], attributes := #[] }
def k1m2 : Method := { name := "make", desc := "(ICC)Ljava/lang/String;", sig := { parameters := [.int, .char, .char], returnType := some (.object "java/lang/String") }, accessFlags := 10, code := some k1c2 }
def k1c3 : Code := { maxStack := 3, maxLocals := 5, code := method_4_code, exceptionTable := #[], attributes := #[] }
def k1m3 : Method := { name := "part", desc := "(Ljava/lang/String;IICC)Z", sig := { parameters := [(.object "java/lang/String"), .int, .int, .char, .char], returnType := some .boolean }, accessFlags := 10, code := some k1c3 }
def k1c4 : Code := { maxStack := 4, maxLocals := 3, code := method_5_code, exceptionTable := #[], attributes := #[] }
def k1m4 : Method := { name := "digits", desc := "(J)I", sig := { parameters := [.long], returnType := some .int }, accessFlags := 10, code := some k1c4 }
def k1c5 : Code := { maxStack := 7, maxLocals := 6, code := method_6_code, exceptionTable := #[], attributes := #[] }
def k1m5 : Method := { name := "num", desc := "(Ljava/lang/String;IIJI)Z", sig := { parameters := [(.object "java/lang/String"), .int, .int, .long, .int], returnType := some .boolean }, accessFlags := 10, code := some k1c5 }
def k1c6 : Code := { maxStack := 5, maxLocals := 10, code := method_7_code, exceptionTable := #[], attributes := #[] }
def k1m6 : Method := { name := "numAt", desc := "(Ljava/lang/String;IIJII)Z", sig := { parameters := [(.object "java/lang/String"), .int, .int, .long, .int, .int], returnType := some .boolean }, accessFlags := 10, code := some k1c6 }
/-- org/dalvista/LabelLinePinLaw -/
def k1 : Class := { plain "org/dalvista/LabelLinePinLaw" (some 0) with
  accessFlags := 49
  interfaces := #[]
  cf := some (fileOf pool1 8 #[] #[{ accessFlags := 1, nameIndex := 5, descriptorIndex := 6, attributes := #[] }, { accessFlags := 9, nameIndex := 85, descriptorIndex := 86, attributes := #[] }, { accessFlags := 10, nameIndex := 11, descriptorIndex := 12, attributes := #[] }, { accessFlags := 10, nameIndex := 44, descriptorIndex := 45, attributes := #[] }, { accessFlags := 10, nameIndex := 30, descriptorIndex := 31, attributes := #[] }, { accessFlags := 10, nameIndex := 48, descriptorIndex := 49, attributes := #[] }, { accessFlags := 10, nameIndex := 79, descriptorIndex := 80, attributes := #[] }] 49 2 #[] #[])
  fields := #[]
  methods := #[k1m0, k1m1, k1m2, k1m3, k1m4, k1m5, k1m6]
  instanceTypes := #[]
  staticTypes := #[]
  resolved := Array.replicate 90 none
  statics := none }

def pool2 : Array CpInfo := pool [(1, .class_ 2), (0, u "java/io/Serializable"), (0, .class_ 4), (0, u "java/lang/Object")] 2

/-- java/io/Serializable -/
def k2 : Class := { plain "java/io/Serializable" (some 0) with
  accessFlags := 1537
  interfaces := #[]
  cf := some (fileOf pool2 1 #[] #[] 1537 3 #[] #[])
  fields := #[]
  methods := #[]
  instanceTypes := #[]
  staticTypes := #[]
  resolved := Array.replicate 7 none
  statics := none }

def pool3 : Array CpInfo := pool [(1, .class_ 2), (0, u "java/lang/Comparable"), (0, .class_ 4), (0, u "java/lang/Object")] 7

/-- java/lang/Comparable -/
def k3 : Class := { plain "java/lang/Comparable" (some 0) with
  accessFlags := 1537
  interfaces := #[]
  cf := some (fileOf pool3 1 #[] #[] 1537 3 #[] #[])
  fields := #[]
  methods := #[]
  instanceTypes := #[]
  staticTypes := #[]
  resolved := Array.replicate 12 none
  statics := none }

def pool4 : Array CpInfo := pool [(2, .class_ 4), (1, u "java/lang/CharSequence"), (42, .class_ 48), (0, u "java/lang/CharSequence$1CodePointIterator"), (10, .class_ 60), (0, u "java/lang/CharSequence$1CharIterator"), (5, .class_ 67), (0, u "java/lang/Object")] 63

/-- java/lang/CharSequence -/
def k4 : Class := { plain "java/lang/CharSequence" (some 0) with
  accessFlags := 1537
  interfaces := #[]
  cf := some (fileOf pool4 2 #[.nestMembers #[47, 59]] #[] 1537 66 #[] #[])
  fields := #[]
  methods := #[]
  instanceTypes := #[]
  staticTypes := #[]
  resolved := Array.replicate 131 none
  statics := none }

def pool5 : Array CpInfo := pool [(1, .class_ 2), (0, u "java/lang/constant/Constable"), (0, .class_ 4), (0, u "java/lang/Object")] 6

/-- java/lang/constant/Constable -/
def k5 : Class := { plain "java/lang/constant/Constable" (some 0) with
  accessFlags := 1537
  interfaces := #[]
  cf := some (fileOf pool5 1 #[] #[] 1537 3 #[] #[])
  fields := #[]
  methods := #[]
  instanceTypes := #[]
  staticTypes := #[]
  resolved := Array.replicate 11 none
  statics := none }

def pool6 : Array CpInfo := pool [(1, .class_ 2), (0, u "java/lang/constant/ConstantDesc"), (0, .class_ 4), (0, u "java/lang/Object")] 32

/-- java/lang/constant/ConstantDesc -/
def k6 : Class := { plain "java/lang/constant/ConstantDesc" (some 0) with
  accessFlags := 1537
  interfaces := #[]
  cf := some (fileOf pool6 1 #[] #[] 1537 3 #[] #[])
  fields := #[]
  methods := #[]
  instanceTypes := #[]
  staticTypes := #[]
  resolved := Array.replicate 37 none
  statics := none }

def pool7 : Array CpInfo := pool [(1, .methodref 2 3), (0, .class_ 4), (0, .nameAndType 5 6), (0, u "java/lang/Object"), (0, u "<init>"), (0, u "()V"), (2, .fieldref 10 11), (0, .class_ 12), (0, .nameAndType 13 14), (0, u "java/lang/String"), (0, u "value"), (0, u "[B"), (0, .fieldref 10 16), (0, .nameAndType 17 18), (0, u "coder"), (0, u "B"), (2, u "hash"), (0, u "I"), (2, u "hashIsZero"), (0, u "Z"), (0, .methodref 10 28), (0, .nameAndType 5 29), (0, u "([CIILjava/lang/Void;)V"), (8, .fieldref 10 39), (0, .nameAndType 40 26), (0, u "COMPACT_STRINGS"), (1, .class_ 44), (1, u "java/lang/StringUTF16"), (0, u "compress"), (1, .methodref 42 48), (0, .nameAndType 49 50), (0, u "coderFromArrayLen"), (0, u "([BI)B"), (2, u "toBytes"), (0, .methodref 55 56), (0, .class_ 57), (0, .nameAndType 58 59), (0, u "java/util/Arrays"), (0, u "copyOfRange"), (0, u "([BII)[B"), (47, .class_ 109), (1, u "java/lang/StringLatin1"), (32, u "()Z"), (34, .methodref 42 178), (0, .nameAndType 45 179), (0, u "([CII)[B"), (13, .class_ 195), (1, u "java/lang/System"), (13, .methodref 10 210), (0, .nameAndType 5 211), (0, u "([BB)V"), (0, .methodref 193 213), (0, .nameAndType 214 215), (0, u "arraycopy"), (0, u "(Ljava/lang/Object;ILjava/lang/Object;II)V"), (118, u "()I"), (0, .methodref 10 336), (0, .nameAndType 17 337), (0, u "()B"), (2, u "()[B"), (22, u "([BI)C"), (5, u "(C)Z"), (21, u "(II)V"), (35, u "(I)C"), (61, .methodref 10 490), (0, .nameAndType 5 491), (0, u "(Ljava/lang/AbstractStringBuilder;Ljava/lang/Void;)V"), (0, .methodref 10 493), (0, .nameAndType 494 142), (0, u "isLatin1"), (0, .methodref 107 496), (0, .nameAndType 497 363), (0, u "charAt"), (3, u "checkIndex"), (4, .nameAndType 507 334), (0, u "length"), (24, u "getBytes"), (16, .methodref 550 506), (0, .class_ 551), (0, u "java/lang/AbstractStringBuilder"), (0, .methodref 550 553), (0, .nameAndType 554 340), (0, u "getValue"), (20, .class_ 576), (0, u "java/lang/CharSequence"), (22, u "CASE_INSENSITIVE_ORDER"), (0, u "Ljava/util/Comparator;"), (181, u "valueOf"), (0, u "(C)Ljava/lang/String;"), (37, u "([BIB)V"), (188, u "([C)V"), (4, .methodref 107 1016), (0, .nameAndType 1017 369), (0, u "canEncode"), (0, .methodref 107 1019), (0, .nameAndType 53 1020), (0, u "(C)[B"), (26, .methodref 550 493), (5, .fieldref 1054 1055), (0, .class_ 1056), (0, .nameAndType 1057 1058), (0, u "jdk/internal/util/Preconditions"), (0, u "SIOOBE_FORMATTER"), (0, u "Ljava/util/function/BiFunction;"), (0, .methodref 1054 1060), (0, .nameAndType 501 1061), (0, u "(IILjava/util/function/BiFunction;)I"), (39, u "serialPersistentFields"), (0, u "[Ljava/io/ObjectStreamField;"), (0, .class_ 1104), (0, u "java/lang/String$CaseInsensitiveComparator"), (1, .class_ 1107), (0, u "java/io/Serializable"), (0, .class_ 1109), (0, u "java/lang/Comparable"), (0, .class_ 1111), (0, u "java/lang/constant/Constable"), (0, .class_ 1113), (0, u "java/lang/constant/ConstantDesc"), (2, u "serialVersionUID"), (0, u "J"), (3, u "REPL"), (0, u "C"), (2, u "LATIN1"), (1, u "UTF16"), (105, u "(Ljava/lang/StringBuilder;)V")] 217

def k7m0 : Method := { name := "<init>", desc := "()V", sig := { parameters := [], returnType := none }, accessFlags := 1, code := none }
def k7c1 : Code := { maxStack := 5, maxLocals := 2, code := jdk_42_method_3_code, exceptionTable := #[], attributes := #[] }
def k7m1 : Method := { name := "<init>", desc := "([C)V", sig := { parameters := [(.array .char)], returnType := none }, accessFlags := 1, code := some k7c1 }
def k7c2 : Code := { maxStack := 3, maxLocals := 2, code := jdk_42_method_53_code, exceptionTable := #[], attributes := #[] }
def k7m2 : Method := { name := "<init>", desc := "(Ljava/lang/StringBuilder;)V", sig := { parameters := [(.object "java/lang/StringBuilder")], returnType := none }, accessFlags := 1, code := some k7c2 }
def k7c3 : Code := { maxStack := 2, maxLocals := 1, code := jdk_42_method_54_code, exceptionTable := #[], attributes := #[] }
def k7m3 : Method := { name := "length", desc := "()I", sig := { parameters := [], returnType := some .int }, accessFlags := 1, code := some k7c3 }
def k7c4 : Code := { maxStack := 2, maxLocals := 2, code := jdk_42_method_56_code, exceptionTable := #[], attributes := #[] }
def k7m4 : Method := { name := "charAt", desc := "(I)C", sig := { parameters := [.int], returnType := some .char }, accessFlags := 1, code := some k7c4 }
def k7c5 : Code := { maxStack := 4, maxLocals := 1, code := jdk_42_method_139_code, exceptionTable := #[], attributes := #[] }
def k7m5 : Method := { name := "valueOf", desc := "(C)Ljava/lang/String;", sig := { parameters := [.char], returnType := some (.object "java/lang/String") }, accessFlags := 9, code := some k7c5 }
def k7c6 : Code := { maxStack := 5, maxLocals := 4, code := jdk_42_method_147_code, exceptionTable := #[], attributes := #[] }
def k7m6 : Method := { name := "getBytes", desc := "([BIB)V", sig := { parameters := [(.array .byte), .int, .byte], returnType := none }, accessFlags := 0, code := some k7c6 }
def k7c7 : Code := { maxStack := 4, maxLocals := 6, code := jdk_42_method_149_code, exceptionTable := #[], attributes := #[] }
def k7m7 : Method := { name := "<init>", desc := "([CIILjava/lang/Void;)V", sig := { parameters := [(.array .char), .int, .int, (.object "java/lang/Void")], returnType := none }, accessFlags := 2, code := some k7c7 }
def k7c8 : Code := { maxStack := 5, maxLocals := 5, code := jdk_42_method_150_code, exceptionTable := #[], attributes := #[] }
def k7m8 : Method := { name := "<init>", desc := "(Ljava/lang/AbstractStringBuilder;Ljava/lang/Void;)V", sig := { parameters := [(.object "java/lang/AbstractStringBuilder"), (.object "java/lang/Void")], returnType := none }, accessFlags := 0, code := some k7c8 }
def k7c9 : Code := { maxStack := 2, maxLocals := 3, code := jdk_42_method_151_code, exceptionTable := #[], attributes := #[] }
def k7m9 : Method := { name := "<init>", desc := "([BB)V", sig := { parameters := [(.array .byte), .byte], returnType := none }, accessFlags := 0, code := some k7c9 }
def k7c10 : Code := { maxStack := 1, maxLocals := 1, code := jdk_42_method_152_code, exceptionTable := #[], attributes := #[] }
def k7m10 : Method := { name := "coder", desc := "()B", sig := { parameters := [], returnType := some .byte }, accessFlags := 0, code := some k7c10 }
def k7c11 : Code := { maxStack := 1, maxLocals := 1, code := jdk_42_method_154_code, exceptionTable := #[], attributes := #[] }
def k7m11 : Method := { name := "isLatin1", desc := "()Z", sig := { parameters := [], returnType := some .boolean }, accessFlags := 0, code := some k7c11 }
def k7c12 : Code := { maxStack := 3, maxLocals := 2, code := jdk_42_method_155_code, exceptionTable := #[], attributes := #[] }
def k7m12 : Method := { name := "checkIndex", desc := "(II)V", sig := { parameters := [.int, .int], returnType := none }, accessFlags := 8, code := some k7c12 }
/-- java/lang/String -/
def k7 : Class := { plain "java/lang/String" (some 0) with
  accessFlags := 49
  interfaces := #[2, 3, 4, 5, 6]
  cf := some (fileOf pool7 10 #[.nestMembers #[1103]] #[{ accessFlags := 1, nameIndex := 5, descriptorIndex := 6, attributes := #[] }, { accessFlags := 1, nameIndex := 5, descriptorIndex := 1010, attributes := #[] }, { accessFlags := 1, nameIndex := 5, descriptorIndex := 1233, attributes := #[] }, { accessFlags := 1, nameIndex := 507, descriptorIndex := 334, attributes := #[] }, { accessFlags := 1, nameIndex := 497, descriptorIndex := 427, attributes := #[] }, { accessFlags := 9, nameIndex := 782, descriptorIndex := 783, attributes := #[] }, { accessFlags := 0, nameIndex := 532, descriptorIndex := 821, attributes := #[] }, { accessFlags := 2, nameIndex := 5, descriptorIndex := 29, attributes := #[] }, { accessFlags := 0, nameIndex := 5, descriptorIndex := 491, attributes := #[] }, { accessFlags := 0, nameIndex := 5, descriptorIndex := 211, attributes := #[] }, { accessFlags := 0, nameIndex := 17, descriptorIndex := 337, attributes := #[] }, { accessFlags := 0, nameIndex := 494, descriptorIndex := 142, attributes := #[] }, { accessFlags := 8, nameIndex := 501, descriptorIndex := 391, attributes := #[] }] 49 2 #[1106, 1108, 575, 1110, 1112] #[{ accessFlags := 18, nameIndex := 13, descriptorIndex := 14, attributes := #[] }, { accessFlags := 18, nameIndex := 17, descriptorIndex := 18, attributes := #[] }, { accessFlags := 2, nameIndex := 21, descriptorIndex := 22, attributes := #[] }, { accessFlags := 2, nameIndex := 25, descriptorIndex := 26, attributes := #[] }, { accessFlags := 26, nameIndex := 1116, descriptorIndex := 1117, attributes := #[] }, { accessFlags := 24, nameIndex := 40, descriptorIndex := 26, attributes := #[] }, { accessFlags := 26, nameIndex := 1101, descriptorIndex := 1102, attributes := #[] }, { accessFlags := 26, nameIndex := 1121, descriptorIndex := 1122, attributes := #[] }, { accessFlags := 25, nameIndex := 599, descriptorIndex := 600, attributes := #[] }, { accessFlags := 24, nameIndex := 1125, descriptorIndex := 18, attributes := #[] }, { accessFlags := 24, nameIndex := 1127, descriptorIndex := 18, attributes := #[] }])
  fields := #[{ name := "value", type := (.array .byte), accessFlags := 18, slot := 0, constantValue := 0 }, { name := "coder", type := .byte, accessFlags := 18, slot := 1, constantValue := 0 }, { name := "hash", type := .int, accessFlags := 2, slot := 2, constantValue := 0 }, { name := "hashIsZero", type := .boolean, accessFlags := 2, slot := 3, constantValue := 0 }, { name := "serialVersionUID", type := .long, accessFlags := 26, slot := 0, constantValue := 0 }, { name := "COMPACT_STRINGS", type := .boolean, accessFlags := 24, slot := 1, constantValue := 0 }, { name := "serialPersistentFields", type := (.array (.object "java/io/ObjectStreamField")), accessFlags := 26, slot := 2, constantValue := 0 }, { name := "REPL", type := .char, accessFlags := 26, slot := 3, constantValue := 0 }, { name := "CASE_INSENSITIVE_ORDER", type := (.object "java/util/Comparator"), accessFlags := 25, slot := 4, constantValue := 0 }, { name := "LATIN1", type := .byte, accessFlags := 24, slot := 5, constantValue := 0 }, { name := "UTF16", type := .byte, accessFlags := 24, slot := 6, constantValue := 0 }]
  methods := #[k7m0, k7m1, k7m2, k7m3, k7m4, k7m5, k7m6, k7m7, k7m8, k7m9, k7m10, k7m11, k7m12]
  instanceTypes := #[(.array .byte), .byte, .int, .boolean]
  staticTypes := #[.long, .boolean, (.array (.object "java/io/ObjectStreamField")), .char, (.object "java/util/Comparator"), .byte, .byte]
  resolved := Array.replicate 1451 none
  statics := some 0 }

def pool8 : Array CpInfo := pool [(1, .methodref 2 3), (0, .class_ 4), (0, .nameAndType 5 6), (0, u "java/lang/Object"), (0, u "<init>"), (0, u "()V"), (0, .class_ 8), (0, u "java/lang/Record")] 13

def k8c0 : Code := { maxStack := 1, maxLocals := 1, code := jdk_30_method_1_code, exceptionTable := #[], attributes := #[] }
def k8m0 : Method := { name := "<init>", desc := "()V", sig := { parameters := [], returnType := none }, accessFlags := 4, code := some k8c0 }
/-- java/lang/Record -/
def k8 : Class := { plain "java/lang/Record" (some 0) with
  accessFlags := 1057
  interfaces := #[]
  cf := some (fileOf pool8 7 #[] #[{ accessFlags := 4, nameIndex := 5, descriptorIndex := 6, attributes := #[] }] 1057 2 #[] #[])
  fields := #[]
  methods := #[k8m0]
  instanceTypes := #[]
  staticTypes := #[]
  resolved := Array.replicate 22 none
  statics := none }

def pool9 : Array CpInfo := pool [(1, .methodref 2 3), (0, .class_ 4), (0, .nameAndType 5 6), (0, u "java/lang/Record"), (0, u "<init>"), (0, u "()V"), (0, .fieldref 8 9), (0, .class_ 10), (0, .nameAndType 11 12), (0, u "org/dalvista/Label"), (0, u "kind"), (0, u "Ljava/lang/String;"), (0, .fieldref 8 14), (0, .nameAndType 15 16), (0, u "number"), (0, u "I"), (0, .fieldref 8 18), (0, .nameAndType 19 12), (0, u "definition"), (0, .class_ 21), (0, u "java/lang/StringBuilder"), (0, .methodref 20 3), (0, .string 24), (0, u "$("), (0, .methodref 20 26), (0, .nameAndType 27 28), (0, u "append"), (0, u "(Ljava/lang/String;)Ljava/lang/StringBuilder;"), (0, .methodref 20 30), (0, .nameAndType 27 31), (0, u "(I)Ljava/lang/StringBuilder;"), (0, .string 33), (0, u ")"), (0, .methodref 20 35), (0, .nameAndType 36 37), (0, u "toString"), (0, u "()Ljava/lang/String;"), (0, .methodref 8 39), (0, .nameAndType 40 37), (0, u "name"), (0, .string 42), (0, u ": "), (11, u "(Ljava/lang/String;ILjava/lang/String;)V"), (3, u "line")] 24

def k9c0 : Code := { maxStack := 2, maxLocals := 4, code := prog_1_method_1_code, exceptionTable := #[], attributes := #[] }
def k9m0 : Method := { name := "<init>", desc := "(Ljava/lang/String;ILjava/lang/String;)V", sig := { parameters := [(.object "java/lang/String"), .int, (.object "java/lang/String")], returnType := none }, accessFlags := 1, code := some k9c0 }
def k9c1 : Code := { maxStack := 2, maxLocals := 1, code := prog_1_method_2_code, exceptionTable := #[], attributes := #[] }
def k9m1 : Method := { name := "name", desc := "()Ljava/lang/String;", sig := { parameters := [], returnType := some (.object "java/lang/String") }, accessFlags := 1, code := some k9c1 }
def k9c2 : Code := { maxStack := 2, maxLocals := 1, code := prog_1_method_3_code, exceptionTable := #[], attributes := #[] }
def k9m2 : Method := { name := "line", desc := "()Ljava/lang/String;", sig := { parameters := [], returnType := some (.object "java/lang/String") }, accessFlags := 1, code := some k9c2 }
/-- org/dalvista/Label -/
def k9 : Class := { plain "org/dalvista/Label" (some 8) with
  accessFlags := 49
  interfaces := #[]
  cf := some (fileOf pool9 8 #[] #[{ accessFlags := 1, nameIndex := 5, descriptorIndex := 54, attributes := #[] }, { accessFlags := 1, nameIndex := 40, descriptorIndex := 37, attributes := #[] }, { accessFlags := 1, nameIndex := 58, descriptorIndex := 37, attributes := #[] }] 49 2 #[] #[{ accessFlags := 18, nameIndex := 11, descriptorIndex := 12, attributes := #[] }, { accessFlags := 18, nameIndex := 15, descriptorIndex := 16, attributes := #[] }, { accessFlags := 18, nameIndex := 19, descriptorIndex := 12, attributes := #[] }])
  fields := #[{ name := "kind", type := (.object "java/lang/String"), accessFlags := 18, slot := 0, constantValue := 0 }, { name := "number", type := .int, accessFlags := 18, slot := 1, constantValue := 0 }, { name := "definition", type := (.object "java/lang/String"), accessFlags := 18, slot := 2, constantValue := 0 }]
  methods := #[k9m0, k9m1, k9m2]
  instanceTypes := #[(.object "java/lang/String"), .int, (.object "java/lang/String")]
  staticTypes := #[]
  resolved := Array.replicate 83 none
  statics := none }

def pool10 : Array CpInfo := pool [(1, .class_ 2), (0, u "java/lang/Appendable"), (0, .class_ 4), (0, u "java/lang/Object")] 9

/-- java/lang/Appendable -/
def k10 : Class := { plain "java/lang/Appendable" (some 0) with
  accessFlags := 1537
  interfaces := #[]
  cf := some (fileOf pool10 1 #[] #[] 1537 3 #[] #[])
  fields := #[]
  methods := #[]
  instanceTypes := #[]
  staticTypes := #[]
  resolved := Array.replicate 14 none
  statics := none }

def pool11 : Array CpInfo := pool [(1, .class_ 2), (0, u "java/lang/String"), (0, .methodref 4 5), (0, .class_ 6), (0, .nameAndType 7 8), (0, u "java/lang/Object"), (0, u "<init>"), (0, u "()V"), (1, .class_ 12), (1, u "java/lang/AbstractStringBuilder"), (0, u "EMPTYVALUE"), (0, u "[B"), (0, .fieldref 10 16), (0, .nameAndType 17 14), (0, u "value"), (0, .fieldref 1 19), (0, .nameAndType 20 21), (0, u "COMPACT_STRINGS"), (0, u "Z"), (0, .fieldref 10 23), (0, .nameAndType 24 25), (0, u "coder"), (0, u "B"), (6, .methodref 1 33), (0, .nameAndType 34 35), (0, u "length"), (0, u "()I"), (0, .class_ 37), (0, u "java/lang/Integer"), (1, .integer 2147483647), (0, .methodref 1 41), (0, .nameAndType 24 42), (0, u "()B"), (2, u "append"), (0, u "(Ljava/lang/String;)Ljava/lang/AbstractStringBuilder;"), (1, .class_ 49), (0, u "java/lang/CharSequence"), (19, u "(Ljava/lang/String;)V"), (5, u "maybeLatin1"), (3, .fieldref 10 80), (0, .nameAndType 81 82), (0, u "count"), (0, u "I"), (0, .methodref 10 84), (0, .nameAndType 85 86), (0, u "isLatin1"), (0, u "()Z"), (13, .methodref 10 101), (0, .nameAndType 102 103), (0, u "ensureCapacityInternal"), (0, u "(I)V"), (0, .methodref 10 105), (0, .nameAndType 106 107), (0, u "newCapacity"), (0, u "(I)I"), (0, .methodref 109 110), (0, .class_ 111), (0, .nameAndType 112 113), (0, u "java/util/Arrays"), (0, u "copyOf"), (0, u "([BI)[B"), (0, .methodref 115 116), (0, .class_ 117), (0, .nameAndType 118 119), (0, u "jdk/internal/util/ArraysSupport"), (0, u "newLength"), (0, u "(III)I"), (68, u "getChars"), (19, .methodref 10 209), (0, .nameAndType 210 211), (0, u "putStringAt"), (0, u "(ILjava/lang/String;)V"), (5, u "inflateIfNeededFor"), (2, .nameAndType 221 222), (0, u "getBytes"), (0, u "([BIB)V"), (22, .methodref 36 246), (0, .nameAndType 247 107), (0, u "stringSize"), (0, .methodref 36 249), (0, .nameAndType 188 250), (0, u "(II[B)I"), (146, .methodref 10 398), (0, .nameAndType 217 69), (0, .methodref 1 220), (3, u "()[B"), (40, .class_ 445), (0, u "java/lang/Appendable"), (65, u "(I)Ljava/lang/AbstractStringBuilder;"), (40, u "getValue")] 56

def k11m0 : Method := { name := "<init>", desc := "()V", sig := { parameters := [], returnType := none }, accessFlags := 0, code := none }
def k11c1 : Code := { maxStack := 2, maxLocals := 2, code := jdk_68_method_2_code, exceptionTable := #[], attributes := #[] }
def k11m1 : Method := { name := "<init>", desc := "(I)V", sig := { parameters := [.int], returnType := none }, accessFlags := 0, code := some k11c1 }
def k11c2 : Code := { maxStack := 1, maxLocals := 1, code := jdk_68_method_6_code, exceptionTable := #[], attributes := #[] }
def k11m2 : Method := { name := "length", desc := "()I", sig := { parameters := [], returnType := some .int }, accessFlags := 1, code := some k11c2 }
def k11c3 : Code := { maxStack := 4, maxLocals := 3, code := jdk_68_method_9_code, exceptionTable := #[], attributes := #[] }
def k11m3 : Method := { name := "ensureCapacityInternal", desc := "(I)V", sig := { parameters := [.int], returnType := none }, accessFlags := 2, code := some k11c3 }
def k11c4 : Code := { maxStack := 5, maxLocals := 6, code := jdk_68_method_10_code, exceptionTable := #[], attributes := #[] }
def k11m4 : Method := { name := "newCapacity", desc := "(I)I", sig := { parameters := [.int], returnType := some .int }, accessFlags := 2, code := some k11c4 }
def k11c5 : Code := { maxStack := 3, maxLocals := 3, code := jdk_68_method_22_code, exceptionTable := #[], attributes := #[] }
def k11m5 : Method := { name := "append", desc := "(Ljava/lang/String;)Ljava/lang/AbstractStringBuilder;", sig := { parameters := [(.object "java/lang/String")], returnType := some (.object "java/lang/AbstractStringBuilder") }, accessFlags := 1, code := some k11c5 }
def k11c6 : Code := { maxStack := 4, maxLocals := 4, code := jdk_68_method_32_code, exceptionTable := #[], attributes := #[] }
def k11m6 : Method := { name := "append", desc := "(I)Ljava/lang/AbstractStringBuilder;", sig := { parameters := [.int], returnType := some (.object "java/lang/AbstractStringBuilder") }, accessFlags := 1, code := some k11c6 }
def k11c7 : Code := { maxStack := 1, maxLocals := 1, code := jdk_68_method_64_code, exceptionTable := #[], attributes := #[] }
def k11m7 : Method := { name := "getValue", desc := "()[B", sig := { parameters := [], returnType := some (.array .byte) }, accessFlags := 16, code := some k11c7 }
def k11c8 : Code := { maxStack := 1, maxLocals := 1, code := jdk_68_method_68_code, exceptionTable := #[], attributes := #[] }
def k11m8 : Method := { name := "isLatin1", desc := "()Z", sig := { parameters := [], returnType := some .boolean }, accessFlags := 16, code := some k11c8 }
def k11c9 : Code := { maxStack := 2, maxLocals := 2, code := jdk_68_method_71_code, exceptionTable := #[], attributes := #[] }
def k11m9 : Method := { name := "inflateIfNeededFor", desc := "(Ljava/lang/String;)V", sig := { parameters := [(.object "java/lang/String")], returnType := none }, accessFlags := 2, code := some k11c9 }
def k11c10 : Code := { maxStack := 4, maxLocals := 3, code := jdk_68_method_73_code, exceptionTable := #[], attributes := #[] }
def k11m10 : Method := { name := "putStringAt", desc := "(ILjava/lang/String;)V", sig := { parameters := [.int, (.object "java/lang/String")], returnType := none }, accessFlags := 2, code := some k11c10 }
/-- java/lang/AbstractStringBuilder -/
def k11 : Class := { plain "java/lang/AbstractStringBuilder" (some 0) with
  accessFlags := 1056
  interfaces := #[10, 4]
  cf := some (fileOf pool11 10 #[] #[{ accessFlags := 0, nameIndex := 7, descriptorIndex := 8, attributes := #[] }, { accessFlags := 0, nameIndex := 7, descriptorIndex := 103, attributes := #[] }, { accessFlags := 1, nameIndex := 34, descriptorIndex := 35, attributes := #[] }, { accessFlags := 2, nameIndex := 102, descriptorIndex := 103, attributes := #[] }, { accessFlags := 2, nameIndex := 106, descriptorIndex := 107, attributes := #[] }, { accessFlags := 1, nameIndex := 45, descriptorIndex := 46, attributes := #[] }, { accessFlags := 1, nameIndex := 45, descriptorIndex := 511, attributes := #[] }, { accessFlags := 16, nameIndex := 552, descriptorIndex := 403, attributes := #[] }, { accessFlags := 16, nameIndex := 85, descriptorIndex := 86, attributes := #[] }, { accessFlags := 2, nameIndex := 217, descriptorIndex := 69, attributes := #[] }, { accessFlags := 2, nameIndex := 210, descriptorIndex := 211, attributes := #[] }] 1056 4 #[444, 48] #[{ accessFlags := 0, nameIndex := 17, descriptorIndex := 14, attributes := #[] }, { accessFlags := 0, nameIndex := 24, descriptorIndex := 25, attributes := #[] }, { accessFlags := 0, nameIndex := 75, descriptorIndex := 21, attributes := #[] }, { accessFlags := 0, nameIndex := 81, descriptorIndex := 82, attributes := #[] }, { accessFlags := 26, nameIndex := 13, descriptorIndex := 14, attributes := #[] }])
  fields := #[{ name := "value", type := (.array .byte), accessFlags := 0, slot := 0, constantValue := 0 }, { name := "coder", type := .byte, accessFlags := 0, slot := 1, constantValue := 0 }, { name := "maybeLatin1", type := .boolean, accessFlags := 0, slot := 2, constantValue := 0 }, { name := "count", type := .int, accessFlags := 0, slot := 3, constantValue := 0 }, { name := "EMPTYVALUE", type := (.array .byte), accessFlags := 26, slot := 0, constantValue := 0 }]
  methods := #[k11m0, k11m1, k11m2, k11m3, k11m4, k11m5, k11m6, k11m7, k11m8, k11m9, k11m10]
  instanceTypes := #[(.array .byte), .byte, .boolean, .int]
  staticTypes := #[(.array .byte)]
  resolved := Array.replicate 609 none
  statics := none }

def pool12 : Array CpInfo := pool [(1, .methodref 2 3), (0, .class_ 4), (0, .nameAndType 5 6), (0, u "java/lang/AbstractStringBuilder"), (0, u "<init>"), (0, u "(I)V"), (11, .class_ 20), (1, u "java/lang/String"), (3, .class_ 26), (1, u "java/lang/StringBuilder"), (0, u "append"), (0, u "(Ljava/lang/String;)Ljava/lang/StringBuilder;"), (0, .methodref 2 30), (0, .nameAndType 27 31), (0, u "(Ljava/lang/String;)Ljava/lang/AbstractStringBuilder;"), (21, .methodref 2 54), (0, .nameAndType 27 55), (0, u "(I)Ljava/lang/AbstractStringBuilder;"), (81, .methodref 18 138), (0, .nameAndType 5 139), (0, u "(Ljava/lang/StringBuilder;)V"), (5, u "()V"), (10, u "()I"), (111, u "(I)Ljava/lang/StringBuilder;"), (74, .methodref 2 344), (0, .nameAndType 345 156), (0, u "length"), (3, .class_ 350), (0, u "java/lang/Appendable"), (0, .class_ 352), (0, u "java/io/Serializable"), (0, .class_ 354), (0, u "java/lang/Comparable"), (0, .class_ 356), (0, u "java/lang/CharSequence"), (0, u "serialVersionUID"), (0, u "J"), (40, u "toString"), (0, u "()Ljava/lang/String;")] 21

def k12c0 : Code := { maxStack := 2, maxLocals := 1, code := jdk_67_method_1_code, exceptionTable := #[], attributes := #[] }
def k12m0 : Method := { name := "<init>", desc := "()V", sig := { parameters := [], returnType := none }, accessFlags := 1, code := some k12c0 }
def k12c1 : Code := { maxStack := 2, maxLocals := 2, code := jdk_67_method_7_code, exceptionTable := #[], attributes := #[] }
def k12m1 : Method := { name := "append", desc := "(Ljava/lang/String;)Ljava/lang/StringBuilder;", sig := { parameters := [(.object "java/lang/String")], returnType := some (.object "java/lang/StringBuilder") }, accessFlags := 1, code := some k12c1 }
def k12c2 : Code := { maxStack := 2, maxLocals := 2, code := jdk_67_method_15_code, exceptionTable := #[], attributes := #[] }
def k12m2 : Method := { name := "append", desc := "(I)Ljava/lang/StringBuilder;", sig := { parameters := [.int], returnType := some (.object "java/lang/StringBuilder") }, accessFlags := 1, code := some k12c2 }
def k12c3 : Code := { maxStack := 3, maxLocals := 1, code := jdk_67_method_42_code, exceptionTable := #[], attributes := #[] }
def k12m3 : Method := { name := "toString", desc := "()Ljava/lang/String;", sig := { parameters := [], returnType := some (.object "java/lang/String") }, accessFlags := 1, code := some k12c3 }
def k12c4 : Code := { maxStack := 1, maxLocals := 1, code := jdk_67_method_93_code, exceptionTable := #[], attributes := #[] }
def k12m4 : Method := { name := "length", desc := "()I", sig := { parameters := [], returnType := some .int }, accessFlags := 4161, code := some k12c4 }
/-- java/lang/StringBuilder -/
def k12 : Class := { plain "java/lang/StringBuilder" (some 11) with
  accessFlags := 49
  interfaces := #[10, 2, 3, 4]
  cf := some (fileOf pool12 24 #[] #[{ accessFlags := 1, nameIndex := 5, descriptorIndex := 145, attributes := #[] }, { accessFlags := 1, nameIndex := 27, descriptorIndex := 28, attributes := #[] }, { accessFlags := 1, nameIndex := 27, descriptorIndex := 268, attributes := #[] }, { accessFlags := 1, nameIndex := 399, descriptorIndex := 400, attributes := #[] }, { accessFlags := 4161, nameIndex := 345, descriptorIndex := 156, attributes := #[] }] 49 2 #[349, 351, 353, 355] #[{ accessFlags := 24, nameIndex := 357, descriptorIndex := 358, attributes := #[] }])
  fields := #[{ name := "serialVersionUID", type := .long, accessFlags := 24, slot := 0, constantValue := 0 }]
  methods := #[k12m0, k12m1, k12m2, k12m3, k12m4]
  instanceTypes := #[(.array .byte), .byte, .boolean, .int]
  staticTypes := #[.long]
  resolved := Array.replicate 422 none
  statics := none }

def pool13 : Array CpInfo := pool [(2, .class_ 4), (1, u "java/lang/Object"), (0, u "<init>"), (0, u "()V"), (1, .class_ 10), (1, u "java/lang/System"), (0, u "allowSecurityManager"), (0, u "I"), (16, u "cons"), (0, u "Ljava/io/Console;"), (77, .class_ 110), (1, u "java/lang/System$CallersHolder"), (43, u "initialErrStream"), (0, u "Ljava/io/PrintStream;"), (19, u "security"), (0, u "Ljava/lang/SecurityManager;"), (31, .class_ 209), (0, u "java/lang/System$1"), (7, u "props"), (0, u "Ljava/util/Properties;"), (2, u "lineSeparator"), (0, u "Ljava/lang/String;"), (96, .class_ 321), (1, u "java/lang/System$LoggerFinder"), (5, .class_ 328), (0, u "java/lang/System$Logger"), (67, u "err"), (2, u "out"), (91, u "notSupportedJnuEncoding"), (15, u "in"), (17, u "initialIn"), (0, u "Ljava/io/InputStream;"), (35, u "bootLayer"), (0, u "Ljava/lang/ModuleLayer;"), (99, .class_ 664), (0, u "java/lang/System$2"), (9, u "NEVER"), (2, u "MAYBE"), (49, u "arraycopy"), (0, u "(Ljava/lang/Object;ILjava/lang/Object;II)V"), (72, .class_ 802), (0, u "java/lang/System$Logger$Level")] 31

def k13m0 : Method := { name := "<init>", desc := "()V", sig := { parameters := [], returnType := none }, accessFlags := 2, code := none }
def k13m1 : Method := { name := "arraycopy", desc := "(Ljava/lang/Object;ILjava/lang/Object;II)V", sig := { parameters := [(.object "java/lang/Object"), .int, (.object "java/lang/Object"), .int, .int], returnType := none }, accessFlags := 265, code := none }
/-- java/lang/System -/
def k13 : Class := { plain "java/lang/System" (some 0) with
  accessFlags := 49
  interfaces := #[]
  cf := some (fileOf pool13 8 #[.nestMembers #[319, 327, 801, 108, 663, 208]] #[{ accessFlags := 2, nameIndex := 5, descriptorIndex := 6, attributes := #[] }, { accessFlags := 265, nameIndex := 727, descriptorIndex := 728, attributes := #[] }] 49 2 #[] #[{ accessFlags := 25, nameIndex := 507, descriptorIndex := 526, attributes := #[] }, { accessFlags := 25, nameIndex := 399, descriptorIndex := 155, attributes := #[] }, { accessFlags := 25, nameIndex := 396, descriptorIndex := 155, attributes := #[] }, { accessFlags := 10, nameIndex := 525, descriptorIndex := 526, attributes := #[] }, { accessFlags := 26, nameIndex := 674, descriptorIndex := 12, attributes := #[] }, { accessFlags := 26, nameIndex := 677, descriptorIndex := 12, attributes := #[] }, { accessFlags := 10, nameIndex := 11, descriptorIndex := 12, attributes := #[] }, { accessFlags := 74, nameIndex := 175, descriptorIndex := 176, attributes := #[] }, { accessFlags := 10, nameIndex := 491, descriptorIndex := 222, attributes := #[] }, { accessFlags := 74, nameIndex := 29, descriptorIndex := 30, attributes := #[] }, { accessFlags := 74, nameIndex := 154, descriptorIndex := 155, attributes := #[] }, { accessFlags := 10, nameIndex := 217, descriptorIndex := 218, attributes := #[] }, { accessFlags := 10, nameIndex := 221, descriptorIndex := 222, attributes := #[] }, { accessFlags := 8, nameIndex := 562, descriptorIndex := 563, attributes := #[] }])
  fields := #[{ name := "in", type := (.object "java/io/InputStream"), accessFlags := 25, slot := 0, constantValue := 0 }, { name := "out", type := (.object "java/io/PrintStream"), accessFlags := 25, slot := 1, constantValue := 0 }, { name := "err", type := (.object "java/io/PrintStream"), accessFlags := 25, slot := 2, constantValue := 0 }, { name := "initialIn", type := (.object "java/io/InputStream"), accessFlags := 10, slot := 3, constantValue := 0 }, { name := "NEVER", type := .int, accessFlags := 26, slot := 4, constantValue := 0 }, { name := "MAYBE", type := .int, accessFlags := 26, slot := 5, constantValue := 0 }, { name := "allowSecurityManager", type := .int, accessFlags := 10, slot := 6, constantValue := 0 }, { name := "security", type := (.object "java/lang/SecurityManager"), accessFlags := 74, slot := 7, constantValue := 0 }, { name := "notSupportedJnuEncoding", type := (.object "java/lang/String"), accessFlags := 10, slot := 8, constantValue := 0 }, { name := "cons", type := (.object "java/io/Console"), accessFlags := 74, slot := 9, constantValue := 0 }, { name := "initialErrStream", type := (.object "java/io/PrintStream"), accessFlags := 74, slot := 10, constantValue := 0 }, { name := "props", type := (.object "java/util/Properties"), accessFlags := 10, slot := 11, constantValue := 0 }, { name := "lineSeparator", type := (.object "java/lang/String"), accessFlags := 10, slot := 12, constantValue := 0 }, { name := "bootLayer", type := (.object "java/lang/ModuleLayer"), accessFlags := 8, slot := 13, constantValue := 0 }]
  methods := #[k13m0, k13m1]
  instanceTypes := #[]
  staticTypes := #[(.object "java/io/InputStream"), (.object "java/io/PrintStream"), (.object "java/io/PrintStream"), (.object "java/io/InputStream"), .int, .int, .int, (.object "java/lang/SecurityManager"), (.object "java/lang/String"), (.object "java/io/Console"), (.object "java/io/PrintStream"), (.object "java/util/Properties"), (.object "java/lang/String"), (.object "java/lang/ModuleLayer")]
  resolved := Array.replicate 834 none
  statics := none }

def pool14 : Array CpInfo := pool [(2, .class_ 4), (1, u "java/lang/Object"), (0, u "<init>"), (0, u "()V"), (1, .class_ 10), (1, u "java/lang/Number"), (2, .class_ 14), (0, u "java/io/Serializable"), (0, u "serialVersionUID"), (0, u "J")] 20

def k14m0 : Method := { name := "<init>", desc := "()V", sig := { parameters := [], returnType := none }, accessFlags := 1, code := none }
/-- java/lang/Number -/
def k14 : Class := { plain "java/lang/Number" (some 0) with
  accessFlags := 1057
  interfaces := #[2]
  cf := some (fileOf pool14 8 #[] #[{ accessFlags := 1, nameIndex := 5, descriptorIndex := 6, attributes := #[] }] 1057 2 #[13] #[{ accessFlags := 26, nameIndex := 15, descriptorIndex := 16, attributes := #[] }])
  fields := #[{ name := "serialVersionUID", type := .long, accessFlags := 26, slot := 0, constantValue := 0 }]
  methods := #[k14m0]
  instanceTypes := #[]
  staticTypes := #[.long]
  resolved := Array.replicate 37 none
  statics := none }

def pool15 : Array CpInfo := pool [(1, .class_ 2), (0, u "java/lang/Integer"), (16, u "digits"), (0, u "[C"), (33, u "(I)I"), (19, u "stringSize"), (2, u "getChars"), (0, u "(II[B)I"), (4, .fieldref 1 84), (0, .nameAndType 85 86), (0, u "DigitOnes"), (0, u "[B"), (0, .fieldref 1 88), (0, .nameAndType 89 86), (0, u "DigitTens"), (99, .class_ 190), (0, u "java/lang/Integer$IntegerCache"), (3, u "I"), (8, .class_ 204), (0, u "java/lang/Number"), (2, u "value"), (94, u "TYPE"), (0, u "Ljava/lang/Class;"), (0, .class_ 305), (0, u "java/lang/Comparable"), (0, .class_ 307), (0, u "java/lang/constant/Constable"), (0, .class_ 309), (0, u "java/lang/constant/ConstantDesc"), (0, u "MIN_VALUE"), (1, u "MAX_VALUE"), (3, u "SIZE"), (1, u "BYTES"), (1, u "serialVersionUID"), (0, u "J")] 131

def k15c0 : Code := { maxStack := 4, maxLocals := 7, code := jdk_33_method_12_code, exceptionTable := #[], attributes := #[] }
def k15m0 : Method := { name := "getChars", desc := "(II[B)I", sig := { parameters := [.int, .int, (.array .byte)], returnType := some .int }, accessFlags := 8, code := some k15c0 }
def k15c1 : Code := { maxStack := 2, maxLocals := 4, code := jdk_33_method_13_code, exceptionTable := #[], attributes := #[] }
def k15m1 : Method := { name := "stringSize", desc := "(I)I", sig := { parameters := [.int], returnType := some .int }, accessFlags := 8, code := some k15c1 }
/-- java/lang/Integer -/
def k15 : Class := { plain "java/lang/Integer" (some 14) with
  accessFlags := 49
  interfaces := #[3, 5, 6]
  cf := some (fileOf pool15 1 #[.nestMembers #[189]] #[{ accessFlags := 8, nameIndex := 77, descriptorIndex := 78, attributes := #[] }, { accessFlags := 8, nameIndex := 74, descriptorIndex := 54, attributes := #[] }] 49 203 #[304, 306, 308] #[{ accessFlags := 25, nameIndex := 310, descriptorIndex := 194, attributes := #[] }, { accessFlags := 25, nameIndex := 312, descriptorIndex := 194, attributes := #[] }, { accessFlags := 25, nameIndex := 302, descriptorIndex := 303, attributes := #[] }, { accessFlags := 24, nameIndex := 19, descriptorIndex := 20, attributes := #[] }, { accessFlags := 24, nameIndex := 89, descriptorIndex := 86, attributes := #[] }, { accessFlags := 24, nameIndex := 85, descriptorIndex := 86, attributes := #[] }, { accessFlags := 18, nameIndex := 207, descriptorIndex := 194, attributes := #[] }, { accessFlags := 25, nameIndex := 316, descriptorIndex := 194, attributes := #[] }, { accessFlags := 25, nameIndex := 318, descriptorIndex := 194, attributes := #[] }, { accessFlags := 26, nameIndex := 320, descriptorIndex := 321, attributes := #[] }])
  fields := #[{ name := "MIN_VALUE", type := .int, accessFlags := 25, slot := 0, constantValue := 0 }, { name := "MAX_VALUE", type := .int, accessFlags := 25, slot := 1, constantValue := 0 }, { name := "TYPE", type := (.object "java/lang/Class"), accessFlags := 25, slot := 2, constantValue := 0 }, { name := "digits", type := (.array .char), accessFlags := 24, slot := 3, constantValue := 0 }, { name := "DigitTens", type := (.array .byte), accessFlags := 24, slot := 4, constantValue := 0 }, { name := "DigitOnes", type := (.array .byte), accessFlags := 24, slot := 5, constantValue := 0 }, { name := "value", type := .int, accessFlags := 18, slot := 0, constantValue := 0 }, { name := "SIZE", type := .int, accessFlags := 25, slot := 6, constantValue := 0 }, { name := "BYTES", type := .int, accessFlags := 25, slot := 7, constantValue := 0 }, { name := "serialVersionUID", type := .long, accessFlags := 26, slot := 8, constantValue := 0 }]
  methods := #[k15m0, k15m1]
  instanceTypes := #[.int]
  staticTypes := #[.int, .int, (.object "java/lang/Class"), (.array .char), (.array .byte), (.array .byte), .int, .int, .long]
  resolved := Array.replicate 453 none
  statics := some 1 }

def pool16 : Array CpInfo := pool [(2, .class_ 4), (1, u "java/lang/Object"), (0, u "<init>"), (0, u "()V"), (7, .class_ 16), (1, u "java/util/Arrays"), (57, .class_ 76), (1, u "java/util/Arrays$NaturalOrder"), (32, u "()Ljava/lang/Object;"), (3, .class_ 115), (1, u "java/util/Arrays$LegacyMergeSort"), (1, u "Z"), (10, .nameAndType 129 109), (0, u "clone"), (9, u "copyOfRange"), (10, .methodref 151 152), (0, .class_ 153), (0, .nameAndType 154 155), (0, u "java/lang/System"), (0, u "arraycopy"), (0, u "(Ljava/lang/Object;ILjava/lang/Object;II)V"), (146, u "copyOf"), (1, .methodref 305 306), (0, .class_ 307), (0, .nameAndType 308 309), (0, u "java/lang/Math"), (0, u "min"), (0, u "(II)I"), (0, .methodref 311 128), (0, .class_ 312), (0, u "[B"), (26, .methodref 14 340), (0, .nameAndType 341 342), (0, u "copyOfRangeByte"), (0, u "([BII)[B"), (0, .methodref 14 344), (0, .nameAndType 345 346), (0, u "checkLength"), (0, u "(II)V"), (28, .class_ 376), (0, u "java/util/Arrays$ArrayList"), (68, u "$assertionsDisabled"), (269, u "MIN_ARRAY_SORT_GRAN"), (0, u "I"), (2, u "INSERTIONSORT_THRESHOLD"), (149, u "([BI)[B"), (105, .class_ 976), (0, u "java/util/Arrays$ArrayItr")] 52

def k16m0 : Method := { name := "<init>", desc := "()V", sig := { parameters := [], returnType := none }, accessFlags := 2, code := none }
def k16c1 : Code := { maxStack := 6, maxLocals := 3, code := jdk_65_method_121_code, exceptionTable := #[], attributes := #[] }
def k16m1 : Method := { name := "copyOf", desc := "([BI)[B", sig := { parameters := [(.array .byte), .int], returnType := some (.array .byte) }, accessFlags := 9, code := some k16c1 }
def k16c2 : Code := { maxStack := 4, maxLocals := 2, code := jdk_65_method_131_code, exceptionTable := #[], attributes := #[] }
def k16m2 : Method := { name := "checkLength", desc := "(II)V", sig := { parameters := [.int, .int], returnType := none }, accessFlags := 10, code := some k16c2 }
def k16c3 : Code := { maxStack := 3, maxLocals := 3, code := jdk_65_method_132_code, exceptionTable := #[], attributes := #[] }
def k16m3 : Method := { name := "copyOfRange", desc := "([BII)[B", sig := { parameters := [(.array .byte), .int, .int], returnType := some (.array .byte) }, accessFlags := 9, code := some k16c3 }
def k16c4 : Code := { maxStack := 6, maxLocals := 5, code := jdk_65_method_133_code, exceptionTable := #[], attributes := #[] }
def k16m4 : Method := { name := "copyOfRangeByte", desc := "([BII)[B", sig := { parameters := [(.array .byte), .int, .int], returnType := some (.array .byte) }, accessFlags := 10, code := some k16c4 }
/-- java/util/Arrays -/
def k16 : Class := { plain "java/util/Arrays" (some 0) with
  accessFlags := 49
  interfaces := #[]
  cf := some (fileOf pool16 14 #[.nestMembers #[975, 375, 113, 74]] #[{ accessFlags := 2, nameIndex := 5, descriptorIndex := 6, attributes := #[] }, { accessFlags := 9, nameIndex := 302, descriptorIndex := 869, attributes := #[] }, { accessFlags := 10, nameIndex := 345, descriptorIndex := 346, attributes := #[] }, { accessFlags := 9, nameIndex := 139, descriptorIndex := 342, attributes := #[] }, { accessFlags := 10, nameIndex := 341, descriptorIndex := 342, attributes := #[] }] 49 2 #[] #[{ accessFlags := 26, nameIndex := 715, descriptorIndex := 716, attributes := #[] }, { accessFlags := 26, nameIndex := 719, descriptorIndex := 716, attributes := #[] }, { accessFlags := 4120, nameIndex := 445, descriptorIndex := 117, attributes := #[] }])
  fields := #[{ name := "MIN_ARRAY_SORT_GRAN", type := .int, accessFlags := 26, slot := 0, constantValue := 0 }, { name := "INSERTIONSORT_THRESHOLD", type := .int, accessFlags := 26, slot := 1, constantValue := 0 }, { name := "$assertionsDisabled", type := .boolean, accessFlags := 4120, slot := 2, constantValue := 0 }]
  methods := #[k16m0, k16m1, k16m2, k16m3, k16m4]
  instanceTypes := #[]
  staticTypes := #[.int, .int, .boolean]
  resolved := Array.replicate 1029 none
  statics := none }

def pool17 : Array CpInfo := pool [(1, .class_ 2), (0, u "java/lang/Math"), (1, .class_ 6), (1, u "java/lang/Object"), (0, u "<init>"), (0, u "()V"), (89, .class_ 100), (1, u "java/lang/Math$RandomNumberGeneratorHolder"), (23, u "abs"), (0, u "(J)J"), (46, u "negativeZeroFloatBits"), (0, u "J"), (2, u "negativeZeroDoubleBits"), (21, u "max"), (2, u "min"), (43, u "$assertionsDisabled"), (0, u "Z"), (88, u "(II)I"), (2, u "twoToTheDoubleScaleDown"), (0, u "D"), (4, u "twoToTheDoubleScaleUp"), (9, u "E"), (3, u "PI"), (2, u "TAU"), (2, u "DEGREES_TO_RADIANS"), (0, u "RADIANS_TO_DEGREES")] 94

def k17m0 : Method := { name := "<init>", desc := "()V", sig := { parameters := [], returnType := none }, accessFlags := 2, code := none }
def k17c1 : Code := { maxStack := 4, maxLocals := 2, code := jdk_29_method_61_code, exceptionTable := #[], attributes := #[] }
def k17m1 : Method := { name := "abs", desc := "(J)J", sig := { parameters := [.long], returnType := some .long }, accessFlags := 9, code := some k17c1 }
def k17c2 : Code := { maxStack := 2, maxLocals := 2, code := jdk_29_method_65_code, exceptionTable := #[], attributes := #[] }
def k17m2 : Method := { name := "max", desc := "(II)I", sig := { parameters := [.int, .int], returnType := some .int }, accessFlags := 9, code := some k17c2 }
def k17c3 : Code := { maxStack := 2, maxLocals := 2, code := jdk_29_method_69_code, exceptionTable := #[], attributes := #[] }
def k17m3 : Method := { name := "min", desc := "(II)I", sig := { parameters := [.int, .int], returnType := some .int }, accessFlags := 9, code := some k17c3 }
/-- java/lang/Math -/
def k17 : Class := { plain "java/lang/Math" (some 0) with
  accessFlags := 49
  interfaces := #[]
  cf := some (fileOf pool17 1 #[.nestMembers #[98]] #[{ accessFlags := 2, nameIndex := 7, descriptorIndex := 8, attributes := #[] }, { accessFlags := 9, nameIndex := 124, descriptorIndex := 125, attributes := #[] }, { accessFlags := 9, nameIndex := 198, descriptorIndex := 335, attributes := #[] }, { accessFlags := 9, nameIndex := 201, descriptorIndex := 335, attributes := #[] }] 49 4 #[] #[{ accessFlags := 25, nameIndex := 354, descriptorIndex := 339, attributes := #[] }, { accessFlags := 25, nameIndex := 358, descriptorIndex := 339, attributes := #[] }, { accessFlags := 25, nameIndex := 361, descriptorIndex := 339, attributes := #[] }, { accessFlags := 26, nameIndex := 364, descriptorIndex := 339, attributes := #[] }, { accessFlags := 26, nameIndex := 365, descriptorIndex := 339, attributes := #[] }, { accessFlags := 26, nameIndex := 172, descriptorIndex := 173, attributes := #[] }, { accessFlags := 26, nameIndex := 176, descriptorIndex := 173, attributes := #[] }, { accessFlags := 8, nameIndex := 344, descriptorIndex := 339, attributes := #[] }, { accessFlags := 8, nameIndex := 338, descriptorIndex := 339, attributes := #[] }, { accessFlags := 4120, nameIndex := 245, descriptorIndex := 246, attributes := #[] }])
  fields := #[{ name := "E", type := .double, accessFlags := 25, slot := 0, constantValue := 0 }, { name := "PI", type := .double, accessFlags := 25, slot := 1, constantValue := 0 }, { name := "TAU", type := .double, accessFlags := 25, slot := 2, constantValue := 0 }, { name := "DEGREES_TO_RADIANS", type := .double, accessFlags := 26, slot := 3, constantValue := 0 }, { name := "RADIANS_TO_DEGREES", type := .double, accessFlags := 26, slot := 4, constantValue := 0 }, { name := "negativeZeroFloatBits", type := .long, accessFlags := 26, slot := 5, constantValue := 0 }, { name := "negativeZeroDoubleBits", type := .long, accessFlags := 26, slot := 6, constantValue := 0 }, { name := "twoToTheDoubleScaleUp", type := .double, accessFlags := 8, slot := 7, constantValue := 0 }, { name := "twoToTheDoubleScaleDown", type := .double, accessFlags := 8, slot := 8, constantValue := 0 }, { name := "$assertionsDisabled", type := .boolean, accessFlags := 4120, slot := 9, constantValue := 0 }]
  methods := #[k17m0, k17m1, k17m2, k17m3]
  instanceTypes := #[]
  staticTypes := #[.double, .double, .double, .double, .double, .long, .long, .double, .double, .boolean]
  resolved := Array.replicate 460 none
  statics := none }

def pool18 : Array CpInfo := pool [(1, .class_ 2), (0, u "java/lang/String"), (1, .class_ 6), (1, u "java/lang/Object"), (0, u "<init>"), (0, u "()V"), (0, .methodref 1 10), (0, .nameAndType 11 12), (0, u "checkIndex"), (0, u "(II)V"), (1, .class_ 16), (1, u "java/lang/StringLatin1"), (36, u "([BI)C"), (36, u "canEncode"), (14, u "(C)Z"), (15, u "$assertionsDisabled"), (0, u "Z"), (98, .class_ 223), (1, u "java/lang/StringLatin1$LinesSpliterator"), (28, u "charAt"), (127, u "toBytes"), (1, u "(C)[B"), (7, .class_ 391), (0, u "java/lang/StringLatin1$CharsSpliterator")] 3

def k18m0 : Method := { name := "<init>", desc := "()V", sig := { parameters := [], returnType := none }, accessFlags := 0, code := none }
def k18c1 : Code := { maxStack := 2, maxLocals := 2, code := jdk_43_method_2_code, exceptionTable := #[], attributes := #[] }
def k18m1 : Method := { name := "charAt", desc := "([BI)C", sig := { parameters := [(.array .byte), .int], returnType := some .char }, accessFlags := 9, code := some k18c1 }
def k18c2 : Code := { maxStack := 2, maxLocals := 1, code := jdk_43_method_3_code, exceptionTable := #[], attributes := #[] }
def k18m2 : Method := { name := "canEncode", desc := "(C)Z", sig := { parameters := [.char], returnType := some .boolean }, accessFlags := 9, code := some k18c2 }
def k18c3 : Code := { maxStack := 4, maxLocals := 1, code := jdk_43_method_46_code, exceptionTable := #[], attributes := #[] }
def k18m3 : Method := { name := "toBytes", desc := "(C)[B", sig := { parameters := [.char], returnType := some (.array .byte) }, accessFlags := 9, code := some k18c3 }
/-- java/lang/StringLatin1 -/
def k18 : Class := { plain "java/lang/StringLatin1" (some 0) with
  accessFlags := 48
  interfaces := #[]
  cf := some (fileOf pool18 14 #[.nestMembers #[390, 221]] #[{ accessFlags := 0, nameIndex := 7, descriptorIndex := 8, attributes := #[] }, { accessFlags := 9, nameIndex := 252, descriptorIndex := 53, attributes := #[] }, { accessFlags := 9, nameIndex := 90, descriptorIndex := 105, attributes := #[] }, { accessFlags := 9, nameIndex := 380, descriptorIndex := 382, attributes := #[] }] 48 4 #[] #[{ accessFlags := 4120, nameIndex := 121, descriptorIndex := 122, attributes := #[] }])
  fields := #[{ name := "$assertionsDisabled", type := .boolean, accessFlags := 4120, slot := 0, constantValue := 0 }]
  methods := #[k18m0, k18m1, k18m2, k18m3]
  instanceTypes := #[]
  staticTypes := #[.boolean]
  resolved := Array.replicate 395 none
  statics := none }

def pool19 : Array CpInfo := pool [(2, .class_ 4), (1, u "java/lang/Object"), (0, u "<init>"), (0, u "()V"), (17, .class_ 26), (1, u "jdk/internal/util/Preconditions"), (6, u "checkIndex"), (21, .class_ 56), (0, u "jdk/internal/util/Preconditions$4"), (57, .class_ 115), (0, u "jdk/internal/util/Preconditions$1"), (7, u "SIOOBE_FORMATTER"), (0, u "Ljava/util/function/BiFunction;"), (0, .class_ 126), (0, u "jdk/internal/util/Preconditions$2"), (3, u "AIOOBE_FORMATTER"), (0, .class_ 132), (0, u "jdk/internal/util/Preconditions$3"), (3, u "IOOBE_FORMATTER"), (41, u "(IILjava/util/function/BiFunction;)I")] 15

def k19m0 : Method := { name := "<init>", desc := "()V", sig := { parameters := [], returnType := none }, accessFlags := 1, code := none }
def k19c1 : Code := { maxStack := 3, maxLocals := 3, code := jdk_41_method_11_code, exceptionTable := #[], attributes := #[] }
def k19m1 : Method := { name := "checkIndex", desc := "(IILjava/util/function/BiFunction;)I", sig := { parameters := [.int, .int, (.object "java/util/function/BiFunction")], returnType := some .int }, accessFlags := 9, code := some k19c1 }
/-- jdk/internal/util/Preconditions -/
def k19 : Class := { plain "jdk/internal/util/Preconditions" (some 0) with
  accessFlags := 33
  interfaces := #[]
  cf := some (fileOf pool19 24 #[.nestMembers #[55, 131, 125, 114]] #[{ accessFlags := 1, nameIndex := 5, descriptorIndex := 6, attributes := #[] }, { accessFlags := 9, nameIndex := 33, descriptorIndex := 178, attributes := #[] }] 33 2 #[] #[{ accessFlags := 25, nameIndex := 123, descriptorIndex := 124, attributes := #[] }, { accessFlags := 25, nameIndex := 130, descriptorIndex := 124, attributes := #[] }, { accessFlags := 25, nameIndex := 136, descriptorIndex := 124, attributes := #[] }])
  fields := #[{ name := "SIOOBE_FORMATTER", type := (.object "java/util/function/BiFunction"), accessFlags := 25, slot := 0, constantValue := 0 }, { name := "AIOOBE_FORMATTER", type := (.object "java/util/function/BiFunction"), accessFlags := 25, slot := 1, constantValue := 0 }, { name := "IOOBE_FORMATTER", type := (.object "java/util/function/BiFunction"), accessFlags := 25, slot := 2, constantValue := 0 }]
  methods := #[k19m0, k19m1]
  instanceTypes := #[]
  staticTypes := #[(.object "java/util/function/BiFunction"), (.object "java/util/function/BiFunction"), (.object "java/util/function/BiFunction")]
  resolved := Array.replicate 194 none
  statics := some 2 }

def pool20 : Array CpInfo := pool [(6, .class_ 8), (1, u "java/lang/Object"), (0, u "<init>"), (0, u "()V"), (1, .class_ 14), (1, u "java/lang/StringUTF16"), (31, u "$assertionsDisabled"), (0, u "Z"), (13, u "HI_BYTE_SHIFT"), (0, u "I"), (2, u "LO_BYTE_SHIFT"), (49, .methodref 12 116), (0, .nameAndType 117 118), (0, u "compress"), (0, u "([CI[BII)I"), (3, u "([CII)[B"), (138, u "coderFromArrayLen"), (0, u "([BI)B"), (106, .class_ 371), (1, u "java/lang/StringUTF16$LinesSpliterator"), (58, u "MAX_LENGTH"), (196, .class_ 628), (0, u "java/lang/StringUTF16$CodePointsSpliterator"), (0, .class_ 630), (0, u "java/lang/StringUTF16$CharsSpliterator")] 4

def k20m0 : Method := { name := "<init>", desc := "()V", sig := { parameters := [], returnType := none }, accessFlags := 0, code := none }
def k20c1 : Code := { maxStack := 2, maxLocals := 2, code := jdk_52_method_15_code, exceptionTable := #[], attributes := #[] }
def k20m1 : Method := { name := "coderFromArrayLen", desc := "([BI)B", sig := { parameters := [(.array .byte), .int], returnType := some .byte }, accessFlags := 8, code := some k20c1 }
def k20c2 : Code := { maxStack := 5, maxLocals := 6, code := jdk_52_method_16_code, exceptionTable := #[], attributes := #[] }
def k20m2 : Method := { name := "compress", desc := "([CII)[B", sig := { parameters := [(.array .char), .int, .int], returnType := some (.array .byte) }, accessFlags := 9, code := some k20c2 }
def k20c3 : Code := { maxStack := 3, maxLocals := 7, code := jdk_52_method_21_code, exceptionTable := #[], attributes := #[] }
def k20m3 : Method := { name := "compress", desc := "([CI[BII)I", sig := { parameters := [(.array .char), .int, (.array .byte), .int, .int], returnType := some .int }, accessFlags := 9, code := some k20c3 }
/-- java/lang/StringUTF16 -/
def k20 : Class := { plain "java/lang/StringUTF16" (some 0) with
  accessFlags := 48
  interfaces := #[]
  cf := some (fileOf pool20 12 #[.nestMembers #[627, 629, 369]] #[{ accessFlags := 0, nameIndex := 9, descriptorIndex := 10, attributes := #[] }, { accessFlags := 8, nameIndex := 261, descriptorIndex := 262, attributes := #[] }, { accessFlags := 9, nameIndex := 117, descriptorIndex := 122, attributes := #[] }, { accessFlags := 9, nameIndex := 117, descriptorIndex := 118, attributes := #[] }] 48 6 #[] #[{ accessFlags := 26, nameIndex := 61, descriptorIndex := 62, attributes := #[] }, { accessFlags := 26, nameIndex := 65, descriptorIndex := 62, attributes := #[] }, { accessFlags := 24, nameIndex := 430, descriptorIndex := 62, attributes := #[] }, { accessFlags := 4120, nameIndex := 46, descriptorIndex := 47, attributes := #[] }])
  fields := #[{ name := "HI_BYTE_SHIFT", type := .int, accessFlags := 26, slot := 0, constantValue := 0 }, { name := "LO_BYTE_SHIFT", type := .int, accessFlags := 26, slot := 1, constantValue := 0 }, { name := "MAX_LENGTH", type := .int, accessFlags := 24, slot := 2, constantValue := 0 }, { name := "$assertionsDisabled", type := .boolean, accessFlags := 4120, slot := 3, constantValue := 0 }]
  methods := #[k20m0, k20m1, k20m2, k20m3]
  instanceTypes := #[]
  staticTypes := #[.int, .int, .int, .boolean]
  resolved := Array.replicate 635 none
  statics := none }

def pool21 : Array CpInfo := pool [(1, .class_ 2), (0, u "java/lang/Cloneable"), (0, .class_ 4), (0, u "java/lang/Object")] 2

/-- java/lang/Cloneable -/
def k21 : Class := { plain "java/lang/Cloneable" (some 0) with
  accessFlags := 1537
  interfaces := #[]
  cf := some (fileOf pool21 1 #[] #[] 1537 3 #[] #[])
  fields := #[]
  methods := #[]
  instanceTypes := #[]
  staticTypes := #[]
  resolved := Array.replicate 7 none
  statics := none }

def pool22 : Array CpInfo := pool [(9, u "<init>"), (6, .class_ 18), (1, u "java/lang/Object"), (0, u "()V"), (1, .class_ 23), (1, u "jdk/internal/util/ArraysSupport"), (0, u "LOG2_ARRAY_LONG_INDEX_SCALE"), (0, u "I"), (2, u "U"), (0, u "Ljdk/internal/misc/Unsafe;"), (8, u "BIG_ENDIAN"), (0, u "Z"), (8, u "LOG2_BYTE_BIT_SIZE"), (4, u "LOG2_ARRAY_INT_INDEX_SCALE"), (54, u "JLA"), (0, u "Ljdk/internal/access/JavaLangAccess;"), (11, u "LOG2_ARRAY_BOOLEAN_INDEX_SCALE"), (9, u "LOG2_ARRAY_BYTE_INDEX_SCALE"), (5, u "LOG2_ARRAY_CHAR_INDEX_SCALE"), (5, u "LOG2_ARRAY_SHORT_INDEX_SCALE"), (18, u "LOG2_ARRAY_FLOAT_INDEX_SCALE"), (24, u "LOG2_ARRAY_DOUBLE_INDEX_SCALE"), (6, .methodref 195 196), (0, .class_ 197), (0, .nameAndType 198 199), (0, u "java/lang/Math"), (0, u "max"), (0, u "(II)I"), (0, .integer 2147483639), (76, u "T_BOOLEAN"), (2, u "T_CHAR"), (1, u "T_FLOAT"), (1, u "T_DOUBLE"), (1, u "T_BYTE"), (1, u "T_SHORT"), (1, u "T_INT"), (1, u "T_LONG"), (1, u "SOFT_MAX_ARRAY_LENGTH"), (56, u "newLength"), (0, u "(III)I")] 25

def k22m0 : Method := { name := "<init>", desc := "()V", sig := { parameters := [], returnType := none }, accessFlags := 2, code := none }
def k22c1 : Code := { maxStack := 3, maxLocals := 4, code := jdk_48_method_27_code, exceptionTable := #[], attributes := #[] }
def k22m1 : Method := { name := "newLength", desc := "(III)I", sig := { parameters := [.int, .int, .int], returnType := some .int }, accessFlags := 9, code := some k22c1 }
/-- jdk/internal/util/ArraysSupport -/
def k22 : Class := { plain "jdk/internal/util/ArraysSupport" (some 0) with
  accessFlags := 33
  interfaces := #[]
  cf := some (fileOf pool22 21 #[] #[{ accessFlags := 2, nameIndex := 9, descriptorIndex := 19, attributes := #[] }, { accessFlags := 9, nameIndex := 351, descriptorIndex := 352, attributes := #[] }] 33 16 #[] #[{ accessFlags := 24, nameIndex := 28, descriptorIndex := 29, attributes := #[] }, { accessFlags := 26, nameIndex := 38, descriptorIndex := 39, attributes := #[] }, { accessFlags := 25, nameIndex := 121, descriptorIndex := 25, attributes := #[] }, { accessFlags := 25, nameIndex := 131, descriptorIndex := 25, attributes := #[] }, { accessFlags := 25, nameIndex := 137, descriptorIndex := 25, attributes := #[] }, { accessFlags := 25, nameIndex := 143, descriptorIndex := 25, attributes := #[] }, { accessFlags := 25, nameIndex := 53, descriptorIndex := 25, attributes := #[] }, { accessFlags := 25, nameIndex := 24, descriptorIndex := 25, attributes := #[] }, { accessFlags := 25, nameIndex := 162, descriptorIndex := 25, attributes := #[] }, { accessFlags := 25, nameIndex := 187, descriptorIndex := 25, attributes := #[] }, { accessFlags := 26, nameIndex := 48, descriptorIndex := 25, attributes := #[] }, { accessFlags := 25, nameIndex := 277, descriptorIndex := 25, attributes := #[] }, { accessFlags := 25, nameIndex := 280, descriptorIndex := 25, attributes := #[] }, { accessFlags := 25, nameIndex := 282, descriptorIndex := 25, attributes := #[] }, { accessFlags := 25, nameIndex := 284, descriptorIndex := 25, attributes := #[] }, { accessFlags := 25, nameIndex := 286, descriptorIndex := 25, attributes := #[] }, { accessFlags := 25, nameIndex := 288, descriptorIndex := 25, attributes := #[] }, { accessFlags := 25, nameIndex := 290, descriptorIndex := 25, attributes := #[] }, { accessFlags := 25, nameIndex := 292, descriptorIndex := 25, attributes := #[] }, { accessFlags := 26, nameIndex := 108, descriptorIndex := 109, attributes := #[] }, { accessFlags := 25, nameIndex := 294, descriptorIndex := 25, attributes := #[] }])
  fields := #[{ name := "U", type := (.object "jdk/internal/misc/Unsafe"), accessFlags := 24, slot := 0, constantValue := 0 }, { name := "BIG_ENDIAN", type := .boolean, accessFlags := 26, slot := 1, constantValue := 0 }, { name := "LOG2_ARRAY_BOOLEAN_INDEX_SCALE", type := .int, accessFlags := 25, slot := 2, constantValue := 0 }, { name := "LOG2_ARRAY_BYTE_INDEX_SCALE", type := .int, accessFlags := 25, slot := 3, constantValue := 0 }, { name := "LOG2_ARRAY_CHAR_INDEX_SCALE", type := .int, accessFlags := 25, slot := 4, constantValue := 0 }, { name := "LOG2_ARRAY_SHORT_INDEX_SCALE", type := .int, accessFlags := 25, slot := 5, constantValue := 0 }, { name := "LOG2_ARRAY_INT_INDEX_SCALE", type := .int, accessFlags := 25, slot := 6, constantValue := 0 }, { name := "LOG2_ARRAY_LONG_INDEX_SCALE", type := .int, accessFlags := 25, slot := 7, constantValue := 0 }, { name := "LOG2_ARRAY_FLOAT_INDEX_SCALE", type := .int, accessFlags := 25, slot := 8, constantValue := 0 }, { name := "LOG2_ARRAY_DOUBLE_INDEX_SCALE", type := .int, accessFlags := 25, slot := 9, constantValue := 0 }, { name := "LOG2_BYTE_BIT_SIZE", type := .int, accessFlags := 26, slot := 10, constantValue := 0 }, { name := "T_BOOLEAN", type := .int, accessFlags := 25, slot := 11, constantValue := 0 }, { name := "T_CHAR", type := .int, accessFlags := 25, slot := 12, constantValue := 0 }, { name := "T_FLOAT", type := .int, accessFlags := 25, slot := 13, constantValue := 0 }, { name := "T_DOUBLE", type := .int, accessFlags := 25, slot := 14, constantValue := 0 }, { name := "T_BYTE", type := .int, accessFlags := 25, slot := 15, constantValue := 0 }, { name := "T_SHORT", type := .int, accessFlags := 25, slot := 16, constantValue := 0 }, { name := "T_INT", type := .int, accessFlags := 25, slot := 17, constantValue := 0 }, { name := "T_LONG", type := .int, accessFlags := 25, slot := 18, constantValue := 0 }, { name := "JLA", type := (.object "jdk/internal/access/JavaLangAccess"), accessFlags := 26, slot := 19, constantValue := 0 }, { name := "SOFT_MAX_ARRAY_LENGTH", type := .int, accessFlags := 25, slot := 20, constantValue := 0 }]
  methods := #[k22m0, k22m1]
  instanceTypes := #[]
  staticTypes := #[(.object "jdk/internal/misc/Unsafe"), .boolean, .int, .int, .int, .int, .int, .int, .int, .int, .int, .int, .int, .int, .int, .int, .int, .int, .int, (.object "jdk/internal/access/JavaLangAccess"), .int]
  resolved := Array.replicate 378 none
  statics := none }

/-- the primitive byte -/
def k23 : Class := { plain "byte" none with kind := .primitive 'B', accessFlags := 0x411 }
/-- [B -/
def k24 : Class := { plain "[B" (some 0) with kind := .array 23 .byte, interfaces := #[21, 2], accessFlags := 1041 }

/-- the primitive char -/
def k25 : Class := { plain "char" none with kind := .primitive 'C', accessFlags := 0x411 }
/-- [C -/
def k26 : Class := { plain "[C" (some 0) with kind := .array 25 .char, interfaces := #[21, 2], accessFlags := 1041 }

/-- the primitive int -/
def k27 : Class := { plain "int" none with kind := .primitive 'I', accessFlags := 0x411 }
/-- [I -/
def k28 : Class := { plain "[I" (some 0) with kind := .array 27 .int, interfaces := #[21, 2], accessFlags := 1041 }

/-- the primitive long -/
def k29 : Class := { plain "long" none with kind := .primitive 'J', accessFlags := 0x411 }
/-- [J -/
def k30 : Class := { plain "[J" (some 0) with kind := .array 29 .long, interfaces := #[21, 2], accessFlags := 1041 }

def heap : Heap := #[{ cls := 7, slots := #[.long 0, .int 1, .null, .int 0, .null, .int 0, .int 0], vm := .statics 7 },
  { cls := 15, slots := #[.int 0, .int 0, .null, .null, .ref 4, .ref 3, .int 0, .int 0, .long 0], vm := .statics 15 },
  { cls := 19, slots := #[.null, .null, .null], vm := .statics 19 },
  { cls := 24, slots := #[.int 48, .int 49, .int 50, .int 51, .int 52, .int 53, .int 54, .int 55, .int 56, .int 57, .int 48, .int 49, .int 50, .int 51, .int 52, .int 53, .int 54, .int 55, .int 56, .int 57, .int 48, .int 49, .int 50, .int 51, .int 52, .int 53, .int 54, .int 55, .int 56, .int 57, .int 48, .int 49, .int 50, .int 51, .int 52, .int 53, .int 54, .int 55, .int 56, .int 57, .int 48, .int 49, .int 50, .int 51, .int 52, .int 53, .int 54, .int 55, .int 56, .int 57, .int 48, .int 49, .int 50, .int 51, .int 52, .int 53, .int 54, .int 55, .int 56, .int 57, .int 48, .int 49, .int 50, .int 51, .int 52, .int 53, .int 54, .int 55, .int 56, .int 57, .int 48, .int 49, .int 50, .int 51, .int 52, .int 53, .int 54, .int 55, .int 56, .int 57, .int 48, .int 49, .int 50, .int 51, .int 52, .int 53, .int 54, .int 55, .int 56, .int 57, .int 48, .int 49, .int 50, .int 51, .int 52, .int 53, .int 54, .int 55, .int 56, .int 57], vm := .none },
  { cls := 24, slots := #[.int 48, .int 48, .int 48, .int 48, .int 48, .int 48, .int 48, .int 48, .int 48, .int 48, .int 49, .int 49, .int 49, .int 49, .int 49, .int 49, .int 49, .int 49, .int 49, .int 49, .int 50, .int 50, .int 50, .int 50, .int 50, .int 50, .int 50, .int 50, .int 50, .int 50, .int 51, .int 51, .int 51, .int 51, .int 51, .int 51, .int 51, .int 51, .int 51, .int 51, .int 52, .int 52, .int 52, .int 52, .int 52, .int 52, .int 52, .int 52, .int 52, .int 52, .int 53, .int 53, .int 53, .int 53, .int 53, .int 53, .int 53, .int 53, .int 53, .int 53, .int 54, .int 54, .int 54, .int 54, .int 54, .int 54, .int 54, .int 54, .int 54, .int 54, .int 55, .int 55, .int 55, .int 55, .int 55, .int 55, .int 55, .int 55, .int 55, .int 55, .int 56, .int 56, .int 56, .int 56, .int 56, .int 56, .int 56, .int 56, .int 56, .int 56, .int 57, .int 57, .int 57, .int 57, .int 57, .int 57, .int 57, .int 57, .int 57, .int 57], vm := .none }]
def classes : Array Class := #[k0, k1, k2, k3, k4, k5, k6, k7, k8, k9, k10, k11, k12, k13, k14, k15, k16, k17, k18, k19, k20, k21, k22, k23, k24, k25, k26, k27, k28, k29, k30]
def interned : List (Array UInt16 × Addr) := []
def slotsUsed : Nat := 219
def theMethod : MethodId := ⟨1, 1⟩
def args0 : Array Value := #[.int 1, .int 2, .int 3]
def aboutOver (below : List Frame) : State where
  vm := { classes := classes, interned := interned.toArray }
  heap := heap
  slotsUsed := slotsUsed
  threads := #[{ frames := .invoking theMethod args0 :: below }]
def below0 : List Frame := [.native { method := ⟨0, 0⟩, args := #[] }]
def about1 : State := aboutOver below0
def p0 : Program := .bare "" "" ""
def e0 : Env := launch0.env 0 0 0
theorem w_frames : about1.frames = Frame.invoking theMethod args0 :: below0 := rfl
set_option maxRecDepth 65536 in
theorem w_args : argsFit about1.vm theMethod args0 = true := by decide +kernel
set_option maxRecDepth 65536 in
theorem w_heap : heapFits about1 = true := by decide +kernel
set_option maxRecDepth 65536 in
theorem w_runnable : about1.curStatus? = some .runnable := by decide +kernel
set_option maxRecDepth 65536 in
theorem w_alone : about1.alone = true := by decide +kernel
set_option maxRecDepth 65536 in
theorem w_named : about1.methodNamed? x = some theMethod := by decide +kernel
set_option maxRecDepth 65536 in
theorem w_hears : about1.hears theMethod below0 = true := by decide +kernel
set_option maxRecDepth 65536 in
theorem w_ripe : about1.ripe theMethod args0 below0 = true := by decide +kernel
theorem w_running : about1.status = .running := rfl
set_option maxRecDepth 65536 in
theorem w_room : about1.hasRoom e0.platform room_1 = true :=
  launch0.hasRoom_least _ room_1 (by decide +kernel) (by decide +kernel) (by decide +kernel) (by decide +kernel) (by decide +kernel) (by decide +kernel)
theorem allAtoms_all (ts : List Jvm.Cond) (a : Array Jvm.Value) (st : Jvm.State) : (allAtoms ts).before a st = ts.all (fun c => c.before a st) := by
  induction ts with
  | nil => rfl
  | cons c t ih =>
    show (Jvm.Cond.and c (allAtoms t)).before a st = _
    rw [Jvm.Cond.before_and, ih, List.all_cons]
def words1 : List Jvm.Cond := Jvm.Cond.code x code maxLocals ret :: tables_1
/-- a 'code' word, met by the world's own term for the bytes: nothing is compared byte by byte -/
theorem code_word {y : MethodName} {bytes : ByteArray} {mx : Nat} {rt : Option FieldType} {a : Array Value} {s : State} {m : MethodId} {meth : Method} {c : Code} (h1 : s.methodNamed? y = some m) (h2 : s.vm.method? m = some meth) (h3 : meth.code = some c) (h4 : c.code = bytes)
    (h5 : (c.maxLocals == mx && c.exceptionTable.isEmpty && decide (c.maxStack ≤ mostOperands) && decide (meth.sig.returnType = rt) && !meth.locks && decide (parseMethodDescriptor y.desc = some meth.sig)) = true) : (Jvm.Cond.code y bytes mx rt).before a s = true := by
  simp only [Bool.and_eq_true, beq_iff_eq, Bool.not_eq_true', decide_eq_true_eq] at h5
  obtain ⟨⟨⟨⟨⟨g1, g2⟩, g3⟩, g4⟩, g5⟩, g6⟩ := h5
  simp [Cond.before, Cond.holds, Cond.value, h1, h2, h3, h4, g1, g2, g3, g4, g5, g6]
def isCode : Jvm.Cond → Bool
  | .code _ _ _ _ => true
  | _ => false
theorem all_split {L : List Jvm.Cond} {P : Jvm.Cond → Bool} (h1 : L.all (fun c => isCode c || P c) = true) (h2 : ∀ c ∈ L.filter isCode, P c = true) : L.all P = true := by
  refine List.all_eq_true.mpr fun c hc => ?_
  have h := List.all_eq_true.mp h1 c hc
  rcases Bool.eq_false_or_eq_true (isCode c) with hi | hi
  · exact h2 c (List.mem_filter.mpr ⟨hc, hi⟩)
  · simpa [hi] using h
set_option maxRecDepth 65536 in
theorem w_c0 : (Jvm.Cond.code x code maxLocals ret).before args0 about1 = true := code_word (m := ⟨1, 1⟩) (meth := k1m1) (c := k1c1) (by decide +kernel) rfl rfl rfl (by decide +kernel)
set_option maxRecDepth 65536 in
theorem w_c1 : (Jvm.Cond.code ({ cls := "org/dalvista/LabelLinePinLaw", name := "make", desc := "(ICC)Ljava/lang/String;" } : Jvm.MethodName) method_3_code (4 : Nat) (Option.some (Jvm.ClassFile.FieldType.object "java/lang/String"))).before args0 about1 = true := code_word (m := ⟨1, 2⟩) (meth := k1m2) (c := k1c2) (by decide +kernel) rfl rfl rfl (by decide +kernel)
set_option maxRecDepth 65536 in
theorem w_c2 : (Jvm.Cond.code ({ cls := "org/dalvista/Label", name := "<init>", desc := "(Ljava/lang/String;ILjava/lang/String;)V" } : Jvm.MethodName) prog_1_method_1_code (4 : Nat) (Option.none : Option Jvm.ClassFile.FieldType)).before args0 about1 = true := code_word (m := ⟨9, 0⟩) (meth := k9m0) (c := k9c0) (by decide +kernel) rfl rfl rfl (by decide +kernel)
set_option maxRecDepth 65536 in
theorem w_c3 : (Jvm.Cond.code ({ cls := "java/lang/Record", name := "<init>", desc := "()V" } : Jvm.MethodName) jdk_30_method_1_code (1 : Nat) (Option.none : Option Jvm.ClassFile.FieldType)).before args0 about1 = true := code_word (m := ⟨8, 0⟩) (meth := k8m0) (c := k8c0) (by decide +kernel) rfl rfl rfl (by decide +kernel)
set_option maxRecDepth 65536 in
theorem w_c4 : (Jvm.Cond.code ({ cls := "java/lang/Object", name := "<init>", desc := "()V" } : Jvm.MethodName) object_method_1_code (1 : Nat) (Option.none : Option Jvm.ClassFile.FieldType)).before args0 about1 = true := code_word (m := ⟨0, 0⟩) (meth := k0m0) (c := k0c0) (by decide +kernel) rfl rfl rfl (by decide +kernel)
set_option maxRecDepth 65536 in
theorem w_c5 : (Jvm.Cond.code ({ cls := "org/dalvista/Label", name := "line", desc := "()Ljava/lang/String;" } : Jvm.MethodName) prog_1_method_3_code (1 : Nat) (Option.some (Jvm.ClassFile.FieldType.object "java/lang/String"))).before args0 about1 = true := code_word (m := ⟨9, 2⟩) (meth := k9m2) (c := k9c2) (by decide +kernel) rfl rfl rfl (by decide +kernel)
set_option maxRecDepth 65536 in
theorem w_c6 : (Jvm.Cond.code ({ cls := "java/lang/StringBuilder", name := "<init>", desc := "()V" } : Jvm.MethodName) jdk_67_method_1_code (1 : Nat) (Option.none : Option Jvm.ClassFile.FieldType)).before args0 about1 = true := code_word (m := ⟨12, 0⟩) (meth := k12m0) (c := k12c0) (by decide +kernel) rfl rfl rfl (by decide +kernel)
set_option maxRecDepth 65536 in
theorem w_c7 : (Jvm.Cond.code ({ cls := "java/lang/AbstractStringBuilder", name := "<init>", desc := "(I)V" } : Jvm.MethodName) jdk_68_method_2_code (2 : Nat) (Option.none : Option Jvm.ClassFile.FieldType)).before args0 about1 = true := code_word (m := ⟨11, 1⟩) (meth := k11m1) (c := k11c1) (by decide +kernel) rfl rfl rfl (by decide +kernel)
set_option maxRecDepth 65536 in
theorem w_c8 : (Jvm.Cond.code ({ cls := "org/dalvista/Label", name := "name", desc := "()Ljava/lang/String;" } : Jvm.MethodName) prog_1_method_2_code (1 : Nat) (Option.some (Jvm.ClassFile.FieldType.object "java/lang/String"))).before args0 about1 = true := code_word (m := ⟨9, 1⟩) (meth := k9m1) (c := k9c1) (by decide +kernel) rfl rfl rfl (by decide +kernel)
set_option maxRecDepth 65536 in
theorem w_c9 : (Jvm.Cond.code ({ cls := "java/lang/StringBuilder", name := "append", desc := "(Ljava/lang/String;)Ljava/lang/StringBuilder;" } : Jvm.MethodName) jdk_67_method_7_code (2 : Nat) (Option.some (Jvm.ClassFile.FieldType.object "java/lang/StringBuilder"))).before args0 about1 = true := code_word (m := ⟨12, 1⟩) (meth := k12m1) (c := k12c1) (by decide +kernel) rfl rfl rfl (by decide +kernel)
set_option maxRecDepth 65536 in
theorem w_c10 : (Jvm.Cond.code ({ cls := "java/lang/AbstractStringBuilder", name := "append", desc := "(Ljava/lang/String;)Ljava/lang/AbstractStringBuilder;" } : Jvm.MethodName) jdk_68_method_22_code (3 : Nat) (Option.some (Jvm.ClassFile.FieldType.object "java/lang/AbstractStringBuilder"))).before args0 about1 = true := code_word (m := ⟨11, 5⟩) (meth := k11m5) (c := k11c5) (by decide +kernel) rfl rfl rfl (by decide +kernel)
set_option maxRecDepth 65536 in
theorem w_c11 : (Jvm.Cond.code ({ cls := "java/lang/String", name := "length", desc := "()I" } : Jvm.MethodName) jdk_42_method_54_code (1 : Nat) (Option.some Jvm.ClassFile.FieldType.int)).before args0 about1 = true := code_word (m := ⟨7, 3⟩) (meth := k7m3) (c := k7c3) (by decide +kernel) rfl rfl rfl (by decide +kernel)
set_option maxRecDepth 65536 in
theorem w_c12 : (Jvm.Cond.code ({ cls := "java/lang/String", name := "coder", desc := "()B" } : Jvm.MethodName) jdk_42_method_152_code (1 : Nat) (Option.some Jvm.ClassFile.FieldType.byte)).before args0 about1 = true := code_word (m := ⟨7, 10⟩) (meth := k7m10) (c := k7c10) (by decide +kernel) rfl rfl rfl (by decide +kernel)
set_option maxRecDepth 65536 in
theorem w_c13 : (Jvm.Cond.code ({ cls := "java/lang/AbstractStringBuilder", name := "ensureCapacityInternal", desc := "(I)V" } : Jvm.MethodName) jdk_68_method_9_code (3 : Nat) (Option.none : Option Jvm.ClassFile.FieldType)).before args0 about1 = true := code_word (m := ⟨11, 3⟩) (meth := k11m3) (c := k11c3) (by decide +kernel) rfl rfl rfl (by decide +kernel)
set_option maxRecDepth 65536 in
theorem w_c14 : (Jvm.Cond.code ({ cls := "java/lang/AbstractStringBuilder", name := "putStringAt", desc := "(ILjava/lang/String;)V" } : Jvm.MethodName) jdk_68_method_73_code (3 : Nat) (Option.none : Option Jvm.ClassFile.FieldType)).before args0 about1 = true := code_word (m := ⟨11, 10⟩) (meth := k11m10) (c := k11c10) (by decide +kernel) rfl rfl rfl (by decide +kernel)
set_option maxRecDepth 65536 in
theorem w_c15 : (Jvm.Cond.code ({ cls := "java/lang/AbstractStringBuilder", name := "inflateIfNeededFor", desc := "(Ljava/lang/String;)V" } : Jvm.MethodName) jdk_68_method_71_code (2 : Nat) (Option.none : Option Jvm.ClassFile.FieldType)).before args0 about1 = true := code_word (m := ⟨11, 9⟩) (meth := k11m9) (c := k11c9) (by decide +kernel) rfl rfl rfl (by decide +kernel)
set_option maxRecDepth 65536 in
theorem w_c16 : (Jvm.Cond.code ({ cls := "java/lang/String", name := "getBytes", desc := "([BIB)V" } : Jvm.MethodName) jdk_42_method_147_code (4 : Nat) (Option.none : Option Jvm.ClassFile.FieldType)).before args0 about1 = true := code_word (m := ⟨7, 6⟩) (meth := k7m6) (c := k7c6) (by decide +kernel) rfl rfl rfl (by decide +kernel)
set_option maxRecDepth 65536 in
theorem w_c17 : (Jvm.Cond.code ({ cls := "java/lang/StringBuilder", name := "append", desc := "(I)Ljava/lang/StringBuilder;" } : Jvm.MethodName) jdk_67_method_15_code (2 : Nat) (Option.some (Jvm.ClassFile.FieldType.object "java/lang/StringBuilder"))).before args0 about1 = true := code_word (m := ⟨12, 2⟩) (meth := k12m2) (c := k12c2) (by decide +kernel) rfl rfl rfl (by decide +kernel)
set_option maxRecDepth 65536 in
theorem w_c18 : (Jvm.Cond.code ({ cls := "java/lang/AbstractStringBuilder", name := "append", desc := "(I)Ljava/lang/AbstractStringBuilder;" } : Jvm.MethodName) jdk_68_method_32_code (4 : Nat) (Option.some (Jvm.ClassFile.FieldType.object "java/lang/AbstractStringBuilder"))).before args0 about1 = true := code_word (m := ⟨11, 6⟩) (meth := k11m6) (c := k11c6) (by decide +kernel) rfl rfl rfl (by decide +kernel)
set_option maxRecDepth 65536 in
theorem w_c19 : (Jvm.Cond.code ({ cls := "java/lang/Integer", name := "stringSize", desc := "(I)I" } : Jvm.MethodName) jdk_33_method_13_code (4 : Nat) (Option.some Jvm.ClassFile.FieldType.int)).before args0 about1 = true := code_word (m := ⟨15, 1⟩) (meth := k15m1) (c := k15c1) (by decide +kernel) rfl rfl rfl (by decide +kernel)
set_option maxRecDepth 65536 in
theorem w_c20 : (Jvm.Cond.code ({ cls := "java/lang/AbstractStringBuilder", name := "isLatin1", desc := "()Z" } : Jvm.MethodName) jdk_68_method_68_code (1 : Nat) (Option.some Jvm.ClassFile.FieldType.boolean)).before args0 about1 = true := code_word (m := ⟨11, 8⟩) (meth := k11m8) (c := k11c8) (by decide +kernel) rfl rfl rfl (by decide +kernel)
set_option maxRecDepth 65536 in
theorem w_c21 : (Jvm.Cond.code ({ cls := "java/lang/Integer", name := "getChars", desc := "(II[B)I" } : Jvm.MethodName) jdk_33_method_12_code (7 : Nat) (Option.some Jvm.ClassFile.FieldType.int)).before args0 about1 = true := code_word (m := ⟨15, 0⟩) (meth := k15m0) (c := k15c0) (by decide +kernel) rfl rfl rfl (by decide +kernel)
set_option maxRecDepth 65536 in
theorem w_c22 : (Jvm.Cond.code ({ cls := "java/lang/StringBuilder", name := "toString", desc := "()Ljava/lang/String;" } : Jvm.MethodName) jdk_67_method_42_code (1 : Nat) (Option.some (Jvm.ClassFile.FieldType.object "java/lang/String"))).before args0 about1 = true := code_word (m := ⟨12, 3⟩) (meth := k12m3) (c := k12c3) (by decide +kernel) rfl rfl rfl (by decide +kernel)
set_option maxRecDepth 65536 in
theorem w_c23 : (Jvm.Cond.code ({ cls := "java/lang/String", name := "<init>", desc := "(Ljava/lang/StringBuilder;)V" } : Jvm.MethodName) jdk_42_method_53_code (2 : Nat) (Option.none : Option Jvm.ClassFile.FieldType)).before args0 about1 = true := code_word (m := ⟨7, 2⟩) (meth := k7m2) (c := k7c2) (by decide +kernel) rfl rfl rfl (by decide +kernel)
set_option maxRecDepth 65536 in
theorem w_c24 : (Jvm.Cond.code ({ cls := "java/lang/String", name := "<init>", desc := "(Ljava/lang/AbstractStringBuilder;Ljava/lang/Void;)V" } : Jvm.MethodName) jdk_42_method_150_code (5 : Nat) (Option.none : Option Jvm.ClassFile.FieldType)).before args0 about1 = true := code_word (m := ⟨7, 8⟩) (meth := k7m8) (c := k7c8) (by decide +kernel) rfl rfl rfl (by decide +kernel)
set_option maxRecDepth 65536 in
theorem w_c25 : (Jvm.Cond.code ({ cls := "java/lang/AbstractStringBuilder", name := "getValue", desc := "()[B" } : Jvm.MethodName) jdk_68_method_64_code (1 : Nat) (Option.some (Jvm.ClassFile.FieldType.array Jvm.ClassFile.FieldType.byte))).before args0 about1 = true := code_word (m := ⟨11, 7⟩) (meth := k11m7) (c := k11c7) (by decide +kernel) rfl rfl rfl (by decide +kernel)
set_option maxRecDepth 65536 in
theorem w_c26 : (Jvm.Cond.code ({ cls := "java/lang/StringBuilder", name := "length", desc := "()I" } : Jvm.MethodName) jdk_67_method_93_code (1 : Nat) (Option.some Jvm.ClassFile.FieldType.int)).before args0 about1 = true := code_word (m := ⟨12, 4⟩) (meth := k12m4) (c := k12c4) (by decide +kernel) rfl rfl rfl (by decide +kernel)
set_option maxRecDepth 65536 in
theorem w_c27 : (Jvm.Cond.code ({ cls := "java/lang/AbstractStringBuilder", name := "length", desc := "()I" } : Jvm.MethodName) jdk_68_method_6_code (1 : Nat) (Option.some Jvm.ClassFile.FieldType.int)).before args0 about1 = true := code_word (m := ⟨11, 2⟩) (meth := k11m2) (c := k11c2) (by decide +kernel) rfl rfl rfl (by decide +kernel)
set_option maxRecDepth 65536 in
theorem w_c28 : (Jvm.Cond.code ({ cls := "java/util/Arrays", name := "copyOfRange", desc := "([BII)[B" } : Jvm.MethodName) jdk_65_method_132_code (3 : Nat) (Option.some (Jvm.ClassFile.FieldType.array Jvm.ClassFile.FieldType.byte))).before args0 about1 = true := code_word (m := ⟨16, 3⟩) (meth := k16m3) (c := k16c3) (by decide +kernel) rfl rfl rfl (by decide +kernel)
set_option maxRecDepth 65536 in
theorem w_c29 : (Jvm.Cond.code ({ cls := "java/util/Arrays", name := "copyOfRangeByte", desc := "([BII)[B" } : Jvm.MethodName) jdk_65_method_133_code (5 : Nat) (Option.some (Jvm.ClassFile.FieldType.array Jvm.ClassFile.FieldType.byte))).before args0 about1 = true := code_word (m := ⟨16, 4⟩) (meth := k16m4) (c := k16c4) (by decide +kernel) rfl rfl rfl (by decide +kernel)
set_option maxRecDepth 65536 in
theorem w_c30 : (Jvm.Cond.code ({ cls := "java/util/Arrays", name := "checkLength", desc := "(II)V" } : Jvm.MethodName) jdk_65_method_131_code (2 : Nat) (Option.none : Option Jvm.ClassFile.FieldType)).before args0 about1 = true := code_word (m := ⟨16, 2⟩) (meth := k16m2) (c := k16c2) (by decide +kernel) rfl rfl rfl (by decide +kernel)
set_option maxRecDepth 65536 in
theorem w_c31 : (Jvm.Cond.code ({ cls := "java/lang/Math", name := "min", desc := "(II)I" } : Jvm.MethodName) jdk_29_method_69_code (2 : Nat) (Option.some Jvm.ClassFile.FieldType.int)).before args0 about1 = true := code_word (m := ⟨17, 3⟩) (meth := k17m3) (c := k17c3) (by decide +kernel) rfl rfl rfl (by decide +kernel)
set_option maxRecDepth 65536 in
theorem w_c32 : (Jvm.Cond.code ({ cls := "java/lang/Math", name := "abs", desc := "(J)J" } : Jvm.MethodName) jdk_29_method_61_code (2 : Nat) (Option.some Jvm.ClassFile.FieldType.long)).before args0 about1 = true := code_word (m := ⟨17, 1⟩) (meth := k17m1) (c := k17c1) (by decide +kernel) rfl rfl rfl (by decide +kernel)
set_option maxRecDepth 65536 in
theorem w_c33 : (Jvm.Cond.code ({ cls := "org/dalvista/LabelLinePinLaw", name := "digits", desc := "(J)I" } : Jvm.MethodName) method_5_code (3 : Nat) (Option.some Jvm.ClassFile.FieldType.int)).before args0 about1 = true := code_word (m := ⟨1, 4⟩) (meth := k1m4) (c := k1c4) (by decide +kernel) rfl rfl rfl (by decide +kernel)
set_option maxRecDepth 65536 in
theorem w_c34 : (Jvm.Cond.code ({ cls := "java/lang/String", name := "charAt", desc := "(I)C" } : Jvm.MethodName) jdk_42_method_56_code (2 : Nat) (Option.some Jvm.ClassFile.FieldType.char)).before args0 about1 = true := code_word (m := ⟨7, 4⟩) (meth := k7m4) (c := k7c4) (by decide +kernel) rfl rfl rfl (by decide +kernel)
set_option maxRecDepth 65536 in
theorem w_c35 : (Jvm.Cond.code ({ cls := "java/lang/String", name := "isLatin1", desc := "()Z" } : Jvm.MethodName) jdk_42_method_154_code (1 : Nat) (Option.some Jvm.ClassFile.FieldType.boolean)).before args0 about1 = true := code_word (m := ⟨7, 11⟩) (meth := k7m11) (c := k7c11) (by decide +kernel) rfl rfl rfl (by decide +kernel)
set_option maxRecDepth 65536 in
theorem w_c36 : (Jvm.Cond.code ({ cls := "java/lang/StringLatin1", name := "charAt", desc := "([BI)C" } : Jvm.MethodName) jdk_43_method_2_code (2 : Nat) (Option.some Jvm.ClassFile.FieldType.char)).before args0 about1 = true := code_word (m := ⟨18, 1⟩) (meth := k18m1) (c := k18c1) (by decide +kernel) rfl rfl rfl (by decide +kernel)
set_option maxRecDepth 65536 in
theorem w_c37 : (Jvm.Cond.code ({ cls := "java/lang/String", name := "checkIndex", desc := "(II)V" } : Jvm.MethodName) jdk_42_method_155_code (2 : Nat) (Option.none : Option Jvm.ClassFile.FieldType)).before args0 about1 = true := code_word (m := ⟨7, 12⟩) (meth := k7m12) (c := k7c12) (by decide +kernel) rfl rfl rfl (by decide +kernel)
set_option maxRecDepth 65536 in
theorem w_c38 : (Jvm.Cond.code ({ cls := "jdk/internal/util/Preconditions", name := "checkIndex", desc := "(IILjava/util/function/BiFunction;)I" } : Jvm.MethodName) jdk_41_method_11_code (3 : Nat) (Option.some Jvm.ClassFile.FieldType.int)).before args0 about1 = true := code_word (m := ⟨19, 1⟩) (meth := k19m1) (c := k19c1) (by decide +kernel) rfl rfl rfl (by decide +kernel)
set_option maxRecDepth 65536 in
theorem w_c39 : (Jvm.Cond.code ({ cls := "org/dalvista/LabelLinePinLaw", name := "part", desc := "(Ljava/lang/String;IICC)Z" } : Jvm.MethodName) method_4_code (5 : Nat) (Option.some Jvm.ClassFile.FieldType.boolean)).before args0 about1 = true := code_word (m := ⟨1, 3⟩) (meth := k1m3) (c := k1c3) (by decide +kernel) rfl rfl rfl (by decide +kernel)
set_option maxRecDepth 65536 in
theorem w_c40 : (Jvm.Cond.code ({ cls := "org/dalvista/LabelLinePinLaw", name := "num", desc := "(Ljava/lang/String;IIJI)Z" } : Jvm.MethodName) method_6_code (6 : Nat) (Option.some Jvm.ClassFile.FieldType.boolean)).before args0 about1 = true := code_word (m := ⟨1, 5⟩) (meth := k1m5) (c := k1c5) (by decide +kernel) rfl rfl rfl (by decide +kernel)
set_option maxRecDepth 65536 in
theorem w_c41 : (Jvm.Cond.code ({ cls := "org/dalvista/LabelLinePinLaw", name := "numAt", desc := "(Ljava/lang/String;IIJII)Z" } : Jvm.MethodName) method_7_code (10 : Nat) (Option.some Jvm.ClassFile.FieldType.boolean)).before args0 about1 = true := code_word (m := ⟨1, 6⟩) (meth := k1m6) (c := k1c6) (by decide +kernel) rfl rfl rfl (by decide +kernel)
set_option maxRecDepth 65536 in
theorem w_c42 : (Jvm.Cond.code ({ cls := "java/lang/String", name := "<init>", desc := "([C)V" } : Jvm.MethodName) jdk_42_method_3_code (2 : Nat) (Option.none : Option Jvm.ClassFile.FieldType)).before args0 about1 = true := code_word (m := ⟨7, 1⟩) (meth := k7m1) (c := k7c1) (by decide +kernel) rfl rfl rfl (by decide +kernel)
set_option maxRecDepth 65536 in
theorem w_c43 : (Jvm.Cond.code ({ cls := "java/lang/String", name := "<init>", desc := "([CIILjava/lang/Void;)V" } : Jvm.MethodName) jdk_42_method_149_code (6 : Nat) (Option.none : Option Jvm.ClassFile.FieldType)).before args0 about1 = true := code_word (m := ⟨7, 7⟩) (meth := k7m7) (c := k7c7) (by decide +kernel) rfl rfl rfl (by decide +kernel)
set_option maxRecDepth 65536 in
theorem w_c44 : (Jvm.Cond.code ({ cls := "java/lang/StringUTF16", name := "compress", desc := "([CII)[B" } : Jvm.MethodName) jdk_52_method_16_code (6 : Nat) (Option.some (Jvm.ClassFile.FieldType.array Jvm.ClassFile.FieldType.byte))).before args0 about1 = true := code_word (m := ⟨20, 2⟩) (meth := k20m2) (c := k20c2) (by decide +kernel) rfl rfl rfl (by decide +kernel)
set_option maxRecDepth 65536 in
theorem w_c45 : (Jvm.Cond.code ({ cls := "java/lang/StringUTF16", name := "compress", desc := "([CI[BII)I" } : Jvm.MethodName) jdk_52_method_21_code (7 : Nat) (Option.some Jvm.ClassFile.FieldType.int)).before args0 about1 = true := code_word (m := ⟨20, 3⟩) (meth := k20m3) (c := k20c3) (by decide +kernel) rfl rfl rfl (by decide +kernel)
set_option maxRecDepth 65536 in
theorem w_c46 : (Jvm.Cond.code ({ cls := "java/lang/StringUTF16", name := "coderFromArrayLen", desc := "([BI)B" } : Jvm.MethodName) jdk_52_method_15_code (2 : Nat) (Option.some Jvm.ClassFile.FieldType.byte)).before args0 about1 = true := code_word (m := ⟨20, 1⟩) (meth := k20m1) (c := k20c1) (by decide +kernel) rfl rfl rfl (by decide +kernel)
set_option maxRecDepth 65536 in
theorem w_c47 : (Jvm.Cond.code ({ cls := "java/lang/AbstractStringBuilder", name := "newCapacity", desc := "(I)I" } : Jvm.MethodName) jdk_68_method_10_code (6 : Nat) (Option.some Jvm.ClassFile.FieldType.int)).before args0 about1 = true := code_word (m := ⟨11, 4⟩) (meth := k11m4) (c := k11c4) (by decide +kernel) rfl rfl rfl (by decide +kernel)
set_option maxRecDepth 65536 in
theorem w_c48 : (Jvm.Cond.code ({ cls := "jdk/internal/util/ArraysSupport", name := "newLength", desc := "(III)I" } : Jvm.MethodName) jdk_48_method_27_code (4 : Nat) (Option.some Jvm.ClassFile.FieldType.int)).before args0 about1 = true := code_word (m := ⟨22, 1⟩) (meth := k22m1) (c := k22c1) (by decide +kernel) rfl rfl rfl (by decide +kernel)
set_option maxRecDepth 65536 in
theorem w_c49 : (Jvm.Cond.code ({ cls := "java/lang/Math", name := "max", desc := "(II)I" } : Jvm.MethodName) jdk_29_method_65_code (2 : Nat) (Option.some Jvm.ClassFile.FieldType.int)).before args0 about1 = true := code_word (m := ⟨17, 2⟩) (meth := k17m2) (c := k17c2) (by decide +kernel) rfl rfl rfl (by decide +kernel)
set_option maxRecDepth 65536 in
theorem w_c50 : (Jvm.Cond.code ({ cls := "java/util/Arrays", name := "copyOf", desc := "([BI)[B" } : Jvm.MethodName) jdk_65_method_121_code (3 : Nat) (Option.some (Jvm.ClassFile.FieldType.array Jvm.ClassFile.FieldType.byte))).before args0 about1 = true := code_word (m := ⟨16, 1⟩) (meth := k16m1) (c := k16c1) (by decide +kernel) rfl rfl rfl (by decide +kernel)
set_option maxRecDepth 65536 in
theorem w_c51 : (Jvm.Cond.code ({ cls := "java/lang/String", name := "valueOf", desc := "(C)Ljava/lang/String;" } : Jvm.MethodName) jdk_42_method_139_code (1 : Nat) (Option.some (Jvm.ClassFile.FieldType.object "java/lang/String"))).before args0 about1 = true := code_word (m := ⟨7, 5⟩) (meth := k7m5) (c := k7c5) (by decide +kernel) rfl rfl rfl (by decide +kernel)
set_option maxRecDepth 65536 in
theorem w_c52 : (Jvm.Cond.code ({ cls := "java/lang/StringLatin1", name := "canEncode", desc := "(C)Z" } : Jvm.MethodName) jdk_43_method_3_code (1 : Nat) (Option.some Jvm.ClassFile.FieldType.boolean)).before args0 about1 = true := code_word (m := ⟨18, 2⟩) (meth := k18m2) (c := k18c2) (by decide +kernel) rfl rfl rfl (by decide +kernel)
set_option maxRecDepth 65536 in
theorem w_c53 : (Jvm.Cond.code ({ cls := "java/lang/StringLatin1", name := "toBytes", desc := "(C)[B" } : Jvm.MethodName) jdk_43_method_46_code (1 : Nat) (Option.some (Jvm.ClassFile.FieldType.array Jvm.ClassFile.FieldType.byte))).before args0 about1 = true := code_word (m := ⟨18, 3⟩) (meth := k18m3) (c := k18c3) (by decide +kernel) rfl rfl rfl (by decide +kernel)
set_option maxRecDepth 65536 in
theorem w_c54 : (Jvm.Cond.code ({ cls := "java/lang/String", name := "<init>", desc := "([BB)V" } : Jvm.MethodName) jdk_42_method_151_code (3 : Nat) (Option.none : Option Jvm.ClassFile.FieldType)).before args0 about1 = true := code_word (m := ⟨7, 9⟩) (meth := k7m9) (c := k7c9) (by decide +kernel) rfl rfl rfl (by decide +kernel)
def codes1 : List Jvm.Cond := [Jvm.Cond.code x code maxLocals ret, Jvm.Cond.code ({ cls := "org/dalvista/LabelLinePinLaw", name := "make", desc := "(ICC)Ljava/lang/String;" } : Jvm.MethodName) method_3_code (4 : Nat) (Option.some (Jvm.ClassFile.FieldType.object "java/lang/String")), Jvm.Cond.code ({ cls := "org/dalvista/Label", name := "<init>", desc := "(Ljava/lang/String;ILjava/lang/String;)V" } : Jvm.MethodName) prog_1_method_1_code (4 : Nat) (Option.none : Option Jvm.ClassFile.FieldType), Jvm.Cond.code ({ cls := "java/lang/Record", name := "<init>", desc := "()V" } : Jvm.MethodName) jdk_30_method_1_code (1 : Nat) (Option.none : Option Jvm.ClassFile.FieldType), Jvm.Cond.code ({ cls := "java/lang/Object", name := "<init>", desc := "()V" } : Jvm.MethodName) object_method_1_code (1 : Nat) (Option.none : Option Jvm.ClassFile.FieldType), Jvm.Cond.code ({ cls := "org/dalvista/Label", name := "line", desc := "()Ljava/lang/String;" } : Jvm.MethodName) prog_1_method_3_code (1 : Nat) (Option.some (Jvm.ClassFile.FieldType.object "java/lang/String")), Jvm.Cond.code ({ cls := "java/lang/StringBuilder", name := "<init>", desc := "()V" } : Jvm.MethodName) jdk_67_method_1_code (1 : Nat) (Option.none : Option Jvm.ClassFile.FieldType), Jvm.Cond.code ({ cls := "java/lang/AbstractStringBuilder", name := "<init>", desc := "(I)V" } : Jvm.MethodName) jdk_68_method_2_code (2 : Nat) (Option.none : Option Jvm.ClassFile.FieldType), Jvm.Cond.code ({ cls := "org/dalvista/Label", name := "name", desc := "()Ljava/lang/String;" } : Jvm.MethodName) prog_1_method_2_code (1 : Nat) (Option.some (Jvm.ClassFile.FieldType.object "java/lang/String")), Jvm.Cond.code ({ cls := "java/lang/StringBuilder", name := "append", desc := "(Ljava/lang/String;)Ljava/lang/StringBuilder;" } : Jvm.MethodName) jdk_67_method_7_code (2 : Nat) (Option.some (Jvm.ClassFile.FieldType.object "java/lang/StringBuilder")), Jvm.Cond.code ({ cls := "java/lang/AbstractStringBuilder", name := "append", desc := "(Ljava/lang/String;)Ljava/lang/AbstractStringBuilder;" } : Jvm.MethodName) jdk_68_method_22_code (3 : Nat) (Option.some (Jvm.ClassFile.FieldType.object "java/lang/AbstractStringBuilder")), Jvm.Cond.code ({ cls := "java/lang/String", name := "length", desc := "()I" } : Jvm.MethodName) jdk_42_method_54_code (1 : Nat) (Option.some Jvm.ClassFile.FieldType.int), Jvm.Cond.code ({ cls := "java/lang/String", name := "coder", desc := "()B" } : Jvm.MethodName) jdk_42_method_152_code (1 : Nat) (Option.some Jvm.ClassFile.FieldType.byte), Jvm.Cond.code ({ cls := "java/lang/AbstractStringBuilder", name := "ensureCapacityInternal", desc := "(I)V" } : Jvm.MethodName) jdk_68_method_9_code (3 : Nat) (Option.none : Option Jvm.ClassFile.FieldType), Jvm.Cond.code ({ cls := "java/lang/AbstractStringBuilder", name := "putStringAt", desc := "(ILjava/lang/String;)V" } : Jvm.MethodName) jdk_68_method_73_code (3 : Nat) (Option.none : Option Jvm.ClassFile.FieldType), Jvm.Cond.code ({ cls := "java/lang/AbstractStringBuilder", name := "inflateIfNeededFor", desc := "(Ljava/lang/String;)V" } : Jvm.MethodName) jdk_68_method_71_code (2 : Nat) (Option.none : Option Jvm.ClassFile.FieldType), Jvm.Cond.code ({ cls := "java/lang/String", name := "getBytes", desc := "([BIB)V" } : Jvm.MethodName) jdk_42_method_147_code (4 : Nat) (Option.none : Option Jvm.ClassFile.FieldType), Jvm.Cond.code ({ cls := "java/lang/StringBuilder", name := "append", desc := "(I)Ljava/lang/StringBuilder;" } : Jvm.MethodName) jdk_67_method_15_code (2 : Nat) (Option.some (Jvm.ClassFile.FieldType.object "java/lang/StringBuilder")), Jvm.Cond.code ({ cls := "java/lang/AbstractStringBuilder", name := "append", desc := "(I)Ljava/lang/AbstractStringBuilder;" } : Jvm.MethodName) jdk_68_method_32_code (4 : Nat) (Option.some (Jvm.ClassFile.FieldType.object "java/lang/AbstractStringBuilder")), Jvm.Cond.code ({ cls := "java/lang/Integer", name := "stringSize", desc := "(I)I" } : Jvm.MethodName) jdk_33_method_13_code (4 : Nat) (Option.some Jvm.ClassFile.FieldType.int), Jvm.Cond.code ({ cls := "java/lang/AbstractStringBuilder", name := "isLatin1", desc := "()Z" } : Jvm.MethodName) jdk_68_method_68_code (1 : Nat) (Option.some Jvm.ClassFile.FieldType.boolean), Jvm.Cond.code ({ cls := "java/lang/Integer", name := "getChars", desc := "(II[B)I" } : Jvm.MethodName) jdk_33_method_12_code (7 : Nat) (Option.some Jvm.ClassFile.FieldType.int), Jvm.Cond.code ({ cls := "java/lang/StringBuilder", name := "toString", desc := "()Ljava/lang/String;" } : Jvm.MethodName) jdk_67_method_42_code (1 : Nat) (Option.some (Jvm.ClassFile.FieldType.object "java/lang/String")), Jvm.Cond.code ({ cls := "java/lang/String", name := "<init>", desc := "(Ljava/lang/StringBuilder;)V" } : Jvm.MethodName) jdk_42_method_53_code (2 : Nat) (Option.none : Option Jvm.ClassFile.FieldType), Jvm.Cond.code ({ cls := "java/lang/String", name := "<init>", desc := "(Ljava/lang/AbstractStringBuilder;Ljava/lang/Void;)V" } : Jvm.MethodName) jdk_42_method_150_code (5 : Nat) (Option.none : Option Jvm.ClassFile.FieldType), Jvm.Cond.code ({ cls := "java/lang/AbstractStringBuilder", name := "getValue", desc := "()[B" } : Jvm.MethodName) jdk_68_method_64_code (1 : Nat) (Option.some (Jvm.ClassFile.FieldType.array Jvm.ClassFile.FieldType.byte)), Jvm.Cond.code ({ cls := "java/lang/StringBuilder", name := "length", desc := "()I" } : Jvm.MethodName) jdk_67_method_93_code (1 : Nat) (Option.some Jvm.ClassFile.FieldType.int), Jvm.Cond.code ({ cls := "java/lang/AbstractStringBuilder", name := "length", desc := "()I" } : Jvm.MethodName) jdk_68_method_6_code (1 : Nat) (Option.some Jvm.ClassFile.FieldType.int), Jvm.Cond.code ({ cls := "java/util/Arrays", name := "copyOfRange", desc := "([BII)[B" } : Jvm.MethodName) jdk_65_method_132_code (3 : Nat) (Option.some (Jvm.ClassFile.FieldType.array Jvm.ClassFile.FieldType.byte)), Jvm.Cond.code ({ cls := "java/util/Arrays", name := "copyOfRangeByte", desc := "([BII)[B" } : Jvm.MethodName) jdk_65_method_133_code (5 : Nat) (Option.some (Jvm.ClassFile.FieldType.array Jvm.ClassFile.FieldType.byte)), Jvm.Cond.code ({ cls := "java/util/Arrays", name := "checkLength", desc := "(II)V" } : Jvm.MethodName) jdk_65_method_131_code (2 : Nat) (Option.none : Option Jvm.ClassFile.FieldType), Jvm.Cond.code ({ cls := "java/lang/Math", name := "min", desc := "(II)I" } : Jvm.MethodName) jdk_29_method_69_code (2 : Nat) (Option.some Jvm.ClassFile.FieldType.int), Jvm.Cond.code ({ cls := "java/lang/Math", name := "abs", desc := "(J)J" } : Jvm.MethodName) jdk_29_method_61_code (2 : Nat) (Option.some Jvm.ClassFile.FieldType.long), Jvm.Cond.code ({ cls := "org/dalvista/LabelLinePinLaw", name := "digits", desc := "(J)I" } : Jvm.MethodName) method_5_code (3 : Nat) (Option.some Jvm.ClassFile.FieldType.int), Jvm.Cond.code ({ cls := "java/lang/String", name := "charAt", desc := "(I)C" } : Jvm.MethodName) jdk_42_method_56_code (2 : Nat) (Option.some Jvm.ClassFile.FieldType.char), Jvm.Cond.code ({ cls := "java/lang/String", name := "isLatin1", desc := "()Z" } : Jvm.MethodName) jdk_42_method_154_code (1 : Nat) (Option.some Jvm.ClassFile.FieldType.boolean), Jvm.Cond.code ({ cls := "java/lang/StringLatin1", name := "charAt", desc := "([BI)C" } : Jvm.MethodName) jdk_43_method_2_code (2 : Nat) (Option.some Jvm.ClassFile.FieldType.char), Jvm.Cond.code ({ cls := "java/lang/String", name := "checkIndex", desc := "(II)V" } : Jvm.MethodName) jdk_42_method_155_code (2 : Nat) (Option.none : Option Jvm.ClassFile.FieldType), Jvm.Cond.code ({ cls := "jdk/internal/util/Preconditions", name := "checkIndex", desc := "(IILjava/util/function/BiFunction;)I" } : Jvm.MethodName) jdk_41_method_11_code (3 : Nat) (Option.some Jvm.ClassFile.FieldType.int), Jvm.Cond.code ({ cls := "org/dalvista/LabelLinePinLaw", name := "part", desc := "(Ljava/lang/String;IICC)Z" } : Jvm.MethodName) method_4_code (5 : Nat) (Option.some Jvm.ClassFile.FieldType.boolean), Jvm.Cond.code ({ cls := "org/dalvista/LabelLinePinLaw", name := "num", desc := "(Ljava/lang/String;IIJI)Z" } : Jvm.MethodName) method_6_code (6 : Nat) (Option.some Jvm.ClassFile.FieldType.boolean), Jvm.Cond.code ({ cls := "org/dalvista/LabelLinePinLaw", name := "numAt", desc := "(Ljava/lang/String;IIJII)Z" } : Jvm.MethodName) method_7_code (10 : Nat) (Option.some Jvm.ClassFile.FieldType.boolean), Jvm.Cond.code ({ cls := "java/lang/String", name := "<init>", desc := "([C)V" } : Jvm.MethodName) jdk_42_method_3_code (2 : Nat) (Option.none : Option Jvm.ClassFile.FieldType), Jvm.Cond.code ({ cls := "java/lang/String", name := "<init>", desc := "([CIILjava/lang/Void;)V" } : Jvm.MethodName) jdk_42_method_149_code (6 : Nat) (Option.none : Option Jvm.ClassFile.FieldType), Jvm.Cond.code ({ cls := "java/lang/StringUTF16", name := "compress", desc := "([CII)[B" } : Jvm.MethodName) jdk_52_method_16_code (6 : Nat) (Option.some (Jvm.ClassFile.FieldType.array Jvm.ClassFile.FieldType.byte)), Jvm.Cond.code ({ cls := "java/lang/StringUTF16", name := "compress", desc := "([CI[BII)I" } : Jvm.MethodName) jdk_52_method_21_code (7 : Nat) (Option.some Jvm.ClassFile.FieldType.int), Jvm.Cond.code ({ cls := "java/lang/StringUTF16", name := "coderFromArrayLen", desc := "([BI)B" } : Jvm.MethodName) jdk_52_method_15_code (2 : Nat) (Option.some Jvm.ClassFile.FieldType.byte), Jvm.Cond.code ({ cls := "java/lang/AbstractStringBuilder", name := "newCapacity", desc := "(I)I" } : Jvm.MethodName) jdk_68_method_10_code (6 : Nat) (Option.some Jvm.ClassFile.FieldType.int), Jvm.Cond.code ({ cls := "jdk/internal/util/ArraysSupport", name := "newLength", desc := "(III)I" } : Jvm.MethodName) jdk_48_method_27_code (4 : Nat) (Option.some Jvm.ClassFile.FieldType.int), Jvm.Cond.code ({ cls := "java/lang/Math", name := "max", desc := "(II)I" } : Jvm.MethodName) jdk_29_method_65_code (2 : Nat) (Option.some Jvm.ClassFile.FieldType.int), Jvm.Cond.code ({ cls := "java/util/Arrays", name := "copyOf", desc := "([BI)[B" } : Jvm.MethodName) jdk_65_method_121_code (3 : Nat) (Option.some (Jvm.ClassFile.FieldType.array Jvm.ClassFile.FieldType.byte)), Jvm.Cond.code ({ cls := "java/lang/String", name := "valueOf", desc := "(C)Ljava/lang/String;" } : Jvm.MethodName) jdk_42_method_139_code (1 : Nat) (Option.some (Jvm.ClassFile.FieldType.object "java/lang/String")), Jvm.Cond.code ({ cls := "java/lang/StringLatin1", name := "canEncode", desc := "(C)Z" } : Jvm.MethodName) jdk_43_method_3_code (1 : Nat) (Option.some Jvm.ClassFile.FieldType.boolean), Jvm.Cond.code ({ cls := "java/lang/StringLatin1", name := "toBytes", desc := "(C)[B" } : Jvm.MethodName) jdk_43_method_46_code (1 : Nat) (Option.some (Jvm.ClassFile.FieldType.array Jvm.ClassFile.FieldType.byte)), Jvm.Cond.code ({ cls := "java/lang/String", name := "<init>", desc := "([BB)V" } : Jvm.MethodName) jdk_42_method_151_code (3 : Nat) (Option.none : Option Jvm.ClassFile.FieldType)]
set_option maxRecDepth 65536 in
theorem codes_eq : words1.filter isCode = codes1 := rfl
theorem w_codes : ∀ c ∈ words1.filter isCode, c.before args0 about1 = true := by
  rw [codes_eq]
  intro c hc
  simp only [codes1, List.mem_cons, List.not_mem_nil, or_false] at hc
  rcases hc with rfl | rfl | rfl | rfl | rfl | rfl | rfl | rfl | rfl | rfl | rfl | rfl | rfl | rfl | rfl | rfl | rfl | rfl | rfl | rfl | rfl | rfl | rfl | rfl | rfl | rfl | rfl | rfl | rfl | rfl | rfl | rfl | rfl | rfl | rfl | rfl | rfl | rfl | rfl | rfl | rfl | rfl | rfl | rfl | rfl | rfl | rfl | rfl | rfl | rfl | rfl | rfl | rfl | rfl | rfl
  · exact w_c0
  · exact w_c1
  · exact w_c2
  · exact w_c3
  · exact w_c4
  · exact w_c5
  · exact w_c6
  · exact w_c7
  · exact w_c8
  · exact w_c9
  · exact w_c10
  · exact w_c11
  · exact w_c12
  · exact w_c13
  · exact w_c14
  · exact w_c15
  · exact w_c16
  · exact w_c17
  · exact w_c18
  · exact w_c19
  · exact w_c20
  · exact w_c21
  · exact w_c22
  · exact w_c23
  · exact w_c24
  · exact w_c25
  · exact w_c26
  · exact w_c27
  · exact w_c28
  · exact w_c29
  · exact w_c30
  · exact w_c31
  · exact w_c32
  · exact w_c33
  · exact w_c34
  · exact w_c35
  · exact w_c36
  · exact w_c37
  · exact w_c38
  · exact w_c39
  · exact w_c40
  · exact w_c41
  · exact w_c42
  · exact w_c43
  · exact w_c44
  · exact w_c45
  · exact w_c46
  · exact w_c47
  · exact w_c48
  · exact w_c49
  · exact w_c50
  · exact w_c51
  · exact w_c52
  · exact w_c53
  · exact w_c54
set_option maxRecDepth 65536 in
theorem w_t1 : (words1.take 24).all (fun c => isCode c || c.before args0 about1) = true := by decide +kernel
set_option maxRecDepth 65536 in
theorem w_t2 : ((words1.drop 24).take 24).all (fun c => isCode c || c.before args0 about1) = true := by decide +kernel
set_option maxRecDepth 65536 in
theorem w_t3 : (((words1.drop 24).drop 24).take 24).all (fun c => isCode c || c.before args0 about1) = true := by decide +kernel
set_option maxRecDepth 65536 in
theorem w_t4 : ((((words1.drop 24).drop 24).drop 24).take 24).all (fun c => isCode c || c.before args0 about1) = true := by decide +kernel
set_option maxRecDepth 65536 in
theorem w_t5 : (((((words1.drop 24).drop 24).drop 24).drop 24).take 24).all (fun c => isCode c || c.before args0 about1) = true := by decide +kernel
set_option maxRecDepth 65536 in
theorem w_t6 : ((((((words1.drop 24).drop 24).drop 24).drop 24).drop 24).take 24).all (fun c => isCode c || c.before args0 about1) = true := by decide +kernel
set_option maxRecDepth 65536 in
theorem w_t7 : (((((((words1.drop 24).drop 24).drop 24).drop 24).drop 24).drop 24).take 24).all (fun c => isCode c || c.before args0 about1) = true := by decide +kernel
set_option maxRecDepth 65536 in
theorem w_t8 : ((((((((words1.drop 24).drop 24).drop 24).drop 24).drop 24).drop 24).drop 24).take 24).all (fun c => isCode c || c.before args0 about1) = true := by decide +kernel
set_option maxRecDepth 65536 in
theorem w_t9 : (((((((((words1.drop 24).drop 24).drop 24).drop 24).drop 24).drop 24).drop 24).drop 24).take 24).all (fun c => isCode c || c.before args0 about1) = true := by decide +kernel
set_option maxRecDepth 65536 in
theorem w_t10 : ((((((((((words1.drop 24).drop 24).drop 24).drop 24).drop 24).drop 24).drop 24).drop 24).drop 24).take 24).all (fun c => isCode c || c.before args0 about1) = true := by decide +kernel
set_option maxRecDepth 65536 in
theorem w_t11 : (((((((((((words1.drop 24).drop 24).drop 24).drop 24).drop 24).drop 24).drop 24).drop 24).drop 24).drop 24).take 24).all (fun c => isCode c || c.before args0 about1) = true := by decide +kernel
set_option maxRecDepth 65536 in
theorem w_t12 : (((((((((((words1.drop 24).drop 24).drop 24).drop 24).drop 24).drop 24).drop 24).drop 24).drop 24).drop 24).drop 24).all (fun c => isCode c || c.before args0 about1) = true := by decide +kernel
theorem w_tables : (allAtoms (Jvm.Cond.code x code maxLocals ret :: tables_1)).before args0 about1 = true := by
  rw [allAtoms_all]
  show words1.all (fun c => c.before args0 about1) = true
  refine all_split ?_ w_codes
  rw [← List.take_append_drop 24 words1, List.all_append, w_t1, ← List.take_append_drop 24 (words1.drop 24), List.all_append, w_t2, ← List.take_append_drop 24 ((words1.drop 24).drop 24), List.all_append, w_t3, ← List.take_append_drop 24 (((words1.drop 24).drop 24).drop 24), List.all_append, w_t4, ← List.take_append_drop 24 ((((words1.drop 24).drop 24).drop 24).drop 24), List.all_append, w_t5, ← List.take_append_drop 24 (((((words1.drop 24).drop 24).drop 24).drop 24).drop 24), List.all_append, w_t6, ← List.take_append_drop 24 ((((((words1.drop 24).drop 24).drop 24).drop 24).drop 24).drop 24), List.all_append, w_t7, ← List.take_append_drop 24 (((((((words1.drop 24).drop 24).drop 24).drop 24).drop 24).drop 24).drop 24), List.all_append, w_t8, ← List.take_append_drop 24 ((((((((words1.drop 24).drop 24).drop 24).drop 24).drop 24).drop 24).drop 24).drop 24), List.all_append, w_t9, ← List.take_append_drop 24 (((((((((words1.drop 24).drop 24).drop 24).drop 24).drop 24).drop 24).drop 24).drop 24).drop 24), List.all_append, w_t10, ← List.take_append_drop 24 ((((((((((words1.drop 24).drop 24).drop 24).drop 24).drop 24).drop 24).drop 24).drop 24).drop 24).drop 24), List.all_append, w_t11, w_t12]
  rfl
set_option maxRecDepth 65536 in
theorem w_rest : rest_1_c.before args0 about1 = true := by decide +kernel
set_option maxRecDepth 65536 in
theorem w_case : (Jvm.Cond.and given_1 narrow_1).before args0 about1 = true := by decide +kernel
set_option maxRecDepth 65536 in
theorem w_consts : constsHeld consts_1 about1 := Jvm.Lit.constsHeldB_iff.mp (by decide +kernel)
theorem w_applies : (headSpec (Jvm.Cond.code x code maxLocals ret :: tables_1) room_1).applies x e0.platform about1 = true :=
  (Spec.applies_iff w_frames).mpr ⟨w_running, w_runnable, w_alone, w_named, w_hears, w_ripe, w_room, w_tables⟩
theorem atStart : AtStart classFile x code maxLocals ret World_1 tables_1 room_1 Calls_1 rest_1 Pre_1 launch0 p0 e0 about1 theMethod args0 below0 :=
  ⟨lists_1, trivial, launch0.admits_env _ _ _, launch0.least_env, fairChoices_fair.cas, fairChoices_fair.clock, w_frames, w_args, w_heap, w_applies, ⟨w_consts, trivial⟩, w_rest, w_case⟩
end start1
theorem witness_1 : WitnessClaimed_1 := ⟨start1.p0, start1.e0, start1.about1, start1.theMethod, start1.args0, start1.below0, start1.atStart⟩
end Jvm.Pilot.@@N@@
