import JvmDerived
import JvmDerived.Pilot.@@N@@Statement
import JvmDerived.Pilot.@@N@@Code
set_option linter.unusedVariables false
set_option linter.unusedSimpArgs false
set_option maxHeartbeats 40000000
namespace Jvm.Pilot.@@N@@
open Jvm Jvm.ClassFile Sem Op Lib Jvm.Free Jvm.Stand Jvm.LawKit Jvm.RoadKit Bundle Jvm.Pilot.@@N@@.Jvm.D
/-! ## own kit: a small logic of walks -/
/-- the walk's fixed surroundings -/
def Cx (p : Program) (s : State) (m : MethodId) (meth : Method) (c : Code) (Z : State) (own : String) (bytes : ByteArray) (maxL : Nat) (ret : Option FieldType) (nm : String) : Prop :=
  p.tables.exec = Jvm.exec ∧ c.code = bytes ∧ c.maxLocals = maxL ∧ Z.Warmed39 s.vm ∧ s.vm.findClass own = some m.cls ∧ meth.sig.returnType = ret ∧ meth.locks = false ∧ meth.name = nm
/-- from every state that stands at heap h with frame g, having made at most so many cells and slots, the walk comes to a good end -/
def AtW (p : Program) (l : Launch) (e : Env) (R : Room) (s : State) (m : MethodId) (args : Array Value) (below : List Frame) (meth : Method) (c : Code) (n0 : Nat) (Q : Option Value → Heap → Prop) (h : Heap) (cells slots : Nat) (g : JFrame) : Prop :=
  ∀ (T : State) (locs : List Loc) (k n : Nat), Stand p l e R s m args below meth c T locs k n → k ≤ cells → n ≤ slots → T.heap = h → Fr n0 locs →
    ∃ t o, Steps p.tables e below (T.setTop g) t ∧ t.status = .running ∧ Ended t below o ∧ ∃ v L, o = .returned v ∧ (Fr n0 L ∧ Q v t.heap) ∧ FrameEnd s o t L R.cells R.slots
/-- a body's contract: called with 'as' at heap h0 it returns some v at some h with Q v h, and writes nothing below n0 -/
def Ct (ws : List Jvm.Cond) (l : Launch) (Z : State) (n0 : Nat) (y : MethodName) (bytes : ByteArray) (maxL : Nat) (ret : Option FieldType) (rm : Room) (as : Array Value) (h0 : Heap) (Q : Option Value → Heap → Prop) : Prop :=
  MetFree l y (head1 (Jvm.Cond.code y bytes maxL ret :: ws) rm) (fun a U => a = as ∧ Z.Warmed39 U.vm ∧ U.heap = h0) (fun _ _ _ _ _ => True)
    (fun _ U o U' => ∃ v L, o = .returned v ∧ (Fr n0 L ∧ Q v U'.heap) ∧ FrameEnd U o U' L rm.cells rm.slots)
theorem own_leb {a b : Nat} (h : Nat.ble a b = true) : a ≤ b := Nat.le_of_ble_eq_true h
theorem own_ltb {a b : Nat} (h : Nat.ble (a + 1) b = true) : a < b := Nat.le_of_ble_eq_true h
/-- the class is found and is no interface -/
def NI (s : State) (C : String) : Prop := ∃ c k, s.vm.findClass C = some c ∧ s.vm.classes[c]? = some k ∧ k.isInterface = false
theorem NI.of_inst {s : State} {args : Array Value} {C : String} {n : Nat} (w : (Jvm.Cond.instantiable C n).before args s = true) : NI s C := by
  obtain ⟨c, k, hc, hk, -, h, -⟩ := Cond.instantiable_spec w
  exact ⟨c, k, hc, hk, (Bool.or_eq_false_iff.mp h).1⟩
theorem NI.of_sel {s : State} {args : Array Value} {C : String} {y z : MethodName} (w : (Jvm.Cond.selects C y z).before args s = true) : NI s z.cls := by
  obtain ⟨c, r, m, -, -, hn, -, k, hk, hi⟩ := Cond.selects_spec w
  exact ⟨m.cls, k, findClass_of_methodNamed hn, hk, hi⟩
theorem NI.nf {s : State} {y : MethodName} (w : NI s y.cls) : NotFace s y := fun r0 h0 => by
  obtain ⟨c, k, hc, hk, hi⟩ := w
  cases (findClass_of_methodNamed h0).symm.trans hc
  exact ⟨k, hk, hi⟩
section Wk
variable {p : Program} {l : Launch} {e : Env} {R : Room} {s : State} {m : MethodId} {args : Array Value} {below : List Frame} {meth : Method} {c : Code} {n0 : Nat} {Q : Option Value → Heap → Prop} {h : Heap} {cells slots : Nat} {Z : State} {own : String} {bytes : ByteArray} {maxL : Nat} {ret : Option FieldType} {nm : String} {a0 : Array Value} {pc q : Nat} {L L' : Array Slot} {S : List Value}
theorem Ct.intro {ws : List Jvm.Cond} {y : MethodName} {rm : Room} {as : Array Value} (hp : plainFor y = true)
    (k : ∀ p e s m below meth c, Cx p s m meth c Z y.cls bytes maxL ret y.name → AtW p l e rm s m as below meth c n0 Q h 0 0 (entryFrame m as maxL)) : Ct ws l Z n0 y bytes maxL ret rm as h Q := by
  refine MetFree.of_bodySF hp hisR ?_
  intro p e s m args below meth c s₁ Bd hml0 hP hK
  obtain ⟨rfl, hZ, hh⟩ := hP
  have X0 := Stand.of_body Bd
  refine k p e s m below meth c ⟨Bd.exec, Bd.bytes, hml0, hZ, findClass_of_methodNamed Bd.named, Bd.returns, Bd.notSynchronized, (name_of_methodNamed Bd.named Bd.method).1⟩ s₁ [] 0 0 X0 (Nat.le_refl _) (Nat.le_refl _) ?_ (Fr.nil n0)
  rw [← hh, Bd.state]; rfl
theorem AtW.mono {g : JFrame} {cells' slots' : Nat} (K : AtW p l e R s m args below meth c n0 Q h cells' slots' g) (h1 : cells ≤ cells') (h2 : slots ≤ slots') : AtW p l e R s m args below meth c n0 Q h cells slots g :=
  fun T locs k n X hk hn eT N => K T locs k n X (Nat.le_trans hk h1) (Nat.le_trans hn h2) eT N
theorem AtW.go {g g' : JFrame} (K : AtW p l e R s m args below meth c n0 Q h cells slots g') (st : ∀ T, At T m c below → ∀ t, Steps p.tables e below (T.setTop g') t → Steps p.tables e below (T.setTop g) t) : AtW p l e R s m args below meth c n0 Q h cells slots g :=
  fun T locs k n X hk hn eT N => by
    obtain ⟨t, o, r1, r⟩ := K T locs k n X hk hn eT N
    exact ⟨t, o, st T X.here t r1, r⟩
theorem AtW.goX {g g' : JFrame} (K : AtW p l e R s m args below meth c n0 Q h cells slots g') (st : ∀ T locs k n, Stand p l e R s m args below meth c T locs k n → T.heap = h → ∀ t, Steps p.tables e below (T.setTop g') t → Steps p.tables e below (T.setTop g) t) : AtW p l e R s m args below meth c n0 Q h cells slots g :=
  fun T locs k n X hk hn eT N => by
    obtain ⟨t, o, r1, r⟩ := K T locs k n X hk hn eT N
    exact ⟨t, o, st T locs k n X eT t r1, r⟩
theorem AtW.cast {g g' : JFrame} (K : AtW p l e R s m args below meth c n0 Q h cells slots g') (q : g = g') : AtW p l e R s m args below meth c n0 Q h cells slots g := by rw [q]; exact K

theorem w_iload (C : Cx p s m meth c Z own bytes maxL ret nm) {k : Nat} {v : Int32} (hl : L[k]? = some (.val (.int v))) (hd : decode bytes pc = .ok (.iload k, 2)) (hq : pc + 2 = q) (K : AtW p l e R s m args below meth c n0 Q h cells slots (mkF m q L (.int v :: S))) : AtW p l e R s m args below meth c n0 Q h cells slots (mkF m pc L S) := by
  subst hq
  exact K.go fun T hA t st => XS.iload hA C.1 rfl (hb C.2.1 hd) hl st
theorem w_iloadN (C : Cx p s m meth c Z own bytes maxL ret nm) {k : Fin 4} {v : Int32} (hl : L[k.val]? = some (.val (.int v))) (hd : decode bytes pc = .ok (.iload_n k, 1)) (hq : pc + 1 = q) (K : AtW p l e R s m args below meth c n0 Q h cells slots (mkF m q L (.int v :: S))) : AtW p l e R s m args below meth c n0 Q h cells slots (mkF m pc L S) := by
  subst hq
  exact K.go fun T hA t st => XS.iloadN hA C.1 rfl (hb C.2.1 hd) hl st
theorem w_istore (C : Cx p s m meth c Z own bytes maxL ret nm) {k : Nat} {v : Int32} (hl : storeLocals L k (.int v) = some L') (hd : decode bytes pc = .ok (.istore k, 2)) (hq : pc + 2 = q) (K : AtW p l e R s m args below meth c n0 Q h cells slots (mkF m q L' S)) : AtW p l e R s m args below meth c n0 Q h cells slots (mkF m pc L (.int v :: S)) := by
  subst hq
  exact K.go fun T hA t st => XS.istore hA C.1 rfl (hb C.2.1 hd) rfl hl st
theorem w_istoreN (C : Cx p s m meth c Z own bytes maxL ret nm) {k : Fin 4} {v : Int32} (hl : storeLocals L k.val (.int v) = some L') (hd : decode bytes pc = .ok (.istore_n k, 1)) (hq : pc + 1 = q) (K : AtW p l e R s m args below meth c n0 Q h cells slots (mkF m q L' S)) : AtW p l e R s m args below meth c n0 Q h cells slots (mkF m pc L (.int v :: S)) := by
  subst hq
  exact K.go fun T hA t st => XS.istoreN hA C.1 rfl (hb C.2.1 hd) rfl hl st
theorem w_lload (C : Cx p s m meth c Z own bytes maxL ret nm) {k : Nat} {v : Int64} (hl : L[k]? = some (.val (.long v))) (hd : decode bytes pc = .ok (.lload k, 2)) (hq : pc + 2 = q) (K : AtW p l e R s m args below meth c n0 Q h cells slots (mkF m q L (.long v :: S))) : AtW p l e R s m args below meth c n0 Q h cells slots (mkF m pc L S) := by
  subst hq
  exact K.go fun T hA t st => XS.lload hA C.1 rfl (hb C.2.1 hd) hl st
theorem w_lloadN (C : Cx p s m meth c Z own bytes maxL ret nm) {k : Fin 4} {v : Int64} (hl : L[k.val]? = some (.val (.long v))) (hd : decode bytes pc = .ok (.lload_n k, 1)) (hq : pc + 1 = q) (K : AtW p l e R s m args below meth c n0 Q h cells slots (mkF m q L (.long v :: S))) : AtW p l e R s m args below meth c n0 Q h cells slots (mkF m pc L S) := by
  subst hq
  exact K.go fun T hA t st => XS.lloadN hA C.1 rfl (hb C.2.1 hd) hl st
theorem w_lstore (C : Cx p s m meth c Z own bytes maxL ret nm) {k : Nat} {v : Int64} (hl : storeLocals L k (.long v) = some L') (hd : decode bytes pc = .ok (.lstore k, 2)) (hq : pc + 2 = q) (K : AtW p l e R s m args below meth c n0 Q h cells slots (mkF m q L' S)) : AtW p l e R s m args below meth c n0 Q h cells slots (mkF m pc L (.long v :: S)) := by
  subst hq
  exact K.go fun T hA t st => XS.lstore hA C.1 rfl (hb C.2.1 hd) rfl hl st
theorem w_lstoreN (C : Cx p s m meth c Z own bytes maxL ret nm) {k : Fin 4} {v : Int64} (hl : storeLocals L k.val (.long v) = some L') (hd : decode bytes pc = .ok (.lstore_n k, 1)) (hq : pc + 1 = q) (K : AtW p l e R s m args below meth c n0 Q h cells slots (mkF m q L' S)) : AtW p l e R s m args below meth c n0 Q h cells slots (mkF m pc L (.long v :: S)) := by
  subst hq
  exact K.go fun T hA t st => XS.lstoreN hA C.1 rfl (hb C.2.1 hd) rfl hl st
theorem w_aload (C : Cx p s m meth c Z own bytes maxL ret nm) {k : Nat} {v : Value} (hl : L[k]? = some (.val v)) (hv : v.isRef = true) (hd : decode bytes pc = .ok (.aload k, 2)) (hq : pc + 2 = q) (K : AtW p l e R s m args below meth c n0 Q h cells slots (mkF m q L (v :: S))) : AtW p l e R s m args below meth c n0 Q h cells slots (mkF m pc L S) := by
  subst hq
  exact K.go fun T hA t st => XS.aload hA C.1 rfl (hb C.2.1 hd) hl hv st
theorem w_aloadN (C : Cx p s m meth c Z own bytes maxL ret nm) {k : Fin 4} {v : Value} (hl : L[k.val]? = some (.val v)) (hv : v.isRef = true) (hd : decode bytes pc = .ok (.aload_n k, 1)) (hq : pc + 1 = q) (K : AtW p l e R s m args below meth c n0 Q h cells slots (mkF m q L (v :: S))) : AtW p l e R s m args below meth c n0 Q h cells slots (mkF m pc L S) := by
  subst hq
  exact K.go fun T hA t st => XS.aloadN hA C.1 rfl (hb C.2.1 hd) hl hv st
theorem w_astore (C : Cx p s m meth c Z own bytes maxL ret nm) {k : Nat} {v : Value} (hv : v.isRef = true) (hl : storeLocals L k v = some L') (hd : decode bytes pc = .ok (.astore k, 2)) (hq : pc + 2 = q) (K : AtW p l e R s m args below meth c n0 Q h cells slots (mkF m q L' S)) : AtW p l e R s m args below meth c n0 Q h cells slots (mkF m pc L (v :: S)) := by
  subst hq
  exact K.go fun T hA t st => XS.astore hA C.1 rfl (hb C.2.1 hd) rfl hv hl st
theorem w_astoreN (C : Cx p s m meth c Z own bytes maxL ret nm) {k : Fin 4} {v : Value} (hv : v.isRef = true) (hl : storeLocals L k.val v = some L') (hd : decode bytes pc = .ok (.astore_n k, 1)) (hq : pc + 1 = q) (K : AtW p l e R s m args below meth c n0 Q h cells slots (mkF m q L' S)) : AtW p l e R s m args below meth c n0 Q h cells slots (mkF m pc L (v :: S)) := by
  subst hq
  exact K.go fun T hA t st => XS.astoreN hA C.1 rfl (hb C.2.1 hd) rfl hv hl st
theorem w_iconst (C : Cx p s m meth c Z own bytes maxL ret nm) {i : Int} {v : Int32} (hv : Int32.ofInt i = v) (hd : decode bytes pc = .ok (.iconst i, 1)) (hq : pc + 1 = q) (K : AtW p l e R s m args below meth c n0 Q h cells slots (mkF m q L (.int v :: S))) : AtW p l e R s m args below meth c n0 Q h cells slots (mkF m pc L S) := by
  subst hq
  exact K.go fun T hA t st => by subst hv; exact XS.iconst hA C.1 rfl (hb C.2.1 hd) st
theorem w_bipush (C : Cx p s m meth c Z own bytes maxL ret nm) {i : Int} {v : Int32} (hv : (Int8.ofInt i).toInt32 = v) (hd : decode bytes pc = .ok (.bipush i, 2)) (hq : pc + 2 = q) (K : AtW p l e R s m args below meth c n0 Q h cells slots (mkF m q L (.int v :: S))) : AtW p l e R s m args below meth c n0 Q h cells slots (mkF m pc L S) := by
  subst hq
  exact K.go fun T hA t st => by subst hv; exact XS.bipush hA C.1 rfl (hb C.2.1 hd) st
theorem w_sipush (C : Cx p s m meth c Z own bytes maxL ret nm) {i : Int} {v : Int32} (hv : (Int16.ofInt i).toInt32 = v) (hd : decode bytes pc = .ok (.sipush i, 3)) (hq : pc + 3 = q) (K : AtW p l e R s m args below meth c n0 Q h cells slots (mkF m q L (.int v :: S))) : AtW p l e R s m args below meth c n0 Q h cells slots (mkF m pc L S) := by
  subst hq
  exact K.go fun T hA t st => by subst hv; exact XS.sipush hA C.1 rfl (hb C.2.1 hd) st
theorem w_lconst (C : Cx p s m meth c Z own bytes maxL ret nm) {k : Fin 2} {v : Int64} (hv : Int64.ofNat k = v) (hd : decode bytes pc = .ok (.lconst k, 1)) (hq : pc + 1 = q) (K : AtW p l e R s m args below meth c n0 Q h cells slots (mkF m q L (.long v :: S))) : AtW p l e R s m args below meth c n0 Q h cells slots (mkF m pc L S) := by
  subst hq
  exact K.go fun T hA t st => by subst hv; exact XS.lconst hA C.1 rfl (hb C.2.1 hd) st
theorem w_aconst_null (C : Cx p s m meth c Z own bytes maxL ret nm)  (hd : decode bytes pc = .ok (.aconst_null, 1)) (hq : pc + 1 = q) (K : AtW p l e R s m args below meth c n0 Q h cells slots (mkF m q L (.null :: S))) : AtW p l e R s m args below meth c n0 Q h cells slots (mkF m pc L S) := by
  subst hq
  exact K.go fun T hA t st => XS.aconstNull hA C.1 rfl (hb C.2.1 hd) st
theorem w_iadd (C : Cx p s m meth c Z own bytes maxL ret nm) {x y z : Int32} (hz : x + y = z) (hd : decode bytes pc = .ok (.iadd, 1)) (hq : pc + 1 = q) (K : AtW p l e R s m args below meth c n0 Q h cells slots (mkF m q L (.int z :: S))) : AtW p l e R s m args below meth c n0 Q h cells slots (mkF m pc L (.int y :: .int x :: S)) := by
  subst hq
  exact K.go fun T hA t st => by subst hz; exact XS.iadd hA C.1 rfl (hb C.2.1 hd) rfl st
theorem w_isub (C : Cx p s m meth c Z own bytes maxL ret nm) {x y z : Int32} (hz : x - y = z) (hd : decode bytes pc = .ok (.isub, 1)) (hq : pc + 1 = q) (K : AtW p l e R s m args below meth c n0 Q h cells slots (mkF m q L (.int z :: S))) : AtW p l e R s m args below meth c n0 Q h cells slots (mkF m pc L (.int y :: .int x :: S)) := by
  subst hq
  exact K.go fun T hA t st => by subst hz; exact XS.isub hA C.1 rfl (hb C.2.1 hd) rfl st
theorem w_imul (C : Cx p s m meth c Z own bytes maxL ret nm) {x y z : Int32} (hz : x * y = z) (hd : decode bytes pc = .ok (.imul, 1)) (hq : pc + 1 = q) (K : AtW p l e R s m args below meth c n0 Q h cells slots (mkF m q L (.int z :: S))) : AtW p l e R s m args below meth c n0 Q h cells slots (mkF m pc L (.int y :: .int x :: S)) := by
  subst hq
  exact K.go fun T hA t st => by subst hz; exact XS.imul hA C.1 rfl (hb C.2.1 hd) rfl st
theorem w_iand (C : Cx p s m meth c Z own bytes maxL ret nm) {x y z : Int32} (hz : x &&& y = z) (hd : decode bytes pc = .ok (.iand, 1)) (hq : pc + 1 = q) (K : AtW p l e R s m args below meth c n0 Q h cells slots (mkF m q L (.int z :: S))) : AtW p l e R s m args below meth c n0 Q h cells slots (mkF m pc L (.int y :: .int x :: S)) := by
  subst hq
  exact K.go fun T hA t st => by subst hz; exact XS.iand hA C.1 rfl (hb C.2.1 hd) rfl st
theorem w_ior (C : Cx p s m meth c Z own bytes maxL ret nm) {x y z : Int32} (hz : x ||| y = z) (hd : decode bytes pc = .ok (.ior, 1)) (hq : pc + 1 = q) (K : AtW p l e R s m args below meth c n0 Q h cells slots (mkF m q L (.int z :: S))) : AtW p l e R s m args below meth c n0 Q h cells slots (mkF m pc L (.int y :: .int x :: S)) := by
  subst hq
  exact K.go fun T hA t st => by subst hz; exact XS.ior hA C.1 rfl (hb C.2.1 hd) rfl st
theorem w_ixor (C : Cx p s m meth c Z own bytes maxL ret nm) {x y z : Int32} (hz : x ^^^ y = z) (hd : decode bytes pc = .ok (.ixor, 1)) (hq : pc + 1 = q) (K : AtW p l e R s m args below meth c n0 Q h cells slots (mkF m q L (.int z :: S))) : AtW p l e R s m args below meth c n0 Q h cells slots (mkF m pc L (.int y :: .int x :: S)) := by
  subst hq
  exact K.go fun T hA t st => by subst hz; exact XS.ixor hA C.1 rfl (hb C.2.1 hd) rfl st
theorem w_ladd (C : Cx p s m meth c Z own bytes maxL ret nm) {x y z : Int64} (hz : x + y = z) (hd : decode bytes pc = .ok (.ladd, 1)) (hq : pc + 1 = q) (K : AtW p l e R s m args below meth c n0 Q h cells slots (mkF m q L (.long z :: S))) : AtW p l e R s m args below meth c n0 Q h cells slots (mkF m pc L (.long y :: .long x :: S)) := by
  subst hq
  exact K.go fun T hA t st => by subst hz; exact XS.ladd hA C.1 rfl (hb C.2.1 hd) rfl st
theorem w_lsub (C : Cx p s m meth c Z own bytes maxL ret nm) {x y z : Int64} (hz : x - y = z) (hd : decode bytes pc = .ok (.lsub, 1)) (hq : pc + 1 = q) (K : AtW p l e R s m args below meth c n0 Q h cells slots (mkF m q L (.long z :: S))) : AtW p l e R s m args below meth c n0 Q h cells slots (mkF m pc L (.long y :: .long x :: S)) := by
  subst hq
  exact K.go fun T hA t st => by subst hz; exact XS.lsub hA C.1 rfl (hb C.2.1 hd) rfl st
theorem w_lmul (C : Cx p s m meth c Z own bytes maxL ret nm) {x y z : Int64} (hz : x * y = z) (hd : decode bytes pc = .ok (.lmul, 1)) (hq : pc + 1 = q) (K : AtW p l e R s m args below meth c n0 Q h cells slots (mkF m q L (.long z :: S))) : AtW p l e R s m args below meth c n0 Q h cells slots (mkF m pc L (.long y :: .long x :: S)) := by
  subst hq
  exact K.go fun T hA t st => by subst hz; exact XS.lmul hA C.1 rfl (hb C.2.1 hd) rfl st
theorem w_land (C : Cx p s m meth c Z own bytes maxL ret nm) {x y z : Int64} (hz : x &&& y = z) (hd : decode bytes pc = .ok (.land, 1)) (hq : pc + 1 = q) (K : AtW p l e R s m args below meth c n0 Q h cells slots (mkF m q L (.long z :: S))) : AtW p l e R s m args below meth c n0 Q h cells slots (mkF m pc L (.long y :: .long x :: S)) := by
  subst hq
  exact K.go fun T hA t st => by subst hz; exact XS.land hA C.1 rfl (hb C.2.1 hd) rfl st
theorem w_lor (C : Cx p s m meth c Z own bytes maxL ret nm) {x y z : Int64} (hz : x ||| y = z) (hd : decode bytes pc = .ok (.lor, 1)) (hq : pc + 1 = q) (K : AtW p l e R s m args below meth c n0 Q h cells slots (mkF m q L (.long z :: S))) : AtW p l e R s m args below meth c n0 Q h cells slots (mkF m pc L (.long y :: .long x :: S)) := by
  subst hq
  exact K.go fun T hA t st => by subst hz; exact XS.lor hA C.1 rfl (hb C.2.1 hd) rfl st
theorem w_lxor (C : Cx p s m meth c Z own bytes maxL ret nm) {x y z : Int64} (hz : x ^^^ y = z) (hd : decode bytes pc = .ok (.lxor, 1)) (hq : pc + 1 = q) (K : AtW p l e R s m args below meth c n0 Q h cells slots (mkF m q L (.long z :: S))) : AtW p l e R s m args below meth c n0 Q h cells slots (mkF m pc L (.long y :: .long x :: S)) := by
  subst hq
  exact K.go fun T hA t st => by subst hz; exact XS.lxor hA C.1 rfl (hb C.2.1 hd) rfl st
theorem w_ishl (C : Cx p s m meth c Z own bytes maxL ret nm) {x y z : Int32} (hz : x <<< (y &&& 31) = z) (hd : decode bytes pc = .ok (.ishl, 1)) (hq : pc + 1 = q) (K : AtW p l e R s m args below meth c n0 Q h cells slots (mkF m q L (.int z :: S))) : AtW p l e R s m args below meth c n0 Q h cells slots (mkF m pc L (.int y :: .int x :: S)) := by
  subst hq
  exact K.go fun T hA t st => by subst hz; exact XS.ishl hA C.1 rfl (hb C.2.1 hd) rfl st
theorem w_ishr (C : Cx p s m meth c Z own bytes maxL ret nm) {x y z : Int32} (hz : x >>> (y &&& 31) = z) (hd : decode bytes pc = .ok (.ishr, 1)) (hq : pc + 1 = q) (K : AtW p l e R s m args below meth c n0 Q h cells slots (mkF m q L (.int z :: S))) : AtW p l e R s m args below meth c n0 Q h cells slots (mkF m pc L (.int y :: .int x :: S)) := by
  subst hq
  exact K.go fun T hA t st => by subst hz; exact XS.ishr hA C.1 rfl (hb C.2.1 hd) rfl st
theorem w_iushr (C : Cx p s m meth c Z own bytes maxL ret nm) {x y z : Int32} (hz : (x.toUInt32 >>> (y &&& 31).toUInt32).toInt32 = z) (hd : decode bytes pc = .ok (.iushr, 1)) (hq : pc + 1 = q) (K : AtW p l e R s m args below meth c n0 Q h cells slots (mkF m q L (.int z :: S))) : AtW p l e R s m args below meth c n0 Q h cells slots (mkF m pc L (.int y :: .int x :: S)) := by
  subst hq
  exact K.go fun T hA t st => by subst hz; exact XS.iushr hA C.1 rfl (hb C.2.1 hd) rfl st
theorem w_lshl (C : Cx p s m meth c Z own bytes maxL ret nm) {x z : Int64} {y : Int32} (hz : x <<< (y &&& 0x3f).toInt64 = z) (hd : decode bytes pc = .ok (.lshl, 1)) (hq : pc + 1 = q) (K : AtW p l e R s m args below meth c n0 Q h cells slots (mkF m q L (.long z :: S))) : AtW p l e R s m args below meth c n0 Q h cells slots (mkF m pc L (.int y :: .long x :: S)) := by
  subst hq
  exact K.go fun T hA t st => by subst hz; exact XS.lshl hA C.1 rfl (hb C.2.1 hd) rfl st
theorem w_lshr (C : Cx p s m meth c Z own bytes maxL ret nm) {x z : Int64} {y : Int32} (hz : x >>> (y &&& 0x3f).toInt64 = z) (hd : decode bytes pc = .ok (.lshr, 1)) (hq : pc + 1 = q) (K : AtW p l e R s m args below meth c n0 Q h cells slots (mkF m q L (.long z :: S))) : AtW p l e R s m args below meth c n0 Q h cells slots (mkF m pc L (.int y :: .long x :: S)) := by
  subst hq
  exact K.go fun T hA t st => by subst hz; exact XS.lshr hA C.1 rfl (hb C.2.1 hd) rfl st
theorem w_lushr (C : Cx p s m meth c Z own bytes maxL ret nm) {x z : Int64} {y : Int32} (hz : (x.toUInt64 >>> (y &&& 0x3f).toInt64.toUInt64).toInt64 = z) (hd : decode bytes pc = .ok (.lushr, 1)) (hq : pc + 1 = q) (K : AtW p l e R s m args below meth c n0 Q h cells slots (mkF m q L (.long z :: S))) : AtW p l e R s m args below meth c n0 Q h cells slots (mkF m pc L (.int y :: .long x :: S)) := by
  subst hq
  exact K.go fun T hA t st => by subst hz; exact XS.lushr hA C.1 rfl (hb C.2.1 hd) rfl st
theorem w_idiv (C : Cx p s m meth c Z own bytes maxL ret nm) {x y z : Int32} (hy : y ≠ 0) (hz : x / y = z) (hd : decode bytes pc = .ok (.idiv, 1)) (hq : pc + 1 = q) (K : AtW p l e R s m args below meth c n0 Q h cells slots (mkF m q L (.int z :: S))) : AtW p l e R s m args below meth c n0 Q h cells slots (mkF m pc L (.int y :: .int x :: S)) := by
  subst hq
  exact K.go fun T hA t st => by subst hz; exact XS.idiv hA C.1 rfl (hb C.2.1 hd) rfl hy st
theorem w_ldiv (C : Cx p s m meth c Z own bytes maxL ret nm) {x y z : Int64} (hy : y ≠ 0) (hz : x / y = z) (hd : decode bytes pc = .ok (.ldiv, 1)) (hq : pc + 1 = q) (K : AtW p l e R s m args below meth c n0 Q h cells slots (mkF m q L (.long z :: S))) : AtW p l e R s m args below meth c n0 Q h cells slots (mkF m pc L (.long y :: .long x :: S)) := by
  subst hq
  exact K.go fun T hA t st => by subst hz; exact XS.ldiv hA C.1 rfl (hb C.2.1 hd) rfl hy st
theorem w_irem (C : Cx p s m meth c Z own bytes maxL ret nm) {x y z : Int32} (hy : y ≠ 0) (hz : x % y = z) (hd : decode bytes pc = .ok (.irem, 1)) (hq : pc + 1 = q) (K : AtW p l e R s m args below meth c n0 Q h cells slots (mkF m q L (.int z :: S))) : AtW p l e R s m args below meth c n0 Q h cells slots (mkF m pc L (.int y :: .int x :: S)) := by
  subst hq
  exact K.go fun T hA t st => by subst hz; rw [← irem_eq_mod x y] at st; exact XS.irem hA C.1 rfl (hb C.2.1 hd) rfl hy st
theorem w_lrem (C : Cx p s m meth c Z own bytes maxL ret nm) {x y z : Int64} (hy : y ≠ 0) (hz : x % y = z) (hd : decode bytes pc = .ok (.lrem, 1)) (hq : pc + 1 = q) (K : AtW p l e R s m args below meth c n0 Q h cells slots (mkF m q L (.long z :: S))) : AtW p l e R s m args below meth c n0 Q h cells slots (mkF m pc L (.long y :: .long x :: S)) := by
  subst hq
  exact K.go fun T hA t st => by subst hz; rw [← lrem_mod x y] at st; exact XS.lrem hA C.1 rfl (hb C.2.1 hd) rfl hy st
theorem w_ineg (C : Cx p s m meth c Z own bytes maxL ret nm) {x : Int32} {z : Int32} (hz : -x = z) (hd : decode bytes pc = .ok (.ineg, 1)) (hq : pc + 1 = q) (K : AtW p l e R s m args below meth c n0 Q h cells slots (mkF m q L (.int z :: S))) : AtW p l e R s m args below meth c n0 Q h cells slots (mkF m pc L (.int x :: S)) := by
  subst hq
  exact K.go fun T hA t st => by subst hz; exact XS.ineg hA C.1 rfl (hb C.2.1 hd) rfl st
theorem w_lneg (C : Cx p s m meth c Z own bytes maxL ret nm) {x : Int64} {z : Int64} (hz : -x = z) (hd : decode bytes pc = .ok (.lneg, 1)) (hq : pc + 1 = q) (K : AtW p l e R s m args below meth c n0 Q h cells slots (mkF m q L (.long z :: S))) : AtW p l e R s m args below meth c n0 Q h cells slots (mkF m pc L (.long x :: S)) := by
  subst hq
  exact K.go fun T hA t st => by subst hz; exact XS.lneg hA C.1 rfl (hb C.2.1 hd) rfl st
theorem w_i2l (C : Cx p s m meth c Z own bytes maxL ret nm) {x : Int32} {z : Int64} (hz : x.toInt64 = z) (hd : decode bytes pc = .ok (.i2l, 1)) (hq : pc + 1 = q) (K : AtW p l e R s m args below meth c n0 Q h cells slots (mkF m q L (.long z :: S))) : AtW p l e R s m args below meth c n0 Q h cells slots (mkF m pc L (.int x :: S)) := by
  subst hq
  exact K.go fun T hA t st => by subst hz; exact XS.i2l hA C.1 rfl (hb C.2.1 hd) rfl st
theorem w_l2i (C : Cx p s m meth c Z own bytes maxL ret nm) {x : Int64} {z : Int32} (hz : x.toInt32 = z) (hd : decode bytes pc = .ok (.l2i, 1)) (hq : pc + 1 = q) (K : AtW p l e R s m args below meth c n0 Q h cells slots (mkF m q L (.int z :: S))) : AtW p l e R s m args below meth c n0 Q h cells slots (mkF m pc L (.long x :: S)) := by
  subst hq
  exact K.go fun T hA t st => by subst hz; exact XS.l2i hA C.1 rfl (hb C.2.1 hd) rfl st
theorem w_i2b (C : Cx p s m meth c Z own bytes maxL ret nm) {x : Int32} {z : Int32} (hz : x.toInt8.toInt32 = z) (hd : decode bytes pc = .ok (.i2b, 1)) (hq : pc + 1 = q) (K : AtW p l e R s m args below meth c n0 Q h cells slots (mkF m q L (.int z :: S))) : AtW p l e R s m args below meth c n0 Q h cells slots (mkF m pc L (.int x :: S)) := by
  subst hq
  exact K.go fun T hA t st => by subst hz; exact XS.i2b hA C.1 rfl (hb C.2.1 hd) rfl st
theorem w_i2s (C : Cx p s m meth c Z own bytes maxL ret nm) {x : Int32} {z : Int32} (hz : x.toInt16.toInt32 = z) (hd : decode bytes pc = .ok (.i2s, 1)) (hq : pc + 1 = q) (K : AtW p l e R s m args below meth c n0 Q h cells slots (mkF m q L (.int z :: S))) : AtW p l e R s m args below meth c n0 Q h cells slots (mkF m pc L (.int x :: S)) := by
  subst hq
  exact K.go fun T hA t st => by subst hz; exact XS.i2s hA C.1 rfl (hb C.2.1 hd) rfl st
theorem w_i2c (C : Cx p s m meth c Z own bytes maxL ret nm) {x : Int32} {z : Int32} (hz : x.toUInt32.toUInt16.toUInt32.toInt32 = z) (hd : decode bytes pc = .ok (.i2c, 1)) (hq : pc + 1 = q) (K : AtW p l e R s m args below meth c n0 Q h cells slots (mkF m q L (.int z :: S))) : AtW p l e R s m args below meth c n0 Q h cells slots (mkF m pc L (.int x :: S)) := by
  subst hq
  exact K.go fun T hA t st => by subst hz; exact XS.i2c hA C.1 rfl (hb C.2.1 hd) rfl st
theorem w_lcmp (C : Cx p s m meth c Z own bytes maxL ret nm) {x y : Int64} {z : Int32} (hz : lcmpW x y = z) (hd : decode bytes pc = .ok (.lcmp, 1)) (hq : pc + 1 = q) (K : AtW p l e R s m args below meth c n0 Q h cells slots (mkF m q L (.int z :: S))) : AtW p l e R s m args below meth c n0 Q h cells slots (mkF m pc L (.long y :: .long x :: S)) := by
  subst hq
  exact K.go fun T hA t st => by subst hz; exact XS.lcmp hA C.1 rfl (hb C.2.1 hd) rfl st
theorem w_dup (C : Cx p s m meth c Z own bytes maxL ret nm) {x : Value} (hc : x.category = 1) (hd : decode bytes pc = .ok (.dup, 1)) (hq : pc + 1 = q) (K : AtW p l e R s m args below meth c n0 Q h cells slots (mkF m q L (x :: x :: S))) : AtW p l e R s m args below meth c n0 Q h cells slots (mkF m pc L (x :: S)) := by
  subst hq
  exact K.go fun T hA t st => XS.dup hA C.1 rfl (hb C.2.1 hd) rfl hc st
theorem w_pop (C : Cx p s m meth c Z own bytes maxL ret nm) {x : Value} (hc : x.category = 1) (hd : decode bytes pc = .ok (.pop, 1)) (hq : pc + 1 = q) (K : AtW p l e R s m args below meth c n0 Q h cells slots (mkF m q L S)) : AtW p l e R s m args below meth c n0 Q h cells slots (mkF m pc L (x :: S)) := by
  subst hq
  exact K.go fun T hA t st => XS.pop hA C.1 rfl (hb C.2.1 hd) rfl hc st
theorem w_dup_x1 (C : Cx p s m meth c Z own bytes maxL ret nm) {x y : Value} (hc : x.category = 1) (hc' : y.category = 1) (hd : decode bytes pc = .ok (.dup_x1, 1)) (hq : pc + 1 = q) (K : AtW p l e R s m args below meth c n0 Q h cells slots (mkF m q L (x :: y :: x :: S))) : AtW p l e R s m args below meth c n0 Q h cells slots (mkF m pc L (x :: y :: S)) := by
  subst hq
  exact K.go fun T hA t st => XS.dupX1 hA C.1 rfl (hb C.2.1 hd) rfl hc hc' st
theorem w_iinc (C : Cx p s m meth c Z own bytes maxL ret nm) {k : Nat} {cst : Int} {x z : Int32} (hl : L[k]? = some (.val (.int x))) (hz : x + Int32.ofInt cst = z) (hl' : storeLocals L k (.int z) = some L') (hd : decode bytes pc = .ok (.iinc k cst, 3)) (hq : pc + 3 = q) (K : AtW p l e R s m args below meth c n0 Q h cells slots (mkF m q L' S)) : AtW p l e R s m args below meth c n0 Q h cells slots (mkF m pc L S) := by
  subst hq
  exact K.go fun T hA t st => by subst hz; exact XS.iinc hA C.1 rfl (hb C.2.1 hd) hl hl' st
theorem w_goto (C : Cx p s m meth c Z own bytes maxL ret nm) {o : Int} (hd : decode bytes pc = .ok (.goto o, 3)) (ho : 0 ≤ (pc : Int) + o) (hp : ((pc : Int) + o).toNat = q) (K : AtW p l e R s m args below meth c n0 Q h cells slots (mkF m q L S)) : AtW p l e R s m args below meth c n0 Q h cells slots (mkF m pc L S) :=
  K.go fun T hA t st => XS.goto hA C.1 rfl (pc0 := pc) (pc' := q) rfl (hb C.2.1 hd) ho hp st
theorem w_icmp_lt_t (C : Cx p s m meth c Z own bytes maxL ret nm) {o : Int} {x y : Int32} (hd : decode bytes pc = .ok (.if_icmp .lt o, 3)) (ho : 0 ≤ (pc : Int) + o) (hp : ((pc : Int) + o).toNat = q) (hc : x < y) (K : AtW p l e R s m args below meth c n0 Q h cells slots (mkF m q L S)) : AtW p l e R s m args below meth c n0 Q h cells slots (mkF m pc L (.int y :: .int x :: S)) :=
  K.go fun T hA t st => XS.icmpYes hA C.1 rfl (pc0 := pc) (pc' := q) rfl (hb C.2.1 hd) rfl (tlt hc).1 ho hp st
theorem w_icmp_lt_f (C : Cx p s m meth c Z own bytes maxL ret nm) {o : Int} {x y : Int32} (hd : decode bytes pc = .ok (.if_icmp .lt o, 3)) (hq : pc + 3 = q) (hc : ¬ x < y) (K : AtW p l e R s m args below meth c n0 Q h cells slots (mkF m q L S)) : AtW p l e R s m args below meth c n0 Q h cells slots (mkF m pc L (.int y :: .int x :: S)) := by
  subst hq
  exact K.go fun T hA t st => XS.icmpNo hA C.1 rfl (hb C.2.1 hd) rfl (flt hc).1 st
theorem w_if_lt_t (C : Cx p s m meth c Z own bytes maxL ret nm) {o : Int} {x : Int32} (hd : decode bytes pc = .ok (.ifCond .lt o, 3)) (ho : 0 ≤ (pc : Int) + o) (hp : ((pc : Int) + o).toNat = q) (hc : x < 0) (K : AtW p l e R s m args below meth c n0 Q h cells slots (mkF m q L S)) : AtW p l e R s m args below meth c n0 Q h cells slots (mkF m pc L (.int x :: S)) :=
  K.go fun T hA t st => XS.ifYes hA C.1 rfl (pc0 := pc) (pc' := q) rfl (hb C.2.1 hd) rfl ((if0 _ _).trans (tlt hc).1) ho hp st
theorem w_if_lt_f (C : Cx p s m meth c Z own bytes maxL ret nm) {o : Int} {x : Int32} (hd : decode bytes pc = .ok (.ifCond .lt o, 3)) (hq : pc + 3 = q) (hc : ¬ x < 0) (K : AtW p l e R s m args below meth c n0 Q h cells slots (mkF m q L S)) : AtW p l e R s m args below meth c n0 Q h cells slots (mkF m pc L (.int x :: S)) := by
  subst hq
  exact K.go fun T hA t st => XS.ifNo hA C.1 rfl (hb C.2.1 hd) rfl ((if0 _ _).trans (flt hc).1) st
theorem w_icmp_ge_t (C : Cx p s m meth c Z own bytes maxL ret nm) {o : Int} {x y : Int32} (hd : decode bytes pc = .ok (.if_icmp .ge o, 3)) (ho : 0 ≤ (pc : Int) + o) (hp : ((pc : Int) + o).toNat = q) (hc : ¬ x < y) (K : AtW p l e R s m args below meth c n0 Q h cells slots (mkF m q L S)) : AtW p l e R s m args below meth c n0 Q h cells slots (mkF m pc L (.int y :: .int x :: S)) :=
  K.go fun T hA t st => XS.icmpYes hA C.1 rfl (pc0 := pc) (pc' := q) rfl (hb C.2.1 hd) rfl (flt hc).2.1 ho hp st
theorem w_icmp_ge_f (C : Cx p s m meth c Z own bytes maxL ret nm) {o : Int} {x y : Int32} (hd : decode bytes pc = .ok (.if_icmp .ge o, 3)) (hq : pc + 3 = q) (hc : x < y) (K : AtW p l e R s m args below meth c n0 Q h cells slots (mkF m q L S)) : AtW p l e R s m args below meth c n0 Q h cells slots (mkF m pc L (.int y :: .int x :: S)) := by
  subst hq
  exact K.go fun T hA t st => XS.icmpNo hA C.1 rfl (hb C.2.1 hd) rfl (tlt hc).2.1 st
theorem w_if_ge_t (C : Cx p s m meth c Z own bytes maxL ret nm) {o : Int} {x : Int32} (hd : decode bytes pc = .ok (.ifCond .ge o, 3)) (ho : 0 ≤ (pc : Int) + o) (hp : ((pc : Int) + o).toNat = q) (hc : ¬ x < 0) (K : AtW p l e R s m args below meth c n0 Q h cells slots (mkF m q L S)) : AtW p l e R s m args below meth c n0 Q h cells slots (mkF m pc L (.int x :: S)) :=
  K.go fun T hA t st => XS.ifYes hA C.1 rfl (pc0 := pc) (pc' := q) rfl (hb C.2.1 hd) rfl ((if0 _ _).trans (flt hc).2.1) ho hp st
theorem w_if_ge_f (C : Cx p s m meth c Z own bytes maxL ret nm) {o : Int} {x : Int32} (hd : decode bytes pc = .ok (.ifCond .ge o, 3)) (hq : pc + 3 = q) (hc : x < 0) (K : AtW p l e R s m args below meth c n0 Q h cells slots (mkF m q L S)) : AtW p l e R s m args below meth c n0 Q h cells slots (mkF m pc L (.int x :: S)) := by
  subst hq
  exact K.go fun T hA t st => XS.ifNo hA C.1 rfl (hb C.2.1 hd) rfl ((if0 _ _).trans (tlt hc).2.1) st
theorem w_icmp_gt_t (C : Cx p s m meth c Z own bytes maxL ret nm) {o : Int} {x y : Int32} (hd : decode bytes pc = .ok (.if_icmp .gt o, 3)) (ho : 0 ≤ (pc : Int) + o) (hp : ((pc : Int) + o).toNat = q) (hc : y < x) (K : AtW p l e R s m args below meth c n0 Q h cells slots (mkF m q L S)) : AtW p l e R s m args below meth c n0 Q h cells slots (mkF m pc L (.int y :: .int x :: S)) :=
  K.go fun T hA t st => XS.icmpYes hA C.1 rfl (pc0 := pc) (pc' := q) rfl (hb C.2.1 hd) rfl (tlt hc).2.2.1 ho hp st
theorem w_icmp_gt_f (C : Cx p s m meth c Z own bytes maxL ret nm) {o : Int} {x y : Int32} (hd : decode bytes pc = .ok (.if_icmp .gt o, 3)) (hq : pc + 3 = q) (hc : ¬ y < x) (K : AtW p l e R s m args below meth c n0 Q h cells slots (mkF m q L S)) : AtW p l e R s m args below meth c n0 Q h cells slots (mkF m pc L (.int y :: .int x :: S)) := by
  subst hq
  exact K.go fun T hA t st => XS.icmpNo hA C.1 rfl (hb C.2.1 hd) rfl (flt hc).2.2.1 st
theorem w_if_gt_t (C : Cx p s m meth c Z own bytes maxL ret nm) {o : Int} {x : Int32} (hd : decode bytes pc = .ok (.ifCond .gt o, 3)) (ho : 0 ≤ (pc : Int) + o) (hp : ((pc : Int) + o).toNat = q) (hc : 0 < x) (K : AtW p l e R s m args below meth c n0 Q h cells slots (mkF m q L S)) : AtW p l e R s m args below meth c n0 Q h cells slots (mkF m pc L (.int x :: S)) :=
  K.go fun T hA t st => XS.ifYes hA C.1 rfl (pc0 := pc) (pc' := q) rfl (hb C.2.1 hd) rfl ((if0 _ _).trans (tlt hc).2.2.1) ho hp st
theorem w_if_gt_f (C : Cx p s m meth c Z own bytes maxL ret nm) {o : Int} {x : Int32} (hd : decode bytes pc = .ok (.ifCond .gt o, 3)) (hq : pc + 3 = q) (hc : ¬ 0 < x) (K : AtW p l e R s m args below meth c n0 Q h cells slots (mkF m q L S)) : AtW p l e R s m args below meth c n0 Q h cells slots (mkF m pc L (.int x :: S)) := by
  subst hq
  exact K.go fun T hA t st => XS.ifNo hA C.1 rfl (hb C.2.1 hd) rfl ((if0 _ _).trans (flt hc).2.2.1) st
theorem w_icmp_le_t (C : Cx p s m meth c Z own bytes maxL ret nm) {o : Int} {x y : Int32} (hd : decode bytes pc = .ok (.if_icmp .le o, 3)) (ho : 0 ≤ (pc : Int) + o) (hp : ((pc : Int) + o).toNat = q) (hc : ¬ y < x) (K : AtW p l e R s m args below meth c n0 Q h cells slots (mkF m q L S)) : AtW p l e R s m args below meth c n0 Q h cells slots (mkF m pc L (.int y :: .int x :: S)) :=
  K.go fun T hA t st => XS.icmpYes hA C.1 rfl (pc0 := pc) (pc' := q) rfl (hb C.2.1 hd) rfl (flt hc).2.2.2 ho hp st
theorem w_icmp_le_f (C : Cx p s m meth c Z own bytes maxL ret nm) {o : Int} {x y : Int32} (hd : decode bytes pc = .ok (.if_icmp .le o, 3)) (hq : pc + 3 = q) (hc : y < x) (K : AtW p l e R s m args below meth c n0 Q h cells slots (mkF m q L S)) : AtW p l e R s m args below meth c n0 Q h cells slots (mkF m pc L (.int y :: .int x :: S)) := by
  subst hq
  exact K.go fun T hA t st => XS.icmpNo hA C.1 rfl (hb C.2.1 hd) rfl (tlt hc).2.2.2 st
theorem w_if_le_t (C : Cx p s m meth c Z own bytes maxL ret nm) {o : Int} {x : Int32} (hd : decode bytes pc = .ok (.ifCond .le o, 3)) (ho : 0 ≤ (pc : Int) + o) (hp : ((pc : Int) + o).toNat = q) (hc : ¬ 0 < x) (K : AtW p l e R s m args below meth c n0 Q h cells slots (mkF m q L S)) : AtW p l e R s m args below meth c n0 Q h cells slots (mkF m pc L (.int x :: S)) :=
  K.go fun T hA t st => XS.ifYes hA C.1 rfl (pc0 := pc) (pc' := q) rfl (hb C.2.1 hd) rfl ((if0 _ _).trans (flt hc).2.2.2) ho hp st
theorem w_if_le_f (C : Cx p s m meth c Z own bytes maxL ret nm) {o : Int} {x : Int32} (hd : decode bytes pc = .ok (.ifCond .le o, 3)) (hq : pc + 3 = q) (hc : 0 < x) (K : AtW p l e R s m args below meth c n0 Q h cells slots (mkF m q L S)) : AtW p l e R s m args below meth c n0 Q h cells slots (mkF m pc L (.int x :: S)) := by
  subst hq
  exact K.go fun T hA t st => XS.ifNo hA C.1 rfl (hb C.2.1 hd) rfl ((if0 _ _).trans (tlt hc).2.2.2) st
theorem w_icmp_eq_t (C : Cx p s m meth c Z own bytes maxL ret nm) {o : Int} {x y : Int32} (hd : decode bytes pc = .ok (.if_icmp .eq o, 3)) (ho : 0 ≤ (pc : Int) + o) (hp : ((pc : Int) + o).toNat = q) (hc : x = y) (K : AtW p l e R s m args below meth c n0 Q h cells slots (mkF m q L S)) : AtW p l e R s m args below meth c n0 Q h cells slots (mkF m pc L (.int y :: .int x :: S)) :=
  K.go fun T hA t st => XS.icmpYes hA C.1 rfl (pc0 := pc) (pc' := q) rfl (hb C.2.1 hd) rfl (teq hc).1 ho hp st
theorem w_icmp_eq_f (C : Cx p s m meth c Z own bytes maxL ret nm) {o : Int} {x y : Int32} (hd : decode bytes pc = .ok (.if_icmp .eq o, 3)) (hq : pc + 3 = q) (hc : ¬ x = y) (K : AtW p l e R s m args below meth c n0 Q h cells slots (mkF m q L S)) : AtW p l e R s m args below meth c n0 Q h cells slots (mkF m pc L (.int y :: .int x :: S)) := by
  subst hq
  exact K.go fun T hA t st => XS.icmpNo hA C.1 rfl (hb C.2.1 hd) rfl (feq hc).1 st
theorem w_if_eq_t (C : Cx p s m meth c Z own bytes maxL ret nm) {o : Int} {x : Int32} (hd : decode bytes pc = .ok (.ifCond .eq o, 3)) (ho : 0 ≤ (pc : Int) + o) (hp : ((pc : Int) + o).toNat = q) (hc : x = 0) (K : AtW p l e R s m args below meth c n0 Q h cells slots (mkF m q L S)) : AtW p l e R s m args below meth c n0 Q h cells slots (mkF m pc L (.int x :: S)) :=
  K.go fun T hA t st => XS.ifYes hA C.1 rfl (pc0 := pc) (pc' := q) rfl (hb C.2.1 hd) rfl ((if0 _ _).trans (teq hc).1) ho hp st
theorem w_if_eq_f (C : Cx p s m meth c Z own bytes maxL ret nm) {o : Int} {x : Int32} (hd : decode bytes pc = .ok (.ifCond .eq o, 3)) (hq : pc + 3 = q) (hc : ¬ x = 0) (K : AtW p l e R s m args below meth c n0 Q h cells slots (mkF m q L S)) : AtW p l e R s m args below meth c n0 Q h cells slots (mkF m pc L (.int x :: S)) := by
  subst hq
  exact K.go fun T hA t st => XS.ifNo hA C.1 rfl (hb C.2.1 hd) rfl ((if0 _ _).trans (feq hc).1) st
theorem w_icmp_ne_t (C : Cx p s m meth c Z own bytes maxL ret nm) {o : Int} {x y : Int32} (hd : decode bytes pc = .ok (.if_icmp .ne o, 3)) (ho : 0 ≤ (pc : Int) + o) (hp : ((pc : Int) + o).toNat = q) (hc : ¬ x = y) (K : AtW p l e R s m args below meth c n0 Q h cells slots (mkF m q L S)) : AtW p l e R s m args below meth c n0 Q h cells slots (mkF m pc L (.int y :: .int x :: S)) :=
  K.go fun T hA t st => XS.icmpYes hA C.1 rfl (pc0 := pc) (pc' := q) rfl (hb C.2.1 hd) rfl (feq hc).2 ho hp st
theorem w_icmp_ne_f (C : Cx p s m meth c Z own bytes maxL ret nm) {o : Int} {x y : Int32} (hd : decode bytes pc = .ok (.if_icmp .ne o, 3)) (hq : pc + 3 = q) (hc : x = y) (K : AtW p l e R s m args below meth c n0 Q h cells slots (mkF m q L S)) : AtW p l e R s m args below meth c n0 Q h cells slots (mkF m pc L (.int y :: .int x :: S)) := by
  subst hq
  exact K.go fun T hA t st => XS.icmpNo hA C.1 rfl (hb C.2.1 hd) rfl (teq hc).2 st
theorem w_if_ne_t (C : Cx p s m meth c Z own bytes maxL ret nm) {o : Int} {x : Int32} (hd : decode bytes pc = .ok (.ifCond .ne o, 3)) (ho : 0 ≤ (pc : Int) + o) (hp : ((pc : Int) + o).toNat = q) (hc : ¬ x = 0) (K : AtW p l e R s m args below meth c n0 Q h cells slots (mkF m q L S)) : AtW p l e R s m args below meth c n0 Q h cells slots (mkF m pc L (.int x :: S)) :=
  K.go fun T hA t st => XS.ifYes hA C.1 rfl (pc0 := pc) (pc' := q) rfl (hb C.2.1 hd) rfl ((if0 _ _).trans (feq hc).2) ho hp st
theorem w_if_ne_f (C : Cx p s m meth c Z own bytes maxL ret nm) {o : Int} {x : Int32} (hd : decode bytes pc = .ok (.ifCond .ne o, 3)) (hq : pc + 3 = q) (hc : x = 0) (K : AtW p l e R s m args below meth c n0 Q h cells slots (mkF m q L S)) : AtW p l e R s m args below meth c n0 Q h cells slots (mkF m pc L (.int x :: S)) := by
  subst hq
  exact K.go fun T hA t st => XS.ifNo hA C.1 rfl (hb C.2.1 hd) rfl ((if0 _ _).trans (teq hc).2) st
theorem w_ifnull_t (C : Cx p s m meth c Z own bytes maxL ret nm) {o : Int} (hd : decode bytes pc = .ok (.ifnull o, 3)) (ho : 0 ≤ (pc : Int) + o) (hp : ((pc : Int) + o).toNat = q) (K : AtW p l e R s m args below meth c n0 Q h cells slots (mkF m q L S)) : AtW p l e R s m args below meth c n0 Q h cells slots (mkF m pc L (.null :: S)) :=
  K.go fun T hA t st => XS.ifnullYes hA C.1 rfl (pc0 := pc) (pc' := q) rfl (hb C.2.1 hd) rfl ho hp st
theorem w_ifnull_f (C : Cx p s m meth c Z own bytes maxL ret nm) {o : Int} {b : Addr} (hd : decode bytes pc = .ok (.ifnull o, 3)) (hq : pc + 3 = q) (K : AtW p l e R s m args below meth c n0 Q h cells slots (mkF m q L S)) : AtW p l e R s m args below meth c n0 Q h cells slots (mkF m pc L ((.ref b) :: S)) := by
  subst hq
  exact K.go fun T hA t st => XS.ifnullNo hA C.1 rfl (hb C.2.1 hd) rfl st
theorem w_ifnonnull_t (C : Cx p s m meth c Z own bytes maxL ret nm) {o : Int} {b : Addr} (hd : decode bytes pc = .ok (.ifnonnull o, 3)) (ho : 0 ≤ (pc : Int) + o) (hp : ((pc : Int) + o).toNat = q) (K : AtW p l e R s m args below meth c n0 Q h cells slots (mkF m q L S)) : AtW p l e R s m args below meth c n0 Q h cells slots (mkF m pc L ((.ref b) :: S)) :=
  K.go fun T hA t st => XS.ifnonnullYes hA C.1 rfl (pc0 := pc) (pc' := q) rfl (hb C.2.1 hd) rfl ho hp st
theorem w_ifnonnull_f (C : Cx p s m meth c Z own bytes maxL ret nm) {o : Int} (hd : decode bytes pc = .ok (.ifnonnull o, 3)) (hq : pc + 3 = q) (K : AtW p l e R s m args below meth c n0 Q h cells slots (mkF m q L S)) : AtW p l e R s m args below meth c n0 Q h cells slots (mkF m pc L (.null :: S)) := by
  subst hq
  exact K.go fun T hA t st => XS.ifnonnullNo hA C.1 rfl (hb C.2.1 hd) rfl st
theorem w_acmp_t (C : Cx p s m meth c Z own bytes maxL ret nm) {cd : ACond} {o : Int} {x y : Value} (hd : decode bytes pc = .ok (.if_acmp cd o, 3)) (h1 : x.isRef = true) (h2 : y.isRef = true) {same : Bool} (hs : decide (x = y) = same) (hcd : acV cd same = true) (ho : 0 ≤ (pc : Int) + o) (hp : ((pc : Int) + o).toNat = q) (K : AtW p l e R s m args below meth c n0 Q h cells slots (mkF m q L S)) : AtW p l e R s m args below meth c n0 Q h cells slots (mkF m pc L (y :: x :: S)) :=
  K.goX fun T locs k n X eT t st => Jvm.RoadKit.acmp (g := mkF m pc L (y :: x :: S)) X C.1 rfl h1 h2 (pc0 := pc) (pc' := q) (same := same) rfl (hb C.2.1 hd) rfl hs ho (by rw [if_pos hcd]; exact hp.symm) st
theorem w_acmp_f (C : Cx p s m meth c Z own bytes maxL ret nm) {cd : ACond} {o : Int} {x y : Value} (hd : decode bytes pc = .ok (.if_acmp cd o, 3)) (h1 : x.isRef = true) (h2 : y.isRef = true) {same : Bool} (hs : decide (x = y) = same) (hcd : acV cd same = false) (ho : 0 ≤ (pc : Int) + o) (hq : pc + 3 = q) (K : AtW p l e R s m args below meth c n0 Q h cells slots (mkF m q L S)) : AtW p l e R s m args below meth c n0 Q h cells slots (mkF m pc L (y :: x :: S)) :=
  K.goX fun T locs k n X eT t st => Jvm.RoadKit.acmp (g := mkF m pc L (y :: x :: S)) X C.1 rfl h1 h2 (pc0 := pc) (pc' := q) (same := same) rfl (hb C.2.1 hd) rfl hs ho (by rw [if_neg (by rw [hcd]; exact Bool.false_ne_true)]; exact hq.symm) st
theorem w_ldcI (C : Cx p s m meth c Z own bytes maxL ret nm) {i : Nat} {v : Int32} (w : (Jvm.Cond.constant own i v).before a0 Z = true) (hd : decode bytes pc = .ok (.ldc i, 2)) (hq : pc + 2 = q) (K : AtW p l e R s m args below meth c n0 Q h cells slots (mkF m q L (.int v :: S))) : AtW p l e R s m args below meth c n0 Q h cells slots (mkF m pc L S) := by
  subst hq
  exact K.goX fun T locs k n X eT t st => X.ldcInt C.1 C.2.2.2.2.1 (mvT C.2.2.2.1 w) (g := mkF m pc L S) rfl (hb C.2.1 hd) t st
theorem w_ldcwI (C : Cx p s m meth c Z own bytes maxL ret nm) {i : Nat} {v : Int32} (w : (Jvm.Cond.constant own i v).before a0 Z = true) (hd : decode bytes pc = .ok (.ldc_w i, 3)) (hq : pc + 3 = q) (K : AtW p l e R s m args below meth c n0 Q h cells slots (mkF m q L (.int v :: S))) : AtW p l e R s m args below meth c n0 Q h cells slots (mkF m pc L S) := by
  subst hq
  exact K.goX fun T locs k n X eT t st => X.ldcwInt C.1 C.2.2.2.2.1 (mvT C.2.2.2.1 w) (g := mkF m pc L S) rfl (hb C.2.1 hd) t st
theorem w_ldc2J (C : Cx p s m meth c Z own bytes maxL ret nm) {i : Nat} {v : Int64} (w : (Jvm.Cond.constantLong own i v).before a0 Z = true) (hd : decode bytes pc = .ok (.ldc2_w i, 3)) (hq : pc + 3 = q) (K : AtW p l e R s m args below meth c n0 Q h cells slots (mkF m q L (.long v :: S))) : AtW p l e R s m args below meth c n0 Q h cells slots (mkF m pc L S) := by
  subst hq
  exact K.goX fun T locs k n X eT t st => X.ldc2Long C.1 C.2.2.2.2.1 (mvT C.2.2.2.1 w) (g := mkF m pc L S) rfl (hb C.2.1 hd) t st

theorem w_getF (C : Cx p s m meth c Z own bytes maxL ret nm) {R0 O n d host : String} {i : Nat} {a : Addr} {v : Value} (w : (Jvm.Cond.fieldLink own i R0 n d).before a0 Z = true ∨ (Jvm.Cond.fieldLinkNest own i R0 n d host).before a0 Z = true) (via : Via Z R0 O n d) (F : Fld Z h a O n d v) (hd : decode bytes pc = .ok (.getfield i, 3)) (hq : pc + 3 = q) (K : AtW p l e R s m args below meth c n0 Q h cells slots (mkF m q L (v :: S))) : AtW p l e R s m args below meth c n0 Q h cells slots (mkF m pc L (.ref a :: S)) := by
  subst hq
  intro T locs k n X hk hn eT N
  obtain ⟨T', X', e', st⟩ := getF X C.1 C.2.2.2.1 (host := host) C.2.2.2.2.1 w via eT F (g := mkF m pc L (.ref a :: S)) rfl rfl (hb C.2.1 hd)
  obtain ⟨t, o, r1, r⟩ := K T' locs k n X' hk hn e' N
  exact ⟨t, o, st _ r1, r⟩
theorem w_getS (C : Cx p s m meth c Z own bytes maxL ret nm) {R0 O n d host : String} {i : Nat} {v : Value} (w : (Jvm.Cond.fieldLink own i R0 n d).before a0 Z = true ∨ (Jvm.Cond.fieldLinkNest own i R0 n d host).before a0 Z = true) (via : Via Z R0 O n d) (F : Sta Z h O n d v) (hd : decode bytes pc = .ok (.getstatic i, 3)) (hq : pc + 3 = q) (K : AtW p l e R s m args below meth c n0 Q h cells slots (mkF m q L (v :: S))) : AtW p l e R s m args below meth c n0 Q h cells slots (mkF m pc L S) := by
  subst hq
  intro T locs k n X hk hn eT N
  obtain ⟨T', X', e', st⟩ := getS2 X C.1 C.2.2.2.1 (host := host) C.2.2.2.2.1 w via eT F (g := mkF m pc L S) rfl (hb C.2.1 hd)
  obtain ⟨t, o, r1, r⟩ := K T' locs k n X' hk hn e' N
  exact ⟨t, o, st _ r1, r⟩
theorem w_cast (C : Cx p s m meth c Z own bytes maxL ret nm) {K : String} {i : Nat} {a : Addr} (w : (Jvm.Cond.classLink own i K).before a0 Z = true) (F : Ins Z h a K true) (hd : decode bytes pc = .ok (.checkcast i, 3)) (hq : pc + 3 = q) (K : AtW p l e R s m args below meth c n0 Q h cells slots (mkF m q L (.ref a :: S))) : AtW p l e R s m args below meth c n0 Q h cells slots (mkF m pc L (.ref a :: S)) := by
  subst hq
  intro T locs k n X hk hn eT N
  obtain ⟨T', X', e', st⟩ := castY X C.1 C.2.2.2.1 C.2.2.2.2.1 w eT F (g := mkF m pc L (.ref a :: S)) rfl rfl (hb C.2.1 hd)
  obtain ⟨t, o, r1, r⟩ := K T' locs k n X' hk hn e' N
  exact ⟨t, o, st _ r1, r⟩
theorem w_inst (C : Cx p s m meth c Z own bytes maxL ret nm) {K : String} {i : Nat} {a : Addr} (w : (Jvm.Cond.classLink own i K).before a0 Z = true) (F : Ins Z h a K true) (hd : decode bytes pc = .ok (.instanceof i, 3)) (hq : pc + 3 = q) (K : AtW p l e R s m args below meth c n0 Q h cells slots (mkF m q L (.int 1 :: S))) : AtW p l e R s m args below meth c n0 Q h cells slots (mkF m pc L (.ref a :: S)) := by
  subst hq
  intro T locs k n X hk hn eT N
  obtain ⟨T', X', e', st⟩ := instY X C.1 C.2.2.2.1 C.2.2.2.2.1 w eT F (g := mkF m pc L (.ref a :: S)) rfl rfl (hb C.2.1 hd)
  obtain ⟨t, o, r1, r⟩ := K T' locs k n X' hk hn e' N
  exact ⟨t, o, st _ r1, r⟩
theorem w_initO (C : Cx p s m meth c Z own bytes maxL ret nm) {i : Nat} {a : Addr} (w1 : (Jvm.Cond.methodLink own i Lib.objectInit).before a0 Z = true) (w2 : (Jvm.Cond.instanceMethod Lib.objectInit).before a0 Z = true) (w3 : (Jvm.Cond.code Lib.objectInit object_method_1_code 1 none).before a0 Z = true) (hL : L.size = maxL) (hf : 1 ≤ R.frames) {W : Nat} (hW : (S.map fun v => v.category).sum ≤ W) (hlo : W + 12 ≤ R.locals) (hd : decode bytes pc = .ok (.invokespecial i, 3)) (hq : pc + 3 = q) (K : AtW p l e R s m args below meth c n0 Q h cells slots (mkF m q L S)) : AtW p l e R s m args below meth c n0 Q h cells slots (mkF m pc L (.ref a :: S)) := by
  subst hq
  intro T locs k n X hk hn eT N
  obtain ⟨T', X', e', st⟩ := initO X C.1 C.2.2.2.1 C.2.2.2.2.1 w1 w2 w3 eT (g := mkF m pc L (.ref a :: S)) rfl (hL.trans C.2.2.1.symm) rfl (hb C.2.1 hd) hf (W := W) (by show 2 * 0 + _ ≤ _; omega) hlo
  obtain ⟨t, o, r1, r⟩ := K T' locs k n X' hk hn e' N
  exact ⟨t, o, st _ r1, r⟩
theorem w_putF (C : Cx p s m meth c Z own bytes maxL ret nm) {R0 O n d host Cl : String} {i kk : Nat} {ty : FieldType} {a : Addr} {v v' old : Value} (w : (Jvm.Cond.fieldLink own i R0 n d).before a0 Z = true) (via : Via Z R0 O n d) (F : Fld Z h a O n d old) (E : Exa Z h a Cl)
    (hL : (Jvm.Cond.lays Cl O n d).before a0 Z = true ∨ ((Jvm.Cond.laysFinal Cl O n d).before a0 Z = true ∧ own = O ∧ nm = "<init>")) (wi : (Jvm.Cond.instantiable Cl kk).before a0 Z = true) (hty : parseFieldDescriptor d = some ty) (hn : narrow ty v = v') (hf : fits ty v' = true) (hge : n0 ≤ a)
    (hd : decode bytes pc = .ok (.putfield i, 3)) (hq : pc + 3 = q) (K : ∀ h', Wr h h' a (Jvm.RoadKit.slotOf Z O n d) v' → AtW p l e R s m args below meth c n0 Q h' cells slots (mkF m q L S)) : AtW p l e R s m args below meth c n0 Q h cells slots (mkF m pc L (v :: .ref a :: S)) := by
  subst hq
  intro T locs k n' X hk hn' eT N
  have hL' : (Jvm.Cond.lays Cl O n d).before a0 Z = true ∨ ((Jvm.Cond.laysFinal Cl O n d).before a0 Z = true ∧ own = O ∧ meth.name = "<init>") := hL.imp id fun x => ⟨x.1, x.2.1, C.2.2.2.2.2.2.2.trans x.2.2⟩
  obtain ⟨T', h', X', e', W, st⟩ := putFN X C.1 C.2.2.2.1 C.2.2.2.2.1 w via eT F E hL' wi hty hn hf (g := mkF m pc L (v :: .ref a :: S)) rfl rfl (hb C.2.1 hd)
  obtain ⟨t, o, r1, r⟩ := K h' W T' _ k n' X' hk hn' e' (Fr.snoc X' N hge)
  exact ⟨t, o, st _ r1, r⟩
theorem w_new (C : Cx p s m meth c Z own bytes maxL ret nm) {Cl : String} {i n : Nat} (w : (Jvm.Cond.classLink own i Cl).before a0 Z = true) (wi : (Jvm.Cond.instantiable Cl n).before a0 Z = true) (wz : (Jvm.Cond.initialized Cl).before a0 Z = true) {cells' slots' : Nat} (hc1 : cells + 1 = cells') (hs1 : slots + n = slots') (hc : cells' ≤ R.cells) (hl : slots' ≤ R.slots)
    (hd : decode bytes pc = .ok (.new i, 3)) (hq : pc + 3 = q) (K : ∀ h' a, a = h.size → Ext h h' → Exa Z h' a Cl → (∀ {O nm d : String} {ty : FieldType}, RoadKit.Laid Z a0 Cl O nm d → parseFieldDescriptor d = some ty → Fld Z h' a O nm d (defaultValue ty)) → AtW p l e R s m args below meth c n0 Q h' cells' slots' (mkF m q L (.ref a :: S))) : AtW p l e R s m args below meth c n0 Q h cells slots (mkF m pc L S) := by
  subst hq hc1 hs1
  intro T locs k n' X hk hn' eT N
  obtain ⟨T', h', X', e', E, A, D, -, st⟩ := newO X C.1 C.2.2.2.1 C.2.2.2.2.1 w wi wz eT (g := mkF m pc L S) rfl (hb C.2.1 hd) (by omega) (by omega)
  obtain ⟨t, o, r1, r⟩ := K h' h.size rfl E A D T' _ (k + 1) (n' + n) X' (by omega) (by omega) e' N
  exact ⟨t, o, st _ r1, r⟩
/-- an array that holds just vs -/
def Ar (Z : State) (h : Heap) (a : Addr) (ty : FieldType) (vs : List Value) : Prop := vs.length < 2 ^ 31 ∧ ∃ k, Arv Z h a k ty (Int32.ofNat vs.length) vs (defaultValue ty)
theorem ofNat_neg {n : Nat} (h : n < 2 ^ 31) : ¬ Int32.ofNat n < 0 := by
  intro q
  have := Int32.lt_iff_toInt_lt.mp q
  rw [Int32.toInt_ofNat_small h] at this
  simp at this
  omega
theorem ofNat_nat {n : Nat} (h : n < 2 ^ 31) : (Int32.ofNat n).toNatClampNeg = n := by
  simp only [Int32.toNatClampNeg, Int32.toInt_ofNat_small h]; rfl
theorem nat_of_nonneg {x : Int32} (h : ¬ x < 0) : Int32.ofNat x.toNatClampNeg = x ∧ x.toNatClampNeg < 2 ^ 31 := by
  obtain ⟨h1, h2⟩ := back32 h
  exact ⟨h1, h2⟩
theorem Ar.keep {a : Addr} {ty : FieldType} {vs : List Value} {h' : Heap} {ws : List Addr} (F : Ar Z h a ty vs) (K : Keep h h' ws) (q : a ∉ ws) : Ar Z h' a ty vs := ⟨F.1, F.2.imp fun k V => V.keep K q⟩
theorem Ar.ext {a : Addr} {ty : FieldType} {vs : List Value} {h' : Heap} (F : Ar Z h a ty vs) (E : Ext h h') : Ar Z h' a ty vs := ⟨F.1, F.2.imp fun k V => V.ext E⟩
theorem Ar.other {a b : Addr} {ty : FieldType} {vs : List Value} {h' : Heap} {sl : Nat} {v : Value} (F : Ar Z h b ty vs) (W : Wr h h' a sl v) (q : b ≠ a) : Ar Z h' b ty vs := ⟨F.1, F.2.imp fun k V => V.other W q⟩
theorem Ar.lt {a : Addr} {ty : FieldType} {vs : List Value} (F : Ar Z h a ty vs) : a < h.size := F.2.elim fun k V => V.lt
theorem Ar.eq {a : Addr} {ty : FieldType} {vs vs' : List Value} (F : Ar Z h a ty vs) (q : vs = vs') : Ar Z h a ty vs' := q ▸ F
theorem Keep.of_ext {h' : Heap} (E : Ext h h') : Keep h h' [] := (Keep.refl h []).ext E
theorem Keep.to_ext {h' : Heap} (K : Keep h h' []) : Ext h h' := ⟨K.1, fun a c q => K.2.1 a c q (by simp)⟩
theorem w_newArr (C : Cx p s m meth c Z own bytes maxL ret nm) {aty : ArrayType} {ty : FieldType} {n : Int32} (w : (Jvm.Cond.arrayClass ty).before a0 Z = true) (hty : newarray.typeOf aty = ty) (hn : ¬ n < 0) {cap : Nat} (hcap : n.toNatClampNeg ≤ cap) (hb' : cap * 8 ≤ 536870912) {cells' slots' : Nat} (hc1 : cells + 1 = cells') (hs1 : slots + cap = slots') (hc : cells' ≤ R.cells) (hl : slots' ≤ R.slots)
    (hd : decode bytes pc = .ok (.newarray aty, 2)) (hq : pc + 2 = q) (K : ∀ h' a, a = h.size → Ext h h' → Ar Z h' a ty (List.replicate n.toNatClampNeg (defaultValue ty)) → AtW p l e R s m args below meth c n0 Q h' cells' slots' (mkF m q L (.ref a :: S))) : AtW p l e R s m args below meth c n0 Q h cells slots (mkF m pc L (.int n :: S)) := by
  subst hq hc1 hs1 hty
  intro T locs k n' X hk hn' eT N
  obtain ⟨T', h', cA, X', e', E, A, st⟩ := newP X C.1 C.2.2.2.1 w eT (g := mkF m pc L (.int n :: S)) rfl (hb C.2.1 hd) rfl hn hcap hb' (by omega) (by omega)
  have q := nat_of_nonneg hn
  have V := (Arv.new A hn).pad (pad_rep [] (defaultValue (newarray.typeOf aty)) n.toNatClampNeg)
  obtain ⟨t, o, r1, r⟩ := K h' h.size rfl E ⟨by simpa using q.2, cA, by simpa [q.1] using V⟩ T' _ (k + 1) (n' + cap) X' (by omega) (by omega) e' N
  exact ⟨t, o, st _ r1, r⟩
theorem w_len (C : Cx p s m meth c Z own bytes maxL ret nm) {a : Addr} {ty : FieldType} {vs : List Value} {z : Int32} (A : Ar Z h a ty vs) (hz : Int32.ofNat vs.length = z) (hd : decode bytes pc = .ok (.arraylength, 1)) (hq : pc + 1 = q) (K : AtW p l e R s m args below meth c n0 Q h cells slots (mkF m q L (.int z :: S))) : AtW p l e R s m args below meth c n0 Q h cells slots (mkF m pc L (.ref a :: S)) := by
  subst hq hz
  obtain ⟨hlt, k, cl, Ar, -, hS, hM, -, -⟩ := A
  refine K.goX fun T locs k n X eT t st => X.arraylength C.1 (by rw [eT]; exact Ar.1) (State.isArrayOf_alike C.2.2.2.1.alike Ar.2.1) (g := mkF m pc L (.ref a :: S)) rfl rfl (hb C.2.1 hd) t ?_
  rw [len_of hS hM]; exact st

theorem w_iaload (C : Cx p s m meth c Z own bytes maxL ret nm) {a : Addr} {vs : List Value} {j : Int32} {i : Nat} {v : Value} (A : Ar Z h a .int vs) (hj : j = Int32.ofNat i) (hv : vs[i]? = some v) (hd : decode bytes pc = .ok (.iaload, 1)) (hq : pc + 1 = q) (K : AtW p l e R s m args below meth c n0 Q h cells slots (mkF m q L (v :: S))) : AtW p l e R s m args below meth c n0 Q h cells slots (mkF m pc L (.int j :: .ref a :: S)) := by
  subst hq hj
  obtain ⟨hlt, k, cl, Ar, -, hS, hM, H, -⟩ := A
  obtain ⟨hi, hg⟩ := List.getElem?_eq_some_iff.mp hv
  have e1 := ofNat_nat (n := i) (by omega)
  have e2 := ofNat_nat hlt
  have hin : ¬ (Int32.ofNat i < 0 ∨ cl.slots.size ≤ (Int32.ofNat i).toNatClampNeg) := by
    rw [e1, hS, e2]; exact fun q => q.elim (ofNat_neg (by omega)) (by omega)
  refine K.goX fun T locs k n X eT t st => X.iaload C.1 (j := Int32.ofNat i) (v := v) (by rw [eT]; exact Ar.1) (State.isArrayOf_alike C.2.2.2.1.alike Ar.2.1) Ar.2.2 hin (by rw [e1, H i (by rw [hS, e2]; exact hi)]; simp [List.getD, hv]) (g := mkF m pc L (.int (Int32.ofNat i) :: .ref a :: S)) rfl rfl (hb C.2.1 hd) t st
theorem w_caload (C : Cx p s m meth c Z own bytes maxL ret nm) {a : Addr} {vs : List Value} {j : Int32} {i : Nat} {v : Value} (A : Ar Z h a .char vs) (hj : j = Int32.ofNat i) (hv : vs[i]? = some v) (hd : decode bytes pc = .ok (.caload, 1)) (hq : pc + 1 = q) (K : AtW p l e R s m args below meth c n0 Q h cells slots (mkF m q L (v :: S))) : AtW p l e R s m args below meth c n0 Q h cells slots (mkF m pc L (.int j :: .ref a :: S)) := by
  subst hq hj
  obtain ⟨hlt, k, cl, Ar, -, hS, hM, H, -⟩ := A
  obtain ⟨hi, hg⟩ := List.getElem?_eq_some_iff.mp hv
  have e1 := ofNat_nat (n := i) (by omega)
  have e2 := ofNat_nat hlt
  have hin : ¬ (Int32.ofNat i < 0 ∨ cl.slots.size ≤ (Int32.ofNat i).toNatClampNeg) := by
    rw [e1, hS, e2]; exact fun q => q.elim (ofNat_neg (by omega)) (by omega)
  refine K.goX fun T locs k n X eT t st => X.caload C.1 (j := Int32.ofNat i) (v := v) (by rw [eT]; exact Ar.1) (State.isArrayOf_alike C.2.2.2.1.alike Ar.2.1) Ar.2.2 hin (by rw [e1, H i (by rw [hS, e2]; exact hi)]; simp [List.getD, hv]) (g := mkF m pc L (.int (Int32.ofNat i) :: .ref a :: S)) rfl rfl (hb C.2.1 hd) t st
theorem w_baload (C : Cx p s m meth c Z own bytes maxL ret nm) {a : Addr} {vs : List Value} {j : Int32} {i : Nat} {v : Value} (A : Ar Z h a .byte vs) (hj : j = Int32.ofNat i) (hv : vs[i]? = some v) (hd : decode bytes pc = .ok (.baload, 1)) (hq : pc + 1 = q) (K : AtW p l e R s m args below meth c n0 Q h cells slots (mkF m q L (v :: S))) : AtW p l e R s m args below meth c n0 Q h cells slots (mkF m pc L (.int j :: .ref a :: S)) := by
  subst hq hj
  obtain ⟨hlt, k, cl, Ar, -, hS, hM, H, -⟩ := A
  obtain ⟨hi, hg⟩ := List.getElem?_eq_some_iff.mp hv
  have e1 := ofNat_nat (n := i) (by omega)
  have e2 := ofNat_nat hlt
  have hin : ¬ (Int32.ofNat i < 0 ∨ cl.slots.size ≤ (Int32.ofNat i).toNatClampNeg) := by
    rw [e1, hS, e2]; exact fun q => q.elim (ofNat_neg (by omega)) (by omega)
  refine K.goX fun T locs k n X eT t st => X.baloadBytes C.1 (j := Int32.ofNat i) (v := v) (by rw [eT]; exact Ar.1) (State.isArrayOf_alike C.2.2.2.1.alike Ar.2.1) Ar.2.2 hin (by rw [e1, H i (by rw [hS, e2]; exact hi)]; simp [List.getD, hv]) (g := mkF m pc L (.int (Int32.ofNat i) :: .ref a :: S)) rfl rfl (hb C.2.1 hd) t st
theorem w_laload (C : Cx p s m meth c Z own bytes maxL ret nm) {a : Addr} {vs : List Value} {j : Int32} {i : Nat} {v : Value} (A : Ar Z h a .long vs) (hj : j = Int32.ofNat i) (hv : vs[i]? = some v) (hd : decode bytes pc = .ok (.laload, 1)) (hq : pc + 1 = q) (K : AtW p l e R s m args below meth c n0 Q h cells slots (mkF m q L (v :: S))) : AtW p l e R s m args below meth c n0 Q h cells slots (mkF m pc L (.int j :: .ref a :: S)) := by
  subst hq hj
  obtain ⟨hlt, k, cl, Ar, -, hS, hM, H, -⟩ := A
  obtain ⟨hi, hg⟩ := List.getElem?_eq_some_iff.mp hv
  have e1 := ofNat_nat (n := i) (by omega)
  have e2 := ofNat_nat hlt
  have hin : ¬ (Int32.ofNat i < 0 ∨ cl.slots.size ≤ (Int32.ofNat i).toNatClampNeg) := by
    rw [e1, hS, e2]; exact fun q => q.elim (ofNat_neg (by omega)) (by omega)
  refine K.goX fun T locs k n X eT t st => X.laload C.1 (j := Int32.ofNat i) (v := v) (by rw [eT]; exact Ar.1) (State.isArrayOf_alike C.2.2.2.1.alike Ar.2.1) Ar.2.2 hin (by rw [e1, H i (by rw [hS, e2]; exact hi)]; simp [List.getD, hv]) (g := mkF m pc L (.int (Int32.ofNat i) :: .ref a :: S)) rfl rfl (hb C.2.1 hd) t st
theorem w_aaload (C : Cx p s m meth c Z own bytes maxL ret nm) {a : Addr} {ty : FieldType} {vs : List Value} {j : Int32} {i : Nat} {v : Value} (A : Ar Z h a ty vs) (hj : j = Int32.ofNat i) (hv : vs[i]? = some v) (hr : ty.isReference = true) (hd : decode bytes pc = .ok (.aaload, 1)) (hq : pc + 1 = q) (K : AtW p l e R s m args below meth c n0 Q h cells slots (mkF m q L (v :: S))) : AtW p l e R s m args below meth c n0 Q h cells slots (mkF m pc L (.int j :: .ref a :: S)) := by
  subst hq hj
  obtain ⟨hlt, k, cl, Ar, -, hS, hM, H, -⟩ := A
  obtain ⟨hi, hg⟩ := List.getElem?_eq_some_iff.mp hv
  have e1 := ofNat_nat (n := i) (by omega)
  have e2 := ofNat_nat hlt
  have hin : ¬ (Int32.ofNat i < 0 ∨ cl.slots.size ≤ (Int32.ofNat i).toNatClampNeg) := by
    rw [e1, hS, e2]; exact fun q => q.elim (ofNat_neg (by omega)) (by omega)
  refine K.goX fun T locs k n X eT t st => X.aaload C.1 (j := Int32.ofNat i) (v := v) (by rw [eT]; exact Ar.1) (State.isArrayOf_alike C.2.2.2.1.alike Ar.2.1) hr Ar.2.2 hin (by rw [e1, H i (by rw [hS, e2]; exact hi)]; simp [List.getD, hv]) (g := mkF m pc L (.int (Int32.ofNat i) :: .ref a :: S)) rfl rfl (hb C.2.1 hd) t st
theorem w_iastore (C : Cx p s m meth c Z own bytes maxL ret nm) {a : Addr} {vs : List Value} {j : Int32} {i : Nat} {x : Int32} (A : Ar Z h a .int vs) (hj : j = Int32.ofNat i) (hi : i < vs.length) (hge : n0 ≤ a) (hd : decode bytes pc = .ok (.iastore, 1)) (hq : pc + 1 = q)
    (K : ∀ h', Wr h h' a i (.int x) → Ar Z h' a .int (vs.set i (.int x)) → AtW p l e R s m args below meth c n0 Q h' cells slots (mkF m q L S)) : AtW p l e R s m args below meth c n0 Q h cells slots (mkF m pc L (.int x :: .int j :: .ref a :: S)) := by
  subst hq hj
  intro T locs k n' X hk hn' eT N
  obtain ⟨hlt, k', cl, Ar, q1, hS, hM, H, G⟩ := A
  have e1 := ofNat_nat (n := i) (by omega)
  have e2 := ofNat_nat hlt
  have hin : ¬ (Int32.ofNat i < 0 ∨ cl.slots.size ≤ (Int32.ofNat i).toNatClampNeg) := by
    rw [e1, hS, e2]; exact fun q => q.elim (ofNat_neg (by omega)) (by omega)
  obtain ⟨T', h', X', e', W, st⟩ := stI X C.1 C.2.2.2.1 eT Ar (j := Int32.ofNat i) (x := x) hin (g := mkF m pc L (.int x :: .int (Int32.ofNat i) :: .ref a :: S)) rfl rfl (hb C.2.1 hd)
  have V := Arv.set Ar q1 hS hM H G (rfl) W i e1 hi
  obtain ⟨t, o, r1, r⟩ := K h' (by rw [e1] at W; exact W) ⟨by simpa using hlt, k', by rw [List.length_set]; exact V⟩ T' _ k n' X' hk hn' e' (Fr.snoc X' N hge)
  exact ⟨t, o, st _ r1, r⟩
theorem w_castore (C : Cx p s m meth c Z own bytes maxL ret nm) {a : Addr} {vs : List Value} {j : Int32} {i : Nat} {x : Int32} {z : Int32} (hz : nar .char x = z) (A : Ar Z h a .char vs) (hj : j = Int32.ofNat i) (hi : i < vs.length) (hge : n0 ≤ a) (hd : decode bytes pc = .ok (.castore, 1)) (hq : pc + 1 = q)
    (K : ∀ h', Wr h h' a i (.int z) → Ar Z h' a .char (vs.set i (.int z)) → AtW p l e R s m args below meth c n0 Q h' cells slots (mkF m q L S)) : AtW p l e R s m args below meth c n0 Q h cells slots (mkF m pc L (.int x :: .int j :: .ref a :: S)) := by
  subst hq hj hz
  intro T locs k n' X hk hn' eT N
  obtain ⟨hlt, k', cl, Ar, q1, hS, hM, H, G⟩ := A
  have e1 := ofNat_nat (n := i) (by omega)
  have e2 := ofNat_nat hlt
  have hin : ¬ (Int32.ofNat i < 0 ∨ cl.slots.size ≤ (Int32.ofNat i).toNatClampNeg) := by
    rw [e1, hS, e2]; exact fun q => q.elim (ofNat_neg (by omega)) (by omega)
  obtain ⟨T', h', X', e', W, st⟩ := stC X C.1 C.2.2.2.1 eT Ar (j := Int32.ofNat i) (x := x) hin (g := mkF m pc L (.int x :: .int (Int32.ofNat i) :: .ref a :: S)) rfl rfl (hb C.2.1 hd)
  have V := Arv.set Ar q1 hS hM H G (fits_nar_char _) W i e1 hi
  obtain ⟨t, o, r1, r⟩ := K h' (by rw [e1] at W; exact W) ⟨by simpa using hlt, k', by rw [List.length_set]; exact V⟩ T' _ k n' X' hk hn' e' (Fr.snoc X' N hge)
  exact ⟨t, o, st _ r1, r⟩
theorem w_bastore (C : Cx p s m meth c Z own bytes maxL ret nm) {a : Addr} {vs : List Value} {j : Int32} {i : Nat} {x : Int32} {z : Int32} (hz : nar .byte x = z) (A : Ar Z h a .byte vs) (hj : j = Int32.ofNat i) (hi : i < vs.length) (hge : n0 ≤ a) (hd : decode bytes pc = .ok (.bastore, 1)) (hq : pc + 1 = q)
    (K : ∀ h', Wr h h' a i (.int z) → Ar Z h' a .byte (vs.set i (.int z)) → AtW p l e R s m args below meth c n0 Q h' cells slots (mkF m q L S)) : AtW p l e R s m args below meth c n0 Q h cells slots (mkF m pc L (.int x :: .int j :: .ref a :: S)) := by
  subst hq hj hz
  intro T locs k n' X hk hn' eT N
  obtain ⟨hlt, k', cl, Ar, q1, hS, hM, H, G⟩ := A
  have e1 := ofNat_nat (n := i) (by omega)
  have e2 := ofNat_nat hlt
  have hin : ¬ (Int32.ofNat i < 0 ∨ cl.slots.size ≤ (Int32.ofNat i).toNatClampNeg) := by
    rw [e1, hS, e2]; exact fun q => q.elim (ofNat_neg (by omega)) (by omega)
  obtain ⟨T', h', X', e', W, st⟩ := stB X C.1 C.2.2.2.1 eT Ar (j := Int32.ofNat i) (x := x) hin (g := mkF m pc L (.int x :: .int (Int32.ofNat i) :: .ref a :: S)) rfl rfl (hb C.2.1 hd)
  have V := Arv.set Ar q1 hS hM H G (fits_nar_byte _) W i e1 hi
  obtain ⟨t, o, r1, r⟩ := K h' (by rw [e1] at W; exact W) ⟨by simpa using hlt, k', by rw [List.length_set]; exact V⟩ T' _ k n' X' hk hn' e' (Fr.snoc X' N hge)
  exact ⟨t, o, st _ r1, r⟩
theorem w_lastore (C : Cx p s m meth c Z own bytes maxL ret nm) {a : Addr} {vs : List Value} {j : Int32} {i : Nat} {x : Int64} (A : Ar Z h a .long vs) (hj : j = Int32.ofNat i) (hi : i < vs.length) (hge : n0 ≤ a) (hd : decode bytes pc = .ok (.lastore, 1)) (hq : pc + 1 = q)
    (K : ∀ h', Wr h h' a i (.long x) → Ar Z h' a .long (vs.set i (.long x)) → AtW p l e R s m args below meth c n0 Q h' cells slots (mkF m q L S)) : AtW p l e R s m args below meth c n0 Q h cells slots (mkF m pc L (.long x :: .int j :: .ref a :: S)) := by
  subst hq hj
  intro T locs k n' X hk hn' eT N
  obtain ⟨hlt, k', cl, Ar, q1, hS, hM, H, G⟩ := A
  have e1 := ofNat_nat (n := i) (by omega)
  have e2 := ofNat_nat hlt
  have hin : ¬ (Int32.ofNat i < 0 ∨ cl.slots.size ≤ (Int32.ofNat i).toNatClampNeg) := by
    rw [e1, hS, e2]; exact fun q => q.elim (ofNat_neg (by omega)) (by omega)
  obtain ⟨T', h', X', e', W, st⟩ := stJ X C.1 C.2.2.2.1 eT Ar (j := Int32.ofNat i) (x := x) hin (g := mkF m pc L (.long x :: .int (Int32.ofNat i) :: .ref a :: S)) rfl rfl (hb C.2.1 hd)
  have V := Arv.set Ar q1 hS hM H G (rfl) W i e1 hi
  obtain ⟨t, o, r1, r⟩ := K h' (by rw [e1] at W; exact W) ⟨by simpa using hlt, k', by rw [List.length_set]; exact V⟩ T' _ k n' X' hk hn' e' (Fr.snoc X' N hge)
  exact ⟨t, o, st _ r1, r⟩
theorem w_retZ (C : Cx p s m meth c Z own bytes maxL ret nm) {t : FieldType} {x z : Int32} (hret : ret = some t) (ht : t = .boolean ∨ t = .byte ∨ t = .char ∨ t = .short) (hz : nar t x = z) (hd : decode bytes pc = .ok (.ireturn, 1)) (hc : cells ≤ R.cells) (hs : slots ≤ R.slots) (hQ : Q (some (.int z)) h) : AtW p l e R s m args below meth c n0 Q h cells slots (mkF m pc L (.int x :: S)) := by
  subst hz
  intro T locs k n X hk hn eT N
  obtain ⟨fs, hr, hrun, hended, hW, hsame⟩ := X.leave (v := some (.int (nar t x))) (fun h => by rw [C.2.2.2.2.2.1, hret] at h; cases h) C.2.2.2.2.2.2.1
  refine ⟨_, _, retN X C.1 (t := t) (C.2.2.2.2.2.1.trans hret) ht (hb C.2.1 hd) hr, hrun, hended, _, _, rfl, ⟨N, ?_⟩, ⟨_, rfl⟩, hW, hsame.mono (Nat.le_trans hk hc) (Nat.le_trans hn hs)⟩
  show Q _ T.heap
  rw [eT]; exact hQ
theorem w_ret (C : Cx p s m meth c Z own bytes maxL ret nm) {t : FieldType} {v : Value} {i : Instr} (hret : ret = some t) (hn' : narrow t v = v)
    (hi : (i = .ireturn ∧ (t = .int ∨ t = .boolean ∨ t = .byte ∨ t = .char ∨ t = .short) ∧ ∃ z, v = .int z) ∨ (i = .lreturn ∧ t = .long ∧ ∃ z, v = .long z) ∨ (i = .dreturn ∧ t = .double ∧ ∃ z, v = .double z) ∨ (i = .freturn ∧ t = .float ∧ ∃ z, v = .float z) ∨ (i = .areturn ∧ t.isReference = true ∧ v.isRef = true))
    (hd : decode bytes pc = .ok (i, 1)) (hc : cells ≤ R.cells) (hs : slots ≤ R.slots) (hQ : Q (some v) h) : AtW p l e R s m args below meth c n0 Q h cells slots (mkF m pc L (v :: S)) := by
  intro T locs k n X hk hn eT N
  obtain ⟨fs, hr, hrun, hended, hW, hsame⟩ := X.leave (v := some v) (fun h => by rw [C.2.2.2.2.2.1, hret] at h; cases h) C.2.2.2.2.2.2.1
  refine ⟨_, _, retOut X C.1 (t := t) (C.2.2.2.2.2.1.trans hret) hn' hi (hb C.2.1 hd) hr, hrun, hended, _, _, rfl, ⟨N, ?_⟩, ⟨_, rfl⟩, hW, hsame.mono (Nat.le_trans hk hc) (Nat.le_trans hn hs)⟩
  show Q _ T.heap
  rw [eT]; exact hQ
theorem w_retI (C : Cx p s m meth c Z own bytes maxL ret nm) {x : Int32} (hret : ret = some .int) (hd : decode bytes pc = .ok (.ireturn, 1)) (hc : cells ≤ R.cells) (hs : slots ≤ R.slots) (hQ : Q (some (.int x)) h) : AtW p l e R s m args below meth c n0 Q h cells slots (mkF m pc L (.int x :: S)) :=
  w_ret C hret rfl (Or.inl ⟨rfl, Or.inl rfl, _, rfl⟩) hd hc hs hQ
theorem w_retJ (C : Cx p s m meth c Z own bytes maxL ret nm) {x : Int64} (hret : ret = some .long) (hd : decode bytes pc = .ok (.lreturn, 1)) (hc : cells ≤ R.cells) (hs : slots ≤ R.slots) (hQ : Q (some (.long x)) h) : AtW p l e R s m args below meth c n0 Q h cells slots (mkF m pc L (.long x :: S)) :=
  w_ret C hret rfl (Or.inr (Or.inl ⟨rfl, rfl, _, rfl⟩)) hd hc hs hQ
theorem w_retA (C : Cx p s m meth c Z own bytes maxL ret nm) {t : FieldType} {v : Value} (hret : ret = some t) (ht : t.isReference = true) (hv : v.isRef = true) (hd : decode bytes pc = .ok (.areturn, 1)) (hc : cells ≤ R.cells) (hs : slots ≤ R.slots) (hQ : Q (some v) h) : AtW p l e R s m args below meth c n0 Q h cells slots (mkF m pc L (v :: S)) :=
  w_ret C hret (by rcases ref_cases hv with rfl | ⟨a, rfl⟩ <;> cases t <;> first | rfl | cases ht) (Or.inr (Or.inr (Or.inr (Or.inr ⟨rfl, ht, hv⟩)))) hd hc hs hQ
theorem w_retV (C : Cx p s m meth c Z own bytes maxL ret nm) (hret : ret = none) (hd : decode bytes pc = .ok (.return_, 1)) (hc : cells ≤ R.cells) (hs : slots ≤ R.slots) (hQ : Q none h) : AtW p l e R s m args below meth c n0 Q h cells slots (mkF m pc L []) := by
  intro T locs k n X hk hn eT N
  obtain ⟨fs, hr, hrun, hended, hW, hsame⟩ := X.leave (v := none) (fun _ => rfl) C.2.2.2.2.2.2.1
  refine ⟨_, _, X.returnOut C.1 (C.2.2.2.2.2.1.trans hret) (hb C.2.1 hd) hr, hrun, hended, _, _, rfl, ⟨N, ?_⟩, ⟨_, rfl⟩, hW, hsame.mono (Nat.le_trans hk hc) (Nat.le_trans hn hs)⟩
  show Q _ T.heap
  rw [eT]; exact hQ

theorem w_callS (C : Cx p s m meth c Z own bytes maxL ret nm) {y : MethodName} {i : Nat} {argsL : List Value} {bytesY : ByteArray} {maxY : Nat} {retY : Option FieldType} {rm : Room} {Qy : Option Value → Heap → Prop} (w1 : (Jvm.Cond.methodLink own i y).before a0 Z = true) (w2 : (Jvm.Cond.static y).before a0 Z = true) (wz : (Jvm.Cond.initialized y.cls).before a0 Z = true) (wc : (Jvm.Cond.code y bytesY maxY retY).before a0 Z = true)
    (hy : y.cls ≠ "java/lang/invoke/MethodHandle" ∧ y.cls ≠ "java/lang/invoke/VarHandle") (ct : Ct [] l Z n0 y bytesY maxY retY rm argsL.toArray h Qy) {S' : List Value} (hS : S' = argsL.reverse ++ S) (hlen : ∀ sig, parseMethodDescriptor y.desc = some sig → argsL.length = sig.parameters.length) (hL : L.size = maxL) (hf : rm.frames + 1 ≤ R.frames) {W : Nat} (hW : (S.map fun v => v.category).sum ≤ W) (hlo : W + (maxY + 11) + rm.locals ≤ R.locals) {cells' slots' : Nat} (hc1 : cells + rm.cells = cells') (hs1 : slots + rm.slots = slots') (hc : cells' ≤ R.cells) (hl : slots' ≤ R.slots)
    (hd : decode bytes pc = .ok (.invokestatic i, 3)) (hq : pc + 3 = q) (K : ∀ v h', Qy v h' → AtW p l e R s m args below meth c n0 Q h' cells' slots' (mkF m q L (v.toList ++ S))) : AtW p l e R s m args below meth c n0 Q h cells slots (mkF m pc L S') := by
  subst hq hc1 hs1
  intro T locs k n' X hk hn' eT N
  obtain ⟨v, _, ⟨T', L', k', n''⟩, -, X', ⟨Lc, hQ, hl', hc', hs'⟩, st⟩ := Jvm.LawKit.callS X C.1 (y := y) C.2.2.2.2.1 (mvT C.2.2.2.1 w1) (mvT C.2.2.2.1 w2) (mvT C.2.2.2.1 wz) (mvT C.2.2.2.1 wc) hy (backOf (W := W) (Q := fun v h L => Fr n0 L ∧ Qy v h) ct C.2.2.2.1 wc wz hf hlo) (g := mkF m pc L S') rfl (hL.trans C.2.2.1.symm) (argsL := argsL) (rest := S) hlen hS (by show 2 * 0 + _ ≤ _; omega) (hb C.2.1 hd) (fun _ _ => ⟨rfl, eT, (by show k + _ ≤ _; omega), (by show n' + _ ≤ _; omega)⟩)
  dsimp only [Pt.U, Pt.locs, Pt.cells, Pt.slots] at X' hl' hc' hs' st hQ
  subst hl' hc' hs'
  obtain ⟨t, o, r1, r⟩ := K v T'.heap hQ.2 T' _ _ _ X' (by omega) (by omega) rfl (Fr.app N hQ.1)
  exact ⟨t, o, st _ r1, r⟩
theorem w_callI (C : Cx p s m meth c Z own bytes maxL ret nm) {y : MethodName} {i : Nat} {a : Addr} {argsL : List Value} {bytesY : ByteArray} {maxY : Nat} {rm : Room} {Qy : Option Value → Heap → Prop} (hnm : y.name = "<init>") (w1 : (Jvm.Cond.methodLink own i y).before a0 Z = true) (w2 : (Jvm.Cond.instanceMethod y).before a0 Z = true) (wz : (Jvm.Cond.initialized y.cls).before a0 Z = true) (wc : (Jvm.Cond.code y bytesY maxY none).before a0 Z = true)
    (hy : y.cls ≠ "java/lang/invoke/MethodHandle" ∧ y.cls ≠ "java/lang/invoke/VarHandle") (ct : Ct [] l Z n0 y bytesY maxY none rm (.ref a :: argsL).toArray h Qy) {S' : List Value} (hS : S' = argsL.reverse ++ .ref a :: S) (hlen : ∀ sig, parseMethodDescriptor y.desc = some sig → argsL.length = sig.parameters.length) (hL : L.size = maxL) (hf : rm.frames + 1 ≤ R.frames) {W : Nat} (hW : (S.map fun v => v.category).sum ≤ W) (hlo : W + (maxY + 11) + rm.locals ≤ R.locals) {cells' slots' : Nat} (hc1 : cells + rm.cells = cells') (hs1 : slots + rm.slots = slots') (hc : cells' ≤ R.cells) (hl : slots' ≤ R.slots)
    (hd : decode bytes pc = .ok (.invokespecial i, 3)) (hq : pc + 3 = q) (K : ∀ v h', Qy v h' → AtW p l e R s m args below meth c n0 Q h' cells' slots' (mkF m q L (v.toList ++ S))) : AtW p l e R s m args below meth c n0 Q h cells slots (mkF m pc L S') := by
  subst hq hc1 hs1
  intro T locs k n' X hk hn' eT N
  obtain ⟨v, _, ⟨T', L', k', n''⟩, -, X', ⟨Lc, hQ, hl', hc', hs'⟩, st⟩ := X.specialBack C.1 (y := y) hnm C.2.2.2.2.1 (mvT C.2.2.2.1 w1) (mvT C.2.2.2.1 w2) (mvT C.2.2.2.1 wc) hy (backOf (W := W) (Q := fun v h L => Fr n0 L ∧ Qy v h) ct C.2.2.2.1 wc wz hf hlo) (g := mkF m pc L S') rfl (hL.trans C.2.2.1.symm) (Steps.refl _) (a := a) (argsL := argsL) (rest := S) hlen hS (by show 2 * 0 + _ ≤ _; omega) (hb C.2.1 hd) (fun _ _ => ⟨rfl, eT, (by show k + _ ≤ _; omega), (by show n' + _ ≤ _; omega)⟩)
  dsimp only [Pt.U, Pt.locs, Pt.cells, Pt.slots] at X' hl' hc' hs' st hQ
  subst hl' hc' hs'
  obtain ⟨t, o, r1, r⟩ := K v T'.heap hQ.2 T' _ _ _ X' (by omega) (by omega) rfl (Fr.app N hQ.1)
  exact ⟨t, o, st.trans r1, r⟩
theorem w_callV (C : Cx p s m meth c Z own bytes maxL ret nm) {y z : MethodName} {Cl : String} {i : Nat} {a : Addr} {argsL : List Value} {bytesY : ByteArray} {maxY : Nat} {retY : Option FieldType} {rm : Room} {Qy : Option Value → Heap → Prop} (E : Exa Z h a Cl) (w1 : (Jvm.Cond.methodLink own i y).before a0 Z = true) (w2 : (Jvm.Cond.declares y).before a0 Z = true) (hnf : NotFace s y) (w3 : (Jvm.Cond.selects Cl y z).before a0 Z = true) (w4 : (Jvm.Cond.instanceMethod z).before a0 Z = true) (wz : (Jvm.Cond.initialized z.cls).before a0 Z = true) (wc : (Jvm.Cond.code z bytesY maxY retY).before a0 Z = true)
    (hy : y.cls ≠ "java/lang/invoke/MethodHandle" ∧ y.cls ≠ "java/lang/invoke/VarHandle") (ct : Ct [] l Z n0 z bytesY maxY retY rm (.ref a :: argsL).toArray h Qy) {S' : List Value} (hS : S' = argsL.reverse ++ .ref a :: S) (hlen : ∀ sig, parseMethodDescriptor y.desc = some sig → argsL.length = sig.parameters.length) (hL : L.size = maxL) (hf : rm.frames + 1 ≤ R.frames) {W : Nat} (hW : (S.map fun v => v.category).sum ≤ W) (hlo : W + (maxY + 11) + rm.locals ≤ R.locals) {cells' slots' : Nat} (hc1 : cells + rm.cells = cells') (hs1 : slots + rm.slots = slots') (hc : cells' ≤ R.cells) (hl : slots' ≤ R.slots)
    (hd : decode bytes pc = .ok (.invokevirtual i, 3)) (hq : pc + 3 = q) (K : ∀ v h', Qy v h' → AtW p l e R s m args below meth c n0 Q h' cells' slots' (mkF m q L (v.toList ++ S))) : AtW p l e R s m args below meth c n0 Q h cells slots (mkF m pc L S') := by
  subst hq hc1 hs1
  intro T locs k n' X hk hn' eT N
  obtain ⟨cB, kB, q1, q2, q3⟩ := isOf C.2.2.2.1 eT E
  obtain ⟨v, _, ⟨T', L', k', n''⟩, -, X', ⟨Lc, hQ, hl', hc', hs'⟩, st⟩ := X.virtualBack C.1 (y := y) (z := z) C.2.2.2.2.1 (mvT C.2.2.2.1 w1) (mvT C.2.2.2.1 w2) hnf (mvT C.2.2.2.1 w3) (mvT C.2.2.2.1 w4) hy (backOf (W := W) (Q := fun v h L => Fr n0 L ∧ Qy v h) ct C.2.2.2.1 wc wz hf hlo) q1 q3 (g := mkF m pc L S') rfl (hL.trans C.2.2.1.symm) (Steps.refl _) (argsL := argsL) (rest := S) hlen hS (by show 2 * 0 + _ ≤ _; omega) (hb C.2.1 hd) (fun _ _ => ⟨rfl, eT, (by show k + _ ≤ _; omega), (by show n' + _ ≤ _; omega)⟩)
  dsimp only [Pt.U, Pt.locs, Pt.cells, Pt.slots] at X' hl' hc' hs' st hQ
  subst hl' hc' hs'
  obtain ⟨t, o, r1, r⟩ := K v T'.heap hQ.2 T' _ _ _ X' (by omega) (by omega) rfl (Fr.app N hQ.1)
  exact ⟨t, o, st.trans r1, r⟩
theorem w_nf (C : Cx p s m meth c Z own bytes maxL ret nm) {y : MethodName} {Cl : String} (w3 : (Jvm.Cond.selects Cl y y).before a0 Z = true) : NotFace s y := notFace_of_selects (args := #[]) (mvT C.2.2.2.1 w3)
theorem w_callP (C : Cx p s m meth c Z own bytes maxL ret nm) {y : MethodName} {Cl : String} {i : Nat} {a : Addr} {argsL : List Value} {bytesY : ByteArray} {maxY : Nat} {retY : Option FieldType} {rm : Room} {Qy : Option Value → Heap → Prop} (E : Exa Z h a Cl) (w1 : (Jvm.Cond.methodLink own i y).before a0 Z = true) (w4 : (Jvm.Cond.instanceMethod y).before a0 Z = true) (hni : NI s y.cls) (w5 : (Jvm.Cond.privateMethod y).before a0 Z = true) (wz : (Jvm.Cond.initialized y.cls).before a0 Z = true) (wc : (Jvm.Cond.code y bytesY maxY retY).before a0 Z = true)
    (hy : y.cls ≠ "java/lang/invoke/MethodHandle" ∧ y.cls ≠ "java/lang/invoke/VarHandle") (ct : Ct [] l Z n0 y bytesY maxY retY rm (.ref a :: argsL).toArray h Qy) {S' : List Value} (hS : S' = argsL.reverse ++ .ref a :: S) (hlen : ∀ sig, parseMethodDescriptor y.desc = some sig → argsL.length = sig.parameters.length) (hL : L.size = maxL) (hf : rm.frames + 1 ≤ R.frames) {W : Nat} (hW : (S.map fun v => v.category).sum ≤ W) (hlo : W + (maxY + 11) + rm.locals ≤ R.locals) {cells' slots' : Nat} (hc1 : cells + rm.cells = cells') (hs1 : slots + rm.slots = slots') (hc : cells' ≤ R.cells) (hl : slots' ≤ R.slots)
    (hd : decode bytes pc = .ok (.invokevirtual i, 3)) (hq : pc + 3 = q) (K : ∀ v h', Qy v h' → AtW p l e R s m args below meth c n0 Q h' cells' slots' (mkF m q L (v.toList ++ S))) : AtW p l e R s m args below meth c n0 Q h cells slots (mkF m pc L S') := by
  subst hq hc1 hs1
  intro T locs k n' X hk hn' eT N
  obtain ⟨cq, q1, q2⟩ := E.cell
  obtain ⟨cN, kN, n1, n2, n3⟩ := hni
  have hpv := Cond.privateMethod_at (mvP C.2.2.2.1 w5 (args := #[]))
  obtain ⟨v, _, ⟨T', L', k', n''⟩, -, X', ⟨Lc, hQ, hl', hc', hs'⟩, st⟩ := X.privateBack C.1 (y := y) C.2.2.2.2.1 (mvT C.2.2.2.1 w1) (mvT C.2.2.2.1 w4) (selects_self_of_private n1 n2 n3 hpv (mvT C.2.2.2.1 w4) hy) hpv (mvT C.2.2.2.1 wc) hy (backOf (W := W) (Q := fun v h L => Fr n0 L ∧ Qy v h) ct C.2.2.2.1 wc wz hf hlo) (g := mkF m pc L S') rfl (hL.trans C.2.2.1.symm) (Steps.refl _) (a := a) (by rw [eT]; exact q1) q2 (argsL := argsL) (rest := S) hlen hS (by show 2 * 0 + _ ≤ _; omega) (hb C.2.1 hd) (fun _ _ => ⟨rfl, eT, (by show k + _ ≤ _; omega), (by show n' + _ ≤ _; omega)⟩)
  dsimp only [Pt.U, Pt.locs, Pt.cells, Pt.slots] at X' hl' hc' hs' st hQ
  subst hl' hc' hs'
  obtain ⟨t, o, r1, r⟩ := K v T'.heap hQ.2 T' _ _ _ X' (by omega) (by omega) rfl (Fr.app N hQ.1)
  exact ⟨t, o, st.trans r1, r⟩
theorem w_callB (C : Cx p s m meth c Z own bytes maxL ret nm) {y : MethodName} {i : Nat} {a : Addr} {argsL : List Value} {bytesY : ByteArray} {maxY : Nat} {W : Nat} {dc ds : Nat} {P : Pt → Array Value → Prop} {Qy : Option Value → Heap → List Loc → Prop} (hnm : y.name = "<init>") (w1 : (Jvm.Cond.methodLink own i y).before a0 Z = true) (w2 : (Jvm.Cond.instanceMethod y).before a0 Z = true) (wc : (Jvm.Cond.code y bytesY maxY none).before a0 Z = true)
    (hy : y.cls ≠ "java/lang/invoke/MethodHandle" ∧ y.cls ≠ "java/lang/invoke/VarHandle") (bk : Back l R p e below s args y 3 W (fun A a' => a' = (Value.ref a :: argsL).toArray ∧ A.U.heap = h ∧ A.cells + dc ≤ R.cells ∧ A.slots + ds ≤ R.slots) (fun A _ v B => ∃ L, Qy v B.U.heap L ∧ B.locs = A.locs ++ L ∧ B.cells = A.cells + dc ∧ B.slots = A.slots + ds))
    {S' : List Value} (hS : S' = argsL.reverse ++ .ref a :: S) (hlen : ∀ sig, parseMethodDescriptor y.desc = some sig → argsL.length = sig.parameters.length) (hL : L.size = maxL) (hW : (S.map fun v => v.category).sum ≤ W) {cells' slots' : Nat} (hc1 : cells + dc = cells') (hs1 : slots + ds = slots') (hc : cells' ≤ R.cells) (hl : slots' ≤ R.slots)
    (hd : decode bytes pc = .ok (.invokespecial i, 3)) (hq : pc + 3 = q) (K : ∀ v h' Lc, Qy v h' Lc → Fr n0 Lc ∧ AtW p l e R s m args below meth c n0 Q h' cells' slots' (mkF m q L (v.toList ++ S))) : AtW p l e R s m args below meth c n0 Q h cells slots (mkF m pc L S') := by
  subst hq hc1 hs1
  intro T locs k n' X hk hn' eT N
  obtain ⟨v, _, ⟨T', L', k', n''⟩, -, X', ⟨Lc, hQ, hl', hc', hs'⟩, st⟩ := X.specialBack C.1 (y := y) hnm C.2.2.2.2.1 (mvT C.2.2.2.1 w1) (mvT C.2.2.2.1 w2) (mvT C.2.2.2.1 wc) hy bk (g := mkF m pc L S') rfl (hL.trans C.2.2.1.symm) (Steps.refl _) (a := a) (argsL := argsL) (rest := S) hlen hS (by show 2 * 0 + _ ≤ _; omega) (hb C.2.1 hd) (fun _ _ => ⟨rfl, eT, (by show k + _ ≤ _; omega), (by show n' + _ ≤ _; omega)⟩)
  dsimp only [Pt.U, Pt.locs, Pt.cells, Pt.slots] at X' hl' hc' hs' st hQ
  subst hl' hc' hs'
  obtain ⟨N2, K2⟩ := K v T'.heap Lc hQ
  obtain ⟨t, o, r1, r⟩ := K2 T' _ _ _ X' (by omega) (by omega) rfl (Fr.app N N2)
  exact ⟨t, o, st.trans r1, r⟩

end Wk
-- CUT
theorem own_lt {x y : Int32} : x < y ↔ x.toInt < y.toInt := Int32.lt_iff_toInt_lt
theorem own_eq {x y : Int32} : x = y ↔ x.toInt = y.toInt := Int32.toInt_inj.symm
theorem own_nat {n : Nat} (h : n < 2 ^ 31) : (Int32.ofNat n).toInt = n := Int32.toInt_ofNat_small h
theorem own_nlt {i n : Nat} (hi : i < 2 ^ 31) (hn : n < 2 ^ 31) : Int32.ofNat i < Int32.ofNat n ↔ i < n := by rw [own_lt, own_nat hi, own_nat hn]; omega
theorem own_neq {i n : Nat} (hi : i < 2 ^ 31) (hn : n < 2 ^ 31) : Int32.ofNat i = Int32.ofNat n ↔ i = n := by rw [own_eq, own_nat hi, own_nat hn]; omega
theorem own_one (i : Nat) : Int32.ofNat i + (1 : Int32) = Int32.ofNat (i + 1) := (Int32.ofNat_add i 1).symm
theorem own_shr0 (x : Int32) : x >>> ((0 : Int32) &&& 31) = x := by
  rw [own_eq, c_ishr x 0 0 (by decide)]; simp
theorem own_b8 {P : Int32 → Prop} (h : ∀ k : Fin 256, P (Int32.ofNat k.val)) {x : Int32} (h0 : ¬ x < 0) (h1 : ¬ 255 < x) : P x := by
  rw [own_lt] at h0 h1
  have e0 : (0 : Int32).toInt = 0 := rfl
  have e1 : (255 : Int32).toInt = 255 := rfl
  obtain ⟨k, hk⟩ : ∃ k : Nat, x.toInt = k := ⟨x.toInt.toNat, by omega⟩
  have hx : x = Int32.ofNat k := own_eq.mpr (by rw [hk, own_nat (by omega)])
  rw [hx]
  exact h ⟨k, by omega⟩
theorem own_lo8 {x : Int32} (h0 : ¬ x < 0) (h1 : ¬ 255 < x) : (x.toInt8.toInt32 &&& 255).toUInt32.toUInt16.toUInt32.toInt32 = x := own_b8 (P := fun x => (x.toInt8.toInt32 &&& 255).toUInt32.toUInt16.toUInt32.toInt32 = x) (by decide +kernel) h0 h1
theorem own_nar {x : Int32} (h0 : ¬ x < 0) (h1 : ¬ 255 < x) : nar .char x = x := own_b8 (P := fun x => nar .char x = x) (by decide +kernel) h0 h1
theorem own_nar8 (x : Int32) : nar .byte x.toInt8.toInt32 = x.toInt8.toInt32 := by show x.toInt8.toInt32.toInt8.toInt32 = x.toInt8.toInt32; simp
/-- chars as a Latin-1 String's bytes -/
def own_bs (cs : List Int32) : List Value := cs.map fun c => .int c.toInt8.toInt32
theorem own_bs_len (cs : List Int32) : (own_bs cs).length = cs.length := by simp [own_bs]
theorem own_bs_get {cs : List Int32} {i : Nat} {c : Int32} (h : cs[i]? = some c) : (own_bs cs)[i]? = some (.int c.toInt8.toInt32) := by simp [own_bs, h]
/-- each is a Latin-1 char -/
def L1 (cs : List Int32) : Prop := ∀ c ∈ cs, ¬ c < 0 ∧ ¬ 255 < c
theorem L1.get {cs : List Int32} (h : L1 cs) {i : Nat} {c : Int32} (q : cs[i]? = some c) : ¬ c < 0 ∧ ¬ 255 < c := h c (List.mem_of_getElem? q)
/-- a String of Latin-1 chars -/
def Str (Z : State) (h : Heap) (a : Addr) (cs : List Int32) : Prop := Exa Z h a "java/lang/String" ∧ L1 cs ∧ ∃ t, Fld Z h a "java/lang/String" "coder" "B" (.int 0) ∧ Fld Z h a "java/lang/String" "value" "[B" (.ref t) ∧ Ar Z h t .byte (own_bs cs)
section K0
variable {Z : State} {h h' : Heap} {a : Addr} {n0 : Nat}
theorem Str_k0 {cs : List Int32} (F : Str Z h a cs) (K : Keep h h' []) : Str Z h' a cs := by
  obtain ⟨E, L, t, f1, f2, A⟩ := F
  exact ⟨E.keep K, L, t, f1.keep K nin0, f2.keep K nin0, A.keep K nin0⟩
theorem Ar_k0 {ty : FieldType} {vs : List Value} (F : Ar Z h a ty vs) (K : Keep h h' []) : Ar Z h' a ty vs := F.keep K nin0
theorem Fld_k0 {C n d : String} {v : Value} (F : Fld Z h a C n d v) (K : Keep h h' []) : Fld Z h' a C n d v := F.keep K nin0
theorem Exa_k0 {C : String} (F : Exa Z h a C) (K : Keep h h' []) : Exa Z h' a C := F.keep K
theorem Old_k0 (O : Old Z n0 h) (K : Keep h h' []) : Old Z n0 h' := O.keep K all0
theorem Old_le (O : Old Z n0 h) : n0 ≤ h.size := by rw [← O.1]; exact O.2.1
theorem Str.lt {cs : List Int32} (F : Str Z h a cs) : a < h.size := F.1.lt
theorem Str.len {cs : List Int32} (F : Str Z h a cs) : cs.length < 2 ^ 31 := by
  obtain ⟨-, -, t, -, -, A⟩ := F
  have := A.1; rw [own_bs_len] at this; exact this
end K0
theorem own_L1c {c : Int32} {cs : List Int32} (h : ¬ c < 0 ∧ ¬ 255 < c) (r : L1 cs) : L1 (c :: cs) := fun x hx => by
  rcases List.mem_cons.mp hx with rfl | hx
  · exact h
  · exact r x hx
theorem own_255 (x : Int32) : ¬ (x &&& 255) < 0 ∧ ¬ 255 < (x &&& 255) := by
  have h := c_mask x 255 8 (by decide) (by decide)
  rw [own_lt, own_lt, h]
  constructor <;> (have e0 : (0 : Int32).toInt = 0 := rfl; have e1 : (255 : Int32).toInt = 255 := rfl; omega)
theorem own_i2c {x : Int32} (h : ¬ x < 0 ∧ ¬ 255 < x) : x.toUInt32.toUInt16.toUInt32.toInt32 = x := own_nar h.1 h.2
theorem own_maskN (x m : Int32) (k : Nat) (hk : k ≤ 30) (hm : m.toBitVec.toNat = 2 ^ k - 1) : ∃ j : Nat, j < 2 ^ k ∧ x &&& m = Int32.ofNat j := by
  have h := c_mask x m k (by omega) hm
  have hp : (2 ^ k : Nat) ≤ 2 ^ 30 := Nat.pow_le_pow_right (by decide) hk
  have h0 : (0 : Int) < ((2 ^ k : Nat) : Int) := by have := Nat.two_pow_pos k; omega
  have h1 : 0 ≤ x.toInt % ((2 ^ k : Nat) : Int) := Int.emod_nonneg _ (by omega)
  have h2 : x.toInt % ((2 ^ k : Nat) : Int) < ((2 ^ k : Nat) : Int) := Int.emod_lt_of_pos _ h0
  refine ⟨(x &&& m).toInt.toNat, by rw [h]; omega, ?_⟩
  rw [own_eq, own_nat (by rw [h]; omega), h]
  omega
theorem own_and3 (x : Int32) : x &&& 3 = 0 ∨ x &&& 3 = 1 ∨ x &&& 3 = 2 ∨ x &&& 3 = 3 := by
  have h := c_mask x 3 2 (by decide) (by decide)
  have h2 : 0 ≤ (x &&& 3).toInt ∧ (x &&& 3).toInt < 4 := by rw [h]; constructor <;> omega
  simp only [own_eq]
  show _ = 0 ∨ _ = 1 ∨ _ = 2 ∨ _ = 3
  omega

-- CUT
/-! ## the same for walks that may load String constants -/
/-- from every state that stands (over the tables vm0 so far) at heap h with frame g; mk: every booked constant lies below it; sf: addresses that no booked constant has -/
def AtS (p : Program) (l : Launch) (e : Env) (R : Room) (s : State) (m : MethodId) (args : Array Value) (below : List Frame) (meth : Method) (c : Code) (Z : State) (EL : List (String × Nat)) (own : String) (n0 : Nat) (Q : Option Value → Heap → Prop) (mk : Nat) (sf : List Addr) (h : Heap) (cells slots : Nat) (g : JFrame) : Prop :=
  ∀ (T : State) (locs : List Loc) (k n : Nat) (vm0 : Vm) (k0 : Nat), Stand p l e R (s.setVm vm0) m args below meth c T locs k n → k ≤ cells → n ≤ slots → T.heap = h → Fr n0 locs →
    Z.Warmed39 vm0 → vm0.findClass own = some m.cls → s.Since vm0 k0 → k0 ≤ h.size → CHr Z EL s.vm s.heap vm0 h → (∀ y, Bk Z EL vm0 h y → y < mk) → (∀ x ∈ sf, x < h.size ∧ Safe Z EL vm0 h x) →
    ∃ t o, Steps p.tables e below (T.setTop g) t ∧ t.status = .running ∧ Ended t below o ∧ ∃ v L, o = .returned v ∧ (Fr n0 L ∧ Q v t.heap) ∧ CHr Z EL s.vm s.heap t.vm t.heap ∧ ReturnedEndW s o t L R.cells R.slots
def Cs (ws : List Jvm.Cond) (l : Launch) (Z : State) (EL : List (String × Nat)) (n0 : Nat) (y : MethodName) (bytes : ByteArray) (maxL : Nat) (ret : Option FieldType) (rm : Room) (as : Array Value) (h0 : Heap) (Q : Option Value → Heap → Prop) : Prop :=
  MetFree l y (head1 (Jvm.Cond.code y bytes maxL ret :: ws) rm) (fun a U => a = as ∧ Z.Warmed39 U.vm ∧ U.heap = h0 ∧ CHv Z EL U.vm h0) (fun _ _ _ _ _ => True)
    (fun _ U o U' => ∃ v L, o = .returned v ∧ (Fr n0 L ∧ Q v U'.heap) ∧ CHr Z EL U.vm U.heap U'.vm U'.heap ∧ ReturnedEndW U o U' L rm.cells rm.slots)
section WkS
variable {p : Program} {l : Launch} {e : Env} {R : Room} {s : State} {m : MethodId} {args : Array Value} {below : List Frame} {meth : Method} {c : Code} {n0 : Nat} {Q : Option Value → Heap → Prop} {h : Heap} {cells slots : Nat} {Z : State} {own : String} {bytes : ByteArray} {maxL : Nat} {ret : Option FieldType} {nm : String} {a0 : Array Value} {pc q : Nat} {L L' : Array Slot} {S : List Value} {EL : List (String × Nat)} {mk : Nat} {sf : List Addr}
theorem bk_lt {vm : Vm} {y : Addr} (B : Bk Z EL vm h y) : y < h.size := by
  obtain ⟨cell, hc⟩ := B.there
  exact (Array.getElem?_eq_some_iff.mp hc).1
theorem Cs.intro {ws : List Jvm.Cond} {y : MethodName} {rm : Room} {as : Array Value} (hp : plainFor y = true)
    (k : ∀ p e s m below meth c, Cx p s m meth c Z y.cls bytes maxL ret y.name → AtS p l e rm s m as below meth c Z EL y.cls n0 Q h.size [] h 0 0 (entryFrame m as maxL)) : Cs ws l Z EL n0 y bytes maxL ret rm as h Q := by
  refine MetFree.of_bodySF hp hisR ?_
  intro p e s m args below meth c s₁ Bd hml0 hP hK
  obtain ⟨rfl, hZ, hh, hC⟩ := hP
  have X0 := Stand.of_body Bd
  have hown := findClass_of_methodNamed Bd.named
  refine k p e s m below meth c ⟨Bd.exec, Bd.bytes, hml0, hZ, hown, Bd.returns, Bd.notSynchronized, (name_of_methodNamed Bd.named Bd.method).1⟩ s₁ [] 0 0 s.vm s.heap.size X0 (Nat.le_refl _) (Nat.le_refl _) ?_ (Fr.nil n0) hZ hown ?_ ?_ ?_ ?_ ?_
  · rw [← hh, Bd.state]; rfl
  · exact ⟨State.Warmed39.refl s, fun j q hj hq => absurd (Array.getElem?_eq_some_iff.mp hq).1 (Nat.not_lt.mpr hj)⟩
  · rw [hh]; exact Nat.le_refl _
  · subst hh; exact CHr.refl hC
  · intro y hy; exact bk_lt hy
  · intro x hx; exact absurd hx (List.not_mem_nil)
theorem AtS.mono {g : JFrame} {cells' slots' : Nat} (K : AtS p l e R s m args below meth c Z EL own n0 Q mk sf h cells' slots' g) (h1 : cells ≤ cells') (h2 : slots ≤ slots') : AtS p l e R s m args below meth c Z EL own n0 Q mk sf h cells slots g :=
  fun T locs k n vm0 k0 X hk hn => K T locs k n vm0 k0 X (Nat.le_trans hk h1) (Nat.le_trans hn h2)
theorem AtS.weak {g : JFrame} {mk' : Nat} {sf' : List Addr} (K : AtS p l e R s m args below meth c Z EL own n0 Q mk' sf' h cells slots g) (h1 : mk ≤ mk') (h2 : ∀ x ∈ sf', x ∈ sf) : AtS p l e R s m args below meth c Z EL own n0 Q mk sf h cells slots g :=
  fun T locs k n vm0 k0 X hk hn eT N hZ hown hS hk0 hC hB hF => K T locs k n vm0 k0 X hk hn eT N hZ hown hS hk0 hC (fun y hy => Nat.lt_of_lt_of_le (hB y hy) h1) (fun x hx => hF x (h2 x hx))
/-- every booked constant lies below the heap's size -/
theorem AtS.mark {g : JFrame} (K : AtS p l e R s m args below meth c Z EL own n0 Q h.size sf h cells slots g) : AtS p l e R s m args below meth c Z EL own n0 Q mk sf h cells slots g :=
  fun T locs k n vm0 k0 X hk hn eT N hZ hown hS hk0 hC hB hF => K T locs k n vm0 k0 X hk hn eT N hZ hown hS hk0 hC (fun y hy => bk_lt hy) hF
theorem AtS.add {g : JFrame} {x : Addr} (h1 : mk ≤ x) (h2 : x < h.size) (K : AtS p l e R s m args below meth c Z EL own n0 Q mk (x :: sf) h cells slots g) : AtS p l e R s m args below meth c Z EL own n0 Q mk sf h cells slots g :=
  fun T locs k n vm0 k0 X hk hn eT N hZ hown hS hk0 hC hB hF => K T locs k n vm0 k0 X hk hn eT N hZ hown hS hk0 hC hB (fun y hy => by
    rcases List.mem_cons.mp hy with rfl | hy
    · exact ⟨h2, fun b => Nat.not_lt.mpr h1 (hB _ b)⟩
    · exact hF y hy)
theorem AtS.go {g g' : JFrame} (K : AtS p l e R s m args below meth c Z EL own n0 Q mk sf h cells slots g') (st : ∀ T, At T m c below → ∀ t, Steps p.tables e below (T.setTop g') t → Steps p.tables e below (T.setTop g) t) : AtS p l e R s m args below meth c Z EL own n0 Q mk sf h cells slots g :=
  fun T locs k n vm0 k0 X hk hn eT N hZ hown hS hk0 hC hB hF => by
    obtain ⟨t, o, r1, r⟩ := K T locs k n vm0 k0 X hk hn eT N hZ hown hS hk0 hC hB hF
    exact ⟨t, o, st T X.here t r1, r⟩
theorem AtS.goX {g g' : JFrame} (K : AtS p l e R s m args below meth c Z EL own n0 Q mk sf h cells slots g') (st : ∀ T locs k n vm0, Stand p l e R (s.setVm vm0) m args below meth c T locs k n → T.heap = h → Z.Warmed39 vm0 → vm0.findClass own = some m.cls → ∀ t, Steps p.tables e below (T.setTop g') t → Steps p.tables e below (T.setTop g) t) : AtS p l e R s m args below meth c Z EL own n0 Q mk sf h cells slots g :=
  fun T locs k n vm0 k0 X hk hn eT N hZ hown hS hk0 hC hB hF => by
    obtain ⟨t, o, r1, r⟩ := K T locs k n vm0 k0 X hk hn eT N hZ hown hS hk0 hC hB hF
    exact ⟨t, o, st T locs k n vm0 X eT hZ hown t r1, r⟩
theorem AtS.cast {g g' : JFrame} (K : AtS p l e R s m args below meth c Z EL own n0 Q mk sf h cells slots g') (q : g = g') : AtS p l e R s m args below meth c Z EL own n0 Q mk sf h cells slots g := by rw [q]; exact K

theorem s_iload (C : Cx p s m meth c Z own bytes maxL ret nm) {k : Nat} {v : Int32} (hl : L[k]? = some (.val (.int v))) (hd : decode bytes pc = .ok (.iload k, 2)) (hq : pc + 2 = q) (K : AtS p l e R s m args below meth c Z EL own n0 Q mk sf h cells slots (mkF m q L (.int v :: S))) : AtS p l e R s m args below meth c Z EL own n0 Q mk sf h cells slots (mkF m pc L S) := by
  subst hq
  exact K.go fun T hA t st => XS.iload hA C.1 rfl (hb C.2.1 hd) hl st
theorem s_iloadN (C : Cx p s m meth c Z own bytes maxL ret nm) {k : Fin 4} {v : Int32} (hl : L[k.val]? = some (.val (.int v))) (hd : decode bytes pc = .ok (.iload_n k, 1)) (hq : pc + 1 = q) (K : AtS p l e R s m args below meth c Z EL own n0 Q mk sf h cells slots (mkF m q L (.int v :: S))) : AtS p l e R s m args below meth c Z EL own n0 Q mk sf h cells slots (mkF m pc L S) := by
  subst hq
  exact K.go fun T hA t st => XS.iloadN hA C.1 rfl (hb C.2.1 hd) hl st
theorem s_istore (C : Cx p s m meth c Z own bytes maxL ret nm) {k : Nat} {v : Int32} (hl : storeLocals L k (.int v) = some L') (hd : decode bytes pc = .ok (.istore k, 2)) (hq : pc + 2 = q) (K : AtS p l e R s m args below meth c Z EL own n0 Q mk sf h cells slots (mkF m q L' S)) : AtS p l e R s m args below meth c Z EL own n0 Q mk sf h cells slots (mkF m pc L (.int v :: S)) := by
  subst hq
  exact K.go fun T hA t st => XS.istore hA C.1 rfl (hb C.2.1 hd) rfl hl st
theorem s_istoreN (C : Cx p s m meth c Z own bytes maxL ret nm) {k : Fin 4} {v : Int32} (hl : storeLocals L k.val (.int v) = some L') (hd : decode bytes pc = .ok (.istore_n k, 1)) (hq : pc + 1 = q) (K : AtS p l e R s m args below meth c Z EL own n0 Q mk sf h cells slots (mkF m q L' S)) : AtS p l e R s m args below meth c Z EL own n0 Q mk sf h cells slots (mkF m pc L (.int v :: S)) := by
  subst hq
  exact K.go fun T hA t st => XS.istoreN hA C.1 rfl (hb C.2.1 hd) rfl hl st
theorem s_lload (C : Cx p s m meth c Z own bytes maxL ret nm) {k : Nat} {v : Int64} (hl : L[k]? = some (.val (.long v))) (hd : decode bytes pc = .ok (.lload k, 2)) (hq : pc + 2 = q) (K : AtS p l e R s m args below meth c Z EL own n0 Q mk sf h cells slots (mkF m q L (.long v :: S))) : AtS p l e R s m args below meth c Z EL own n0 Q mk sf h cells slots (mkF m pc L S) := by
  subst hq
  exact K.go fun T hA t st => XS.lload hA C.1 rfl (hb C.2.1 hd) hl st
theorem s_lloadN (C : Cx p s m meth c Z own bytes maxL ret nm) {k : Fin 4} {v : Int64} (hl : L[k.val]? = some (.val (.long v))) (hd : decode bytes pc = .ok (.lload_n k, 1)) (hq : pc + 1 = q) (K : AtS p l e R s m args below meth c Z EL own n0 Q mk sf h cells slots (mkF m q L (.long v :: S))) : AtS p l e R s m args below meth c Z EL own n0 Q mk sf h cells slots (mkF m pc L S) := by
  subst hq
  exact K.go fun T hA t st => XS.lloadN hA C.1 rfl (hb C.2.1 hd) hl st
theorem s_lstore (C : Cx p s m meth c Z own bytes maxL ret nm) {k : Nat} {v : Int64} (hl : storeLocals L k (.long v) = some L') (hd : decode bytes pc = .ok (.lstore k, 2)) (hq : pc + 2 = q) (K : AtS p l e R s m args below meth c Z EL own n0 Q mk sf h cells slots (mkF m q L' S)) : AtS p l e R s m args below meth c Z EL own n0 Q mk sf h cells slots (mkF m pc L (.long v :: S)) := by
  subst hq
  exact K.go fun T hA t st => XS.lstore hA C.1 rfl (hb C.2.1 hd) rfl hl st
theorem s_lstoreN (C : Cx p s m meth c Z own bytes maxL ret nm) {k : Fin 4} {v : Int64} (hl : storeLocals L k.val (.long v) = some L') (hd : decode bytes pc = .ok (.lstore_n k, 1)) (hq : pc + 1 = q) (K : AtS p l e R s m args below meth c Z EL own n0 Q mk sf h cells slots (mkF m q L' S)) : AtS p l e R s m args below meth c Z EL own n0 Q mk sf h cells slots (mkF m pc L (.long v :: S)) := by
  subst hq
  exact K.go fun T hA t st => XS.lstoreN hA C.1 rfl (hb C.2.1 hd) rfl hl st
theorem s_aload (C : Cx p s m meth c Z own bytes maxL ret nm) {k : Nat} {v : Value} (hl : L[k]? = some (.val v)) (hv : v.isRef = true) (hd : decode bytes pc = .ok (.aload k, 2)) (hq : pc + 2 = q) (K : AtS p l e R s m args below meth c Z EL own n0 Q mk sf h cells slots (mkF m q L (v :: S))) : AtS p l e R s m args below meth c Z EL own n0 Q mk sf h cells slots (mkF m pc L S) := by
  subst hq
  exact K.go fun T hA t st => XS.aload hA C.1 rfl (hb C.2.1 hd) hl hv st
theorem s_aloadN (C : Cx p s m meth c Z own bytes maxL ret nm) {k : Fin 4} {v : Value} (hl : L[k.val]? = some (.val v)) (hv : v.isRef = true) (hd : decode bytes pc = .ok (.aload_n k, 1)) (hq : pc + 1 = q) (K : AtS p l e R s m args below meth c Z EL own n0 Q mk sf h cells slots (mkF m q L (v :: S))) : AtS p l e R s m args below meth c Z EL own n0 Q mk sf h cells slots (mkF m pc L S) := by
  subst hq
  exact K.go fun T hA t st => XS.aloadN hA C.1 rfl (hb C.2.1 hd) hl hv st
theorem s_astore (C : Cx p s m meth c Z own bytes maxL ret nm) {k : Nat} {v : Value} (hv : v.isRef = true) (hl : storeLocals L k v = some L') (hd : decode bytes pc = .ok (.astore k, 2)) (hq : pc + 2 = q) (K : AtS p l e R s m args below meth c Z EL own n0 Q mk sf h cells slots (mkF m q L' S)) : AtS p l e R s m args below meth c Z EL own n0 Q mk sf h cells slots (mkF m pc L (v :: S)) := by
  subst hq
  exact K.go fun T hA t st => XS.astore hA C.1 rfl (hb C.2.1 hd) rfl hv hl st
theorem s_astoreN (C : Cx p s m meth c Z own bytes maxL ret nm) {k : Fin 4} {v : Value} (hv : v.isRef = true) (hl : storeLocals L k.val v = some L') (hd : decode bytes pc = .ok (.astore_n k, 1)) (hq : pc + 1 = q) (K : AtS p l e R s m args below meth c Z EL own n0 Q mk sf h cells slots (mkF m q L' S)) : AtS p l e R s m args below meth c Z EL own n0 Q mk sf h cells slots (mkF m pc L (v :: S)) := by
  subst hq
  exact K.go fun T hA t st => XS.astoreN hA C.1 rfl (hb C.2.1 hd) rfl hv hl st
theorem s_iconst (C : Cx p s m meth c Z own bytes maxL ret nm) {i : Int} {v : Int32} (hv : Int32.ofInt i = v) (hd : decode bytes pc = .ok (.iconst i, 1)) (hq : pc + 1 = q) (K : AtS p l e R s m args below meth c Z EL own n0 Q mk sf h cells slots (mkF m q L (.int v :: S))) : AtS p l e R s m args below meth c Z EL own n0 Q mk sf h cells slots (mkF m pc L S) := by
  subst hq
  exact K.go fun T hA t st => by subst hv; exact XS.iconst hA C.1 rfl (hb C.2.1 hd) st
theorem s_bipush (C : Cx p s m meth c Z own bytes maxL ret nm) {i : Int} {v : Int32} (hv : (Int8.ofInt i).toInt32 = v) (hd : decode bytes pc = .ok (.bipush i, 2)) (hq : pc + 2 = q) (K : AtS p l e R s m args below meth c Z EL own n0 Q mk sf h cells slots (mkF m q L (.int v :: S))) : AtS p l e R s m args below meth c Z EL own n0 Q mk sf h cells slots (mkF m pc L S) := by
  subst hq
  exact K.go fun T hA t st => by subst hv; exact XS.bipush hA C.1 rfl (hb C.2.1 hd) st
theorem s_sipush (C : Cx p s m meth c Z own bytes maxL ret nm) {i : Int} {v : Int32} (hv : (Int16.ofInt i).toInt32 = v) (hd : decode bytes pc = .ok (.sipush i, 3)) (hq : pc + 3 = q) (K : AtS p l e R s m args below meth c Z EL own n0 Q mk sf h cells slots (mkF m q L (.int v :: S))) : AtS p l e R s m args below meth c Z EL own n0 Q mk sf h cells slots (mkF m pc L S) := by
  subst hq
  exact K.go fun T hA t st => by subst hv; exact XS.sipush hA C.1 rfl (hb C.2.1 hd) st
theorem s_lconst (C : Cx p s m meth c Z own bytes maxL ret nm) {k : Fin 2} {v : Int64} (hv : Int64.ofNat k = v) (hd : decode bytes pc = .ok (.lconst k, 1)) (hq : pc + 1 = q) (K : AtS p l e R s m args below meth c Z EL own n0 Q mk sf h cells slots (mkF m q L (.long v :: S))) : AtS p l e R s m args below meth c Z EL own n0 Q mk sf h cells slots (mkF m pc L S) := by
  subst hq
  exact K.go fun T hA t st => by subst hv; exact XS.lconst hA C.1 rfl (hb C.2.1 hd) st
theorem s_aconst_null (C : Cx p s m meth c Z own bytes maxL ret nm)  (hd : decode bytes pc = .ok (.aconst_null, 1)) (hq : pc + 1 = q) (K : AtS p l e R s m args below meth c Z EL own n0 Q mk sf h cells slots (mkF m q L (.null :: S))) : AtS p l e R s m args below meth c Z EL own n0 Q mk sf h cells slots (mkF m pc L S) := by
  subst hq
  exact K.go fun T hA t st => XS.aconstNull hA C.1 rfl (hb C.2.1 hd) st
theorem s_iadd (C : Cx p s m meth c Z own bytes maxL ret nm) {x y z : Int32} (hz : x + y = z) (hd : decode bytes pc = .ok (.iadd, 1)) (hq : pc + 1 = q) (K : AtS p l e R s m args below meth c Z EL own n0 Q mk sf h cells slots (mkF m q L (.int z :: S))) : AtS p l e R s m args below meth c Z EL own n0 Q mk sf h cells slots (mkF m pc L (.int y :: .int x :: S)) := by
  subst hq
  exact K.go fun T hA t st => by subst hz; exact XS.iadd hA C.1 rfl (hb C.2.1 hd) rfl st
theorem s_isub (C : Cx p s m meth c Z own bytes maxL ret nm) {x y z : Int32} (hz : x - y = z) (hd : decode bytes pc = .ok (.isub, 1)) (hq : pc + 1 = q) (K : AtS p l e R s m args below meth c Z EL own n0 Q mk sf h cells slots (mkF m q L (.int z :: S))) : AtS p l e R s m args below meth c Z EL own n0 Q mk sf h cells slots (mkF m pc L (.int y :: .int x :: S)) := by
  subst hq
  exact K.go fun T hA t st => by subst hz; exact XS.isub hA C.1 rfl (hb C.2.1 hd) rfl st
theorem s_imul (C : Cx p s m meth c Z own bytes maxL ret nm) {x y z : Int32} (hz : x * y = z) (hd : decode bytes pc = .ok (.imul, 1)) (hq : pc + 1 = q) (K : AtS p l e R s m args below meth c Z EL own n0 Q mk sf h cells slots (mkF m q L (.int z :: S))) : AtS p l e R s m args below meth c Z EL own n0 Q mk sf h cells slots (mkF m pc L (.int y :: .int x :: S)) := by
  subst hq
  exact K.go fun T hA t st => by subst hz; exact XS.imul hA C.1 rfl (hb C.2.1 hd) rfl st
theorem s_iand (C : Cx p s m meth c Z own bytes maxL ret nm) {x y z : Int32} (hz : x &&& y = z) (hd : decode bytes pc = .ok (.iand, 1)) (hq : pc + 1 = q) (K : AtS p l e R s m args below meth c Z EL own n0 Q mk sf h cells slots (mkF m q L (.int z :: S))) : AtS p l e R s m args below meth c Z EL own n0 Q mk sf h cells slots (mkF m pc L (.int y :: .int x :: S)) := by
  subst hq
  exact K.go fun T hA t st => by subst hz; exact XS.iand hA C.1 rfl (hb C.2.1 hd) rfl st
theorem s_ior (C : Cx p s m meth c Z own bytes maxL ret nm) {x y z : Int32} (hz : x ||| y = z) (hd : decode bytes pc = .ok (.ior, 1)) (hq : pc + 1 = q) (K : AtS p l e R s m args below meth c Z EL own n0 Q mk sf h cells slots (mkF m q L (.int z :: S))) : AtS p l e R s m args below meth c Z EL own n0 Q mk sf h cells slots (mkF m pc L (.int y :: .int x :: S)) := by
  subst hq
  exact K.go fun T hA t st => by subst hz; exact XS.ior hA C.1 rfl (hb C.2.1 hd) rfl st
theorem s_ixor (C : Cx p s m meth c Z own bytes maxL ret nm) {x y z : Int32} (hz : x ^^^ y = z) (hd : decode bytes pc = .ok (.ixor, 1)) (hq : pc + 1 = q) (K : AtS p l e R s m args below meth c Z EL own n0 Q mk sf h cells slots (mkF m q L (.int z :: S))) : AtS p l e R s m args below meth c Z EL own n0 Q mk sf h cells slots (mkF m pc L (.int y :: .int x :: S)) := by
  subst hq
  exact K.go fun T hA t st => by subst hz; exact XS.ixor hA C.1 rfl (hb C.2.1 hd) rfl st
theorem s_ladd (C : Cx p s m meth c Z own bytes maxL ret nm) {x y z : Int64} (hz : x + y = z) (hd : decode bytes pc = .ok (.ladd, 1)) (hq : pc + 1 = q) (K : AtS p l e R s m args below meth c Z EL own n0 Q mk sf h cells slots (mkF m q L (.long z :: S))) : AtS p l e R s m args below meth c Z EL own n0 Q mk sf h cells slots (mkF m pc L (.long y :: .long x :: S)) := by
  subst hq
  exact K.go fun T hA t st => by subst hz; exact XS.ladd hA C.1 rfl (hb C.2.1 hd) rfl st
theorem s_lsub (C : Cx p s m meth c Z own bytes maxL ret nm) {x y z : Int64} (hz : x - y = z) (hd : decode bytes pc = .ok (.lsub, 1)) (hq : pc + 1 = q) (K : AtS p l e R s m args below meth c Z EL own n0 Q mk sf h cells slots (mkF m q L (.long z :: S))) : AtS p l e R s m args below meth c Z EL own n0 Q mk sf h cells slots (mkF m pc L (.long y :: .long x :: S)) := by
  subst hq
  exact K.go fun T hA t st => by subst hz; exact XS.lsub hA C.1 rfl (hb C.2.1 hd) rfl st
theorem s_lmul (C : Cx p s m meth c Z own bytes maxL ret nm) {x y z : Int64} (hz : x * y = z) (hd : decode bytes pc = .ok (.lmul, 1)) (hq : pc + 1 = q) (K : AtS p l e R s m args below meth c Z EL own n0 Q mk sf h cells slots (mkF m q L (.long z :: S))) : AtS p l e R s m args below meth c Z EL own n0 Q mk sf h cells slots (mkF m pc L (.long y :: .long x :: S)) := by
  subst hq
  exact K.go fun T hA t st => by subst hz; exact XS.lmul hA C.1 rfl (hb C.2.1 hd) rfl st
theorem s_land (C : Cx p s m meth c Z own bytes maxL ret nm) {x y z : Int64} (hz : x &&& y = z) (hd : decode bytes pc = .ok (.land, 1)) (hq : pc + 1 = q) (K : AtS p l e R s m args below meth c Z EL own n0 Q mk sf h cells slots (mkF m q L (.long z :: S))) : AtS p l e R s m args below meth c Z EL own n0 Q mk sf h cells slots (mkF m pc L (.long y :: .long x :: S)) := by
  subst hq
  exact K.go fun T hA t st => by subst hz; exact XS.land hA C.1 rfl (hb C.2.1 hd) rfl st
theorem s_lor (C : Cx p s m meth c Z own bytes maxL ret nm) {x y z : Int64} (hz : x ||| y = z) (hd : decode bytes pc = .ok (.lor, 1)) (hq : pc + 1 = q) (K : AtS p l e R s m args below meth c Z EL own n0 Q mk sf h cells slots (mkF m q L (.long z :: S))) : AtS p l e R s m args below meth c Z EL own n0 Q mk sf h cells slots (mkF m pc L (.long y :: .long x :: S)) := by
  subst hq
  exact K.go fun T hA t st => by subst hz; exact XS.lor hA C.1 rfl (hb C.2.1 hd) rfl st
theorem s_lxor (C : Cx p s m meth c Z own bytes maxL ret nm) {x y z : Int64} (hz : x ^^^ y = z) (hd : decode bytes pc = .ok (.lxor, 1)) (hq : pc + 1 = q) (K : AtS p l e R s m args below meth c Z EL own n0 Q mk sf h cells slots (mkF m q L (.long z :: S))) : AtS p l e R s m args below meth c Z EL own n0 Q mk sf h cells slots (mkF m pc L (.long y :: .long x :: S)) := by
  subst hq
  exact K.go fun T hA t st => by subst hz; exact XS.lxor hA C.1 rfl (hb C.2.1 hd) rfl st
theorem s_ishl (C : Cx p s m meth c Z own bytes maxL ret nm) {x y z : Int32} (hz : x <<< (y &&& 31) = z) (hd : decode bytes pc = .ok (.ishl, 1)) (hq : pc + 1 = q) (K : AtS p l e R s m args below meth c Z EL own n0 Q mk sf h cells slots (mkF m q L (.int z :: S))) : AtS p l e R s m args below meth c Z EL own n0 Q mk sf h cells slots (mkF m pc L (.int y :: .int x :: S)) := by
  subst hq
  exact K.go fun T hA t st => by subst hz; exact XS.ishl hA C.1 rfl (hb C.2.1 hd) rfl st
theorem s_ishr (C : Cx p s m meth c Z own bytes maxL ret nm) {x y z : Int32} (hz : x >>> (y &&& 31) = z) (hd : decode bytes pc = .ok (.ishr, 1)) (hq : pc + 1 = q) (K : AtS p l e R s m args below meth c Z EL own n0 Q mk sf h cells slots (mkF m q L (.int z :: S))) : AtS p l e R s m args below meth c Z EL own n0 Q mk sf h cells slots (mkF m pc L (.int y :: .int x :: S)) := by
  subst hq
  exact K.go fun T hA t st => by subst hz; exact XS.ishr hA C.1 rfl (hb C.2.1 hd) rfl st
theorem s_iushr (C : Cx p s m meth c Z own bytes maxL ret nm) {x y z : Int32} (hz : (x.toUInt32 >>> (y &&& 31).toUInt32).toInt32 = z) (hd : decode bytes pc = .ok (.iushr, 1)) (hq : pc + 1 = q) (K : AtS p l e R s m args below meth c Z EL own n0 Q mk sf h cells slots (mkF m q L (.int z :: S))) : AtS p l e R s m args below meth c Z EL own n0 Q mk sf h cells slots (mkF m pc L (.int y :: .int x :: S)) := by
  subst hq
  exact K.go fun T hA t st => by subst hz; exact XS.iushr hA C.1 rfl (hb C.2.1 hd) rfl st
theorem s_lshl (C : Cx p s m meth c Z own bytes maxL ret nm) {x z : Int64} {y : Int32} (hz : x <<< (y &&& 0x3f).toInt64 = z) (hd : decode bytes pc = .ok (.lshl, 1)) (hq : pc + 1 = q) (K : AtS p l e R s m args below meth c Z EL own n0 Q mk sf h cells slots (mkF m q L (.long z :: S))) : AtS p l e R s m args below meth c Z EL own n0 Q mk sf h cells slots (mkF m pc L (.int y :: .long x :: S)) := by
  subst hq
  exact K.go fun T hA t st => by subst hz; exact XS.lshl hA C.1 rfl (hb C.2.1 hd) rfl st
theorem s_lshr (C : Cx p s m meth c Z own bytes maxL ret nm) {x z : Int64} {y : Int32} (hz : x >>> (y &&& 0x3f).toInt64 = z) (hd : decode bytes pc = .ok (.lshr, 1)) (hq : pc + 1 = q) (K : AtS p l e R s m args below meth c Z EL own n0 Q mk sf h cells slots (mkF m q L (.long z :: S))) : AtS p l e R s m args below meth c Z EL own n0 Q mk sf h cells slots (mkF m pc L (.int y :: .long x :: S)) := by
  subst hq
  exact K.go fun T hA t st => by subst hz; exact XS.lshr hA C.1 rfl (hb C.2.1 hd) rfl st
theorem s_lushr (C : Cx p s m meth c Z own bytes maxL ret nm) {x z : Int64} {y : Int32} (hz : (x.toUInt64 >>> (y &&& 0x3f).toInt64.toUInt64).toInt64 = z) (hd : decode bytes pc = .ok (.lushr, 1)) (hq : pc + 1 = q) (K : AtS p l e R s m args below meth c Z EL own n0 Q mk sf h cells slots (mkF m q L (.long z :: S))) : AtS p l e R s m args below meth c Z EL own n0 Q mk sf h cells slots (mkF m pc L (.int y :: .long x :: S)) := by
  subst hq
  exact K.go fun T hA t st => by subst hz; exact XS.lushr hA C.1 rfl (hb C.2.1 hd) rfl st
theorem s_idiv (C : Cx p s m meth c Z own bytes maxL ret nm) {x y z : Int32} (hy : y ≠ 0) (hz : x / y = z) (hd : decode bytes pc = .ok (.idiv, 1)) (hq : pc + 1 = q) (K : AtS p l e R s m args below meth c Z EL own n0 Q mk sf h cells slots (mkF m q L (.int z :: S))) : AtS p l e R s m args below meth c Z EL own n0 Q mk sf h cells slots (mkF m pc L (.int y :: .int x :: S)) := by
  subst hq
  exact K.go fun T hA t st => by subst hz; exact XS.idiv hA C.1 rfl (hb C.2.1 hd) rfl hy st
theorem s_ldiv (C : Cx p s m meth c Z own bytes maxL ret nm) {x y z : Int64} (hy : y ≠ 0) (hz : x / y = z) (hd : decode bytes pc = .ok (.ldiv, 1)) (hq : pc + 1 = q) (K : AtS p l e R s m args below meth c Z EL own n0 Q mk sf h cells slots (mkF m q L (.long z :: S))) : AtS p l e R s m args below meth c Z EL own n0 Q mk sf h cells slots (mkF m pc L (.long y :: .long x :: S)) := by
  subst hq
  exact K.go fun T hA t st => by subst hz; exact XS.ldiv hA C.1 rfl (hb C.2.1 hd) rfl hy st
theorem s_irem (C : Cx p s m meth c Z own bytes maxL ret nm) {x y z : Int32} (hy : y ≠ 0) (hz : x % y = z) (hd : decode bytes pc = .ok (.irem, 1)) (hq : pc + 1 = q) (K : AtS p l e R s m args below meth c Z EL own n0 Q mk sf h cells slots (mkF m q L (.int z :: S))) : AtS p l e R s m args below meth c Z EL own n0 Q mk sf h cells slots (mkF m pc L (.int y :: .int x :: S)) := by
  subst hq
  exact K.go fun T hA t st => by subst hz; rw [← irem_eq_mod x y] at st; exact XS.irem hA C.1 rfl (hb C.2.1 hd) rfl hy st
theorem s_lrem (C : Cx p s m meth c Z own bytes maxL ret nm) {x y z : Int64} (hy : y ≠ 0) (hz : x % y = z) (hd : decode bytes pc = .ok (.lrem, 1)) (hq : pc + 1 = q) (K : AtS p l e R s m args below meth c Z EL own n0 Q mk sf h cells slots (mkF m q L (.long z :: S))) : AtS p l e R s m args below meth c Z EL own n0 Q mk sf h cells slots (mkF m pc L (.long y :: .long x :: S)) := by
  subst hq
  exact K.go fun T hA t st => by subst hz; rw [← lrem_mod x y] at st; exact XS.lrem hA C.1 rfl (hb C.2.1 hd) rfl hy st
theorem s_ineg (C : Cx p s m meth c Z own bytes maxL ret nm) {x : Int32} {z : Int32} (hz : -x = z) (hd : decode bytes pc = .ok (.ineg, 1)) (hq : pc + 1 = q) (K : AtS p l e R s m args below meth c Z EL own n0 Q mk sf h cells slots (mkF m q L (.int z :: S))) : AtS p l e R s m args below meth c Z EL own n0 Q mk sf h cells slots (mkF m pc L (.int x :: S)) := by
  subst hq
  exact K.go fun T hA t st => by subst hz; exact XS.ineg hA C.1 rfl (hb C.2.1 hd) rfl st
theorem s_lneg (C : Cx p s m meth c Z own bytes maxL ret nm) {x : Int64} {z : Int64} (hz : -x = z) (hd : decode bytes pc = .ok (.lneg, 1)) (hq : pc + 1 = q) (K : AtS p l e R s m args below meth c Z EL own n0 Q mk sf h cells slots (mkF m q L (.long z :: S))) : AtS p l e R s m args below meth c Z EL own n0 Q mk sf h cells slots (mkF m pc L (.long x :: S)) := by
  subst hq
  exact K.go fun T hA t st => by subst hz; exact XS.lneg hA C.1 rfl (hb C.2.1 hd) rfl st
theorem s_i2l (C : Cx p s m meth c Z own bytes maxL ret nm) {x : Int32} {z : Int64} (hz : x.toInt64 = z) (hd : decode bytes pc = .ok (.i2l, 1)) (hq : pc + 1 = q) (K : AtS p l e R s m args below meth c Z EL own n0 Q mk sf h cells slots (mkF m q L (.long z :: S))) : AtS p l e R s m args below meth c Z EL own n0 Q mk sf h cells slots (mkF m pc L (.int x :: S)) := by
  subst hq
  exact K.go fun T hA t st => by subst hz; exact XS.i2l hA C.1 rfl (hb C.2.1 hd) rfl st
theorem s_l2i (C : Cx p s m meth c Z own bytes maxL ret nm) {x : Int64} {z : Int32} (hz : x.toInt32 = z) (hd : decode bytes pc = .ok (.l2i, 1)) (hq : pc + 1 = q) (K : AtS p l e R s m args below meth c Z EL own n0 Q mk sf h cells slots (mkF m q L (.int z :: S))) : AtS p l e R s m args below meth c Z EL own n0 Q mk sf h cells slots (mkF m pc L (.long x :: S)) := by
  subst hq
  exact K.go fun T hA t st => by subst hz; exact XS.l2i hA C.1 rfl (hb C.2.1 hd) rfl st
theorem s_i2b (C : Cx p s m meth c Z own bytes maxL ret nm) {x : Int32} {z : Int32} (hz : x.toInt8.toInt32 = z) (hd : decode bytes pc = .ok (.i2b, 1)) (hq : pc + 1 = q) (K : AtS p l e R s m args below meth c Z EL own n0 Q mk sf h cells slots (mkF m q L (.int z :: S))) : AtS p l e R s m args below meth c Z EL own n0 Q mk sf h cells slots (mkF m pc L (.int x :: S)) := by
  subst hq
  exact K.go fun T hA t st => by subst hz; exact XS.i2b hA C.1 rfl (hb C.2.1 hd) rfl st
theorem s_i2s (C : Cx p s m meth c Z own bytes maxL ret nm) {x : Int32} {z : Int32} (hz : x.toInt16.toInt32 = z) (hd : decode bytes pc = .ok (.i2s, 1)) (hq : pc + 1 = q) (K : AtS p l e R s m args below meth c Z EL own n0 Q mk sf h cells slots (mkF m q L (.int z :: S))) : AtS p l e R s m args below meth c Z EL own n0 Q mk sf h cells slots (mkF m pc L (.int x :: S)) := by
  subst hq
  exact K.go fun T hA t st => by subst hz; exact XS.i2s hA C.1 rfl (hb C.2.1 hd) rfl st
theorem s_i2c (C : Cx p s m meth c Z own bytes maxL ret nm) {x : Int32} {z : Int32} (hz : x.toUInt32.toUInt16.toUInt32.toInt32 = z) (hd : decode bytes pc = .ok (.i2c, 1)) (hq : pc + 1 = q) (K : AtS p l e R s m args below meth c Z EL own n0 Q mk sf h cells slots (mkF m q L (.int z :: S))) : AtS p l e R s m args below meth c Z EL own n0 Q mk sf h cells slots (mkF m pc L (.int x :: S)) := by
  subst hq
  exact K.go fun T hA t st => by subst hz; exact XS.i2c hA C.1 rfl (hb C.2.1 hd) rfl st
theorem s_lcmp (C : Cx p s m meth c Z own bytes maxL ret nm) {x y : Int64} {z : Int32} (hz : lcmpW x y = z) (hd : decode bytes pc = .ok (.lcmp, 1)) (hq : pc + 1 = q) (K : AtS p l e R s m args below meth c Z EL own n0 Q mk sf h cells slots (mkF m q L (.int z :: S))) : AtS p l e R s m args below meth c Z EL own n0 Q mk sf h cells slots (mkF m pc L (.long y :: .long x :: S)) := by
  subst hq
  exact K.go fun T hA t st => by subst hz; exact XS.lcmp hA C.1 rfl (hb C.2.1 hd) rfl st
theorem s_dup (C : Cx p s m meth c Z own bytes maxL ret nm) {x : Value} (hc : x.category = 1) (hd : decode bytes pc = .ok (.dup, 1)) (hq : pc + 1 = q) (K : AtS p l e R s m args below meth c Z EL own n0 Q mk sf h cells slots (mkF m q L (x :: x :: S))) : AtS p l e R s m args below meth c Z EL own n0 Q mk sf h cells slots (mkF m pc L (x :: S)) := by
  subst hq
  exact K.go fun T hA t st => XS.dup hA C.1 rfl (hb C.2.1 hd) rfl hc st
theorem s_pop (C : Cx p s m meth c Z own bytes maxL ret nm) {x : Value} (hc : x.category = 1) (hd : decode bytes pc = .ok (.pop, 1)) (hq : pc + 1 = q) (K : AtS p l e R s m args below meth c Z EL own n0 Q mk sf h cells slots (mkF m q L S)) : AtS p l e R s m args below meth c Z EL own n0 Q mk sf h cells slots (mkF m pc L (x :: S)) := by
  subst hq
  exact K.go fun T hA t st => XS.pop hA C.1 rfl (hb C.2.1 hd) rfl hc st
theorem s_dup_x1 (C : Cx p s m meth c Z own bytes maxL ret nm) {x y : Value} (hc : x.category = 1) (hc' : y.category = 1) (hd : decode bytes pc = .ok (.dup_x1, 1)) (hq : pc + 1 = q) (K : AtS p l e R s m args below meth c Z EL own n0 Q mk sf h cells slots (mkF m q L (x :: y :: x :: S))) : AtS p l e R s m args below meth c Z EL own n0 Q mk sf h cells slots (mkF m pc L (x :: y :: S)) := by
  subst hq
  exact K.go fun T hA t st => XS.dupX1 hA C.1 rfl (hb C.2.1 hd) rfl hc hc' st
theorem s_iinc (C : Cx p s m meth c Z own bytes maxL ret nm) {k : Nat} {cst : Int} {x z : Int32} (hl : L[k]? = some (.val (.int x))) (hz : x + Int32.ofInt cst = z) (hl' : storeLocals L k (.int z) = some L') (hd : decode bytes pc = .ok (.iinc k cst, 3)) (hq : pc + 3 = q) (K : AtS p l e R s m args below meth c Z EL own n0 Q mk sf h cells slots (mkF m q L' S)) : AtS p l e R s m args below meth c Z EL own n0 Q mk sf h cells slots (mkF m pc L S) := by
  subst hq
  exact K.go fun T hA t st => by subst hz; exact XS.iinc hA C.1 rfl (hb C.2.1 hd) hl hl' st
theorem s_goto (C : Cx p s m meth c Z own bytes maxL ret nm) {o : Int} (hd : decode bytes pc = .ok (.goto o, 3)) (ho : 0 ≤ (pc : Int) + o) (hp : ((pc : Int) + o).toNat = q) (K : AtS p l e R s m args below meth c Z EL own n0 Q mk sf h cells slots (mkF m q L S)) : AtS p l e R s m args below meth c Z EL own n0 Q mk sf h cells slots (mkF m pc L S) :=
  K.go fun T hA t st => XS.goto hA C.1 rfl (pc0 := pc) (pc' := q) rfl (hb C.2.1 hd) ho hp st
theorem s_icmp_lt_t (C : Cx p s m meth c Z own bytes maxL ret nm) {o : Int} {x y : Int32} (hd : decode bytes pc = .ok (.if_icmp .lt o, 3)) (ho : 0 ≤ (pc : Int) + o) (hp : ((pc : Int) + o).toNat = q) (hc : x < y) (K : AtS p l e R s m args below meth c Z EL own n0 Q mk sf h cells slots (mkF m q L S)) : AtS p l e R s m args below meth c Z EL own n0 Q mk sf h cells slots (mkF m pc L (.int y :: .int x :: S)) :=
  K.go fun T hA t st => XS.icmpYes hA C.1 rfl (pc0 := pc) (pc' := q) rfl (hb C.2.1 hd) rfl (tlt hc).1 ho hp st
theorem s_icmp_lt_f (C : Cx p s m meth c Z own bytes maxL ret nm) {o : Int} {x y : Int32} (hd : decode bytes pc = .ok (.if_icmp .lt o, 3)) (hq : pc + 3 = q) (hc : ¬ x < y) (K : AtS p l e R s m args below meth c Z EL own n0 Q mk sf h cells slots (mkF m q L S)) : AtS p l e R s m args below meth c Z EL own n0 Q mk sf h cells slots (mkF m pc L (.int y :: .int x :: S)) := by
  subst hq
  exact K.go fun T hA t st => XS.icmpNo hA C.1 rfl (hb C.2.1 hd) rfl (flt hc).1 st
theorem s_if_lt_t (C : Cx p s m meth c Z own bytes maxL ret nm) {o : Int} {x : Int32} (hd : decode bytes pc = .ok (.ifCond .lt o, 3)) (ho : 0 ≤ (pc : Int) + o) (hp : ((pc : Int) + o).toNat = q) (hc : x < 0) (K : AtS p l e R s m args below meth c Z EL own n0 Q mk sf h cells slots (mkF m q L S)) : AtS p l e R s m args below meth c Z EL own n0 Q mk sf h cells slots (mkF m pc L (.int x :: S)) :=
  K.go fun T hA t st => XS.ifYes hA C.1 rfl (pc0 := pc) (pc' := q) rfl (hb C.2.1 hd) rfl ((if0 _ _).trans (tlt hc).1) ho hp st
theorem s_if_lt_f (C : Cx p s m meth c Z own bytes maxL ret nm) {o : Int} {x : Int32} (hd : decode bytes pc = .ok (.ifCond .lt o, 3)) (hq : pc + 3 = q) (hc : ¬ x < 0) (K : AtS p l e R s m args below meth c Z EL own n0 Q mk sf h cells slots (mkF m q L S)) : AtS p l e R s m args below meth c Z EL own n0 Q mk sf h cells slots (mkF m pc L (.int x :: S)) := by
  subst hq
  exact K.go fun T hA t st => XS.ifNo hA C.1 rfl (hb C.2.1 hd) rfl ((if0 _ _).trans (flt hc).1) st
theorem s_icmp_ge_t (C : Cx p s m meth c Z own bytes maxL ret nm) {o : Int} {x y : Int32} (hd : decode bytes pc = .ok (.if_icmp .ge o, 3)) (ho : 0 ≤ (pc : Int) + o) (hp : ((pc : Int) + o).toNat = q) (hc : ¬ x < y) (K : AtS p l e R s m args below meth c Z EL own n0 Q mk sf h cells slots (mkF m q L S)) : AtS p l e R s m args below meth c Z EL own n0 Q mk sf h cells slots (mkF m pc L (.int y :: .int x :: S)) :=
  K.go fun T hA t st => XS.icmpYes hA C.1 rfl (pc0 := pc) (pc' := q) rfl (hb C.2.1 hd) rfl (flt hc).2.1 ho hp st
theorem s_icmp_ge_f (C : Cx p s m meth c Z own bytes maxL ret nm) {o : Int} {x y : Int32} (hd : decode bytes pc = .ok (.if_icmp .ge o, 3)) (hq : pc + 3 = q) (hc : x < y) (K : AtS p l e R s m args below meth c Z EL own n0 Q mk sf h cells slots (mkF m q L S)) : AtS p l e R s m args below meth c Z EL own n0 Q mk sf h cells slots (mkF m pc L (.int y :: .int x :: S)) := by
  subst hq
  exact K.go fun T hA t st => XS.icmpNo hA C.1 rfl (hb C.2.1 hd) rfl (tlt hc).2.1 st
theorem s_if_ge_t (C : Cx p s m meth c Z own bytes maxL ret nm) {o : Int} {x : Int32} (hd : decode bytes pc = .ok (.ifCond .ge o, 3)) (ho : 0 ≤ (pc : Int) + o) (hp : ((pc : Int) + o).toNat = q) (hc : ¬ x < 0) (K : AtS p l e R s m args below meth c Z EL own n0 Q mk sf h cells slots (mkF m q L S)) : AtS p l e R s m args below meth c Z EL own n0 Q mk sf h cells slots (mkF m pc L (.int x :: S)) :=
  K.go fun T hA t st => XS.ifYes hA C.1 rfl (pc0 := pc) (pc' := q) rfl (hb C.2.1 hd) rfl ((if0 _ _).trans (flt hc).2.1) ho hp st
theorem s_if_ge_f (C : Cx p s m meth c Z own bytes maxL ret nm) {o : Int} {x : Int32} (hd : decode bytes pc = .ok (.ifCond .ge o, 3)) (hq : pc + 3 = q) (hc : x < 0) (K : AtS p l e R s m args below meth c Z EL own n0 Q mk sf h cells slots (mkF m q L S)) : AtS p l e R s m args below meth c Z EL own n0 Q mk sf h cells slots (mkF m pc L (.int x :: S)) := by
  subst hq
  exact K.go fun T hA t st => XS.ifNo hA C.1 rfl (hb C.2.1 hd) rfl ((if0 _ _).trans (tlt hc).2.1) st
theorem s_icmp_gt_t (C : Cx p s m meth c Z own bytes maxL ret nm) {o : Int} {x y : Int32} (hd : decode bytes pc = .ok (.if_icmp .gt o, 3)) (ho : 0 ≤ (pc : Int) + o) (hp : ((pc : Int) + o).toNat = q) (hc : y < x) (K : AtS p l e R s m args below meth c Z EL own n0 Q mk sf h cells slots (mkF m q L S)) : AtS p l e R s m args below meth c Z EL own n0 Q mk sf h cells slots (mkF m pc L (.int y :: .int x :: S)) :=
  K.go fun T hA t st => XS.icmpYes hA C.1 rfl (pc0 := pc) (pc' := q) rfl (hb C.2.1 hd) rfl (tlt hc).2.2.1 ho hp st
theorem s_icmp_gt_f (C : Cx p s m meth c Z own bytes maxL ret nm) {o : Int} {x y : Int32} (hd : decode bytes pc = .ok (.if_icmp .gt o, 3)) (hq : pc + 3 = q) (hc : ¬ y < x) (K : AtS p l e R s m args below meth c Z EL own n0 Q mk sf h cells slots (mkF m q L S)) : AtS p l e R s m args below meth c Z EL own n0 Q mk sf h cells slots (mkF m pc L (.int y :: .int x :: S)) := by
  subst hq
  exact K.go fun T hA t st => XS.icmpNo hA C.1 rfl (hb C.2.1 hd) rfl (flt hc).2.2.1 st
theorem s_if_gt_t (C : Cx p s m meth c Z own bytes maxL ret nm) {o : Int} {x : Int32} (hd : decode bytes pc = .ok (.ifCond .gt o, 3)) (ho : 0 ≤ (pc : Int) + o) (hp : ((pc : Int) + o).toNat = q) (hc : 0 < x) (K : AtS p l e R s m args below meth c Z EL own n0 Q mk sf h cells slots (mkF m q L S)) : AtS p l e R s m args below meth c Z EL own n0 Q mk sf h cells slots (mkF m pc L (.int x :: S)) :=
  K.go fun T hA t st => XS.ifYes hA C.1 rfl (pc0 := pc) (pc' := q) rfl (hb C.2.1 hd) rfl ((if0 _ _).trans (tlt hc).2.2.1) ho hp st
theorem s_if_gt_f (C : Cx p s m meth c Z own bytes maxL ret nm) {o : Int} {x : Int32} (hd : decode bytes pc = .ok (.ifCond .gt o, 3)) (hq : pc + 3 = q) (hc : ¬ 0 < x) (K : AtS p l e R s m args below meth c Z EL own n0 Q mk sf h cells slots (mkF m q L S)) : AtS p l e R s m args below meth c Z EL own n0 Q mk sf h cells slots (mkF m pc L (.int x :: S)) := by
  subst hq
  exact K.go fun T hA t st => XS.ifNo hA C.1 rfl (hb C.2.1 hd) rfl ((if0 _ _).trans (flt hc).2.2.1) st
theorem s_icmp_le_t (C : Cx p s m meth c Z own bytes maxL ret nm) {o : Int} {x y : Int32} (hd : decode bytes pc = .ok (.if_icmp .le o, 3)) (ho : 0 ≤ (pc : Int) + o) (hp : ((pc : Int) + o).toNat = q) (hc : ¬ y < x) (K : AtS p l e R s m args below meth c Z EL own n0 Q mk sf h cells slots (mkF m q L S)) : AtS p l e R s m args below meth c Z EL own n0 Q mk sf h cells slots (mkF m pc L (.int y :: .int x :: S)) :=
  K.go fun T hA t st => XS.icmpYes hA C.1 rfl (pc0 := pc) (pc' := q) rfl (hb C.2.1 hd) rfl (flt hc).2.2.2 ho hp st
theorem s_icmp_le_f (C : Cx p s m meth c Z own bytes maxL ret nm) {o : Int} {x y : Int32} (hd : decode bytes pc = .ok (.if_icmp .le o, 3)) (hq : pc + 3 = q) (hc : y < x) (K : AtS p l e R s m args below meth c Z EL own n0 Q mk sf h cells slots (mkF m q L S)) : AtS p l e R s m args below meth c Z EL own n0 Q mk sf h cells slots (mkF m pc L (.int y :: .int x :: S)) := by
  subst hq
  exact K.go fun T hA t st => XS.icmpNo hA C.1 rfl (hb C.2.1 hd) rfl (tlt hc).2.2.2 st
theorem s_if_le_t (C : Cx p s m meth c Z own bytes maxL ret nm) {o : Int} {x : Int32} (hd : decode bytes pc = .ok (.ifCond .le o, 3)) (ho : 0 ≤ (pc : Int) + o) (hp : ((pc : Int) + o).toNat = q) (hc : ¬ 0 < x) (K : AtS p l e R s m args below meth c Z EL own n0 Q mk sf h cells slots (mkF m q L S)) : AtS p l e R s m args below meth c Z EL own n0 Q mk sf h cells slots (mkF m pc L (.int x :: S)) :=
  K.go fun T hA t st => XS.ifYes hA C.1 rfl (pc0 := pc) (pc' := q) rfl (hb C.2.1 hd) rfl ((if0 _ _).trans (flt hc).2.2.2) ho hp st
theorem s_if_le_f (C : Cx p s m meth c Z own bytes maxL ret nm) {o : Int} {x : Int32} (hd : decode bytes pc = .ok (.ifCond .le o, 3)) (hq : pc + 3 = q) (hc : 0 < x) (K : AtS p l e R s m args below meth c Z EL own n0 Q mk sf h cells slots (mkF m q L S)) : AtS p l e R s m args below meth c Z EL own n0 Q mk sf h cells slots (mkF m pc L (.int x :: S)) := by
  subst hq
  exact K.go fun T hA t st => XS.ifNo hA C.1 rfl (hb C.2.1 hd) rfl ((if0 _ _).trans (tlt hc).2.2.2) st
theorem s_icmp_eq_t (C : Cx p s m meth c Z own bytes maxL ret nm) {o : Int} {x y : Int32} (hd : decode bytes pc = .ok (.if_icmp .eq o, 3)) (ho : 0 ≤ (pc : Int) + o) (hp : ((pc : Int) + o).toNat = q) (hc : x = y) (K : AtS p l e R s m args below meth c Z EL own n0 Q mk sf h cells slots (mkF m q L S)) : AtS p l e R s m args below meth c Z EL own n0 Q mk sf h cells slots (mkF m pc L (.int y :: .int x :: S)) :=
  K.go fun T hA t st => XS.icmpYes hA C.1 rfl (pc0 := pc) (pc' := q) rfl (hb C.2.1 hd) rfl (teq hc).1 ho hp st
theorem s_icmp_eq_f (C : Cx p s m meth c Z own bytes maxL ret nm) {o : Int} {x y : Int32} (hd : decode bytes pc = .ok (.if_icmp .eq o, 3)) (hq : pc + 3 = q) (hc : ¬ x = y) (K : AtS p l e R s m args below meth c Z EL own n0 Q mk sf h cells slots (mkF m q L S)) : AtS p l e R s m args below meth c Z EL own n0 Q mk sf h cells slots (mkF m pc L (.int y :: .int x :: S)) := by
  subst hq
  exact K.go fun T hA t st => XS.icmpNo hA C.1 rfl (hb C.2.1 hd) rfl (feq hc).1 st
theorem s_if_eq_t (C : Cx p s m meth c Z own bytes maxL ret nm) {o : Int} {x : Int32} (hd : decode bytes pc = .ok (.ifCond .eq o, 3)) (ho : 0 ≤ (pc : Int) + o) (hp : ((pc : Int) + o).toNat = q) (hc : x = 0) (K : AtS p l e R s m args below meth c Z EL own n0 Q mk sf h cells slots (mkF m q L S)) : AtS p l e R s m args below meth c Z EL own n0 Q mk sf h cells slots (mkF m pc L (.int x :: S)) :=
  K.go fun T hA t st => XS.ifYes hA C.1 rfl (pc0 := pc) (pc' := q) rfl (hb C.2.1 hd) rfl ((if0 _ _).trans (teq hc).1) ho hp st
theorem s_if_eq_f (C : Cx p s m meth c Z own bytes maxL ret nm) {o : Int} {x : Int32} (hd : decode bytes pc = .ok (.ifCond .eq o, 3)) (hq : pc + 3 = q) (hc : ¬ x = 0) (K : AtS p l e R s m args below meth c Z EL own n0 Q mk sf h cells slots (mkF m q L S)) : AtS p l e R s m args below meth c Z EL own n0 Q mk sf h cells slots (mkF m pc L (.int x :: S)) := by
  subst hq
  exact K.go fun T hA t st => XS.ifNo hA C.1 rfl (hb C.2.1 hd) rfl ((if0 _ _).trans (feq hc).1) st
theorem s_icmp_ne_t (C : Cx p s m meth c Z own bytes maxL ret nm) {o : Int} {x y : Int32} (hd : decode bytes pc = .ok (.if_icmp .ne o, 3)) (ho : 0 ≤ (pc : Int) + o) (hp : ((pc : Int) + o).toNat = q) (hc : ¬ x = y) (K : AtS p l e R s m args below meth c Z EL own n0 Q mk sf h cells slots (mkF m q L S)) : AtS p l e R s m args below meth c Z EL own n0 Q mk sf h cells slots (mkF m pc L (.int y :: .int x :: S)) :=
  K.go fun T hA t st => XS.icmpYes hA C.1 rfl (pc0 := pc) (pc' := q) rfl (hb C.2.1 hd) rfl (feq hc).2 ho hp st
theorem s_icmp_ne_f (C : Cx p s m meth c Z own bytes maxL ret nm) {o : Int} {x y : Int32} (hd : decode bytes pc = .ok (.if_icmp .ne o, 3)) (hq : pc + 3 = q) (hc : x = y) (K : AtS p l e R s m args below meth c Z EL own n0 Q mk sf h cells slots (mkF m q L S)) : AtS p l e R s m args below meth c Z EL own n0 Q mk sf h cells slots (mkF m pc L (.int y :: .int x :: S)) := by
  subst hq
  exact K.go fun T hA t st => XS.icmpNo hA C.1 rfl (hb C.2.1 hd) rfl (teq hc).2 st
theorem s_if_ne_t (C : Cx p s m meth c Z own bytes maxL ret nm) {o : Int} {x : Int32} (hd : decode bytes pc = .ok (.ifCond .ne o, 3)) (ho : 0 ≤ (pc : Int) + o) (hp : ((pc : Int) + o).toNat = q) (hc : ¬ x = 0) (K : AtS p l e R s m args below meth c Z EL own n0 Q mk sf h cells slots (mkF m q L S)) : AtS p l e R s m args below meth c Z EL own n0 Q mk sf h cells slots (mkF m pc L (.int x :: S)) :=
  K.go fun T hA t st => XS.ifYes hA C.1 rfl (pc0 := pc) (pc' := q) rfl (hb C.2.1 hd) rfl ((if0 _ _).trans (feq hc).2) ho hp st
theorem s_if_ne_f (C : Cx p s m meth c Z own bytes maxL ret nm) {o : Int} {x : Int32} (hd : decode bytes pc = .ok (.ifCond .ne o, 3)) (hq : pc + 3 = q) (hc : x = 0) (K : AtS p l e R s m args below meth c Z EL own n0 Q mk sf h cells slots (mkF m q L S)) : AtS p l e R s m args below meth c Z EL own n0 Q mk sf h cells slots (mkF m pc L (.int x :: S)) := by
  subst hq
  exact K.go fun T hA t st => XS.ifNo hA C.1 rfl (hb C.2.1 hd) rfl ((if0 _ _).trans (teq hc).2) st
theorem s_ifnull_t (C : Cx p s m meth c Z own bytes maxL ret nm) {o : Int} (hd : decode bytes pc = .ok (.ifnull o, 3)) (ho : 0 ≤ (pc : Int) + o) (hp : ((pc : Int) + o).toNat = q) (K : AtS p l e R s m args below meth c Z EL own n0 Q mk sf h cells slots (mkF m q L S)) : AtS p l e R s m args below meth c Z EL own n0 Q mk sf h cells slots (mkF m pc L (.null :: S)) :=
  K.go fun T hA t st => XS.ifnullYes hA C.1 rfl (pc0 := pc) (pc' := q) rfl (hb C.2.1 hd) rfl ho hp st
theorem s_ifnull_f (C : Cx p s m meth c Z own bytes maxL ret nm) {o : Int} {b : Addr} (hd : decode bytes pc = .ok (.ifnull o, 3)) (hq : pc + 3 = q) (K : AtS p l e R s m args below meth c Z EL own n0 Q mk sf h cells slots (mkF m q L S)) : AtS p l e R s m args below meth c Z EL own n0 Q mk sf h cells slots (mkF m pc L ((.ref b) :: S)) := by
  subst hq
  exact K.go fun T hA t st => XS.ifnullNo hA C.1 rfl (hb C.2.1 hd) rfl st
theorem s_ifnonnull_t (C : Cx p s m meth c Z own bytes maxL ret nm) {o : Int} {b : Addr} (hd : decode bytes pc = .ok (.ifnonnull o, 3)) (ho : 0 ≤ (pc : Int) + o) (hp : ((pc : Int) + o).toNat = q) (K : AtS p l e R s m args below meth c Z EL own n0 Q mk sf h cells slots (mkF m q L S)) : AtS p l e R s m args below meth c Z EL own n0 Q mk sf h cells slots (mkF m pc L ((.ref b) :: S)) :=
  K.go fun T hA t st => XS.ifnonnullYes hA C.1 rfl (pc0 := pc) (pc' := q) rfl (hb C.2.1 hd) rfl ho hp st
theorem s_ifnonnull_f (C : Cx p s m meth c Z own bytes maxL ret nm) {o : Int} (hd : decode bytes pc = .ok (.ifnonnull o, 3)) (hq : pc + 3 = q) (K : AtS p l e R s m args below meth c Z EL own n0 Q mk sf h cells slots (mkF m q L S)) : AtS p l e R s m args below meth c Z EL own n0 Q mk sf h cells slots (mkF m pc L (.null :: S)) := by
  subst hq
  exact K.go fun T hA t st => XS.ifnonnullNo hA C.1 rfl (hb C.2.1 hd) rfl st
theorem s_acmp_t (C : Cx p s m meth c Z own bytes maxL ret nm) {cd : ACond} {o : Int} {x y : Value} (hd : decode bytes pc = .ok (.if_acmp cd o, 3)) (h1 : x.isRef = true) (h2 : y.isRef = true) {same : Bool} (hs : decide (x = y) = same) (hcd : acV cd same = true) (ho : 0 ≤ (pc : Int) + o) (hp : ((pc : Int) + o).toNat = q) (K : AtS p l e R s m args below meth c Z EL own n0 Q mk sf h cells slots (mkF m q L S)) : AtS p l e R s m args below meth c Z EL own n0 Q mk sf h cells slots (mkF m pc L (y :: x :: S)) :=
  K.goX fun T locs k n vm0 X eT hZ hown t st => Jvm.RoadKit.acmp (g := mkF m pc L (y :: x :: S)) X C.1 rfl h1 h2 (pc0 := pc) (pc' := q) (same := same) rfl (hb C.2.1 hd) rfl hs ho (by rw [if_pos hcd]; exact hp.symm) st
theorem s_acmp_f (C : Cx p s m meth c Z own bytes maxL ret nm) {cd : ACond} {o : Int} {x y : Value} (hd : decode bytes pc = .ok (.if_acmp cd o, 3)) (h1 : x.isRef = true) (h2 : y.isRef = true) {same : Bool} (hs : decide (x = y) = same) (hcd : acV cd same = false) (ho : 0 ≤ (pc : Int) + o) (hq : pc + 3 = q) (K : AtS p l e R s m args below meth c Z EL own n0 Q mk sf h cells slots (mkF m q L S)) : AtS p l e R s m args below meth c Z EL own n0 Q mk sf h cells slots (mkF m pc L (y :: x :: S)) :=
  K.goX fun T locs k n vm0 X eT hZ hown t st => Jvm.RoadKit.acmp (g := mkF m pc L (y :: x :: S)) X C.1 rfl h1 h2 (pc0 := pc) (pc' := q) (same := same) rfl (hb C.2.1 hd) rfl hs ho (by rw [if_neg (by rw [hcd]; exact Bool.false_ne_true)]; exact hq.symm) st
theorem s_ldcI (C : Cx p s m meth c Z own bytes maxL ret nm) {i : Nat} {v : Int32} (w : (Jvm.Cond.constant own i v).before a0 Z = true) (hd : decode bytes pc = .ok (.ldc i, 2)) (hq : pc + 2 = q) (K : AtS p l e R s m args below meth c Z EL own n0 Q mk sf h cells slots (mkF m q L (.int v :: S))) : AtS p l e R s m args below meth c Z EL own n0 Q mk sf h cells slots (mkF m pc L S) := by
  subst hq
  exact K.goX fun T locs k n vm0 X eT hZ hown t st => X.ldcInt C.1 hown (mvT (s := s.setVm vm0) hZ w) (g := mkF m pc L S) rfl (hb C.2.1 hd) t st
theorem s_ldcwI (C : Cx p s m meth c Z own bytes maxL ret nm) {i : Nat} {v : Int32} (w : (Jvm.Cond.constant own i v).before a0 Z = true) (hd : decode bytes pc = .ok (.ldc_w i, 3)) (hq : pc + 3 = q) (K : AtS p l e R s m args below meth c Z EL own n0 Q mk sf h cells slots (mkF m q L (.int v :: S))) : AtS p l e R s m args below meth c Z EL own n0 Q mk sf h cells slots (mkF m pc L S) := by
  subst hq
  exact K.goX fun T locs k n vm0 X eT hZ hown t st => X.ldcwInt C.1 hown (mvT (s := s.setVm vm0) hZ w) (g := mkF m pc L S) rfl (hb C.2.1 hd) t st
theorem s_ldc2J (C : Cx p s m meth c Z own bytes maxL ret nm) {i : Nat} {v : Int64} (w : (Jvm.Cond.constantLong own i v).before a0 Z = true) (hd : decode bytes pc = .ok (.ldc2_w i, 3)) (hq : pc + 3 = q) (K : AtS p l e R s m args below meth c Z EL own n0 Q mk sf h cells slots (mkF m q L (.long v :: S))) : AtS p l e R s m args below meth c Z EL own n0 Q mk sf h cells slots (mkF m pc L S) := by
  subst hq
  exact K.goX fun T locs k n vm0 X eT hZ hown t st => X.ldc2Long C.1 hown (mvT (s := s.setVm vm0) hZ w) (g := mkF m pc L S) rfl (hb C.2.1 hd) t st

theorem s_getF (C : Cx p s m meth c Z own bytes maxL ret nm) {R0 O n d host : String} {i : Nat} {a : Addr} {v : Value} (w : (Jvm.Cond.fieldLink own i R0 n d).before a0 Z = true ∨ (Jvm.Cond.fieldLinkNest own i R0 n d host).before a0 Z = true) (via : Via Z R0 O n d) (F : Fld Z h a O n d v) (hd : decode bytes pc = .ok (.getfield i, 3)) (hq : pc + 3 = q) (K : AtS p l e R s m args below meth c Z EL own n0 Q mk sf h cells slots (mkF m q L (v :: S))) : AtS p l e R s m args below meth c Z EL own n0 Q mk sf h cells slots (mkF m pc L (.ref a :: S)) := by
  subst hq
  intro T locs k n vm0 k0 X hk hn eT N hZ hown hS hk0 hC hB hF
  obtain ⟨T', X', e', st⟩ := getF X C.1 (show Z.Warmed39 (s.setVm vm0).vm from hZ) (host := host) hown w via eT F (g := mkF m pc L (.ref a :: S)) rfl rfl (hb C.2.1 hd)
  obtain ⟨t, o, r1, r⟩ := K T' locs k n vm0 k0 X' hk hn e' N hZ hown hS hk0 hC hB hF
  exact ⟨t, o, st _ r1, r⟩
theorem s_getS (C : Cx p s m meth c Z own bytes maxL ret nm) {R0 O n d host : String} {i : Nat} {v : Value} (w : (Jvm.Cond.fieldLink own i R0 n d).before a0 Z = true ∨ (Jvm.Cond.fieldLinkNest own i R0 n d host).before a0 Z = true) (via : Via Z R0 O n d) (F : Sta Z h O n d v) (hd : decode bytes pc = .ok (.getstatic i, 3)) (hq : pc + 3 = q) (K : AtS p l e R s m args below meth c Z EL own n0 Q mk sf h cells slots (mkF m q L (v :: S))) : AtS p l e R s m args below meth c Z EL own n0 Q mk sf h cells slots (mkF m pc L S) := by
  subst hq
  intro T locs k n vm0 k0 X hk hn eT N hZ hown hS hk0 hC hB hF
  obtain ⟨T', X', e', st⟩ := getS2 X C.1 (show Z.Warmed39 (s.setVm vm0).vm from hZ) (host := host) hown w via eT F (g := mkF m pc L S) rfl (hb C.2.1 hd)
  obtain ⟨t, o, r1, r⟩ := K T' locs k n vm0 k0 X' hk hn e' N hZ hown hS hk0 hC hB hF
  exact ⟨t, o, st _ r1, r⟩
theorem s_cast (C : Cx p s m meth c Z own bytes maxL ret nm) {K : String} {i : Nat} {a : Addr} (w : (Jvm.Cond.classLink own i K).before a0 Z = true) (F : Ins Z h a K true) (hd : decode bytes pc = .ok (.checkcast i, 3)) (hq : pc + 3 = q) (K : AtS p l e R s m args below meth c Z EL own n0 Q mk sf h cells slots (mkF m q L (.ref a :: S))) : AtS p l e R s m args below meth c Z EL own n0 Q mk sf h cells slots (mkF m pc L (.ref a :: S)) := by
  subst hq
  intro T locs k n vm0 k0 X hk hn eT N hZ hown hS hk0 hC hB hF
  obtain ⟨T', X', e', st⟩ := castY X C.1 (show Z.Warmed39 (s.setVm vm0).vm from hZ) hown w eT F (g := mkF m pc L (.ref a :: S)) rfl rfl (hb C.2.1 hd)
  obtain ⟨t, o, r1, r⟩ := K T' locs k n vm0 k0 X' hk hn e' N hZ hown hS hk0 hC hB hF
  exact ⟨t, o, st _ r1, r⟩
theorem s_inst (C : Cx p s m meth c Z own bytes maxL ret nm) {K : String} {i : Nat} {a : Addr} (w : (Jvm.Cond.classLink own i K).before a0 Z = true) (F : Ins Z h a K true) (hd : decode bytes pc = .ok (.instanceof i, 3)) (hq : pc + 3 = q) (K : AtS p l e R s m args below meth c Z EL own n0 Q mk sf h cells slots (mkF m q L (.int 1 :: S))) : AtS p l e R s m args below meth c Z EL own n0 Q mk sf h cells slots (mkF m pc L (.ref a :: S)) := by
  subst hq
  intro T locs k n vm0 k0 X hk hn eT N hZ hown hS hk0 hC hB hF
  obtain ⟨T', X', e', st⟩ := instY X C.1 (show Z.Warmed39 (s.setVm vm0).vm from hZ) hown w eT F (g := mkF m pc L (.ref a :: S)) rfl rfl (hb C.2.1 hd)
  obtain ⟨t, o, r1, r⟩ := K T' locs k n vm0 k0 X' hk hn e' N hZ hown hS hk0 hC hB hF
  exact ⟨t, o, st _ r1, r⟩
theorem s_initO (C : Cx p s m meth c Z own bytes maxL ret nm) {i : Nat} {a : Addr} (w1 : (Jvm.Cond.methodLink own i Lib.objectInit).before a0 Z = true) (w2 : (Jvm.Cond.instanceMethod Lib.objectInit).before a0 Z = true) (w3 : (Jvm.Cond.code Lib.objectInit object_method_1_code 1 none).before a0 Z = true) (hL : L.size = maxL) (hf : 1 ≤ R.frames) {W : Nat} (hW : (S.map fun v => v.category).sum ≤ W) (hlo : W + 12 ≤ R.locals) (hd : decode bytes pc = .ok (.invokespecial i, 3)) (hq : pc + 3 = q) (K : AtS p l e R s m args below meth c Z EL own n0 Q mk sf h cells slots (mkF m q L S)) : AtS p l e R s m args below meth c Z EL own n0 Q mk sf h cells slots (mkF m pc L (.ref a :: S)) := by
  subst hq
  intro T locs k n vm0 k0 X hk hn eT N hZ hown hS hk0 hC hB hF
  obtain ⟨T', X', e', st⟩ := initO X C.1 (show Z.Warmed39 (s.setVm vm0).vm from hZ) hown w1 w2 w3 eT (g := mkF m pc L (.ref a :: S)) rfl (hL.trans C.2.2.1.symm) rfl (hb C.2.1 hd) hf (W := W) (by show 2 * 0 + _ ≤ _; omega) hlo
  obtain ⟨t, o, r1, r⟩ := K T' locs k n vm0 k0 X' hk hn e' N hZ hown hS hk0 hC hB hF
  exact ⟨t, o, st _ r1, r⟩
/-- an address that no booked constant has -/
def SfOk (Z : State) (h : Heap) (mk : Nat) (sf : List Addr) (x : Addr) : Prop := x ∈ sf ∨ mk ≤ x ∨ (∃ C, Exa Z h x C ∧ C ≠ "java/lang/String" ∧ C ≠ "[B") ∨ ∃ ty vs, Ar Z h x ty vs ∧ ty ≠ .byte
theorem SfOk.exa {x : Addr} {C : String} (E : Exa Z h x C) (h1 : C ≠ "java/lang/String" ∧ C ≠ "[B") : SfOk Z h mk sf x := Or.inr (Or.inr (Or.inl ⟨C, E, h1⟩))
theorem SfOk.arr {x : Addr} {ty : FieldType} {vs : List Value} (E : Ar Z h x ty vs) (h1 : ty ≠ .byte) : SfOk Z h mk sf x := Or.inr (Or.inr (Or.inr ⟨ty, vs, E, h1⟩))
theorem SfOk.mem {x : Addr} (q : x ∈ sf) : SfOk Z h mk sf x := Or.inl q
theorem SfOk.new {x : Addr} (q : mk ≤ x) : SfOk Z h mk sf x := Or.inr (Or.inl q)
theorem SfOk.safe {vm0 : Vm} {x : Addr} (F : SfOk Z h mk sf x) (hal : Z.vm.Alike vm0) (hB : ∀ y, Bk Z EL vm0 h y → y < mk) (hF : ∀ x ∈ sf, x < h.size ∧ Safe Z EL vm0 h x) : Safe Z EL vm0 h x := by
  rcases F with q | q | ⟨C, E, h1, h2⟩ | ⟨ty, vs, A, hne⟩
  · exact (hF x q).2
  · exact fun b => Nat.not_lt.mpr q (hB _ b)
  · exact Safe.exa hal E h1 h2
  · obtain ⟨-, k, V⟩ := A; exact Safe.arv hal V hne
theorem s_putF (C : Cx p s m meth c Z own bytes maxL ret nm) {R0 O n d host Cl : String} {i kk : Nat} {ty : FieldType} {a : Addr} {v v' old : Value} (w : (Jvm.Cond.fieldLink own i R0 n d).before a0 Z = true) (via : Via Z R0 O n d) (F : Fld Z h a O n d old) (E : Exa Z h a Cl)
    (hL : (Jvm.Cond.lays Cl O n d).before a0 Z = true ∨ ((Jvm.Cond.laysFinal Cl O n d).before a0 Z = true ∧ own = O ∧ nm = "<init>")) (wi : (Jvm.Cond.instantiable Cl kk).before a0 Z = true) (hty : parseFieldDescriptor d = some ty) (hn : narrow ty v = v') (hf : fits ty v' = true) (hge : n0 ≤ a) (hsf : SfOk Z h mk sf a)
    (hd : decode bytes pc = .ok (.putfield i, 3)) (hq : pc + 3 = q) (K : ∀ h', Wr h h' a (Jvm.RoadKit.slotOf Z O n d) v' → AtS p l e R s m args below meth c Z EL own n0 Q mk sf h' cells slots (mkF m q L S)) : AtS p l e R s m args below meth c Z EL own n0 Q mk sf h cells slots (mkF m pc L (v :: .ref a :: S)) := by
  subst hq
  intro T locs k n' vm0 k0 X hk hn' eT N hZ hown hS hk0 hC hB hF
  have hL' : (Jvm.Cond.lays Cl O n d).before a0 Z = true ∨ ((Jvm.Cond.laysFinal Cl O n d).before a0 Z = true ∧ own = O ∧ meth.name = "<init>") := hL.imp id fun x => ⟨x.1, x.2.1, C.2.2.2.2.2.2.2.trans x.2.2⟩
  obtain ⟨T', h', X', e', W, st⟩ := putFN X C.1 (show Z.Warmed39 (s.setVm vm0).vm from hZ) hown w via eT F E hL' wi hty hn hf (g := mkF m pc L (v :: .ref a :: S)) rfl rfl (hb C.2.1 hd)
  have hsafe := hsf.safe hZ.alike hB hF
  obtain ⟨H', hB'⟩ := hC.1.wrStep W hsafe
  obtain ⟨t, o, r1, r⟩ := K h' W T' _ k n' vm0 k0 X' hk hn' e' (Fr.snoc X' N hge) hZ hown hS (by rw [W.size]; exact hk0) (hC.trans (CHr.wr W hsafe hC.1)) (fun y hy => hB y (hB' y hy)) (fun x hx => ⟨by rw [W.size]; exact (hF x hx).1, Safe.wr W hsafe hC.1 (hF x hx).2⟩)
  exact ⟨t, o, st _ r1, r⟩
theorem s_new (C : Cx p s m meth c Z own bytes maxL ret nm) {Cl : String} {i n : Nat} (w : (Jvm.Cond.classLink own i Cl).before a0 Z = true) (wi : (Jvm.Cond.instantiable Cl n).before a0 Z = true) (wz : (Jvm.Cond.initialized Cl).before a0 Z = true) {cells' slots' : Nat} (hc1 : cells + 1 = cells') (hs1 : slots + n = slots') (hc : cells' ≤ R.cells) (hl : slots' ≤ R.slots)
    (hd : decode bytes pc = .ok (.new i, 3)) (hq : pc + 3 = q) (K : ∀ h' a, a = h.size → Ext h h' → Exa Z h' a Cl → (∀ {O nm d : String} {ty : FieldType}, RoadKit.Laid Z a0 Cl O nm d → parseFieldDescriptor d = some ty → Fld Z h' a O nm d (defaultValue ty)) → AtS p l e R s m args below meth c Z EL own n0 Q mk (a :: sf) h' cells' slots' (mkF m q L (.ref a :: S))) : AtS p l e R s m args below meth c Z EL own n0 Q mk sf h cells slots (mkF m pc L S) := by
  subst hq hc1 hs1
  intro T locs k n' vm0 k0 X hk hn' eT N hZ hown hS hk0 hC hB hF
  obtain ⟨T', h', X', e', E, A, D, -, st⟩ := newO X C.1 (show Z.Warmed39 (s.setVm vm0).vm from hZ) hown w wi wz eT (g := mkF m pc L S) rfl (hb C.2.1 hd) (by omega) (by omega)
  obtain ⟨H', hB'⟩ := hC.1.step (h' := h') fun y _ cell hc => E.2 _ _ hc
  have hs : ∀ x ∈ h.size :: sf, x < h'.size ∧ Safe Z EL vm0 h' x := fun x hx => by
    rcases List.mem_cons.mp hx with rfl | hx
    · exact ⟨A.lt, (Safe.new (Nat.le_refl _)).ext E hC.1⟩
    · exact ⟨Nat.lt_of_lt_of_le (hF x hx).1 E.1, (hF x hx).2.ext E hC.1⟩
  obtain ⟨t, o, r1, r⟩ := K h' h.size rfl E A D T' _ (k + 1) (n' + n) vm0 k0 X' (by omega) (by omega) e' N hZ hown hS (Nat.le_trans hk0 E.1) (hC.trans (CHr.ext E hC.1)) (fun y hy => hB y (hB' y hy)) hs
  exact ⟨t, o, st _ r1, r⟩
theorem s_newArr (C : Cx p s m meth c Z own bytes maxL ret nm) {aty : ArrayType} {ty : FieldType} {n : Int32} (w : (Jvm.Cond.arrayClass ty).before a0 Z = true) (hty : newarray.typeOf aty = ty) (hn : ¬ n < 0) {cap : Nat} (hcap : n.toNatClampNeg ≤ cap) (hb' : cap * 8 ≤ 536870912) {cells' slots' : Nat} (hc1 : cells + 1 = cells') (hs1 : slots + cap = slots') (hc : cells' ≤ R.cells) (hl : slots' ≤ R.slots)
    (hd : decode bytes pc = .ok (.newarray aty, 2)) (hq : pc + 2 = q) (K : ∀ h' a, a = h.size → Ext h h' → Ar Z h' a ty (List.replicate n.toNatClampNeg (defaultValue ty)) → AtS p l e R s m args below meth c Z EL own n0 Q mk (a :: sf) h' cells' slots' (mkF m q L (.ref a :: S))) : AtS p l e R s m args below meth c Z EL own n0 Q mk sf h cells slots (mkF m pc L (.int n :: S)) := by
  subst hq hc1 hs1 hty
  intro T locs k n' vm0 k0 X hk hn' eT N hZ hown hS hk0 hC hB hF
  obtain ⟨T', h', cA, X', e', E, A, st⟩ := newP X C.1 (show Z.Warmed39 (s.setVm vm0).vm from hZ) w eT (g := mkF m pc L (.int n :: S)) rfl (hb C.2.1 hd) rfl hn hcap hb' (by omega) (by omega)
  have q := nat_of_nonneg hn
  have V := (Arv.new A hn).pad (pad_rep [] (defaultValue (newarray.typeOf aty)) n.toNatClampNeg)
  obtain ⟨H', hB'⟩ := hC.1.step (h' := h') fun y _ cell hc => E.2 _ _ hc
  have hs : ∀ x ∈ h.size :: sf, x < h'.size ∧ Safe Z EL vm0 h' x := fun x hx => by
    rcases List.mem_cons.mp hx with rfl | hx
    · exact ⟨V.lt, (Safe.new (Nat.le_refl _)).ext E hC.1⟩
    · exact ⟨Nat.lt_of_lt_of_le (hF x hx).1 E.1, (hF x hx).2.ext E hC.1⟩
  obtain ⟨t, o, r1, r⟩ := K h' h.size rfl E ⟨by simpa using q.2, cA, by simpa [q.1] using V⟩ T' _ (k + 1) (n' + cap) vm0 k0 X' (by omega) (by omega) e' N hZ hown hS (Nat.le_trans hk0 E.1) (hC.trans (CHr.ext E hC.1)) (fun y hy => hB y (hB' y hy)) hs
  exact ⟨t, o, st _ r1, r⟩
theorem s_len (C : Cx p s m meth c Z own bytes maxL ret nm) {a : Addr} {ty : FieldType} {vs : List Value} {z : Int32} (A : Ar Z h a ty vs) (hz : Int32.ofNat vs.length = z) (hd : decode bytes pc = .ok (.arraylength, 1)) (hq : pc + 1 = q) (K : AtS p l e R s m args below meth c Z EL own n0 Q mk sf h cells slots (mkF m q L (.int z :: S))) : AtS p l e R s m args below meth c Z EL own n0 Q mk sf h cells slots (mkF m pc L (.ref a :: S)) := by
  subst hq hz
  obtain ⟨hlt, k, cl, Ar, -, hS, hM, -, -⟩ := A
  refine K.goX fun T locs k n vm0 X eT hZ hown t st => X.arraylength C.1 (by rw [eT]; exact Ar.1) (State.isArrayOf_alike (T := s.setVm vm0) hZ.alike Ar.2.1) (g := mkF m pc L (.ref a :: S)) rfl rfl (hb C.2.1 hd) t ?_
  rw [len_of hS hM]; exact st

theorem s_iaload (C : Cx p s m meth c Z own bytes maxL ret nm) {a : Addr} {vs : List Value} {j : Int32} {i : Nat} {v : Value} (A : Ar Z h a .int vs) (hj : j = Int32.ofNat i) (hv : vs[i]? = some v) (hd : decode bytes pc = .ok (.iaload, 1)) (hq : pc + 1 = q) (K : AtS p l e R s m args below meth c Z EL own n0 Q mk sf h cells slots (mkF m q L (v :: S))) : AtS p l e R s m args below meth c Z EL own n0 Q mk sf h cells slots (mkF m pc L (.int j :: .ref a :: S)) := by
  subst hq hj
  obtain ⟨hlt, k, cl, Ar, -, hS, hM, H, -⟩ := A
  obtain ⟨hi, hg⟩ := List.getElem?_eq_some_iff.mp hv
  have e1 := ofNat_nat (n := i) (by omega)
  have e2 := ofNat_nat hlt
  have hin : ¬ (Int32.ofNat i < 0 ∨ cl.slots.size ≤ (Int32.ofNat i).toNatClampNeg) := by
    rw [e1, hS, e2]; exact fun q => q.elim (ofNat_neg (by omega)) (by omega)
  refine K.goX fun T locs k n vm0 X eT hZ hown t st => X.iaload C.1 (j := Int32.ofNat i) (v := v) (by rw [eT]; exact Ar.1) (State.isArrayOf_alike (T := s.setVm vm0) hZ.alike Ar.2.1) Ar.2.2 hin (by rw [e1, H i (by rw [hS, e2]; exact hi)]; simp [List.getD, hv]) (g := mkF m pc L (.int (Int32.ofNat i) :: .ref a :: S)) rfl rfl (hb C.2.1 hd) t st
theorem s_caload (C : Cx p s m meth c Z own bytes maxL ret nm) {a : Addr} {vs : List Value} {j : Int32} {i : Nat} {v : Value} (A : Ar Z h a .char vs) (hj : j = Int32.ofNat i) (hv : vs[i]? = some v) (hd : decode bytes pc = .ok (.caload, 1)) (hq : pc + 1 = q) (K : AtS p l e R s m args below meth c Z EL own n0 Q mk sf h cells slots (mkF m q L (v :: S))) : AtS p l e R s m args below meth c Z EL own n0 Q mk sf h cells slots (mkF m pc L (.int j :: .ref a :: S)) := by
  subst hq hj
  obtain ⟨hlt, k, cl, Ar, -, hS, hM, H, -⟩ := A
  obtain ⟨hi, hg⟩ := List.getElem?_eq_some_iff.mp hv
  have e1 := ofNat_nat (n := i) (by omega)
  have e2 := ofNat_nat hlt
  have hin : ¬ (Int32.ofNat i < 0 ∨ cl.slots.size ≤ (Int32.ofNat i).toNatClampNeg) := by
    rw [e1, hS, e2]; exact fun q => q.elim (ofNat_neg (by omega)) (by omega)
  refine K.goX fun T locs k n vm0 X eT hZ hown t st => X.caload C.1 (j := Int32.ofNat i) (v := v) (by rw [eT]; exact Ar.1) (State.isArrayOf_alike (T := s.setVm vm0) hZ.alike Ar.2.1) Ar.2.2 hin (by rw [e1, H i (by rw [hS, e2]; exact hi)]; simp [List.getD, hv]) (g := mkF m pc L (.int (Int32.ofNat i) :: .ref a :: S)) rfl rfl (hb C.2.1 hd) t st
theorem s_baload (C : Cx p s m meth c Z own bytes maxL ret nm) {a : Addr} {vs : List Value} {j : Int32} {i : Nat} {v : Value} (A : Ar Z h a .byte vs) (hj : j = Int32.ofNat i) (hv : vs[i]? = some v) (hd : decode bytes pc = .ok (.baload, 1)) (hq : pc + 1 = q) (K : AtS p l e R s m args below meth c Z EL own n0 Q mk sf h cells slots (mkF m q L (v :: S))) : AtS p l e R s m args below meth c Z EL own n0 Q mk sf h cells slots (mkF m pc L (.int j :: .ref a :: S)) := by
  subst hq hj
  obtain ⟨hlt, k, cl, Ar, -, hS, hM, H, -⟩ := A
  obtain ⟨hi, hg⟩ := List.getElem?_eq_some_iff.mp hv
  have e1 := ofNat_nat (n := i) (by omega)
  have e2 := ofNat_nat hlt
  have hin : ¬ (Int32.ofNat i < 0 ∨ cl.slots.size ≤ (Int32.ofNat i).toNatClampNeg) := by
    rw [e1, hS, e2]; exact fun q => q.elim (ofNat_neg (by omega)) (by omega)
  refine K.goX fun T locs k n vm0 X eT hZ hown t st => X.baloadBytes C.1 (j := Int32.ofNat i) (v := v) (by rw [eT]; exact Ar.1) (State.isArrayOf_alike (T := s.setVm vm0) hZ.alike Ar.2.1) Ar.2.2 hin (by rw [e1, H i (by rw [hS, e2]; exact hi)]; simp [List.getD, hv]) (g := mkF m pc L (.int (Int32.ofNat i) :: .ref a :: S)) rfl rfl (hb C.2.1 hd) t st
theorem s_laload (C : Cx p s m meth c Z own bytes maxL ret nm) {a : Addr} {vs : List Value} {j : Int32} {i : Nat} {v : Value} (A : Ar Z h a .long vs) (hj : j = Int32.ofNat i) (hv : vs[i]? = some v) (hd : decode bytes pc = .ok (.laload, 1)) (hq : pc + 1 = q) (K : AtS p l e R s m args below meth c Z EL own n0 Q mk sf h cells slots (mkF m q L (v :: S))) : AtS p l e R s m args below meth c Z EL own n0 Q mk sf h cells slots (mkF m pc L (.int j :: .ref a :: S)) := by
  subst hq hj
  obtain ⟨hlt, k, cl, Ar, -, hS, hM, H, -⟩ := A
  obtain ⟨hi, hg⟩ := List.getElem?_eq_some_iff.mp hv
  have e1 := ofNat_nat (n := i) (by omega)
  have e2 := ofNat_nat hlt
  have hin : ¬ (Int32.ofNat i < 0 ∨ cl.slots.size ≤ (Int32.ofNat i).toNatClampNeg) := by
    rw [e1, hS, e2]; exact fun q => q.elim (ofNat_neg (by omega)) (by omega)
  refine K.goX fun T locs k n vm0 X eT hZ hown t st => X.laload C.1 (j := Int32.ofNat i) (v := v) (by rw [eT]; exact Ar.1) (State.isArrayOf_alike (T := s.setVm vm0) hZ.alike Ar.2.1) Ar.2.2 hin (by rw [e1, H i (by rw [hS, e2]; exact hi)]; simp [List.getD, hv]) (g := mkF m pc L (.int (Int32.ofNat i) :: .ref a :: S)) rfl rfl (hb C.2.1 hd) t st
theorem s_aaload (C : Cx p s m meth c Z own bytes maxL ret nm) {a : Addr} {ty : FieldType} {vs : List Value} {j : Int32} {i : Nat} {v : Value} (A : Ar Z h a ty vs) (hj : j = Int32.ofNat i) (hv : vs[i]? = some v) (hr : ty.isReference = true) (hd : decode bytes pc = .ok (.aaload, 1)) (hq : pc + 1 = q) (K : AtS p l e R s m args below meth c Z EL own n0 Q mk sf h cells slots (mkF m q L (v :: S))) : AtS p l e R s m args below meth c Z EL own n0 Q mk sf h cells slots (mkF m pc L (.int j :: .ref a :: S)) := by
  subst hq hj
  obtain ⟨hlt, k, cl, Ar, -, hS, hM, H, -⟩ := A
  obtain ⟨hi, hg⟩ := List.getElem?_eq_some_iff.mp hv
  have e1 := ofNat_nat (n := i) (by omega)
  have e2 := ofNat_nat hlt
  have hin : ¬ (Int32.ofNat i < 0 ∨ cl.slots.size ≤ (Int32.ofNat i).toNatClampNeg) := by
    rw [e1, hS, e2]; exact fun q => q.elim (ofNat_neg (by omega)) (by omega)
  refine K.goX fun T locs k n vm0 X eT hZ hown t st => X.aaload C.1 (j := Int32.ofNat i) (v := v) (by rw [eT]; exact Ar.1) (State.isArrayOf_alike (T := s.setVm vm0) hZ.alike Ar.2.1) hr Ar.2.2 hin (by rw [e1, H i (by rw [hS, e2]; exact hi)]; simp [List.getD, hv]) (g := mkF m pc L (.int (Int32.ofNat i) :: .ref a :: S)) rfl rfl (hb C.2.1 hd) t st
theorem s_iastore (C : Cx p s m meth c Z own bytes maxL ret nm) {a : Addr} {vs : List Value} {j : Int32} {i : Nat} {x : Int32} (A : Ar Z h a .int vs) (hj : j = Int32.ofNat i) (hi : i < vs.length) (hge : n0 ≤ a) (hd : decode bytes pc = .ok (.iastore, 1)) (hq : pc + 1 = q)
    (K : ∀ h', Wr h h' a i (.int x) → Ar Z h' a .int (vs.set i (.int x)) → AtS p l e R s m args below meth c Z EL own n0 Q mk sf h' cells slots (mkF m q L S)) : AtS p l e R s m args below meth c Z EL own n0 Q mk sf h cells slots (mkF m pc L (.int x :: .int j :: .ref a :: S)) := by
  subst hq hj
  intro T locs k n' vm0 k0 X hk hn' eT N hZ hown hS0 hk0 hC hB hF
  have hsafe := SfOk.safe (mk := mk) (sf := sf) (SfOk.arr A (by decide)) hZ.alike hB hF
  obtain ⟨hlt, k', cl, Ar, q1, hS, hM, H, G⟩ := A
  have e1 := ofNat_nat (n := i) (by omega)
  have e2 := ofNat_nat hlt
  have hin : ¬ (Int32.ofNat i < 0 ∨ cl.slots.size ≤ (Int32.ofNat i).toNatClampNeg) := by
    rw [e1, hS, e2]; exact fun q => q.elim (ofNat_neg (by omega)) (by omega)
  obtain ⟨T', h', X', e', W, st⟩ := stI X C.1 (show Z.Warmed39 (s.setVm vm0).vm from hZ) eT Ar (j := Int32.ofNat i) (x := x) hin (g := mkF m pc L (.int x :: .int (Int32.ofNat i) :: .ref a :: S)) rfl rfl (hb C.2.1 hd)
  have V := Arv.set Ar q1 hS hM H G (rfl) W i e1 hi
  obtain ⟨H', hB'⟩ := hC.1.wrStep W hsafe
  obtain ⟨t, o, r1, r⟩ := K h' (by rw [e1] at W; exact W) ⟨by simpa using hlt, k', by rw [List.length_set]; exact V⟩ T' _ k n' vm0 k0 X' hk hn' e' (Fr.snoc X' N hge) hZ hown hS0 (by rw [W.size]; exact hk0) (hC.trans (CHr.wr W hsafe hC.1)) (fun y hy => hB y (hB' y hy)) (fun x hx => ⟨by rw [W.size]; exact (hF x hx).1, Safe.wr W hsafe hC.1 (hF x hx).2⟩)
  exact ⟨t, o, st _ r1, r⟩
theorem s_castore (C : Cx p s m meth c Z own bytes maxL ret nm) {a : Addr} {vs : List Value} {j : Int32} {i : Nat} {x : Int32} {z : Int32} (hz : nar .char x = z) (A : Ar Z h a .char vs) (hj : j = Int32.ofNat i) (hi : i < vs.length) (hge : n0 ≤ a) (hd : decode bytes pc = .ok (.castore, 1)) (hq : pc + 1 = q)
    (K : ∀ h', Wr h h' a i (.int z) → Ar Z h' a .char (vs.set i (.int z)) → AtS p l e R s m args below meth c Z EL own n0 Q mk sf h' cells slots (mkF m q L S)) : AtS p l e R s m args below meth c Z EL own n0 Q mk sf h cells slots (mkF m pc L (.int x :: .int j :: .ref a :: S)) := by
  subst hq hj hz
  intro T locs k n' vm0 k0 X hk hn' eT N hZ hown hS0 hk0 hC hB hF
  have hsafe := SfOk.safe (mk := mk) (sf := sf) (SfOk.arr A (by decide)) hZ.alike hB hF
  obtain ⟨hlt, k', cl, Ar, q1, hS, hM, H, G⟩ := A
  have e1 := ofNat_nat (n := i) (by omega)
  have e2 := ofNat_nat hlt
  have hin : ¬ (Int32.ofNat i < 0 ∨ cl.slots.size ≤ (Int32.ofNat i).toNatClampNeg) := by
    rw [e1, hS, e2]; exact fun q => q.elim (ofNat_neg (by omega)) (by omega)
  obtain ⟨T', h', X', e', W, st⟩ := stC X C.1 (show Z.Warmed39 (s.setVm vm0).vm from hZ) eT Ar (j := Int32.ofNat i) (x := x) hin (g := mkF m pc L (.int x :: .int (Int32.ofNat i) :: .ref a :: S)) rfl rfl (hb C.2.1 hd)
  have V := Arv.set Ar q1 hS hM H G (fits_nar_char _) W i e1 hi
  obtain ⟨H', hB'⟩ := hC.1.wrStep W hsafe
  obtain ⟨t, o, r1, r⟩ := K h' (by rw [e1] at W; exact W) ⟨by simpa using hlt, k', by rw [List.length_set]; exact V⟩ T' _ k n' vm0 k0 X' hk hn' e' (Fr.snoc X' N hge) hZ hown hS0 (by rw [W.size]; exact hk0) (hC.trans (CHr.wr W hsafe hC.1)) (fun y hy => hB y (hB' y hy)) (fun x hx => ⟨by rw [W.size]; exact (hF x hx).1, Safe.wr W hsafe hC.1 (hF x hx).2⟩)
  exact ⟨t, o, st _ r1, r⟩
theorem s_bastore (C : Cx p s m meth c Z own bytes maxL ret nm) {a : Addr} {vs : List Value} {j : Int32} {i : Nat} {x : Int32} {z : Int32} (hz : nar .byte x = z) (A : Ar Z h a .byte vs) (hj : j = Int32.ofNat i) (hi : i < vs.length) (hge : n0 ≤ a) (hsf : SfOk Z h mk sf a) (hd : decode bytes pc = .ok (.bastore, 1)) (hq : pc + 1 = q)
    (K : ∀ h', Wr h h' a i (.int z) → Ar Z h' a .byte (vs.set i (.int z)) → AtS p l e R s m args below meth c Z EL own n0 Q mk sf h' cells slots (mkF m q L S)) : AtS p l e R s m args below meth c Z EL own n0 Q mk sf h cells slots (mkF m pc L (.int x :: .int j :: .ref a :: S)) := by
  subst hq hj hz
  intro T locs k n' vm0 k0 X hk hn' eT N hZ hown hS0 hk0 hC hB hF
  have hsafe := SfOk.safe (mk := mk) (sf := sf) hsf hZ.alike hB hF
  obtain ⟨hlt, k', cl, Ar, q1, hS, hM, H, G⟩ := A
  have e1 := ofNat_nat (n := i) (by omega)
  have e2 := ofNat_nat hlt
  have hin : ¬ (Int32.ofNat i < 0 ∨ cl.slots.size ≤ (Int32.ofNat i).toNatClampNeg) := by
    rw [e1, hS, e2]; exact fun q => q.elim (ofNat_neg (by omega)) (by omega)
  obtain ⟨T', h', X', e', W, st⟩ := stB X C.1 (show Z.Warmed39 (s.setVm vm0).vm from hZ) eT Ar (j := Int32.ofNat i) (x := x) hin (g := mkF m pc L (.int x :: .int (Int32.ofNat i) :: .ref a :: S)) rfl rfl (hb C.2.1 hd)
  have V := Arv.set Ar q1 hS hM H G (fits_nar_byte _) W i e1 hi
  obtain ⟨H', hB'⟩ := hC.1.wrStep W hsafe
  obtain ⟨t, o, r1, r⟩ := K h' (by rw [e1] at W; exact W) ⟨by simpa using hlt, k', by rw [List.length_set]; exact V⟩ T' _ k n' vm0 k0 X' hk hn' e' (Fr.snoc X' N hge) hZ hown hS0 (by rw [W.size]; exact hk0) (hC.trans (CHr.wr W hsafe hC.1)) (fun y hy => hB y (hB' y hy)) (fun x hx => ⟨by rw [W.size]; exact (hF x hx).1, Safe.wr W hsafe hC.1 (hF x hx).2⟩)
  exact ⟨t, o, st _ r1, r⟩
theorem s_lastore (C : Cx p s m meth c Z own bytes maxL ret nm) {a : Addr} {vs : List Value} {j : Int32} {i : Nat} {x : Int64} (A : Ar Z h a .long vs) (hj : j = Int32.ofNat i) (hi : i < vs.length) (hge : n0 ≤ a) (hd : decode bytes pc = .ok (.lastore, 1)) (hq : pc + 1 = q)
    (K : ∀ h', Wr h h' a i (.long x) → Ar Z h' a .long (vs.set i (.long x)) → AtS p l e R s m args below meth c Z EL own n0 Q mk sf h' cells slots (mkF m q L S)) : AtS p l e R s m args below meth c Z EL own n0 Q mk sf h cells slots (mkF m pc L (.long x :: .int j :: .ref a :: S)) := by
  subst hq hj
  intro T locs k n' vm0 k0 X hk hn' eT N hZ hown hS0 hk0 hC hB hF
  have hsafe := SfOk.safe (mk := mk) (sf := sf) (SfOk.arr A (by decide)) hZ.alike hB hF
  obtain ⟨hlt, k', cl, Ar, q1, hS, hM, H, G⟩ := A
  have e1 := ofNat_nat (n := i) (by omega)
  have e2 := ofNat_nat hlt
  have hin : ¬ (Int32.ofNat i < 0 ∨ cl.slots.size ≤ (Int32.ofNat i).toNatClampNeg) := by
    rw [e1, hS, e2]; exact fun q => q.elim (ofNat_neg (by omega)) (by omega)
  obtain ⟨T', h', X', e', W, st⟩ := stJ X C.1 (show Z.Warmed39 (s.setVm vm0).vm from hZ) eT Ar (j := Int32.ofNat i) (x := x) hin (g := mkF m pc L (.long x :: .int (Int32.ofNat i) :: .ref a :: S)) rfl rfl (hb C.2.1 hd)
  have V := Arv.set Ar q1 hS hM H G (rfl) W i e1 hi
  obtain ⟨H', hB'⟩ := hC.1.wrStep W hsafe
  obtain ⟨t, o, r1, r⟩ := K h' (by rw [e1] at W; exact W) ⟨by simpa using hlt, k', by rw [List.length_set]; exact V⟩ T' _ k n' vm0 k0 X' hk hn' e' (Fr.snoc X' N hge) hZ hown hS0 (by rw [W.size]; exact hk0) (hC.trans (CHr.wr W hsafe hC.1)) (fun y hy => hB y (hB' y hy)) (fun x hx => ⟨by rw [W.size]; exact (hF x hx).1, Safe.wr W hsafe hC.1 (hF x hx).2⟩)
  exact ⟨t, o, st _ r1, r⟩
theorem s_retZ (C : Cx p s m meth c Z own bytes maxL ret nm) (hEL : EW Z a0 EL) {t : FieldType} {x z : Int32} (hret : ret = some t) (ht : t = .boolean ∨ t = .byte ∨ t = .char ∨ t = .short) (hz : nar t x = z) (hd : decode bytes pc = .ok (.ireturn, 1)) (hc : cells ≤ R.cells) (hs : slots ≤ R.slots) (hQ : Q (some (.int z)) h) : AtS p l e R s m args below meth c Z EL own n0 Q mk sf h cells slots (mkF m pc L (.int x :: S)) := by
  subst hz
  intro T locs k n vm0 k0 X hk hn eT N hZ hown hS hk0 hC hB hF
  obtain ⟨fs, hr, hrun, hended, hW1, hW2, hW3, hW4⟩ := X.leaveW hS (by rw [eT]; exact hk0) (v := some (.int (nar t x))) (fun h => by rw [C.2.2.2.2.2.1, hret] at h; cases h) C.2.2.2.2.2.2.1
  have hA := hC.trans (CHv.at (h := h) X hZ hEL hC.1)
  refine ⟨_, _, retN X C.1 (t := t) (C.2.2.2.2.2.1.trans hret) ht (hb C.2.1 hd) hr, hrun, hended, _, _, rfl, ⟨N, ?_⟩, ?_, hW1, hW2, hW3, hW4.mono (Nat.le_trans hk hc) (Nat.le_trans hn hs)⟩
  · show Q _ T.heap
    rw [eT]; exact hQ
  · show CHr Z EL s.vm s.heap T.vm T.heap
    rw [eT]; exact hA
theorem s_ret (C : Cx p s m meth c Z own bytes maxL ret nm) (hEL : EW Z a0 EL) {t : FieldType} {v : Value} {i : Instr} (hret : ret = some t) (hn' : narrow t v = v)
    (hi : (i = .ireturn ∧ (t = .int ∨ t = .boolean ∨ t = .byte ∨ t = .char ∨ t = .short) ∧ ∃ z, v = .int z) ∨ (i = .lreturn ∧ t = .long ∧ ∃ z, v = .long z) ∨ (i = .dreturn ∧ t = .double ∧ ∃ z, v = .double z) ∨ (i = .freturn ∧ t = .float ∧ ∃ z, v = .float z) ∨ (i = .areturn ∧ t.isReference = true ∧ v.isRef = true))
    (hd : decode bytes pc = .ok (i, 1)) (hc : cells ≤ R.cells) (hs : slots ≤ R.slots) (hQ : Q (some v) h) : AtS p l e R s m args below meth c Z EL own n0 Q mk sf h cells slots (mkF m pc L (v :: S)) := by
  intro T locs k n vm0 k0 X hk hn eT N hZ hown hS hk0 hC hB hF
  obtain ⟨fs, hr, hrun, hended, hW1, hW2, hW3, hW4⟩ := X.leaveW hS (by rw [eT]; exact hk0) (v := some v) (fun h => by rw [C.2.2.2.2.2.1, hret] at h; cases h) C.2.2.2.2.2.2.1
  have hA := hC.trans (CHv.at (h := h) X hZ hEL hC.1)
  refine ⟨_, _, retOut X C.1 (t := t) (C.2.2.2.2.2.1.trans hret) hn' hi (hb C.2.1 hd) hr, hrun, hended, _, _, rfl, ⟨N, ?_⟩, ?_, hW1, hW2, hW3, hW4.mono (Nat.le_trans hk hc) (Nat.le_trans hn hs)⟩
  · show Q _ T.heap
    rw [eT]; exact hQ
  · show CHr Z EL s.vm s.heap T.vm T.heap
    rw [eT]; exact hA
theorem s_retI (C : Cx p s m meth c Z own bytes maxL ret nm) (hEL : EW Z a0 EL) {x : Int32} (hret : ret = some .int) (hd : decode bytes pc = .ok (.ireturn, 1)) (hc : cells ≤ R.cells) (hs : slots ≤ R.slots) (hQ : Q (some (.int x)) h) : AtS p l e R s m args below meth c Z EL own n0 Q mk sf h cells slots (mkF m pc L (.int x :: S)) :=
  s_ret C hEL hret rfl (Or.inl ⟨rfl, Or.inl rfl, _, rfl⟩) hd hc hs hQ
theorem s_retJ (C : Cx p s m meth c Z own bytes maxL ret nm) (hEL : EW Z a0 EL) {x : Int64} (hret : ret = some .long) (hd : decode bytes pc = .ok (.lreturn, 1)) (hc : cells ≤ R.cells) (hs : slots ≤ R.slots) (hQ : Q (some (.long x)) h) : AtS p l e R s m args below meth c Z EL own n0 Q mk sf h cells slots (mkF m pc L (.long x :: S)) :=
  s_ret C hEL hret rfl (Or.inr (Or.inl ⟨rfl, rfl, _, rfl⟩)) hd hc hs hQ
theorem s_retA (C : Cx p s m meth c Z own bytes maxL ret nm) (hEL : EW Z a0 EL) {t : FieldType} {v : Value} (hret : ret = some t) (ht : t.isReference = true) (hv : v.isRef = true) (hd : decode bytes pc = .ok (.areturn, 1)) (hc : cells ≤ R.cells) (hs : slots ≤ R.slots) (hQ : Q (some v) h) : AtS p l e R s m args below meth c Z EL own n0 Q mk sf h cells slots (mkF m pc L (v :: S)) :=
  s_ret C hEL hret (by rcases ref_cases hv with rfl | ⟨a, rfl⟩ <;> cases t <;> first | rfl | cases ht) (Or.inr (Or.inr (Or.inr (Or.inr ⟨rfl, ht, hv⟩)))) hd hc hs hQ
theorem s_retV (C : Cx p s m meth c Z own bytes maxL ret nm) (hEL : EW Z a0 EL) (hret : ret = none) (hd : decode bytes pc = .ok (.return_, 1)) (hc : cells ≤ R.cells) (hs : slots ≤ R.slots) (hQ : Q none h) : AtS p l e R s m args below meth c Z EL own n0 Q mk sf h cells slots (mkF m pc L []) := by
  intro T locs k n vm0 k0 X hk hn eT N hZ hown hS hk0 hC hB hF
  obtain ⟨fs, hr, hrun, hended, hW1, hW2, hW3, hW4⟩ := X.leaveW hS (by rw [eT]; exact hk0) (v := none) (fun h => by rfl) C.2.2.2.2.2.2.1
  have hA := hC.trans (CHv.at (h := h) X hZ hEL hC.1)
  refine ⟨_, _, X.returnOut C.1 (C.2.2.2.2.2.1.trans hret) (hb C.2.1 hd) hr, hrun, hended, _, _, rfl, ⟨N, ?_⟩, ?_, hW1, hW2, hW3, hW4.mono (Nat.le_trans hk hc) (Nat.le_trans hn hs)⟩
  · show Q _ T.heap
    rw [eT]; exact hQ
  · show CHr Z EL s.vm s.heap T.vm T.heap
    rw [eT]; exact hA

theorem s_callS1 (C : Cx p s m meth c Z own bytes maxL ret nm) {y : MethodName} {i : Nat} {argsL : List Value} {bytesY : ByteArray} {maxY : Nat} {retY : Option FieldType} {rm : Room} {Qy : Option Value → Heap → Prop} (w1 : (Jvm.Cond.methodLink own i y).before a0 Z = true) (w2 : (Jvm.Cond.static y).before a0 Z = true) (wz : (Jvm.Cond.initialized y.cls).before a0 Z = true) (wc : (Jvm.Cond.code y bytesY maxY retY).before a0 Z = true)
    (hy : y.cls ≠ "java/lang/invoke/MethodHandle" ∧ y.cls ≠ "java/lang/invoke/VarHandle") (ct : Ct [] l Z n0 y bytesY maxY retY rm argsL.toArray h Qy) {S' : List Value} (hS : S' = argsL.reverse ++ S) (hlen : ∀ sig, parseMethodDescriptor y.desc = some sig → argsL.length = sig.parameters.length) (hL : L.size = maxL) (hf : rm.frames + 1 ≤ R.frames) {W : Nat} (hW : (S.map fun v => v.category).sum ≤ W) (hlo : W + (maxY + 11) + rm.locals ≤ R.locals) {cells' slots' : Nat} (hc1 : cells + rm.cells = cells') (hs1 : slots + rm.slots = slots') (hc : cells' ≤ R.cells) (hl : slots' ≤ R.slots) {wl : List Addr} (hKp : ∀ v h', Qy v h' → Keep h h' wl) (hSf : ∀ x ∈ wl, SfOk Z h mk sf x)
    (hd : decode bytes pc = .ok (.invokestatic i, 3)) (hq : pc + 3 = q) (K : ∀ v h', Qy v h' → AtS p l e R s m args below meth c Z EL own n0 Q mk sf h' cells' slots' (mkF m q L (v.toList ++ S))) : AtS p l e R s m args below meth c Z EL own n0 Q mk sf h cells slots (mkF m pc L S') := by
  subst hq hc1 hs1
  intro T locs k n' vm0 k0 X hk hn' eT N hZ hown hS0 hk0 hC hB hF
  obtain ⟨v, _, ⟨T', L', k', n''⟩, -, X', ⟨Lc, hQ, hl', hc', hs'⟩, st⟩ := Jvm.LawKit.callS X C.1 (y := y) hown (mvT (s := s.setVm vm0) hZ w1) (mvT (s := s.setVm vm0) hZ w2) (mvT (s := s.setVm vm0) hZ wz) (mvT (s := s.setVm vm0) hZ wc) hy (backOf (s := s.setVm vm0) (W := W) (Q := fun v h L => Fr n0 L ∧ Qy v h) ct hZ wc wz hf hlo) (g := mkF m pc L S') rfl (hL.trans C.2.2.1.symm) (argsL := argsL) (rest := S) hlen hS (by show 2 * 0 + _ ≤ _; omega) (hb C.2.1 hd) (fun _ _ => ⟨rfl, eT, (by show k + _ ≤ _; omega), (by show n' + _ ≤ _; omega)⟩)
  dsimp only [Pt.U, Pt.locs, Pt.cells, Pt.slots] at X' hl' hc' hs' st hQ
  subst hl' hc' hs'
  have hKp' := hKp v T'.heap hQ.2
  have hsafe : ∀ x ∈ wl, Safe Z EL vm0 h x := fun x hx => (hSf x hx).safe hZ.alike hB hF
  obtain ⟨H', hB'⟩ := hC.1.keepStep hKp' hsafe
  obtain ⟨t, o, r1, r⟩ := K v T'.heap hQ.2 T' _ _ _ vm0 k0 X' (by omega) (by omega) rfl (Fr.app N hQ.1) hZ hown hS0 (Nat.le_trans hk0 hKp'.1) (hC.trans (CHr.keep hKp' hsafe hC.1)) (fun y hy => hB y (hB' y hy)) (fun x hx => ⟨Nat.lt_of_lt_of_le (hF x hx).1 hKp'.1, (hF x hx).2.keep hKp' hsafe hC.1⟩)
  exact ⟨t, o, st _ r1, r⟩
theorem s_callI1 (C : Cx p s m meth c Z own bytes maxL ret nm) {y : MethodName} {i : Nat} {a : Addr} {argsL : List Value} {bytesY : ByteArray} {maxY : Nat} {rm : Room} {Qy : Option Value → Heap → Prop} (hnm : y.name = "<init>") (w1 : (Jvm.Cond.methodLink own i y).before a0 Z = true) (w2 : (Jvm.Cond.instanceMethod y).before a0 Z = true) (wz : (Jvm.Cond.initialized y.cls).before a0 Z = true) (wc : (Jvm.Cond.code y bytesY maxY none).before a0 Z = true)
    (hy : y.cls ≠ "java/lang/invoke/MethodHandle" ∧ y.cls ≠ "java/lang/invoke/VarHandle") (ct : Ct [] l Z n0 y bytesY maxY none rm (.ref a :: argsL).toArray h Qy) {S' : List Value} (hS : S' = argsL.reverse ++ .ref a :: S) (hlen : ∀ sig, parseMethodDescriptor y.desc = some sig → argsL.length = sig.parameters.length) (hL : L.size = maxL) (hf : rm.frames + 1 ≤ R.frames) {W : Nat} (hW : (S.map fun v => v.category).sum ≤ W) (hlo : W + (maxY + 11) + rm.locals ≤ R.locals) {cells' slots' : Nat} (hc1 : cells + rm.cells = cells') (hs1 : slots + rm.slots = slots') (hc : cells' ≤ R.cells) (hl : slots' ≤ R.slots) {wl : List Addr} (hKp : ∀ v h', Qy v h' → Keep h h' wl) (hSf : ∀ x ∈ wl, SfOk Z h mk sf x)
    (hd : decode bytes pc = .ok (.invokespecial i, 3)) (hq : pc + 3 = q) (K : ∀ v h', Qy v h' → AtS p l e R s m args below meth c Z EL own n0 Q mk sf h' cells' slots' (mkF m q L (v.toList ++ S))) : AtS p l e R s m args below meth c Z EL own n0 Q mk sf h cells slots (mkF m pc L S') := by
  subst hq hc1 hs1
  intro T locs k n' vm0 k0 X hk hn' eT N hZ hown hS0 hk0 hC hB hF
  obtain ⟨v, _, ⟨T', L', k', n''⟩, -, X', ⟨Lc, hQ, hl', hc', hs'⟩, st⟩ := X.specialBack C.1 (y := y) hnm hown (mvT (s := s.setVm vm0) hZ w1) (mvT (s := s.setVm vm0) hZ w2) (mvT (s := s.setVm vm0) hZ wc) hy (backOf (s := s.setVm vm0) (W := W) (Q := fun v h L => Fr n0 L ∧ Qy v h) ct hZ wc wz hf hlo) (g := mkF m pc L S') rfl (hL.trans C.2.2.1.symm) (Steps.refl _) (a := a) (argsL := argsL) (rest := S) hlen hS (by show 2 * 0 + _ ≤ _; omega) (hb C.2.1 hd) (fun _ _ => ⟨rfl, eT, (by show k + _ ≤ _; omega), (by show n' + _ ≤ _; omega)⟩)
  dsimp only [Pt.U, Pt.locs, Pt.cells, Pt.slots] at X' hl' hc' hs' st hQ
  subst hl' hc' hs'
  have hKp' := hKp v T'.heap hQ.2
  have hsafe : ∀ x ∈ wl, Safe Z EL vm0 h x := fun x hx => (hSf x hx).safe hZ.alike hB hF
  obtain ⟨H', hB'⟩ := hC.1.keepStep hKp' hsafe
  obtain ⟨t, o, r1, r⟩ := K v T'.heap hQ.2 T' _ _ _ vm0 k0 X' (by omega) (by omega) rfl (Fr.app N hQ.1) hZ hown hS0 (Nat.le_trans hk0 hKp'.1) (hC.trans (CHr.keep hKp' hsafe hC.1)) (fun y hy => hB y (hB' y hy)) (fun x hx => ⟨Nat.lt_of_lt_of_le (hF x hx).1 hKp'.1, (hF x hx).2.keep hKp' hsafe hC.1⟩)
  exact ⟨t, o, st.trans r1, r⟩
theorem s_callV1 (C : Cx p s m meth c Z own bytes maxL ret nm) {y z : MethodName} {Cl : String} {i : Nat} {a : Addr} {argsL : List Value} {bytesY : ByteArray} {maxY : Nat} {retY : Option FieldType} {rm : Room} {Qy : Option Value → Heap → Prop} (E : Exa Z h a Cl) (w1 : (Jvm.Cond.methodLink own i y).before a0 Z = true) (w2 : (Jvm.Cond.declares y).before a0 Z = true) (hnf : ∀ vm0, Z.Warmed39 vm0 → NotFace (s.setVm vm0) y) (w3 : (Jvm.Cond.selects Cl y z).before a0 Z = true) (w4 : (Jvm.Cond.instanceMethod z).before a0 Z = true) (wz : (Jvm.Cond.initialized z.cls).before a0 Z = true) (wc : (Jvm.Cond.code z bytesY maxY retY).before a0 Z = true)
    (hy : y.cls ≠ "java/lang/invoke/MethodHandle" ∧ y.cls ≠ "java/lang/invoke/VarHandle") (ct : Ct [] l Z n0 z bytesY maxY retY rm (.ref a :: argsL).toArray h Qy) {S' : List Value} (hS : S' = argsL.reverse ++ .ref a :: S) (hlen : ∀ sig, parseMethodDescriptor y.desc = some sig → argsL.length = sig.parameters.length) (hL : L.size = maxL) (hf : rm.frames + 1 ≤ R.frames) {W : Nat} (hW : (S.map fun v => v.category).sum ≤ W) (hlo : W + (maxY + 11) + rm.locals ≤ R.locals) {cells' slots' : Nat} (hc1 : cells + rm.cells = cells') (hs1 : slots + rm.slots = slots') (hc : cells' ≤ R.cells) (hl : slots' ≤ R.slots) {wl : List Addr} (hKp : ∀ v h', Qy v h' → Keep h h' wl) (hSf : ∀ x ∈ wl, SfOk Z h mk sf x)
    (hd : decode bytes pc = .ok (.invokevirtual i, 3)) (hq : pc + 3 = q) (K : ∀ v h', Qy v h' → AtS p l e R s m args below meth c Z EL own n0 Q mk sf h' cells' slots' (mkF m q L (v.toList ++ S))) : AtS p l e R s m args below meth c Z EL own n0 Q mk sf h cells slots (mkF m pc L S') := by
  subst hq hc1 hs1
  intro T locs k n' vm0 k0 X hk hn' eT N hZ hown hS0 hk0 hC hB hF
  obtain ⟨cB, kB, q1, q2, q3⟩ := isOf (s := s.setVm vm0) hZ eT E
  obtain ⟨v, _, ⟨T', L', k', n''⟩, -, X', ⟨Lc, hQ, hl', hc', hs'⟩, st⟩ := X.virtualBack C.1 (y := y) (z := z) hown (mvT (s := s.setVm vm0) hZ w1) (mvT (s := s.setVm vm0) hZ w2) (hnf vm0 hZ) (mvT (s := s.setVm vm0) hZ w3) (mvT (s := s.setVm vm0) hZ w4) hy (backOf (s := s.setVm vm0) (W := W) (Q := fun v h L => Fr n0 L ∧ Qy v h) ct hZ wc wz hf hlo) q1 q3 (g := mkF m pc L S') rfl (hL.trans C.2.2.1.symm) (Steps.refl _) (argsL := argsL) (rest := S) hlen hS (by show 2 * 0 + _ ≤ _; omega) (hb C.2.1 hd) (fun _ _ => ⟨rfl, eT, (by show k + _ ≤ _; omega), (by show n' + _ ≤ _; omega)⟩)
  dsimp only [Pt.U, Pt.locs, Pt.cells, Pt.slots] at X' hl' hc' hs' st hQ
  subst hl' hc' hs'
  have hKp' := hKp v T'.heap hQ.2
  have hsafe : ∀ x ∈ wl, Safe Z EL vm0 h x := fun x hx => (hSf x hx).safe hZ.alike hB hF
  obtain ⟨H', hB'⟩ := hC.1.keepStep hKp' hsafe
  obtain ⟨t, o, r1, r⟩ := K v T'.heap hQ.2 T' _ _ _ vm0 k0 X' (by omega) (by omega) rfl (Fr.app N hQ.1) hZ hown hS0 (Nat.le_trans hk0 hKp'.1) (hC.trans (CHr.keep hKp' hsafe hC.1)) (fun y hy => hB y (hB' y hy)) (fun x hx => ⟨Nat.lt_of_lt_of_le (hF x hx).1 hKp'.1, (hF x hx).2.keep hKp' hsafe hC.1⟩)
  exact ⟨t, o, st.trans r1, r⟩
theorem s_callP1 (C : Cx p s m meth c Z own bytes maxL ret nm) {y : MethodName} {Cl : String} {i : Nat} {a : Addr} {argsL : List Value} {bytesY : ByteArray} {maxY : Nat} {retY : Option FieldType} {rm : Room} {Qy : Option Value → Heap → Prop} (E : Exa Z h a Cl) (w1 : (Jvm.Cond.methodLink own i y).before a0 Z = true) (w4 : (Jvm.Cond.instanceMethod y).before a0 Z = true) (hni : ∀ vm0, Z.Warmed39 vm0 → NI (s.setVm vm0) y.cls) (w5 : (Jvm.Cond.privateMethod y).before a0 Z = true) (wz : (Jvm.Cond.initialized y.cls).before a0 Z = true) (wc : (Jvm.Cond.code y bytesY maxY retY).before a0 Z = true)
    (hy : y.cls ≠ "java/lang/invoke/MethodHandle" ∧ y.cls ≠ "java/lang/invoke/VarHandle") (ct : Ct [] l Z n0 y bytesY maxY retY rm (.ref a :: argsL).toArray h Qy) {S' : List Value} (hS : S' = argsL.reverse ++ .ref a :: S) (hlen : ∀ sig, parseMethodDescriptor y.desc = some sig → argsL.length = sig.parameters.length) (hL : L.size = maxL) (hf : rm.frames + 1 ≤ R.frames) {W : Nat} (hW : (S.map fun v => v.category).sum ≤ W) (hlo : W + (maxY + 11) + rm.locals ≤ R.locals) {cells' slots' : Nat} (hc1 : cells + rm.cells = cells') (hs1 : slots + rm.slots = slots') (hc : cells' ≤ R.cells) (hl : slots' ≤ R.slots) {wl : List Addr} (hKp : ∀ v h', Qy v h' → Keep h h' wl) (hSf : ∀ x ∈ wl, SfOk Z h mk sf x)
    (hd : decode bytes pc = .ok (.invokevirtual i, 3)) (hq : pc + 3 = q) (K : ∀ v h', Qy v h' → AtS p l e R s m args below meth c Z EL own n0 Q mk sf h' cells' slots' (mkF m q L (v.toList ++ S))) : AtS p l e R s m args below meth c Z EL own n0 Q mk sf h cells slots (mkF m pc L S') := by
  subst hq hc1 hs1
  intro T locs k n' vm0 k0 X hk hn' eT N hZ hown hS0 hk0 hC hB hF
  obtain ⟨cq, q1, q2⟩ := E.cell
  obtain ⟨cN, kN, n1, n2, n3⟩ := hni vm0 hZ
  have hpv := Cond.privateMethod_at (mvP (s := s.setVm vm0) hZ w5 (args := #[]))
  obtain ⟨v, _, ⟨T', L', k', n''⟩, -, X', ⟨Lc, hQ, hl', hc', hs'⟩, st⟩ := X.privateBack C.1 (y := y) hown (mvT (s := s.setVm vm0) hZ w1) (mvT (s := s.setVm vm0) hZ w4) (selects_self_of_private n1 n2 n3 hpv (mvT (s := s.setVm vm0) hZ w4) hy) hpv (mvT (s := s.setVm vm0) hZ wc) hy (backOf (s := s.setVm vm0) (W := W) (Q := fun v h L => Fr n0 L ∧ Qy v h) ct hZ wc wz hf hlo) (g := mkF m pc L S') rfl (hL.trans C.2.2.1.symm) (Steps.refl _) (a := a) (by rw [eT]; exact q1) q2 (argsL := argsL) (rest := S) hlen hS (by show 2 * 0 + _ ≤ _; omega) (hb C.2.1 hd) (fun _ _ => ⟨rfl, eT, (by show k + _ ≤ _; omega), (by show n' + _ ≤ _; omega)⟩)
  dsimp only [Pt.U, Pt.locs, Pt.cells, Pt.slots] at X' hl' hc' hs' st hQ
  subst hl' hc' hs'
  have hKp' := hKp v T'.heap hQ.2
  have hsafe : ∀ x ∈ wl, Safe Z EL vm0 h x := fun x hx => (hSf x hx).safe hZ.alike hB hF
  obtain ⟨H', hB'⟩ := hC.1.keepStep hKp' hsafe
  obtain ⟨t, o, r1, r⟩ := K v T'.heap hQ.2 T' _ _ _ vm0 k0 X' (by omega) (by omega) rfl (Fr.app N hQ.1) hZ hown hS0 (Nat.le_trans hk0 hKp'.1) (hC.trans (CHr.keep hKp' hsafe hC.1)) (fun y hy => hB y (hB' y hy)) (fun x hx => ⟨Nat.lt_of_lt_of_le (hF x hx).1 hKp'.1, (hF x hx).2.keep hKp' hsafe hC.1⟩)
  exact ⟨t, o, st.trans r1, r⟩
theorem s_callS2 (C : Cx p s m meth c Z own bytes maxL ret nm) (hEL : EW Z a0 EL) {y : MethodName} {i : Nat} {argsL : List Value} {bytesY : ByteArray} {maxY : Nat} {retY : Option FieldType} {rm : Room} {Qy : Option Value → Heap → Prop} (w1 : (Jvm.Cond.methodLink own i y).before a0 Z = true) (w2 : (Jvm.Cond.static y).before a0 Z = true) (wz : (Jvm.Cond.initialized y.cls).before a0 Z = true) (wc : (Jvm.Cond.code y bytesY maxY retY).before a0 Z = true)
    (hy : y.cls ≠ "java/lang/invoke/MethodHandle" ∧ y.cls ≠ "java/lang/invoke/VarHandle") (ct : Cs [] l Z EL n0 y bytesY maxY retY rm argsL.toArray h Qy) {S' : List Value} (hS : S' = argsL.reverse ++ S) (hlen : ∀ sig, parseMethodDescriptor y.desc = some sig → argsL.length = sig.parameters.length) (hL : L.size = maxL) (hf : rm.frames + 1 ≤ R.frames) {W : Nat} (hW : (S.map fun v => v.category).sum ≤ W) (hlo : W + (maxY + 11) + rm.locals ≤ R.locals) {cells' slots' : Nat} (hc1 : cells + rm.cells = cells') (hs1 : slots + rm.slots = slots') (hc : cells' ≤ R.cells) (hl : slots' ≤ R.slots) 
    (hd : decode bytes pc = .ok (.invokestatic i, 3)) (hq : pc + 3 = q) (K : ∀ v h', Qy v h' → AtS p l e R s m args below meth c Z EL own n0 Q h'.size sf h' cells' slots' (mkF m q L (v.toList ++ S))) : AtS p l e R s m args below meth c Z EL own n0 Q mk sf h cells slots (mkF m pc L S') := by
  subst hq hc1 hs1
  intro T locs k n' vm0 k0 X hk hn' eT N hZ hown hS0 hk0 hC hB hF
  obtain ⟨v, _, ⟨T', L', k', n''⟩, -, X', hSn, hgr, ⟨Lc, hQ, hl', hc', hs', hCr⟩, st⟩ := callSS X C.1 (y := y) hown (mvT (s := s.setVm vm0) hZ w1) (mvT (s := s.setVm vm0) hZ w2) (mvT (s := s.setVm vm0) hZ wz) (mvT (s := s.setVm vm0) hZ wc) hy (backOfSH (W := W) (Q := fun v h L => Fr n0 L ∧ Qy v h) ct hZ wc wz hf hlo hEL hC.1) (g := mkF m pc L S') rfl (hL.trans C.2.2.1.symm) (argsL := argsL) (rest := S) hlen hS (by show 2 * 0 + _ ≤ _; omega) (hb C.2.1 hd) (fun _ _ => ⟨rfl, eT, (by show k + _ ≤ _; omega), (by show n' + _ ≤ _; omega)⟩)
  dsimp only [Pt.U, Pt.locs, Pt.cells, Pt.slots] at X' hSn hgr hl' hc' hs' st hQ hCr
  subst hl' hc' hs'
  rw [eT] at hgr
  obtain ⟨X2, hS2, hZ2, hown2⟩ := rebS hS0 hk0 X' hSn hgr (show Z.Warmed39 (s.setVm vm0).vm from hZ) hown
  obtain ⟨t, o, r1, r⟩ := K v T'.heap hQ.2 T' _ _ _ T'.vm T'.heap.size X2 (by omega) (by omega) rfl (Fr.app N hQ.1) hZ2 hown2 hS2 (Nat.le_refl _) (hC.trans hCr) (fun y hy => bk_lt hy) (fun x hx => ⟨Nat.lt_of_lt_of_le (hF x hx).1 hgr, hCr.safe (hF x hx).1 (hF x hx).2⟩)
  exact ⟨t, o, st.trans r1, r⟩
theorem s_callI2 (C : Cx p s m meth c Z own bytes maxL ret nm) (hEL : EW Z a0 EL) {y : MethodName} {i : Nat} {a : Addr} {argsL : List Value} {bytesY : ByteArray} {maxY : Nat} {rm : Room} {Qy : Option Value → Heap → Prop} (hnm : y.name = "<init>") (w1 : (Jvm.Cond.methodLink own i y).before a0 Z = true) (w2 : (Jvm.Cond.instanceMethod y).before a0 Z = true) (wz : (Jvm.Cond.initialized y.cls).before a0 Z = true) (wc : (Jvm.Cond.code y bytesY maxY none).before a0 Z = true)
    (hy : y.cls ≠ "java/lang/invoke/MethodHandle" ∧ y.cls ≠ "java/lang/invoke/VarHandle") (ct : Cs [] l Z EL n0 y bytesY maxY none rm (.ref a :: argsL).toArray h Qy) {S' : List Value} (hS : S' = argsL.reverse ++ .ref a :: S) (hlen : ∀ sig, parseMethodDescriptor y.desc = some sig → argsL.length = sig.parameters.length) (hL : L.size = maxL) (hf : rm.frames + 1 ≤ R.frames) {W : Nat} (hW : (S.map fun v => v.category).sum ≤ W) (hlo : W + (maxY + 11) + rm.locals ≤ R.locals) {cells' slots' : Nat} (hc1 : cells + rm.cells = cells') (hs1 : slots + rm.slots = slots') (hc : cells' ≤ R.cells) (hl : slots' ≤ R.slots) 
    (hd : decode bytes pc = .ok (.invokespecial i, 3)) (hq : pc + 3 = q) (K : ∀ v h', Qy v h' → AtS p l e R s m args below meth c Z EL own n0 Q h'.size sf h' cells' slots' (mkF m q L (v.toList ++ S))) : AtS p l e R s m args below meth c Z EL own n0 Q mk sf h cells slots (mkF m pc L S') := by
  subst hq hc1 hs1
  intro T locs k n' vm0 k0 X hk hn' eT N hZ hown hS0 hk0 hC hB hF
  obtain ⟨v, _, ⟨T', L', k', n''⟩, -, X', hSn, hgr, ⟨Lc, hQ, hl', hc', hs', hCr⟩, st⟩ := X.specialBackS C.1 (y := y) hnm hown (mvT (s := s.setVm vm0) hZ w1) (mvT (s := s.setVm vm0) hZ w2) (mvT (s := s.setVm vm0) hZ wc) hy (backOfSH (W := W) (Q := fun v h L => Fr n0 L ∧ Qy v h) ct hZ wc wz hf hlo hEL hC.1) (g := mkF m pc L S') rfl (hL.trans C.2.2.1.symm) (Steps.refl _) (a := a) (argsL := argsL) (rest := S) hlen hS (by show 2 * 0 + _ ≤ _; omega) (hb C.2.1 hd) (fun _ _ => ⟨rfl, eT, (by show k + _ ≤ _; omega), (by show n' + _ ≤ _; omega)⟩)
  dsimp only [Pt.U, Pt.locs, Pt.cells, Pt.slots] at X' hSn hgr hl' hc' hs' st hQ hCr
  subst hl' hc' hs'
  rw [eT] at hgr
  obtain ⟨X2, hS2, hZ2, hown2⟩ := rebS hS0 hk0 X' hSn hgr (show Z.Warmed39 (s.setVm vm0).vm from hZ) hown
  obtain ⟨t, o, r1, r⟩ := K v T'.heap hQ.2 T' _ _ _ T'.vm T'.heap.size X2 (by omega) (by omega) rfl (Fr.app N hQ.1) hZ2 hown2 hS2 (Nat.le_refl _) (hC.trans hCr) (fun y hy => bk_lt hy) (fun x hx => ⟨Nat.lt_of_lt_of_le (hF x hx).1 hgr, hCr.safe (hF x hx).1 (hF x hx).2⟩)
  exact ⟨t, o, st.trans r1, r⟩
theorem s_callV2 (C : Cx p s m meth c Z own bytes maxL ret nm) (hEL : EW Z a0 EL) {y z : MethodName} {Cl : String} {i : Nat} {a : Addr} {argsL : List Value} {bytesY : ByteArray} {maxY : Nat} {retY : Option FieldType} {rm : Room} {Qy : Option Value → Heap → Prop} (E : Exa Z h a Cl) (w1 : (Jvm.Cond.methodLink own i y).before a0 Z = true) (w2 : (Jvm.Cond.declares y).before a0 Z = true) (hnf : ∀ vm0, Z.Warmed39 vm0 → NotFace (s.setVm vm0) y) (w3 : (Jvm.Cond.selects Cl y z).before a0 Z = true) (w4 : (Jvm.Cond.instanceMethod z).before a0 Z = true) (wz : (Jvm.Cond.initialized z.cls).before a0 Z = true) (wc : (Jvm.Cond.code z bytesY maxY retY).before a0 Z = true)
    (hy : y.cls ≠ "java/lang/invoke/MethodHandle" ∧ y.cls ≠ "java/lang/invoke/VarHandle") (ct : Cs [] l Z EL n0 z bytesY maxY retY rm (.ref a :: argsL).toArray h Qy) {S' : List Value} (hS : S' = argsL.reverse ++ .ref a :: S) (hlen : ∀ sig, parseMethodDescriptor y.desc = some sig → argsL.length = sig.parameters.length) (hL : L.size = maxL) (hf : rm.frames + 1 ≤ R.frames) {W : Nat} (hW : (S.map fun v => v.category).sum ≤ W) (hlo : W + (maxY + 11) + rm.locals ≤ R.locals) {cells' slots' : Nat} (hc1 : cells + rm.cells = cells') (hs1 : slots + rm.slots = slots') (hc : cells' ≤ R.cells) (hl : slots' ≤ R.slots) 
    (hd : decode bytes pc = .ok (.invokevirtual i, 3)) (hq : pc + 3 = q) (K : ∀ v h', Qy v h' → AtS p l e R s m args below meth c Z EL own n0 Q h'.size sf h' cells' slots' (mkF m q L (v.toList ++ S))) : AtS p l e R s m args below meth c Z EL own n0 Q mk sf h cells slots (mkF m pc L S') := by
  subst hq hc1 hs1
  intro T locs k n' vm0 k0 X hk hn' eT N hZ hown hS0 hk0 hC hB hF
  obtain ⟨cB, kB, q1, q2, q3⟩ := isOf (s := s.setVm vm0) hZ eT E
  obtain ⟨v, _, ⟨T', L', k', n''⟩, -, X', hSn, hgr, ⟨Lc, hQ, hl', hc', hs', hCr⟩, st⟩ := X.virtualBackS C.1 (y := y) (z := z) hown (mvT (s := s.setVm vm0) hZ w1) (mvT (s := s.setVm vm0) hZ w2) (hnf vm0 hZ) (mvT (s := s.setVm vm0) hZ w3) (mvT (s := s.setVm vm0) hZ w4) hy (backOfSH (W := W) (Q := fun v h L => Fr n0 L ∧ Qy v h) ct hZ wc wz hf hlo hEL hC.1) q1 q3 (g := mkF m pc L S') rfl (hL.trans C.2.2.1.symm) (Steps.refl _) (argsL := argsL) (rest := S) hlen hS (by show 2 * 0 + _ ≤ _; omega) (hb C.2.1 hd) (fun _ _ => ⟨rfl, eT, (by show k + _ ≤ _; omega), (by show n' + _ ≤ _; omega)⟩)
  dsimp only [Pt.U, Pt.locs, Pt.cells, Pt.slots] at X' hSn hgr hl' hc' hs' st hQ hCr
  subst hl' hc' hs'
  rw [eT] at hgr
  obtain ⟨X2, hS2, hZ2, hown2⟩ := rebS hS0 hk0 X' hSn hgr (show Z.Warmed39 (s.setVm vm0).vm from hZ) hown
  obtain ⟨t, o, r1, r⟩ := K v T'.heap hQ.2 T' _ _ _ T'.vm T'.heap.size X2 (by omega) (by omega) rfl (Fr.app N hQ.1) hZ2 hown2 hS2 (Nat.le_refl _) (hC.trans hCr) (fun y hy => bk_lt hy) (fun x hx => ⟨Nat.lt_of_lt_of_le (hF x hx).1 hgr, hCr.safe (hF x hx).1 (hF x hx).2⟩)
  exact ⟨t, o, st.trans r1, r⟩
theorem s_callP2 (C : Cx p s m meth c Z own bytes maxL ret nm) (hEL : EW Z a0 EL) {y : MethodName} {Cl : String} {i : Nat} {a : Addr} {argsL : List Value} {bytesY : ByteArray} {maxY : Nat} {retY : Option FieldType} {rm : Room} {Qy : Option Value → Heap → Prop} (E : Exa Z h a Cl) (w1 : (Jvm.Cond.methodLink own i y).before a0 Z = true) (w4 : (Jvm.Cond.instanceMethod y).before a0 Z = true) (hni : ∀ vm0, Z.Warmed39 vm0 → NI (s.setVm vm0) y.cls) (w5 : (Jvm.Cond.privateMethod y).before a0 Z = true) (wz : (Jvm.Cond.initialized y.cls).before a0 Z = true) (wc : (Jvm.Cond.code y bytesY maxY retY).before a0 Z = true)
    (hy : y.cls ≠ "java/lang/invoke/MethodHandle" ∧ y.cls ≠ "java/lang/invoke/VarHandle") (ct : Cs [] l Z EL n0 y bytesY maxY retY rm (.ref a :: argsL).toArray h Qy) {S' : List Value} (hS : S' = argsL.reverse ++ .ref a :: S) (hlen : ∀ sig, parseMethodDescriptor y.desc = some sig → argsL.length = sig.parameters.length) (hL : L.size = maxL) (hf : rm.frames + 1 ≤ R.frames) {W : Nat} (hW : (S.map fun v => v.category).sum ≤ W) (hlo : W + (maxY + 11) + rm.locals ≤ R.locals) {cells' slots' : Nat} (hc1 : cells + rm.cells = cells') (hs1 : slots + rm.slots = slots') (hc : cells' ≤ R.cells) (hl : slots' ≤ R.slots) 
    (hd : decode bytes pc = .ok (.invokevirtual i, 3)) (hq : pc + 3 = q) (K : ∀ v h', Qy v h' → AtS p l e R s m args below meth c Z EL own n0 Q h'.size sf h' cells' slots' (mkF m q L (v.toList ++ S))) : AtS p l e R s m args below meth c Z EL own n0 Q mk sf h cells slots (mkF m pc L S') := by
  subst hq hc1 hs1
  intro T locs k n' vm0 k0 X hk hn' eT N hZ hown hS0 hk0 hC hB hF
  obtain ⟨cq, q1, q2⟩ := E.cell
  obtain ⟨cN, kN, n1, n2, n3⟩ := hni vm0 hZ
  have hpv := Cond.privateMethod_at (mvP (s := s.setVm vm0) hZ w5 (args := #[]))
  obtain ⟨v, _, ⟨T', L', k', n''⟩, -, X', hSn, hgr, ⟨Lc, hQ, hl', hc', hs', hCr⟩, st⟩ := X.privateBackS C.1 (y := y) hown (mvT (s := s.setVm vm0) hZ w1) (mvT (s := s.setVm vm0) hZ w4) (selects_self_of_private n1 n2 n3 hpv (mvT (s := s.setVm vm0) hZ w4) hy) hpv (mvT (s := s.setVm vm0) hZ wc) hy (backOfSH (W := W) (Q := fun v h L => Fr n0 L ∧ Qy v h) ct hZ wc wz hf hlo hEL hC.1) (g := mkF m pc L S') rfl (hL.trans C.2.2.1.symm) (Steps.refl _) (a := a) (by rw [eT]; exact q1) q2 (argsL := argsL) (rest := S) hlen hS (by show 2 * 0 + _ ≤ _; omega) (hb C.2.1 hd) (fun _ _ => ⟨rfl, eT, (by show k + _ ≤ _; omega), (by show n' + _ ≤ _; omega)⟩)
  dsimp only [Pt.U, Pt.locs, Pt.cells, Pt.slots] at X' hSn hgr hl' hc' hs' st hQ hCr
  subst hl' hc' hs'
  rw [eT] at hgr
  obtain ⟨X2, hS2, hZ2, hown2⟩ := rebS hS0 hk0 X' hSn hgr (show Z.Warmed39 (s.setVm vm0).vm from hZ) hown
  obtain ⟨t, o, r1, r⟩ := K v T'.heap hQ.2 T' _ _ _ T'.vm T'.heap.size X2 (by omega) (by omega) rfl (Fr.app N hQ.1) hZ2 hown2 hS2 (Nat.le_refl _) (hC.trans hCr) (fun y hy => bk_lt hy) (fun x hx => ⟨Nat.lt_of_lt_of_le (hF x hx).1 hgr, hCr.safe (hF x hx).1 (hF x hx).2⟩)
  exact ⟨t, o, st.trans r1, r⟩
theorem s_nf {y : MethodName} {Cl : String} (w3 : (Jvm.Cond.selects Cl y y).before a0 Z = true) : ∀ vm0, Z.Warmed39 vm0 → NotFace (s.setVm vm0) y := fun vm0 hZ => notFace_of_selects (args := #[]) (mvT (s := s.setVm vm0) hZ w3)
theorem s_nfs {y : MethodName} {Cl : String} (w3 : (Jvm.Cond.superclass y.cls Cl).before a0 Z = true) : ∀ vm0, Z.Warmed39 vm0 → NotFace (s.setVm vm0) y := fun vm0 hZ => nf_super (args := #[]) (mvT (s := s.setVm vm0) hZ w3)
/-- ldc of a String constant: what it spells -/
theorem s_ldc (C : Cx p s m meth c Z own bytes maxL ret nm) (hEL : EW Z a0 EL) (wS : ∀ a ∈ Bundle.stringAtoms, a.before a0 Z = true) {text : String} {i : Nat} (w : (Jvm.Cond.stringLink own i text).before a0 Z = true) (hmem : (own, i) ∈ EL) {vs : List Value} (ht : (∀ c ∈ text.toList, c.toNat < 256) ∧ text.toList.map (fun c => Value.int (Jvm.Lit.byteI c.toNat.toUInt16)) = vs) (hvl : vs.length < 2 ^ 31)
    {n : Nat} (hn1 : 4 * text.toList.length ≤ n) (hbig : n ≤ 536870912) {cells' slots' : Nat} (hc1 : cells + 2 = cells') (hs1 : slots + (n + 4) = slots') (hc : cells' ≤ R.cells) (hl : slots' ≤ R.slots)
    (hd : decode bytes pc = .ok (.ldc i, 2)) (hq : pc + 2 = q) (K : ∀ h' a b, Ext h h' → Exa Z h' a "java/lang/String" → Fld Z h' a "java/lang/String" "coder" "B" (.int 0) → Fld Z h' a "java/lang/String" "value" "[B" (.ref b) → Ar Z h' b .byte vs → (∀ x ∈ sf, x ≠ a ∧ x ≠ b) → AtS p l e R s m args below meth c Z EL own n0 Q h'.size sf h' cells' slots' (mkF m q L (.ref a :: S))) : AtS p l e R s m args below meth c Z EL own n0 Q mk sf h cells slots (mkF m pc L S) := by
  subst hq hc1 hs1
  intro T locs k n' vm0 k0 X hk hn' eT N hZ hown hS0 hk0 hC hB hF
  obtain ⟨a, T', h', k1, b, kc, X', e', E, hS1, hk1, hZ1, hown1, f1, f2, f3, f4, -, -, hCr, -, hne, st⟩ := ldcCH X C.1 hZ hown w wS eT hS0 hk0 hEL hmem hC.1 ht (ofNat_neg hvl) (ofNat_nat hvl) (g := mkF m pc L S) rfl (hb C.2.1 hd) hn1 hbig (by omega) (by omega)
  have hsf : ∀ x ∈ sf, x < h'.size ∧ Safe Z EL T'.vm h' x := fun x hx => ⟨Nat.lt_of_lt_of_le (hF x hx).1 E.1, hCr.safe (hF x hx).1 (hF x hx).2⟩
  obtain ⟨t, o, r1, r⟩ := K h' a b E f1 f2 f3 ⟨hvl, kc, f4⟩ (fun x hx => hne x (hsf x hx).2) T' _ _ _ T'.vm k1 X' (by omega) (by omega) e' N hZ1 hown1 hS1 hk1 (hC.trans hCr) (fun y hy => bk_lt hy) hsf
  exact ⟨t, o, st _ r1, r⟩
/-- ldc of a String constant of which nothing is said -/
theorem s_ldcO (C : Cx p s m meth c Z own bytes maxL ret nm) (hEL : EW Z a0 EL) (wS : ∀ a ∈ Bundle.stringAtoms, a.before a0 Z = true) {text : String} {i : Nat} (w : (Jvm.Cond.stringLink own i text).before a0 Z = true)
    {n : Nat} (hn1 : 4 * text.toList.length ≤ n) (hbig : n ≤ 536870912) {cells' slots' : Nat} (hc1 : cells + 2 = cells') (hs1 : slots + (n + 4) = slots') (hc : cells' ≤ R.cells) (hl : slots' ≤ R.slots)
    (hd : decode bytes pc = .ok (.ldc i, 2)) (hq : pc + 2 = q) (K : ∀ h' a, Ext h h' → AtS p l e R s m args below meth c Z EL own n0 Q h'.size sf h' cells' slots' (mkF m q L (.ref a :: S))) : AtS p l e R s m args below meth c Z EL own n0 Q mk sf h cells slots (mkF m pc L S) := by
  subst hq hc1 hs1
  intro T locs k n' vm0 k0 X hk hn' eT N hZ hown hS0 hk0 hC hB hF
  obtain ⟨a, T', h', k1, X', e', E, hS1, hk1, hZ1, hown1, hCr, -, st⟩ := ldcOH X C.1 hZ hown w wS eT hS0 hk0 hEL hC.1 (g := mkF m pc L S) rfl (hb C.2.1 hd) hn1 hbig (by omega) (by omega)
  have hsf : ∀ x ∈ sf, x < h'.size ∧ Safe Z EL T'.vm h' x := fun x hx => ⟨Nat.lt_of_lt_of_le (hF x hx).1 E.1, hCr.safe (hF x hx).1 (hF x hx).2⟩
  obtain ⟨t, o, r1, r⟩ := K h' a E T' _ _ _ T'.vm k1 X' (by omega) (by omega) e' N hZ1 hown1 hS1 hk1 (hC.trans hCr) (fun y hy => bk_lt hy) hsf
  exact ⟨t, o, st _ r1, r⟩
end WkS
-- CUT
def Gl (Z : State) (a0 : Array Value) (n0 : Nat) : Prop := (∀ d ∈ tables_1, d.before a0 Z = true) ∧ (∃ z : Int32, Sta Z Z.heap "java/lang/String" "COMPACT_STRINGS" "Z" (.int z) ∧ ¬ z = 0) ∧ EW Z a0 consts_1 ∧ True
theorem Gl.cs {Z : State} {a0 : Array Value} {n0 : Nat} (G : Gl Z a0 n0) : ∃ z : Int32, Sta Z Z.heap "java/lang/String" "COMPACT_STRINGS" "Z" (.int z) ∧ ¬ z = 0 := G.2.1
theorem Gl.el {Z : State} {a0 : Array Value} {n0 : Nat} (G : Gl Z a0 n0) : EW Z a0 consts_1 := G.2.2.1
theorem own_sa : ∀ d ∈ Bundle.stringAtoms, d ∈ tables_1 := by decide +kernel
theorem Gl.sa {Z : State} {a0 : Array Value} {n0 : Nat} (G : Gl Z a0 n0) : ∀ d ∈ Bundle.stringAtoms, d.before a0 Z = true := fun d hd => G.1 d (own_sa d hd)
theorem pd_1 : parseMethodDescriptor "(I)C" = some ⟨[.int], some .char⟩ := by decide +kernel
theorem pd_2 : parseMethodDescriptor "([C)V" = some ⟨[(.array .char)], none⟩ := by decide +kernel
theorem pd_3 : parseMethodDescriptor "([CIILjava/lang/Void;)V" = some ⟨[(.array .char), .int, .int, (.object "java/lang/Void")], none⟩ := by decide +kernel
theorem pd_4 : parseMethodDescriptor "()V" = some ⟨[], none⟩ := by decide +kernel
theorem pd_5 : parseMethodDescriptor "(C)Ljava/lang/String;" = some ⟨[.char], some (.object "java/lang/String")⟩ := by decide +kernel
theorem pd_6 : parseMethodDescriptor "(C)Z" = some ⟨[.char], some .boolean⟩ := by decide +kernel
theorem pd_7 : parseMethodDescriptor "(C)[B" = some ⟨[.char], some (.array .byte)⟩ := by decide +kernel
theorem pd_8 : parseMethodDescriptor "([BB)V" = some ⟨[(.array .byte), .byte], none⟩ := by decide +kernel
theorem pd_9 : parseMethodDescriptor "(ILjava/lang/String;Ljava/lang/String;Z)V" = some ⟨[.int, (.object "java/lang/String"), (.object "java/lang/String"), .boolean], none⟩ := by decide +kernel
theorem pd_10 : parseMethodDescriptor "()Z" = some ⟨[], some .boolean⟩ := by decide +kernel
theorem pd_11 : parseMethodDescriptor "(I)I" = some ⟨[.int], some .int⟩ := by decide +kernel
theorem pd_12 : parseMethodDescriptor "(II)I" = some ⟨[.int, .int], some .int⟩ := by decide +kernel
theorem pd_13 : parseMethodDescriptor "()I" = some ⟨[], some .int⟩ := by decide +kernel
theorem pd_14 : parseMethodDescriptor "()B" = some ⟨[], some .byte⟩ := by decide +kernel
theorem pd_15 : parseMethodDescriptor "([BIII)I" = some ⟨[(.array .byte), .int, .int, .int], some .int⟩ := by decide +kernel
theorem pd_16 : parseMethodDescriptor "(I)Z" = some ⟨[.int], some .boolean⟩ := by decide +kernel
theorem pd_17 : parseMethodDescriptor "([CII)[B" = some ⟨[(.array .char), .int, .int], some (.array .byte)⟩ := by decide +kernel
theorem pd_18 : parseMethodDescriptor "([CI[BII)I" = some ⟨[(.array .char), .int, (.array .byte), .int, .int], some .int⟩ := by decide +kernel
theorem pd_19 : parseMethodDescriptor "([BI)B" = some ⟨[(.array .byte), .int], some .byte⟩ := by decide +kernel
theorem own_fill (cs : List Int32) (i k : Nat) (c : Int32) (h : cs[i]? = some c) : (own_bs (cs.take i) ++ List.replicate (k + 1) (Value.int (0 : Int32))).set i (.int c.toInt8.toInt32) = own_bs (cs.take (i + 1)) ++ List.replicate k (Value.int (0 : Int32)) := by
  obtain ⟨hi, hg⟩ := List.getElem?_eq_some_iff.mp h
  have hl : (own_bs (cs.take i)).length = i := by rw [own_bs_len, List.length_take]; omega
  rw [List.set_append_right _ _ (by omega), hl, Nat.sub_self, List.replicate_succ, List.set_cons_zero, List.take_add_one, h]
  simp [own_bs]

theorem d22_0 : decode jdk_52_method_21_code 0 = .ok (.iconst 0, 1) := by decide +kernel
theorem d22_1 : decode jdk_52_method_21_code 1 = .ok (.istore 5, 2) := by decide +kernel
theorem d22_3 : decode jdk_52_method_21_code 3 = .ok (.iload 5, 2) := by decide +kernel
theorem d22_5 : decode jdk_52_method_21_code 5 = .ok (.iload 4, 2) := by decide +kernel
theorem d22_7 : decode jdk_52_method_21_code 7 = .ok (.if_icmp .ge 37, 3) := by decide +kernel
theorem d22_10 : decode jdk_52_method_21_code 10 = .ok (.aload_n 0, 1) := by decide +kernel
theorem d22_11 : decode jdk_52_method_21_code 11 = .ok (.iload_n 1, 1) := by decide +kernel
theorem d22_12 : decode jdk_52_method_21_code 12 = .ok (.caload, 1) := by decide +kernel
theorem d22_13 : decode jdk_52_method_21_code 13 = .ok (.istore 6, 2) := by decide +kernel
theorem d22_15 : decode jdk_52_method_21_code 15 = .ok (.iload 6, 2) := by decide +kernel
theorem d22_17 : decode jdk_52_method_21_code 17 = .ok (.sipush 255, 3) := by decide +kernel
theorem d22_20 : decode jdk_52_method_21_code 20 = .ok (.if_icmp .le 6, 3) := by decide +kernel
theorem d22_23 : decode jdk_52_method_21_code 23 = .ok (.iload 5, 2) := by decide +kernel
theorem d22_25 : decode jdk_52_method_21_code 25 = .ok (.ireturn, 1) := by decide +kernel
theorem d22_26 : decode jdk_52_method_21_code 26 = .ok (.aload_n 2, 1) := by decide +kernel
theorem d22_27 : decode jdk_52_method_21_code 27 = .ok (.iload_n 3, 1) := by decide +kernel
theorem d22_28 : decode jdk_52_method_21_code 28 = .ok (.iload 6, 2) := by decide +kernel
theorem d22_30 : decode jdk_52_method_21_code 30 = .ok (.i2b, 1) := by decide +kernel
theorem d22_31 : decode jdk_52_method_21_code 31 = .ok (.bastore, 1) := by decide +kernel
theorem d22_32 : decode jdk_52_method_21_code 32 = .ok (.iinc 1 1, 3) := by decide +kernel
theorem d22_35 : decode jdk_52_method_21_code 35 = .ok (.iinc 3 1, 3) := by decide +kernel
theorem d22_38 : decode jdk_52_method_21_code 38 = .ok (.iinc 5 1, 3) := by decide +kernel
theorem d22_41 : decode jdk_52_method_21_code 41 = .ok (.goto (-38), 3) := by decide +kernel
theorem d22_44 : decode jdk_52_method_21_code 44 = .ok (.iload 4, 2) := by decide +kernel
theorem d22_46 : decode jdk_52_method_21_code 46 = .ok (.ireturn, 1) := by decide +kernel
theorem pf22 : plainFor (⟨"java/lang/StringUTF16", "compress", "([CI[BII)I"⟩ : MethodName) = true := by first | exact plainFor_of_name (by first | (simp [plainName, overriddenIn]; done) | decide +kernel) | decide +kernel
theorem ef_comp5 (m : MethodId) (z0 : Addr) (z1 : Int32) (z2 : Addr) (z3 : Int32) (z4 : Int32) : entryFrame m #[(.ref z0), (.int z1), (.ref z2), (.int z3), (.int z4)] 7 = mkF m 0 #[.val (.ref z0), .val (.int z1), .val (.ref z2), .val (.int z3), .val (.int z4), .unset, .unset] [] := by first | rfl | (simp [entryFrame, mkF, argsToLocals, Value.category, *]; done) | rfl
set_option maxRecDepth 65536 in
set_option maxHeartbeats 40000000 in
theorem rm_comp5 {l : Launch} {Z : State} {a0 : Array Value} {n0 : Nat} (G : Gl Z a0 n0) {h0 : Heap} (O : Old Z n0 h0) (a : Addr) (cs : List Int32) (t : Addr) (A : Ar Z h0 a .char (cs.map Value.int)) (hr : L1 cs) (B : Ar Z h0 t .byte (List.replicate cs.length (Value.int (0 : Int32)))) (hne : a ≠ t) (hge : n0 ≤ t) :
    Ct [] l Z n0 (⟨"java/lang/StringUTF16", "compress", "([CI[BII)I"⟩ : MethodName) jdk_52_method_21_code 7 (some .int) ({ frames := 0, cells := 0, slots := 0, locals := 0 } : Room) #[(.ref a), (.int (0 : Int32)), (.ref t), (.int (0 : Int32)), (.int (Int32.ofNat cs.length))] h0 (fun v h => Keep h0 h [t] ∧ v = some (.int (Int32.ofNat cs.length)) ∧ Ar Z h t .byte (own_bs cs)) := by
  refine Ct.intro pf22 ?_
  intro p e s m below meth c C
  refine AtW.cast ?_ (ef_comp5 m a (0 : Int32) t (0 : Int32) (Int32.ofNat cs.length))
  have hl : cs.length < 2 ^ 31 := by have := A.1; rw [List.length_map] at this; exact this
  have LOOP : ∀ (k i : Nat) (h1 : Heap) (s6 : Slot), i + k = cs.length → One s6 → Keep h0 h1 [t] → Ar Z h1 t .byte (own_bs (cs.take i) ++ List.replicate k (Value.int (0 : Int32))) → AtW p l e ({ frames := 0, cells := 0, slots := 0, locals := 0 } : Room) s m #[(.ref a), (.int (0 : Int32)), (.ref t), (.int (0 : Int32)), (.int (Int32.ofNat cs.length))] below meth c n0 (fun v h => Keep h0 h [t] ∧ v = some (.int (Int32.ofNat cs.length)) ∧ Ar Z h t .byte (own_bs cs)) h1 0 0 (mkF m 3 #[.val (.ref a), .val (.int (Int32.ofNat i)), .val (.ref t), .val (.int (Int32.ofNat i)), .val (.int (Int32.ofNat cs.length)), .val (.int (Int32.ofNat i)), s6] []) := by
    intro k
    induction k with
    | zero =>
      intro i h1 s6 hik hs K V
      obtain rfl : i = cs.length := by omega
      refine w_iload (q := 5) C rfl d22_3 rfl ?_
      refine w_iload (q := 7) C rfl d22_5 rfl ?_
      refine w_icmp_ge_t (q := 44) C d22_7 (by decide) (by decide) (fun q => Nat.lt_irrefl _ ((own_nlt hl hl).mp q)) ?_
      refine w_iload (q := 46) C rfl d22_44 rfl ?_
      exact w_retI C rfl d22_46 (by decide) (by decide) ⟨K, rfl, by simpa using V⟩
    | succ k ih =>
      intro i h1 s6 hik hs K V
      have hil : i < cs.length := by omega
      obtain ⟨ch, hch⟩ : ∃ ch, cs[i]? = some ch := ⟨_, List.getElem?_eq_getElem hil⟩
      have hc := hr.get hch
      refine w_iload (q := 5) C rfl d22_3 rfl ?_
      refine w_iload (q := 7) C rfl d22_5 rfl ?_
      refine w_icmp_ge_f (q := 10) C d22_7 rfl ((own_nlt (by omega) hl).mpr hil) ?_
      refine w_aloadN (q := 11) C rfl rfl d22_10 rfl ?_
      refine w_iloadN (q := 12) C rfl d22_11 rfl ?_
      refine w_caload (q := 13) (i := i) (v := (.int ch)) C (A.keep K (ninS hne nin0)) rfl (by simp [hch]) d22_12 rfl ?_
      refine w_istore (q := 15) (L' := #[.val (.ref a), .val (.int (Int32.ofNat i)), .val (.ref t), .val (.int (Int32.ofNat i)), .val (.int (Int32.ofNat cs.length)), .val (.int (Int32.ofNat i)), .val (.int ch)]) C (Jvm.Free.XS.store1 (o := s6) rfl hs rfl) d22_13 rfl ?_
      refine w_iload (q := 17) C rfl d22_15 rfl ?_
      refine w_sipush (q := 20) (v := (255 : Int32)) C (by rfl) d22_17 rfl ?_
      refine w_icmp_le_t (q := 26) C d22_20 (by decide) (by decide) hc.2 ?_
      refine w_aloadN (q := 27) C rfl rfl d22_26 rfl ?_
      refine w_iloadN (q := 28) C rfl d22_27 rfl ?_
      refine w_iload (q := 30) C rfl d22_28 rfl ?_
      refine w_i2b (q := 31) C rfl d22_30 rfl ?_
      refine w_bastore (q := 32) (z := ch.toInt8.toInt32) (i := i) C (own_nar8 ch) V rfl (by simp [own_bs_len]; omega) hge d22_31 rfl ?_
      intro h1 Wh1 Vh1
      rw [own_fill cs i k ch hch] at Vh1
      refine w_iinc (q := 35) (L' := #[.val (.ref a), .val (.int (Int32.ofNat (i + 1))), .val (.ref t), .val (.int (Int32.ofNat i)), .val (.int (Int32.ofNat cs.length)), .val (.int (Int32.ofNat i)), .val (.int ch)]) C rfl (own_one i) rfl d22_32 rfl ?_
      refine w_iinc (q := 38) (L' := #[.val (.ref a), .val (.int (Int32.ofNat (i + 1))), .val (.ref t), .val (.int (Int32.ofNat (i + 1))), .val (.int (Int32.ofNat cs.length)), .val (.int (Int32.ofNat i)), .val (.int ch)]) C rfl (own_one i) rfl d22_35 rfl ?_
      refine w_iinc (q := 41) (L' := #[.val (.ref a), .val (.int (Int32.ofNat (i + 1))), .val (.ref t), .val (.int (Int32.ofNat (i + 1))), .val (.int (Int32.ofNat cs.length)), .val (.int (Int32.ofNat (i + 1))), .val (.int ch)]) C rfl (own_one i) rfl d22_38 rfl ?_
      refine w_goto (q := 3) C d22_41 (by decide) (by decide) ?_
      exact ih (i + 1) h1 _ (by omega) (One.val rfl) (K.wr Wh1 (Or.inl (List.mem_cons_self ..))) Vh1
  refine w_iconst (q := 1) (v := (0 : Int32)) C (by rfl) d22_0 rfl ?_
  refine w_istore (q := 3) (L' := #[.val (.ref a), .val (.int (0 : Int32)), .val (.ref t), .val (.int (0 : Int32)), .val (.int (Int32.ofNat cs.length)), .val (.int (0 : Int32)), .unset]) C rfl d22_1 rfl ?_
  exact LOOP cs.length 0 h0 .unset (by omega) One.u (Keep.refl _ _) (by simpa [own_bs] using B)
theorem own_K1 {h0 h1 h2 : Heap} {t : Addr} (K1 : Keep h0 h1 []) (K2 : Keep h1 h2 [t]) (g : h0.size ≤ t) : Keep h0 h2 [] := K1.trans K2 (allS (P := fun x => x ∈ [] ∨ h0.size ≤ x) (Or.inr g) all0)
theorem own_K0 {h0 h1 h2 : Heap} {ws : List Addr} (K1 : Keep h0 h1 ws) (K2 : Keep h1 h2 []) : Keep h0 h2 ws := K1.trans K2 (all0 (P := fun x => x ∈ ws ∨ h0.size ≤ x))

theorem d21_0 : decode jdk_52_method_16_code 0 = .ok (.iload_n 2, 1) := by decide +kernel
theorem d21_1 : decode jdk_52_method_16_code 1 = .ok (.newarray .byte, 2) := by decide +kernel
theorem d21_3 : decode jdk_52_method_16_code 3 = .ok (.astore_n 3, 1) := by decide +kernel
theorem d21_4 : decode jdk_52_method_16_code 4 = .ok (.aload_n 0, 1) := by decide +kernel
theorem d21_5 : decode jdk_52_method_16_code 5 = .ok (.iload_n 1, 1) := by decide +kernel
theorem d21_6 : decode jdk_52_method_16_code 6 = .ok (.aload_n 3, 1) := by decide +kernel
theorem d21_7 : decode jdk_52_method_16_code 7 = .ok (.iconst 0, 1) := by decide +kernel
theorem d21_8 : decode jdk_52_method_16_code 8 = .ok (.iload_n 2, 1) := by decide +kernel
theorem d21_9 : decode jdk_52_method_16_code 9 = .ok (.invokestatic 115, 3) := by decide +kernel
theorem d21_12 : decode jdk_52_method_16_code 12 = .ok (.istore 4, 2) := by decide +kernel
theorem d21_14 : decode jdk_52_method_16_code 14 = .ok (.iload 4, 2) := by decide +kernel
theorem d21_16 : decode jdk_52_method_16_code 16 = .ok (.iload_n 2, 1) := by decide +kernel
theorem d21_17 : decode jdk_52_method_16_code 17 = .ok (.if_icmp .eq 40, 3) := by decide +kernel
theorem d21_20 : decode jdk_52_method_16_code 20 = .ok (.aload_n 0, 1) := by decide +kernel
theorem d21_21 : decode jdk_52_method_16_code 21 = .ok (.iload_n 1, 1) := by decide +kernel
theorem d21_22 : decode jdk_52_method_16_code 22 = .ok (.iload_n 2, 1) := by decide +kernel
theorem d21_23 : decode jdk_52_method_16_code 23 = .ok (.invokestatic 119, 3) := by decide +kernel
theorem d21_26 : decode jdk_52_method_16_code 26 = .ok (.astore 5, 2) := by decide +kernel
theorem d21_28 : decode jdk_52_method_16_code 28 = .ok (.aload 5, 2) := by decide +kernel
theorem d21_30 : decode jdk_52_method_16_code 30 = .ok (.iload 4, 2) := by decide +kernel
theorem d21_32 : decode jdk_52_method_16_code 32 = .ok (.invokestatic 71, 3) := by decide +kernel
theorem d21_35 : decode jdk_52_method_16_code 35 = .ok (.sipush 255, 3) := by decide +kernel
theorem d21_38 : decode jdk_52_method_16_code 38 = .ok (.if_icmp .gt 16, 3) := by decide +kernel
theorem d21_41 : decode jdk_52_method_16_code 41 = .ok (.aload 5, 2) := by decide +kernel
theorem d21_43 : decode jdk_52_method_16_code 43 = .ok (.iconst 0, 1) := by decide +kernel
theorem d21_44 : decode jdk_52_method_16_code 44 = .ok (.aload_n 3, 1) := by decide +kernel
theorem d21_45 : decode jdk_52_method_16_code 45 = .ok (.iconst 0, 1) := by decide +kernel
theorem d21_46 : decode jdk_52_method_16_code 46 = .ok (.iload_n 2, 1) := by decide +kernel
theorem d21_47 : decode jdk_52_method_16_code 47 = .ok (.invokestatic 123, 3) := by decide +kernel
theorem d21_50 : decode jdk_52_method_16_code 50 = .ok (.iload_n 2, 1) := by decide +kernel
theorem d21_51 : decode jdk_52_method_16_code 51 = .ok (.if_icmp .eq 6, 3) := by decide +kernel
theorem d21_54 : decode jdk_52_method_16_code 54 = .ok (.aload 5, 2) := by decide +kernel
theorem d21_56 : decode jdk_52_method_16_code 56 = .ok (.areturn, 1) := by decide +kernel
theorem d21_57 : decode jdk_52_method_16_code 57 = .ok (.aload_n 3, 1) := by decide +kernel
theorem d21_58 : decode jdk_52_method_16_code 58 = .ok (.areturn, 1) := by decide +kernel
theorem pf21 : plainFor (⟨"java/lang/StringUTF16", "compress", "([CII)[B"⟩ : MethodName) = true := by first | exact plainFor_of_name (by first | (simp [plainName, overriddenIn]; done) | decide +kernel) | decide +kernel
theorem ef_comp3 (m : MethodId) (z0 : Addr) (z1 : Int32) (z2 : Int32) : entryFrame m #[(.ref z0), (.int z1), (.int z2)] 6 = mkF m 0 #[.val (.ref z0), .val (.int z1), .val (.int z2), .unset, .unset, .unset] [] := by first | rfl | (simp [entryFrame, mkF, argsToLocals, Value.category, *]; done) | rfl
set_option maxRecDepth 65536 in
set_option maxHeartbeats 40000000 in
theorem rm_comp3 {l : Launch} {Z : State} {a0 : Array Value} {n0 : Nat} (G : Gl Z a0 n0) {h0 : Heap} (O : Old Z n0 h0) (a : Addr) (cs : List Int32) (A : Ar Z h0 a .char (cs.map Value.int)) (hr : L1 cs) (hcap : cs.length ≤ 4) :
    Ct [] l Z n0 (⟨"java/lang/StringUTF16", "compress", "([CII)[B"⟩ : MethodName) jdk_52_method_16_code 6 (some (.array .byte)) ({ frames := 1, cells := 1, slots := 4, locals := 18 } : Room) #[(.ref a), (.int (0 : Int32)), (.int (Int32.ofNat cs.length))] h0 (fun v h => Keep h0 h [] ∧ ∃ t, v = some (.ref t) ∧ h0.size ≤ t ∧ Ar Z h t .byte (own_bs cs)) := by
  refine Ct.intro pf21 ?_
  intro p e s m below meth c C
  refine AtW.cast ?_ (ef_comp3 m a (0 : Int32) (Int32.ofNat cs.length))
  have hl : cs.length < 2 ^ 31 := by omega
  refine w_iloadN (q := 1) C rfl d21_0 rfl ?_
  refine w_newArr (q := 3) (cap := 4) (cells' := 1) (slots' := 4) C (G.1 _ (List.mem_of_getElem? (i := 20) rfl)) rfl (ofNat_neg hl) (by rw [ofNat_nat hl]; exact hcap) (by decide) rfl rfl (by decide) (by decide) d21_1 rfl ?_
  intro h2 t g_t Eh2 V_t
  replace V_t : Ar Z h2 t .byte (List.replicate cs.length (Value.int (0 : Int32))) := by rw [ofNat_nat hl] at V_t; exact V_t
  have hge : n0 ≤ t := by rw [g_t]; exact Old_le O
  have hg0 : h0.size ≤ t := Nat.le_of_eq g_t.symm
  have K1 : Keep h0 h2 [] := Keep.of_ext Eh2
  replace O := Old_k0 O K1
  refine w_astoreN (q := 4) (L' := #[.val (.ref a), .val (.int (0 : Int32)), .val (.int (Int32.ofNat cs.length)), .val (.ref t), .unset, .unset]) C rfl rfl d21_3 rfl ?_
  refine w_aloadN (q := 5) C rfl rfl d21_4 rfl ?_
  refine w_iloadN (q := 6) C rfl d21_5 rfl ?_
  refine w_aloadN (q := 7) C rfl rfl d21_6 rfl ?_
  refine w_iconst (q := 8) (v := (0 : Int32)) C (by rfl) d21_7 rfl ?_
  refine w_iloadN (q := 9) C rfl d21_8 rfl ?_
  refine w_callS (q := 12) (argsL := [(.ref a), (.int (0 : Int32)), (.ref t), (.int (0 : Int32)), (.int (Int32.ofNat cs.length))]) (S := []) (W := 0) (cells' := 1) (slots' := 4) C (G.1 _ (List.mem_of_getElem? (i := 109) rfl)) (G.1 _ (List.mem_of_getElem? (i := 110) rfl)) (G.1 _ (List.mem_of_getElem? (i := 107) rfl)) (G.1 _ (List.mem_of_getElem? (i := 111) rfl)) (by decide) (rm_comp5 G O a cs t (Ar_k0 A K1) hr V_t (Nat.ne_of_lt (by rw [g_t]; exact A.lt)) hge) rfl (lenOf pd_18 rfl) rfl (by decide) (own_leb rfl) (by decide) rfl rfl (by decide) (by decide) d21_9 rfl ?_
  rintro _ h3 ⟨Kh3, rfl, B2⟩
  show AtW p l e _ s m _ below meth c n0 _ h3 1 4 (mkF m 12 #[.val (.ref a), .val (.int (0 : Int32)), .val (.int (Int32.ofNat cs.length)), .val (.ref t), .unset, .unset] [(.int (Int32.ofNat cs.length))])
  refine w_istore (q := 14) (L' := #[.val (.ref a), .val (.int (0 : Int32)), .val (.int (Int32.ofNat cs.length)), .val (.ref t), .val (.int (Int32.ofNat cs.length)), .unset]) C rfl d21_12 rfl ?_
  refine w_iload (q := 16) C rfl d21_14 rfl ?_
  refine w_iloadN (q := 17) C rfl d21_16 rfl ?_
  refine w_icmp_eq_t (q := 57) C d21_17 (by decide) (by decide) rfl ?_
  refine w_aloadN (q := 58) C rfl rfl d21_57 rfl ?_
  exact w_retA C rfl rfl rfl d21_58 (by decide) (by decide) ⟨own_K1 K1 Kh3 hg0, t, rfl, hg0, B2⟩
theorem d23_0 : decode jdk_52_method_15_code 0 = .ok (.iload_n 1, 1) := by decide +kernel
theorem d23_1 : decode jdk_52_method_15_code 1 = .ok (.aload_n 0, 1) := by decide +kernel
theorem d23_2 : decode jdk_52_method_15_code 2 = .ok (.arraylength, 1) := by decide +kernel
theorem d23_3 : decode jdk_52_method_15_code 3 = .ok (.isub, 1) := by decide +kernel
theorem d23_4 : decode jdk_52_method_15_code 4 = .ok (.bipush 31, 2) := by decide +kernel
theorem d23_6 : decode jdk_52_method_15_code 6 = .ok (.iushr, 1) := by decide +kernel
theorem d23_7 : decode jdk_52_method_15_code 7 = .ok (.i2b, 1) := by decide +kernel
theorem d23_8 : decode jdk_52_method_15_code 8 = .ok (.ireturn, 1) := by decide +kernel
theorem pf23 : plainFor (⟨"java/lang/StringUTF16", "coderFromArrayLen", "([BI)B"⟩ : MethodName) = true := by first | exact plainFor_of_name (by first | (simp [plainName, overriddenIn]; done) | decide +kernel) | decide +kernel
theorem ef_codL (m : MethodId) (z0 : Addr) (z1 : Int32) : entryFrame m #[(.ref z0), (.int z1)] 2 = mkF m 0 #[.val (.ref z0), .val (.int z1)] [] := by first | rfl | (simp [entryFrame, mkF, argsToLocals, Value.category, *]; done) | rfl
set_option maxRecDepth 65536 in
set_option maxHeartbeats 40000000 in
theorem rm_codL {l : Launch} {Z : State} {a0 : Array Value} {n0 : Nat} (G : Gl Z a0 n0) {h0 : Heap} (O : Old Z n0 h0) (t : Addr) (cs : List Int32) (A : Ar Z h0 t .byte (own_bs cs)) :
    Ct [] l Z n0 (⟨"java/lang/StringUTF16", "coderFromArrayLen", "([BI)B"⟩ : MethodName) jdk_52_method_15_code 2 (some .byte) ({ frames := 0, cells := 0, slots := 0, locals := 0 } : Room) #[(.ref t), (.int (Int32.ofNat cs.length))] h0 (fun v h => h = h0 ∧ v = some (.int 0)) := by
  refine Ct.intro pf23 ?_
  intro p e s m below meth c C
  refine AtW.cast ?_ (ef_codL m t (Int32.ofNat cs.length))
  refine w_iloadN (q := 1) C rfl d23_0 rfl ?_
  refine w_aloadN (q := 2) C rfl rfl d23_1 rfl ?_
  refine w_len (q := 3) (z := (Int32.ofNat cs.length)) C A (by rw [own_bs_len]) d23_2 rfl ?_
  refine w_isub (q := 4) C rfl d23_3 rfl ?_
  rw [show ((Int32.ofNat cs.length) - (Int32.ofNat cs.length)) = (0 : Int32) from Int32.sub_self _]
  refine w_bipush (q := 6) (v := (31 : Int32)) C (by rfl) d23_4 rfl ?_
  refine w_iushr (q := 7) (z := (0 : Int32)) C (by decide) d23_6 rfl ?_
  refine w_i2b (q := 8) (z := (0 : Int32)) C (by decide) d23_7 rfl ?_
  exact w_retZ (z := (0 : Int32)) C (t := .byte) rfl (by simp) (by decide) d23_8 (by decide) (by decide) ⟨rfl, rfl⟩
theorem d3_0 : decode jdk_42_method_149_code 0 = .ok (.aload_n 0, 1) := by decide +kernel
theorem d3_1 : decode jdk_42_method_149_code 1 = .ok (.invokespecial 1, 3) := by decide +kernel
theorem d3_4 : decode jdk_42_method_149_code 4 = .ok (.iload_n 3, 1) := by decide +kernel
theorem d3_5 : decode jdk_42_method_149_code 5 = .ok (.ifCond .ne 22, 3) := by decide +kernel
theorem d3_8 : decode jdk_42_method_149_code 8 = .ok (.aload_n 0, 1) := by decide +kernel
theorem d3_9 : decode jdk_42_method_149_code 9 = .ok (.ldc 7, 2) := by decide +kernel
theorem d3_11 : decode jdk_42_method_149_code 11 = .ok (.getfield 9, 3) := by decide +kernel
theorem d3_14 : decode jdk_42_method_149_code 14 = .ok (.putfield 9, 3) := by decide +kernel
theorem d3_17 : decode jdk_42_method_149_code 17 = .ok (.aload_n 0, 1) := by decide +kernel
theorem d3_18 : decode jdk_42_method_149_code 18 = .ok (.ldc 7, 2) := by decide +kernel
theorem d3_20 : decode jdk_42_method_149_code 20 = .ok (.getfield 15, 3) := by decide +kernel
theorem d3_23 : decode jdk_42_method_149_code 23 = .ok (.putfield 15, 3) := by decide +kernel
theorem d3_26 : decode jdk_42_method_149_code 26 = .ok (.return_, 1) := by decide +kernel
theorem d3_27 : decode jdk_42_method_149_code 27 = .ok (.getstatic 38, 3) := by decide +kernel
theorem d3_30 : decode jdk_42_method_149_code 30 = .ok (.ifCond .eq 28, 3) := by decide +kernel
theorem d3_33 : decode jdk_42_method_149_code 33 = .ok (.aload_n 1, 1) := by decide +kernel
theorem d3_34 : decode jdk_42_method_149_code 34 = .ok (.iload_n 2, 1) := by decide +kernel
theorem d3_35 : decode jdk_42_method_149_code 35 = .ok (.iload_n 3, 1) := by decide +kernel
theorem d3_36 : decode jdk_42_method_149_code 36 = .ok (.invokestatic 177, 3) := by decide +kernel
theorem d3_39 : decode jdk_42_method_149_code 39 = .ok (.astore 5, 2) := by decide +kernel
theorem d3_41 : decode jdk_42_method_149_code 41 = .ok (.aload_n 0, 1) := by decide +kernel
theorem d3_42 : decode jdk_42_method_149_code 42 = .ok (.aload 5, 2) := by decide +kernel
theorem d3_44 : decode jdk_42_method_149_code 44 = .ok (.iload_n 3, 1) := by decide +kernel
theorem d3_45 : decode jdk_42_method_149_code 45 = .ok (.invokestatic 47, 3) := by decide +kernel
theorem d3_48 : decode jdk_42_method_149_code 48 = .ok (.putfield 15, 3) := by decide +kernel
theorem d3_51 : decode jdk_42_method_149_code 51 = .ok (.aload_n 0, 1) := by decide +kernel
theorem d3_52 : decode jdk_42_method_149_code 52 = .ok (.aload 5, 2) := by decide +kernel
theorem d3_54 : decode jdk_42_method_149_code 54 = .ok (.putfield 9, 3) := by decide +kernel
theorem d3_57 : decode jdk_42_method_149_code 57 = .ok (.return_, 1) := by decide +kernel
theorem d3_58 : decode jdk_42_method_149_code 58 = .ok (.aload_n 0, 1) := by decide +kernel
theorem d3_59 : decode jdk_42_method_149_code 59 = .ok (.iconst 1, 1) := by decide +kernel
theorem d3_60 : decode jdk_42_method_149_code 60 = .ok (.putfield 15, 3) := by decide +kernel
theorem d3_63 : decode jdk_42_method_149_code 63 = .ok (.aload_n 0, 1) := by decide +kernel
theorem d3_64 : decode jdk_42_method_149_code 64 = .ok (.aload_n 1, 1) := by decide +kernel
theorem d3_65 : decode jdk_42_method_149_code 65 = .ok (.iload_n 2, 1) := by decide +kernel
theorem d3_66 : decode jdk_42_method_149_code 66 = .ok (.iload_n 3, 1) := by decide +kernel
theorem d3_67 : decode jdk_42_method_149_code 67 = .ok (.invokestatic 180, 3) := by decide +kernel
theorem d3_70 : decode jdk_42_method_149_code 70 = .ok (.putfield 9, 3) := by decide +kernel
theorem d3_73 : decode jdk_42_method_149_code 73 = .ok (.return_, 1) := by decide +kernel
theorem pf3 : plainFor (⟨"java/lang/String", "<init>", "([CIILjava/lang/Void;)V"⟩ : MethodName) = true := by first | exact plainFor_of_name (by first | (simp [plainName, overriddenIn]; done) | decide +kernel) | decide +kernel
theorem ef_strinit4 (m : MethodId) (z0 : Addr) (z1 : Addr) (z2 : Int32) (z3 : Int32) : entryFrame m #[(.ref z0), (.ref z1), (.int z2), (.int z3), .null] 6 = mkF m 0 #[.val (.ref z0), .val (.ref z1), .val (.int z2), .val (.int z3), .val .null, .unset] [] := by first | rfl | (simp [entryFrame, mkF, argsToLocals, Value.category, *]; done) | rfl
set_option maxRecDepth 65536 in
set_option maxHeartbeats 40000000 in
theorem rm_strinit4 {l : Launch} {Z : State} {a0 : Array Value} {n0 : Nat} (G : Gl Z a0 n0) {h0 : Heap} (O : Old Z n0 h0) (a : Addr) (b : Addr) (cs : List Int32) (E : Exa Z h0 a "java/lang/String") (FV : Fld Z h0 a "java/lang/String" "value" "[B" .null) (FC : Fld Z h0 a "java/lang/String" "coder" "B" (.int (0 : Int32))) (hge : n0 ≤ a) (A : Ar Z h0 b .char (cs.map Value.int)) (hr : L1 cs) (hcap : cs.length ≤ 4) (h1 : cs.length ≠ 0) :
    Ct [] l Z n0 (⟨"java/lang/String", "<init>", "([CIILjava/lang/Void;)V"⟩ : MethodName) jdk_42_method_149_code 6 none ({ frames := 2, cells := 1, slots := 4, locals := 35 } : Room) #[(.ref a), (.ref b), (.int (0 : Int32)), (.int (Int32.ofNat cs.length)), .null] h0 (fun v h => Keep h0 h [a] ∧ v = none ∧ Str Z h a cs) := by
  refine Ct.intro pf3 ?_
  intro p e s m below meth c C
  refine AtW.cast ?_ (ef_strinit4 m a b (0 : Int32) (Int32.ofNat cs.length))
  obtain ⟨zc, SC, hzc⟩ := G.cs
  refine w_aloadN (q := 1) C rfl rfl d3_0 rfl ?_
  refine w_initO (q := 4) (W := 0) C (G.1 _ (List.mem_of_getElem? (i := 16) rfl)) (G.1 _ (List.mem_of_getElem? (i := 17) rfl)) (G.1 _ (List.mem_of_getElem? (i := 18) rfl)) rfl (by decide) (own_leb rfl) (by decide) d3_1 rfl ?_
  refine w_iloadN (q := 5) C rfl d3_4 rfl ?_
  refine w_if_ne_t (q := 27) C d3_5 (by decide) (by decide) (fun q => h1 ((own_neq (n := 0) (by omega) (by omega)).mp q)) ?_
  refine w_getS (q := 30) (host := "") C (Or.inl (G.1 _ (List.mem_of_getElem? (i := 30) rfl))) Via.refl (SC.ext O.2) d3_27 rfl ?_
  refine w_if_eq_f (q := 33) C d3_30 rfl hzc ?_
  refine w_aloadN (q := 34) C rfl rfl d3_33 rfl ?_
  refine w_iloadN (q := 35) C rfl d3_34 rfl ?_
  refine w_iloadN (q := 36) C rfl d3_35 rfl ?_
  have A_lt := E.lt
  refine w_callS (q := 39) (argsL := [(.ref b), (.int (0 : Int32)), (.int (Int32.ofNat cs.length))]) (S := []) (W := 0) (cells' := 1) (slots' := 4) C (G.1 _ (List.mem_of_getElem? (i := 105) rfl)) (G.1 _ (List.mem_of_getElem? (i := 106) rfl)) (G.1 _ (List.mem_of_getElem? (i := 107) rfl)) (G.1 _ (List.mem_of_getElem? (i := 108) rfl)) (by decide) (rm_comp3 G O b cs A hr hcap) rfl (lenOf pd_17 rfl) rfl (by decide) (own_leb rfl) (by decide) rfl rfl (by decide) (by decide) d3_36 rfl ?_
  rintro _ h4 ⟨Kh4, t, rfl, hg, B⟩
  show AtW p l e _ s m _ below meth c n0 _ h4 1 4 (mkF m 39 #[.val (.ref a), .val (.ref b), .val (.int (0 : Int32)), .val (.int (Int32.ofNat cs.length)), .val .null, .unset] [(.ref t)])
  replace O := Old_k0 O Kh4
  replace E := Exa_k0 E Kh4
  replace FV := Fld_k0 FV Kh4
  replace FC := Fld_k0 FC Kh4
  have hne : t ≠ a := Ne.symm (Nat.ne_of_lt (Nat.lt_of_lt_of_le A_lt hg))
  refine w_astore (q := 41) (L' := #[.val (.ref a), .val (.ref b), .val (.int (0 : Int32)), .val (.int (Int32.ofNat cs.length)), .val .null, .val (.ref t)]) C rfl rfl d3_39 rfl ?_
  refine w_aloadN (q := 42) C rfl rfl d3_41 rfl ?_
  refine w_aload (q := 44) C rfl rfl d3_42 rfl ?_
  refine w_iloadN (q := 45) C rfl d3_44 rfl ?_
  refine w_callS (q := 48) (argsL := [(.ref t), (.int (Int32.ofNat cs.length))]) (S := [(.ref a)]) (W := 1) (cells' := 1) (slots' := 4) C (G.1 _ (List.mem_of_getElem? (i := 112) rfl)) (G.1 _ (List.mem_of_getElem? (i := 113) rfl)) (G.1 _ (List.mem_of_getElem? (i := 107) rfl)) (G.1 _ (List.mem_of_getElem? (i := 114) rfl)) (by decide) (rm_codL G O t cs B) rfl (lenOf pd_19 rfl) rfl (by decide) (own_leb rfl) (by decide) rfl rfl (by decide) (by decide) d3_45 rfl ?_
  rintro _ h5 ⟨eh6, rfl⟩
  rw [eh6]
  show AtW p l e _ s m _ below meth c n0 _ h4 1 4 (mkF m 48 #[.val (.ref a), .val (.ref b), .val (.int (0 : Int32)), .val (.int (Int32.ofNat cs.length)), .val .null, .val (.ref t)] [(.int (0 : Int32)), (.ref a)])
  refine w_putF (q := 51) (host := "") (v' := (.int (0 : Int32))) C (G.1 _ (List.mem_of_getElem? (i := 26) rfl)) Via.refl FC E (Or.inr ⟨(G.1 _ (List.mem_of_getElem? (i := 22) rfl)), rfl, rfl⟩) (G.1 _ (List.mem_of_getElem? (i := 6) rfl)) (ty := .byte) (by decide) rfl rfl hge d3_48 rfl ?_
  intro h7 Wh7
  have K2 : Keep h0 h7 [a] := ((Keep.refl h0 [a]).trans Kh4 (all0 (P := fun x => x ∈ [a] ∨ h0.size ≤ x))).wr Wh7 (Or.inl (List.mem_cons_self ..))
  replace FC := FC.same Wh7
  replace FV := FV.other Wh7 (Or.inr (slot_ne (Or.inr (G.1 _ (List.mem_of_getElem? (i := 21) rfl))) (Or.inr (G.1 _ (List.mem_of_getElem? (i := 22) rfl))) (by decide) (t := .array .byte) (t' := .byte) (by decide) (by decide)))
  replace E := E.wr Wh7
  replace B := B.other Wh7 hne
  refine w_aloadN (q := 52) C rfl rfl d3_51 rfl ?_
  refine w_aload (q := 54) C rfl rfl d3_52 rfl ?_
  refine w_putF (q := 57) (host := "") (v' := (.ref t)) C (G.1 _ (List.mem_of_getElem? (i := 25) rfl)) Via.refl FV E (Or.inr ⟨(G.1 _ (List.mem_of_getElem? (i := 21) rfl)), rfl, rfl⟩) (G.1 _ (List.mem_of_getElem? (i := 6) rfl)) (ty := (.array .byte)) (by decide) rfl rfl hge d3_54 rfl ?_
  intro h8 Wh8
  replace FV := FV.same Wh8
  replace FC := FC.other Wh8 (Or.inr (slot_ne (Or.inr (G.1 _ (List.mem_of_getElem? (i := 22) rfl))) (Or.inr (G.1 _ (List.mem_of_getElem? (i := 21) rfl))) (by decide) (t := .byte) (t' := .array .byte) (by decide) (by decide)))
  replace E := E.wr Wh8
  replace B := B.other Wh8 hne
  exact w_retV C rfl d3_57 (by decide) (by decide) ⟨K2.wr Wh8 (Or.inl (List.mem_cons_self ..)), rfl, E, hr, t, FC, FV, B⟩
theorem d2_0 : decode jdk_42_method_3_code 0 = .ok (.aload_n 0, 1) := by decide +kernel
theorem d2_1 : decode jdk_42_method_3_code 1 = .ok (.aload_n 1, 1) := by decide +kernel
theorem d2_2 : decode jdk_42_method_3_code 2 = .ok (.iconst 0, 1) := by decide +kernel
theorem d2_3 : decode jdk_42_method_3_code 3 = .ok (.aload_n 1, 1) := by decide +kernel
theorem d2_4 : decode jdk_42_method_3_code 4 = .ok (.arraylength, 1) := by decide +kernel
theorem d2_5 : decode jdk_42_method_3_code 5 = .ok (.aconst_null, 1) := by decide +kernel
theorem d2_6 : decode jdk_42_method_3_code 6 = .ok (.invokespecial 27, 3) := by decide +kernel
theorem d2_9 : decode jdk_42_method_3_code 9 = .ok (.return_, 1) := by decide +kernel
theorem pf2 : plainFor (⟨"java/lang/String", "<init>", "([C)V"⟩ : MethodName) = true := by first | exact plainFor_of_name (by first | (simp [plainName, overriddenIn]; done) | decide +kernel) | decide +kernel
theorem ef_strinit (m : MethodId) (z0 : Addr) (z1 : Addr) : entryFrame m #[(.ref z0), (.ref z1)] 2 = mkF m 0 #[.val (.ref z0), .val (.ref z1)] [] := by first | rfl | (simp [entryFrame, mkF, argsToLocals, Value.category, *]; done) | rfl
set_option maxRecDepth 65536 in
set_option maxHeartbeats 40000000 in
theorem rm_strinit {l : Launch} {Z : State} {a0 : Array Value} {n0 : Nat} (G : Gl Z a0 n0) {h0 : Heap} (O : Old Z n0 h0) (a : Addr) (b : Addr) (cs : List Int32) (E : Exa Z h0 a "java/lang/String") (FV : Fld Z h0 a "java/lang/String" "value" "[B" .null) (FC : Fld Z h0 a "java/lang/String" "coder" "B" (.int (0 : Int32))) (hge : n0 ≤ a) (A : Ar Z h0 b .char (cs.map Value.int)) (hr : L1 cs) (hcap : cs.length ≤ 4) (h1 : cs.length ≠ 0) :
    Ct [] l Z n0 (⟨"java/lang/String", "<init>", "([C)V"⟩ : MethodName) jdk_42_method_3_code 2 none ({ frames := 3, cells := 1, slots := 4, locals := 52 } : Room) #[(.ref a), (.ref b)] h0 (fun v h => Keep h0 h [a] ∧ v = none ∧ Str Z h a cs) := by
  refine Ct.intro pf2 ?_
  intro p e s m below meth c C
  refine AtW.cast ?_ (ef_strinit m a b)
  refine w_aloadN (q := 1) C rfl rfl d2_0 rfl ?_
  refine w_aloadN (q := 2) C rfl rfl d2_1 rfl ?_
  refine w_iconst (q := 3) (v := (0 : Int32)) C (by rfl) d2_2 rfl ?_
  refine w_aloadN (q := 4) C rfl rfl d2_3 rfl ?_
  refine w_len (q := 5) (z := (Int32.ofNat cs.length)) C A (by rw [List.length_map]) d2_4 rfl ?_
  refine w_aconst_null (q := 6) C d2_5 rfl ?_
  refine w_callI (q := 9) (argsL := [(.ref b), (.int (0 : Int32)), (.int (Int32.ofNat cs.length)), .null]) (S := []) (W := 0) (cells' := 1) (slots' := 4) (a := a) C rfl (G.1 _ (List.mem_of_getElem? (i := 12) rfl)) (G.1 _ (List.mem_of_getElem? (i := 13) rfl)) (G.1 _ (List.mem_of_getElem? (i := 7) rfl)) (G.1 _ (List.mem_of_getElem? (i := 15) rfl)) (by decide) (rm_strinit4 G O a b cs E FV FC hge A hr hcap h1) rfl (lenOf pd_3 rfl) rfl (by decide) (own_leb rfl) (by decide) rfl rfl (by decide) (by decide) d2_6 rfl ?_
  rintro _ h9 ⟨Kh9, rfl, S⟩
  show AtW p l e _ s m _ below meth c n0 _ h9 1 4 (mkF m 9 #[.val (.ref a), .val (.ref b)] [])
  exact w_retV C rfl d2_9 (by decide) (by decide) ⟨Kh9, rfl, S⟩
theorem AtS.addS {p : Program} {l : Launch} {e : Env} {R : Room} {s : State} {m : MethodId} {args : Array Value} {below : List Frame} {meth : Method} {c : Code} {n0 : Nat} {Q : Option Value → Heap → Prop} {h : Heap} {cells slots : Nat} {Z : State} {own : String} {EL : List (String × Nat)} {mk : Nat} {sf : List Addr} {g : JFrame} {x : Addr} (E : Exa Z h x "java/lang/String") (F : Fld Z h x "java/lang/String" "value" "[B" .null)
    (K : AtS p l e R s m args below meth c Z EL own n0 Q mk (x :: sf) h cells slots g) : AtS p l e R s m args below meth c Z EL own n0 Q mk sf h cells slots g :=
  fun T locs k n vm0 k0 X hk hn eT N hZ hown hS hk0 hC hB hF => K T locs k n vm0 k0 X hk hn eT N hZ hown hS hk0 hC hB (fun y hy => by
    rcases List.mem_cons.mp hy with rfl | hy
    · refine ⟨E.lt, fun B => ?_⟩
      obtain ⟨cell, cf, kf, jf, f, f1, f2, -, -, -, -, f7⟩ := F
      obtain ⟨cE, kE, e1, e2, -, -, -⟩ := E
      cases f1.symm.trans e1
      obtain ⟨pr, -, u, a, -, q, -, ⟨cS, ⟨⟨s1, s2, s3, ⟨cv, kv, iv, s4, s4'⟩, s5, s6, s7, s8, s9⟩, hfS, hcS⟩, -, hb, -⟩, rfl | rfl⟩ := B
      · obtain ⟨kv', z4⟩ := ff_back (Z := Z) (U := Wst Z vm0 h) hZ.alike s4
        cases (show h[q.sa]? = some q.sC from s1).symm.trans f1
        cases f2.symm.trans z4
        rw [f7] at s8; cases s8
      · have hd : h[q.sd]? = some q.SA := s9.2.1
        cases hd.symm.trans f1
        have hb' : vm0.findClass "[B" = some q.SA.cls := hb
        rw [hZ.alike.findClass] at hb'
        obtain ⟨k1, q1, q2⟩ := Vm.findClass_spec hb'
        obtain ⟨k2, q3, q4⟩ := Vm.findClass_spec e2
        cases q1.symm.trans q3
        exact absurd (q2.symm.trans q4) (by decide)
    · exact hF y hy)

theorem ef_strinit4e (m : MethodId) (z0 : Addr) (z1 : Addr) (z2 : Int32) (z3 : Int32) : entryFrame m #[(.ref z0), (.ref z1), (.int z2), (.int z3), .null] 6 = mkF m 0 #[.val (.ref z0), .val (.ref z1), .val (.int z2), .val (.int z3), .val .null, .unset] [] := by first | rfl | (simp [entryFrame, mkF, argsToLocals, Value.category, *]; done) | rfl
set_option maxRecDepth 65536 in
set_option maxHeartbeats 40000000 in
theorem rm_strinit4e {l : Launch} {Z : State} {a0 : Array Value} {n0 : Nat} (G : Gl Z a0 n0) {h0 : Heap} (O : Old Z n0 h0) (a : Addr) (b : Addr) (E : Exa Z h0 a "java/lang/String") (FV : Fld Z h0 a "java/lang/String" "value" "[B" .null) (FC : Fld Z h0 a "java/lang/String" "coder" "B" (.int (0 : Int32))) (hge : n0 ≤ a) :
    Cs [] l Z consts_1 n0 (⟨"java/lang/String", "<init>", "([CIILjava/lang/Void;)V"⟩ : MethodName) jdk_42_method_149_code 6 none ({ frames := 1, cells := 4, slots := 8, locals := 12 } : Room) #[(.ref a), (.ref b), (.int (0 : Int32)), (.int (0 : Int32)), .null] h0 (fun v h => Keep h0 h [a] ∧ v = none ∧ Str Z h a []) := by
  refine Cs.intro pf3 ?_
  intro p e s m below meth c C
  refine AtS.cast ?_ (ef_strinit4e m a b (0 : Int32) (0 : Int32))
  refine AtS.addS E FV ?_
  refine s_aloadN (q := 1) C rfl rfl d3_0 rfl ?_
  refine s_initO (q := 4) (W := 0) C (G.1 _ (List.mem_of_getElem? (i := 16) rfl)) (G.1 _ (List.mem_of_getElem? (i := 17) rfl)) (G.1 _ (List.mem_of_getElem? (i := 18) rfl)) rfl (by decide) (own_leb rfl) (by decide) d3_1 rfl ?_
  refine s_iloadN (q := 5) C rfl d3_4 rfl ?_
  refine s_if_ne_f (q := 8) C d3_5 rfl (by decide) ?_
  refine s_aloadN (q := 9) C rfl rfl d3_8 rfl ?_
  refine s_ldc (q := 11) (n := 0) (cells' := 2) (slots' := 4) (vs := []) C G.el G.sa (G.1 _ (List.mem_of_getElem? (i := 19) rfl)) (by decide) (by decide +kernel) (by decide) (by decide +kernel) (by decide) rfl rfl (by decide) (by decide) d3_9 rfl ?_
  intro h10 s t11 Eh10 e1_s e2_s e3_s e4_s hne_s
  have S_s : Str Z h10 s [] := ⟨e1_s, (fun c hc => absurd hc List.not_mem_nil), t11, e2_s, e3_s, e4_s⟩
  have K1 : Keep h0 h10 [a] := (Keep.refl h0 [a]).ext Eh10
  replace FV := FV.ext Eh10
  replace FC := FC.ext Eh10
  replace E := E.ext Eh10
  have hne := (hne_s a (List.mem_cons_self ..)).2
  refine s_getF (q := 14) (host := "") C (Or.inl (G.1 _ (List.mem_of_getElem? (i := 25) rfl))) Via.refl e3_s d3_11 rfl ?_
  refine s_putF (q := 17) (host := "") (v' := (.ref t11)) C (G.1 _ (List.mem_of_getElem? (i := 25) rfl)) Via.refl FV E (Or.inr ⟨(G.1 _ (List.mem_of_getElem? (i := 21) rfl)), rfl, rfl⟩) (G.1 _ (List.mem_of_getElem? (i := 6) rfl)) (ty := (.array .byte)) (by decide) rfl rfl hge (SfOk.mem (List.mem_cons_self ..)) d3_14 rfl ?_
  intro h12 Wh12
  have K2 := K1.wr Wh12 (Or.inl (List.mem_cons_self ..))
  replace FV := FV.same Wh12
  replace FC := FC.other Wh12 (Or.inr (slot_ne (Or.inr (G.1 _ (List.mem_of_getElem? (i := 22) rfl))) (Or.inr (G.1 _ (List.mem_of_getElem? (i := 21) rfl))) (by decide) (t := .byte) (t' := .array .byte) (by decide) (by decide)))
  replace E := E.wr Wh12
  have B := e4_s.other Wh12 (Ne.symm hne)
  refine s_aloadN (q := 18) C rfl rfl d3_17 rfl ?_
  refine s_ldc (q := 20) (n := 0) (cells' := 4) (slots' := 8) (vs := []) C G.el G.sa (G.1 _ (List.mem_of_getElem? (i := 19) rfl)) (by decide) (by decide +kernel) (by decide) (by decide +kernel) (by decide) rfl rfl (by decide) (by decide) d3_18 rfl ?_
  intro h13 s2 t14 Eh13 e1_s2 e2_s2 e3_s2 e4_s2 hne_s2
  have S_s2 : Str Z h13 s2 [] := ⟨e1_s2, (fun c hc => absurd hc List.not_mem_nil), t14, e2_s2, e3_s2, e4_s2⟩
  have K3 := K2.ext Eh13
  replace FV := FV.ext Eh13
  replace FC := FC.ext Eh13
  replace E := E.ext Eh13
  replace B := B.ext Eh13
  refine s_getF (q := 23) (host := "") C (Or.inl (G.1 _ (List.mem_of_getElem? (i := 26) rfl))) Via.refl e2_s2 d3_20 rfl ?_
  refine s_putF (q := 26) (host := "") (v' := (.int (0 : Int32))) C (G.1 _ (List.mem_of_getElem? (i := 26) rfl)) Via.refl FC E (Or.inr ⟨(G.1 _ (List.mem_of_getElem? (i := 22) rfl)), rfl, rfl⟩) (G.1 _ (List.mem_of_getElem? (i := 6) rfl)) (ty := .byte) (by decide) rfl rfl hge (SfOk.mem (List.mem_cons_self ..)) d3_23 rfl ?_
  intro h15 Wh15
  replace FC := FC.same Wh15
  replace FV := FV.other Wh15 (Or.inr (slot_ne (Or.inr (G.1 _ (List.mem_of_getElem? (i := 21) rfl))) (Or.inr (G.1 _ (List.mem_of_getElem? (i := 22) rfl))) (by decide) (t := .array .byte) (t' := .byte) (by decide) (by decide)))
  replace E := E.wr Wh15
  replace B := B.other Wh15 (Ne.symm hne)
  exact s_retV C G.el rfl d3_26 (by decide) (by decide) ⟨K3.wr Wh15 (Or.inl (List.mem_cons_self ..)), rfl, E, (fun c hc => absurd hc List.not_mem_nil), t11, FC, FV, B⟩
theorem ef_strinite (m : MethodId) (z0 : Addr) (z1 : Addr) : entryFrame m #[(.ref z0), (.ref z1)] 2 = mkF m 0 #[.val (.ref z0), .val (.ref z1)] [] := by first | rfl | (simp [entryFrame, mkF, argsToLocals, Value.category, *]; done) | rfl
set_option maxRecDepth 65536 in
set_option maxHeartbeats 40000000 in
theorem rm_strinite {l : Launch} {Z : State} {a0 : Array Value} {n0 : Nat} (G : Gl Z a0 n0) {h0 : Heap} (O : Old Z n0 h0) (a : Addr) (b : Addr) (E : Exa Z h0 a "java/lang/String") (FV : Fld Z h0 a "java/lang/String" "value" "[B" .null) (FC : Fld Z h0 a "java/lang/String" "coder" "B" (.int (0 : Int32))) (hge : n0 ≤ a) (A : Ar Z h0 b .char []) :
    Cs [] l Z consts_1 n0 (⟨"java/lang/String", "<init>", "([C)V"⟩ : MethodName) jdk_42_method_3_code 2 none ({ frames := 2, cells := 4, slots := 8, locals := 29 } : Room) #[(.ref a), (.ref b)] h0 (fun v h => Keep h0 h [a] ∧ v = none ∧ Str Z h a []) := by
  refine Cs.intro pf2 ?_
  intro p e s m below meth c C
  refine AtS.cast ?_ (ef_strinite m a b)
  refine s_aloadN (q := 1) C rfl rfl d2_0 rfl ?_
  refine s_aloadN (q := 2) C rfl rfl d2_1 rfl ?_
  refine s_iconst (q := 3) (v := (0 : Int32)) C (by rfl) d2_2 rfl ?_
  refine s_aloadN (q := 4) C rfl rfl d2_3 rfl ?_
  refine s_len (q := 5) (z := (0 : Int32)) C A rfl d2_4 rfl ?_
  refine s_aconst_null (q := 6) C d2_5 rfl ?_
  refine s_callI2 (q := 9) (argsL := [(.ref b), (.int (0 : Int32)), (.int (0 : Int32)), .null]) (S := []) (W := 0) (cells' := 4) (slots' := 8) (a := a) C G.el rfl (G.1 _ (List.mem_of_getElem? (i := 12) rfl)) (G.1 _ (List.mem_of_getElem? (i := 13) rfl)) (G.1 _ (List.mem_of_getElem? (i := 7) rfl)) (G.1 _ (List.mem_of_getElem? (i := 15) rfl)) (by decide) (rm_strinit4e G O a b E FV FC hge) rfl (lenOf pd_3 rfl) rfl (by decide) (own_leb rfl) (by decide) rfl rfl (by decide) (by decide) d2_6 rfl ?_
  rintro _ h16 ⟨Kh16, rfl, S⟩
  show AtS p l e _ s m _ below meth c Z _ _ n0 _ _ _ h16 4 8 (mkF m 9 #[.val (.ref a), .val (.ref b)] [])
  exact s_retV C G.el rfl d2_9 (by decide) (by decide) ⟨Kh16, rfl, S⟩
theorem d6_0 : decode jdk_43_method_3_code 0 = .ok (.iload_n 0, 1) := by decide +kernel
theorem d6_1 : decode jdk_43_method_3_code 1 = .ok (.sipush 255, 3) := by decide +kernel
theorem d6_4 : decode jdk_43_method_3_code 4 = .ok (.if_icmp .gt 7, 3) := by decide +kernel
theorem d6_7 : decode jdk_43_method_3_code 7 = .ok (.iconst 1, 1) := by decide +kernel
theorem d6_8 : decode jdk_43_method_3_code 8 = .ok (.goto 4, 3) := by decide +kernel
theorem d6_11 : decode jdk_43_method_3_code 11 = .ok (.iconst 0, 1) := by decide +kernel
theorem d6_12 : decode jdk_43_method_3_code 12 = .ok (.ireturn, 1) := by decide +kernel
theorem pf6 : plainFor (⟨"java/lang/StringLatin1", "canEncode", "(C)Z"⟩ : MethodName) = true := by first | exact plainFor_of_name (by first | (simp [plainName, overriddenIn]; done) | decide +kernel) | decide +kernel
theorem ef_canEncC (m : MethodId) (z0 : Int32) : entryFrame m #[(.int z0)] 1 = mkF m 0 #[.val (.int z0)] [] := by first | rfl | (simp [entryFrame, mkF, argsToLocals, Value.category, *]; done) | rfl
set_option maxRecDepth 65536 in
set_option maxHeartbeats 40000000 in
theorem rm_canEncC {l : Launch} {Z : State} {a0 : Array Value} {n0 : Nat} (G : Gl Z a0 n0) {h0 : Heap} (O : Old Z n0 h0) (ch : Int32) (hc : ¬ ch < 0 ∧ ¬ 255 < ch) :
    Ct [] l Z n0 (⟨"java/lang/StringLatin1", "canEncode", "(C)Z"⟩ : MethodName) jdk_43_method_3_code 1 (some .boolean) ({ frames := 0, cells := 0, slots := 0, locals := 0 } : Room) #[(.int ch)] h0 (fun v h => h = h0 ∧ v = some (.int 1)) := by
  refine Ct.intro pf6 ?_
  intro p e s m below meth c C
  refine AtW.cast ?_ (ef_canEncC m ch)
  refine w_iloadN (q := 1) C rfl d6_0 rfl ?_
  refine w_sipush (q := 4) (v := (255 : Int32)) C (by rfl) d6_1 rfl ?_
  refine w_icmp_gt_f (q := 7) C d6_4 rfl hc.2 ?_
  refine w_iconst (q := 8) (v := (1 : Int32)) C (by rfl) d6_7 rfl ?_
  refine w_goto (q := 12) C d6_8 (by decide) (by decide) ?_
  exact w_retZ (z := (1 : Int32)) C (t := .boolean) rfl (by simp) (by decide) d6_12 (by decide) (by decide) ⟨rfl, rfl⟩
theorem d7_0 : decode jdk_43_method_46_code 0 = .ok (.iconst 1, 1) := by decide +kernel
theorem d7_1 : decode jdk_43_method_46_code 1 = .ok (.newarray .byte, 2) := by decide +kernel
theorem d7_3 : decode jdk_43_method_46_code 3 = .ok (.dup, 1) := by decide +kernel
theorem d7_4 : decode jdk_43_method_46_code 4 = .ok (.iconst 0, 1) := by decide +kernel
theorem d7_5 : decode jdk_43_method_46_code 5 = .ok (.iload_n 0, 1) := by decide +kernel
theorem d7_6 : decode jdk_43_method_46_code 6 = .ok (.i2b, 1) := by decide +kernel
theorem d7_7 : decode jdk_43_method_46_code 7 = .ok (.bastore, 1) := by decide +kernel
theorem d7_8 : decode jdk_43_method_46_code 8 = .ok (.areturn, 1) := by decide +kernel
theorem pf7 : plainFor (⟨"java/lang/StringLatin1", "toBytes", "(C)[B"⟩ : MethodName) = true := by first | exact plainFor_of_name (by first | (simp [plainName, overriddenIn]; done) | decide +kernel) | decide +kernel
theorem ef_toBytesC (m : MethodId) (z0 : Int32) : entryFrame m #[(.int z0)] 1 = mkF m 0 #[.val (.int z0)] [] := by first | rfl | (simp [entryFrame, mkF, argsToLocals, Value.category, *]; done) | rfl
set_option maxRecDepth 65536 in
set_option maxHeartbeats 40000000 in
theorem rm_toBytesC {l : Launch} {Z : State} {a0 : Array Value} {n0 : Nat} (G : Gl Z a0 n0) {h0 : Heap} (O : Old Z n0 h0) (ch : Int32) :
    Ct [] l Z n0 (⟨"java/lang/StringLatin1", "toBytes", "(C)[B"⟩ : MethodName) jdk_43_method_46_code 1 (some (.array .byte)) ({ frames := 0, cells := 1, slots := 1, locals := 0 } : Room) #[(.int ch)] h0 (fun v h => Keep h0 h [] ∧ ∃ t, v = some (.ref t) ∧ h0.size ≤ t ∧ Ar Z h t .byte (own_bs [ch])) := by
  refine Ct.intro pf7 ?_
  intro p e s m below meth c C
  refine AtW.cast ?_ (ef_toBytesC m ch)
  refine w_iconst (q := 1) (v := (1 : Int32)) C (by rfl) d7_0 rfl ?_
  refine w_newArr (q := 3) (cap := 1) (cells' := 1) (slots' := 1) C (G.1 _ (List.mem_of_getElem? (i := 20) rfl)) rfl (by decide) (by decide) (by decide) rfl rfl (by decide) (by decide) d7_1 rfl ?_
  intro h17 t g_t Eh17 V_t
  replace V_t : Ar Z h17 t .byte [(.int (0 : Int32))] := V_t
  have hge : n0 ≤ t := by rw [g_t]; exact Old_le O
  have hg0 : h0.size ≤ t := Nat.le_of_eq g_t.symm
  have K1 : Keep h0 h17 [] := Keep.of_ext Eh17
  refine w_dup (q := 4) C rfl d7_3 rfl ?_
  refine w_iconst (q := 5) (v := (0 : Int32)) C (by rfl) d7_4 rfl ?_
  refine w_iloadN (q := 6) C rfl d7_5 rfl ?_
  refine w_i2b (q := 7) C rfl d7_6 rfl ?_
  refine w_bastore (q := 8) (z := ch.toInt8.toInt32) (i := 0) C (own_nar8 ch) V_t rfl (own_ltb rfl) hge d7_7 rfl ?_
  intro h18 Wh18 Vh18
  exact w_retA C rfl rfl rfl d7_8 (by decide) (by decide) ⟨K1.wr Wh18 (Or.inr hg0), t, rfl, hg0, Vh18⟩
theorem d8_0 : decode jdk_42_method_151_code 0 = .ok (.aload_n 0, 1) := by decide +kernel
theorem d8_1 : decode jdk_42_method_151_code 1 = .ok (.invokespecial 1, 3) := by decide +kernel
theorem d8_4 : decode jdk_42_method_151_code 4 = .ok (.aload_n 0, 1) := by decide +kernel
theorem d8_5 : decode jdk_42_method_151_code 5 = .ok (.aload_n 1, 1) := by decide +kernel
theorem d8_6 : decode jdk_42_method_151_code 6 = .ok (.putfield 9, 3) := by decide +kernel
theorem d8_9 : decode jdk_42_method_151_code 9 = .ok (.aload_n 0, 1) := by decide +kernel
theorem d8_10 : decode jdk_42_method_151_code 10 = .ok (.iload_n 2, 1) := by decide +kernel
theorem d8_11 : decode jdk_42_method_151_code 11 = .ok (.putfield 15, 3) := by decide +kernel
theorem d8_14 : decode jdk_42_method_151_code 14 = .ok (.return_, 1) := by decide +kernel
theorem pf8 : plainFor (⟨"java/lang/String", "<init>", "([BB)V"⟩ : MethodName) = true := by first | exact plainFor_of_name (by first | (simp [plainName, overriddenIn]; done) | decide +kernel) | decide +kernel
theorem ef_initBB (m : MethodId) (z0 : Addr) (z1 : Addr) (z2 : Int32) : entryFrame m #[(.ref z0), (.ref z1), (.int z2)] 3 = mkF m 0 #[.val (.ref z0), .val (.ref z1), .val (.int z2)] [] := by first | rfl | (simp [entryFrame, mkF, argsToLocals, Value.category, *]; done) | rfl
set_option maxRecDepth 65536 in
set_option maxHeartbeats 40000000 in
theorem rm_initBB {l : Launch} {Z : State} {a0 : Array Value} {n0 : Nat} (G : Gl Z a0 n0) {h0 : Heap} (O : Old Z n0 h0) (a : Addr) (t : Addr) (cd : Int32) (E : Exa Z h0 a "java/lang/String") (FV : Fld Z h0 a "java/lang/String" "value" "[B" .null) (FC : Fld Z h0 a "java/lang/String" "coder" "B" (.int (0 : Int32))) (hge : n0 ≤ a) (hcd : cd = 0 ∨ cd = 1) :
    Ct [] l Z n0 (⟨"java/lang/String", "<init>", "([BB)V"⟩ : MethodName) jdk_42_method_151_code 3 none ({ frames := 1, cells := 0, slots := 0, locals := 12 } : Room) #[(.ref a), (.ref t), (.int cd)] h0 (fun v h => Keep h0 h [a] ∧ v = none ∧ Exa Z h a "java/lang/String" ∧ Fld Z h a "java/lang/String" "coder" "B" (.int cd) ∧ Fld Z h a "java/lang/String" "value" "[B" (.ref t)) := by
  refine Ct.intro pf8 ?_
  intro p e s m below meth c C
  refine AtW.cast ?_ (ef_initBB m a t cd)
  refine w_aloadN (q := 1) C rfl rfl d8_0 rfl ?_
  refine w_initO (q := 4) (W := 0) C (G.1 _ (List.mem_of_getElem? (i := 16) rfl)) (G.1 _ (List.mem_of_getElem? (i := 17) rfl)) (G.1 _ (List.mem_of_getElem? (i := 18) rfl)) rfl (by decide) (own_leb rfl) (by decide) d8_1 rfl ?_
  refine w_aloadN (q := 5) C rfl rfl d8_4 rfl ?_
  refine w_aloadN (q := 6) C rfl rfl d8_5 rfl ?_
  refine w_putF (q := 9) (host := "") (v' := (.ref t)) C (G.1 _ (List.mem_of_getElem? (i := 25) rfl)) Via.refl FV E (Or.inr ⟨(G.1 _ (List.mem_of_getElem? (i := 21) rfl)), rfl, rfl⟩) (G.1 _ (List.mem_of_getElem? (i := 6) rfl)) (ty := (.array .byte)) (by decide) rfl rfl hge d8_6 rfl ?_
  intro h19 Wh19
  have K2 : Keep h0 h19 [a] := (Keep.refl h0 [a]).wr Wh19 (Or.inl (List.mem_cons_self ..))
  replace FV := FV.same Wh19
  replace FC := FC.other Wh19 (Or.inr (slot_ne (Or.inr (G.1 _ (List.mem_of_getElem? (i := 22) rfl))) (Or.inr (G.1 _ (List.mem_of_getElem? (i := 21) rfl))) (by decide) (t := .byte) (t' := .array .byte) (by decide) (by decide)))
  replace E := E.wr Wh19
  refine w_aloadN (q := 10) C rfl rfl d8_9 rfl ?_
  refine w_iloadN (q := 11) C rfl d8_10 rfl ?_
  refine w_putF (q := 14) (host := "") (v' := (.int cd)) C (G.1 _ (List.mem_of_getElem? (i := 26) rfl)) Via.refl FC E (Or.inr ⟨(G.1 _ (List.mem_of_getElem? (i := 22) rfl)), rfl, rfl⟩) (G.1 _ (List.mem_of_getElem? (i := 6) rfl)) (ty := .byte) (by decide) (by rcases hcd with rfl | rfl <;> rfl) (by rcases hcd with rfl | rfl <;> rfl) hge d8_11 rfl ?_
  intro h20 Wh20
  replace FC := FC.same Wh20
  replace FV := FV.other Wh20 (Or.inr (slot_ne (Or.inr (G.1 _ (List.mem_of_getElem? (i := 21) rfl))) (Or.inr (G.1 _ (List.mem_of_getElem? (i := 22) rfl))) (by decide) (t := .array .byte) (t' := .byte) (by decide) (by decide)))
  replace E := E.wr Wh20
  exact w_retV C rfl d8_14 (by decide) (by decide) ⟨K2.wr Wh20 (Or.inl (List.mem_cons_self ..)), rfl, E, FC, FV⟩
theorem d5_0 : decode jdk_42_method_139_code 0 = .ok (.getstatic 38, 3) := by decide +kernel
theorem d5_3 : decode jdk_42_method_139_code 3 = .ok (.ifCond .eq 23, 3) := by decide +kernel
theorem d5_6 : decode jdk_42_method_139_code 6 = .ok (.iload_n 0, 1) := by decide +kernel
theorem d5_7 : decode jdk_42_method_139_code 7 = .ok (.invokestatic 1015, 3) := by decide +kernel
theorem d5_10 : decode jdk_42_method_139_code 10 = .ok (.ifCond .eq 16, 3) := by decide +kernel
theorem d5_13 : decode jdk_42_method_139_code 13 = .ok (.new 10, 3) := by decide +kernel
theorem d5_16 : decode jdk_42_method_139_code 16 = .ok (.dup, 1) := by decide +kernel
theorem d5_17 : decode jdk_42_method_139_code 17 = .ok (.iload_n 0, 1) := by decide +kernel
theorem d5_18 : decode jdk_42_method_139_code 18 = .ok (.invokestatic 1018, 3) := by decide +kernel
theorem d5_21 : decode jdk_42_method_139_code 21 = .ok (.iconst 0, 1) := by decide +kernel
theorem d5_22 : decode jdk_42_method_139_code 22 = .ok (.invokespecial 209, 3) := by decide +kernel
theorem d5_25 : decode jdk_42_method_139_code 25 = .ok (.areturn, 1) := by decide +kernel
theorem d5_26 : decode jdk_42_method_139_code 26 = .ok (.new 10, 3) := by decide +kernel
theorem d5_29 : decode jdk_42_method_139_code 29 = .ok (.dup, 1) := by decide +kernel
theorem d5_30 : decode jdk_42_method_139_code 30 = .ok (.iload_n 0, 1) := by decide +kernel
theorem d5_31 : decode jdk_42_method_139_code 31 = .ok (.invokestatic 1021, 3) := by decide +kernel
theorem d5_34 : decode jdk_42_method_139_code 34 = .ok (.iconst 1, 1) := by decide +kernel
theorem d5_35 : decode jdk_42_method_139_code 35 = .ok (.invokespecial 209, 3) := by decide +kernel
theorem d5_38 : decode jdk_42_method_139_code 38 = .ok (.areturn, 1) := by decide +kernel
theorem pf5 : plainFor (⟨"java/lang/String", "valueOf", "(C)Ljava/lang/String;"⟩ : MethodName) = true := by first | exact plainFor_of_name (by first | (simp [plainName, overriddenIn]; done) | decide +kernel) | decide +kernel
theorem ef_valueOfC (m : MethodId) (z0 : Int32) : entryFrame m #[(.int z0)] 1 = mkF m 0 #[.val (.int z0)] [] := by first | rfl | (simp [entryFrame, mkF, argsToLocals, Value.category, *]; done) | rfl
set_option maxRecDepth 65536 in
set_option maxHeartbeats 40000000 in
theorem rm_valueOfC {l : Launch} {Z : State} {a0 : Array Value} {n0 : Nat} (G : Gl Z a0 n0) {h0 : Heap} (O : Old Z n0 h0) (ch : Int32) (hc : ¬ ch < 0 ∧ ¬ 255 < ch) :
    Ct [] l Z n0 (⟨"java/lang/String", "valueOf", "(C)Ljava/lang/String;"⟩ : MethodName) jdk_42_method_139_code 1 (some (.object "java/lang/String")) ({ frames := 2, cells := 2, slots := 5, locals := 27 } : Room) #[(.int ch)] h0 (fun v h => Keep h0 h [] ∧ ∃ a, v = some (.ref a) ∧ Str Z h a [ch]) := by
  refine Ct.intro pf5 ?_
  intro p e s m below meth c C
  refine AtW.cast ?_ (ef_valueOfC m ch)
  obtain ⟨zc, SC, hzc⟩ := G.cs
  refine w_getS (q := 3) (host := "") C (Or.inl (G.1 _ (List.mem_of_getElem? (i := 30) rfl))) Via.refl (SC.ext O.2) d5_0 rfl ?_
  refine w_if_eq_f (q := 6) C d5_3 rfl hzc ?_
  refine w_iloadN (q := 7) C rfl d5_6 rfl ?_
  refine w_callS (q := 10) (argsL := [(.int ch)]) (S := []) (W := 0) (cells' := 0) (slots' := 0) C (G.1 _ (List.mem_of_getElem? (i := 31) rfl)) (G.1 _ (List.mem_of_getElem? (i := 32) rfl)) (G.1 _ (List.mem_of_getElem? (i := 33) rfl)) (G.1 _ (List.mem_of_getElem? (i := 34) rfl)) (by decide) (rm_canEncC G O ch hc) rfl (lenOf pd_6 rfl) rfl (by decide) (own_leb rfl) (by decide) rfl rfl (by decide) (by decide) d5_7 rfl ?_
  rintro _ h21 ⟨eh22, rfl⟩
  rw [eh22]
  show AtW p l e _ s m _ below meth c n0 _ h0 0 0 (mkF m 10 #[.val (.int ch)] [(.int (1 : Int32))])
  refine w_if_eq_f (q := 13) C d5_10 rfl (by decide) ?_
  refine w_new (q := 16) (cells' := 1) (slots' := 4) C (G.1 _ (List.mem_of_getElem? (i := 35) rfl)) (G.1 _ (List.mem_of_getElem? (i := 6) rfl)) (G.1 _ (List.mem_of_getElem? (i := 7) rfl)) rfl rfl (by decide) (by decide) d5_13 rfl ?_
  intro h23 a g_a Eh23 A_a D_a
  have F_value_a : Fld Z h23 a "java/lang/String" "value" "[B" .null := D_a (Or.inr (G.1 _ (List.mem_of_getElem? (i := 21) rfl))) (ty := (.array .byte)) (by decide)
  have F_coder_a : Fld Z h23 a "java/lang/String" "coder" "B" (.int (0 : Int32)) := D_a (Or.inr (G.1 _ (List.mem_of_getElem? (i := 22) rfl))) (ty := .byte) (by decide)
  have hge : n0 ≤ a := by rw [g_a]; exact Old_le O
  have K1 : Keep h0 h23 [] := Keep.of_ext Eh23
  replace O := Old_k0 O K1
  refine w_dup (q := 17) C rfl d5_16 rfl ?_
  refine w_iloadN (q := 18) C rfl d5_17 rfl ?_
  refine w_callS (q := 21) (argsL := [(.int ch)]) (S := [(.ref a), (.ref a)]) (W := 2) (cells' := 2) (slots' := 5) C (G.1 _ (List.mem_of_getElem? (i := 36) rfl)) (G.1 _ (List.mem_of_getElem? (i := 37) rfl)) (G.1 _ (List.mem_of_getElem? (i := 33) rfl)) (G.1 _ (List.mem_of_getElem? (i := 38) rfl)) (by decide) (rm_toBytesC G O ch) rfl (lenOf pd_7 rfl) rfl (by decide) (own_leb rfl) (by decide) rfl rfl (by decide) (by decide) d5_18 rfl ?_
  rintro _ h24 ⟨Kh24, t, rfl, hg, B⟩
  show AtW p l e _ s m _ below meth c n0 _ h24 2 5 (mkF m 21 #[.val (.int ch)] [(.ref t), (.ref a), (.ref a)])
  replace O := Old_k0 O Kh24
  have hne : t ≠ a := Ne.symm (Nat.ne_of_lt (Nat.lt_of_lt_of_le A_a.lt hg))
  refine w_iconst (q := 22) (v := (0 : Int32)) C (by rfl) d5_21 rfl ?_
  refine w_callI (q := 25) (argsL := [(.ref t), (.int (0 : Int32))]) (S := [(.ref a)]) (W := 1) (cells' := 2) (slots' := 5) (a := a) C rfl (G.1 _ (List.mem_of_getElem? (i := 39) rfl)) (G.1 _ (List.mem_of_getElem? (i := 40) rfl)) (G.1 _ (List.mem_of_getElem? (i := 7) rfl)) (G.1 _ (List.mem_of_getElem? (i := 41) rfl)) (by decide) (rm_initBB G O a t 0 (Exa_k0 A_a Kh24) (Fld_k0 F_value_a Kh24) (Fld_k0 F_coder_a Kh24) hge (Or.inl rfl)) rfl (lenOf pd_8 rfl) rfl (by decide) (own_leb rfl) (by decide) rfl rfl (by decide) (by decide) d5_22 rfl ?_
  rintro _ h25 ⟨Kh25, rfl, e1, e2, e3⟩
  show AtW p l e _ s m _ below meth c n0 _ h25 2 5 (mkF m 25 #[.val (.int ch)] [(.ref a)])
  exact w_retA C rfl rfl rfl d5_25 (by decide) (by decide) ⟨own_K1 (own_K0 K1 Kh24) Kh25 (Nat.le_of_eq g_a.symm), a, rfl, e1, own_L1c hc (fun c hc => absurd hc List.not_mem_nil), t, e2, e3, B.keep Kh25 (ninS hne nin0)⟩
theorem d14_0 : decode jdk_42_method_154_code 0 = .ok (.getstatic 38, 3) := by decide +kernel
theorem d14_3 : decode jdk_42_method_154_code 3 = .ok (.ifCond .eq 14, 3) := by decide +kernel
theorem d14_6 : decode jdk_42_method_154_code 6 = .ok (.aload_n 0, 1) := by decide +kernel
theorem d14_7 : decode jdk_42_method_154_code 7 = .ok (.getfield 15, 3) := by decide +kernel
theorem d14_10 : decode jdk_42_method_154_code 10 = .ok (.ifCond .ne 7, 3) := by decide +kernel
theorem d14_13 : decode jdk_42_method_154_code 13 = .ok (.iconst 1, 1) := by decide +kernel
theorem d14_14 : decode jdk_42_method_154_code 14 = .ok (.goto 4, 3) := by decide +kernel
theorem d14_17 : decode jdk_42_method_154_code 17 = .ok (.iconst 0, 1) := by decide +kernel
theorem d14_18 : decode jdk_42_method_154_code 18 = .ok (.ireturn, 1) := by decide +kernel
theorem pf14 : plainFor (⟨"java/lang/String", "isLatin1", "()Z"⟩ : MethodName) = true := by first | exact plainFor_of_name (by first | (simp [plainName, overriddenIn]; done) | decide +kernel) | decide +kernel
theorem ef_isLatin1 (m : MethodId) (z0 : Addr) : entryFrame m #[(.ref z0)] 1 = mkF m 0 #[.val (.ref z0)] [] := by first | rfl | (simp [entryFrame, mkF, argsToLocals, Value.category, *]; done) | rfl
set_option maxRecDepth 65536 in
set_option maxHeartbeats 40000000 in
theorem rm_isLatin1 {l : Launch} {Z : State} {a0 : Array Value} {n0 : Nat} (G : Gl Z a0 n0) {h0 : Heap} (O : Old Z n0 h0) (a : Addr) (cs : List Int32) (S : Str Z h0 a cs) :
    Ct [] l Z n0 (⟨"java/lang/String", "isLatin1", "()Z"⟩ : MethodName) jdk_42_method_154_code 1 (some .boolean) ({ frames := 0, cells := 0, slots := 0, locals := 0 } : Room) #[(.ref a)] h0 (fun v h => h = h0 ∧ v = some (.int 1)) := by
  refine Ct.intro pf14 ?_
  intro p e s m below meth c C
  refine AtW.cast ?_ (ef_isLatin1 m a)
  obtain ⟨E, hr, t, FC, FV, A⟩ := id S
  obtain ⟨zc, SC, hzc⟩ := G.cs
  refine w_getS (q := 3) (host := "") C (Or.inl (G.1 _ (List.mem_of_getElem? (i := 30) rfl))) Via.refl (SC.ext O.2) d14_0 rfl ?_
  refine w_if_eq_f (q := 6) C d14_3 rfl hzc ?_
  refine w_aloadN (q := 7) C rfl rfl d14_6 rfl ?_
  refine w_getF (q := 10) (host := "") C (Or.inl (G.1 _ (List.mem_of_getElem? (i := 26) rfl))) Via.refl FC d14_7 rfl ?_
  refine w_if_ne_f (q := 13) C d14_10 rfl (by decide) ?_
  refine w_iconst (q := 14) (v := (1 : Int32)) C (by rfl) d14_13 rfl ?_
  refine w_goto (q := 18) C d14_14 (by decide) (by decide) ?_
  exact w_retZ (z := (1 : Int32)) C (t := .boolean) rfl (by simp) (by decide) d14_18 (by decide) (by decide) ⟨rfl, rfl⟩
theorem d16_0 : decode jdk_42_method_152_code 0 = .ok (.getstatic 38, 3) := by decide +kernel
theorem d16_3 : decode jdk_42_method_152_code 3 = .ok (.ifCond .eq 10, 3) := by decide +kernel
theorem d16_6 : decode jdk_42_method_152_code 6 = .ok (.aload_n 0, 1) := by decide +kernel
theorem d16_7 : decode jdk_42_method_152_code 7 = .ok (.getfield 15, 3) := by decide +kernel
theorem d16_10 : decode jdk_42_method_152_code 10 = .ok (.goto 4, 3) := by decide +kernel
theorem d16_13 : decode jdk_42_method_152_code 13 = .ok (.iconst 1, 1) := by decide +kernel
theorem d16_14 : decode jdk_42_method_152_code 14 = .ok (.ireturn, 1) := by decide +kernel
theorem pf16 : plainFor (⟨"java/lang/String", "coder", "()B"⟩ : MethodName) = true := by first | exact plainFor_of_name (by first | (simp [plainName, overriddenIn]; done) | decide +kernel) | decide +kernel
theorem ef_coder (m : MethodId) (z0 : Addr) : entryFrame m #[(.ref z0)] 1 = mkF m 0 #[.val (.ref z0)] [] := by first | rfl | (simp [entryFrame, mkF, argsToLocals, Value.category, *]; done) | rfl
set_option maxRecDepth 65536 in
set_option maxHeartbeats 40000000 in
theorem rm_coder {l : Launch} {Z : State} {a0 : Array Value} {n0 : Nat} (G : Gl Z a0 n0) {h0 : Heap} (O : Old Z n0 h0) (a : Addr) (cs : List Int32) (S : Str Z h0 a cs) :
    Ct [] l Z n0 (⟨"java/lang/String", "coder", "()B"⟩ : MethodName) jdk_42_method_152_code 1 (some .byte) ({ frames := 0, cells := 0, slots := 0, locals := 0 } : Room) #[(.ref a)] h0 (fun v h => h = h0 ∧ v = some (.int 0)) := by
  refine Ct.intro pf16 ?_
  intro p e s m below meth c C
  refine AtW.cast ?_ (ef_coder m a)
  obtain ⟨E, hr, t, FC, FV, A⟩ := id S
  obtain ⟨zc, SC, hzc⟩ := G.cs
  refine w_getS (q := 3) (host := "") C (Or.inl (G.1 _ (List.mem_of_getElem? (i := 30) rfl))) Via.refl (SC.ext O.2) d16_0 rfl ?_
  refine w_if_eq_f (q := 6) C d16_3 rfl hzc ?_
  refine w_aloadN (q := 7) C rfl rfl d16_6 rfl ?_
  refine w_getF (q := 10) (host := "") C (Or.inl (G.1 _ (List.mem_of_getElem? (i := 26) rfl))) Via.refl FC d16_7 rfl ?_
  refine w_goto (q := 14) C d16_10 (by decide) (by decide) ?_
  exact w_retZ (z := (0 : Int32)) C (t := .byte) rfl (by simp) (by decide) d16_14 (by decide) (by decide) ⟨rfl, rfl⟩
theorem d15_0 : decode jdk_42_method_54_code 0 = .ok (.aload_n 0, 1) := by decide +kernel
theorem d15_1 : decode jdk_42_method_54_code 1 = .ok (.getfield 9, 3) := by decide +kernel
theorem d15_4 : decode jdk_42_method_54_code 4 = .ok (.arraylength, 1) := by decide +kernel
theorem d15_5 : decode jdk_42_method_54_code 5 = .ok (.aload_n 0, 1) := by decide +kernel
theorem d15_6 : decode jdk_42_method_54_code 6 = .ok (.invokevirtual 335, 3) := by decide +kernel
theorem d15_9 : decode jdk_42_method_54_code 9 = .ok (.ishr, 1) := by decide +kernel
theorem d15_10 : decode jdk_42_method_54_code 10 = .ok (.ireturn, 1) := by decide +kernel
theorem pf15 : plainFor (⟨"java/lang/String", "length", "()I"⟩ : MethodName) = true := by first | exact plainFor_of_name (by first | (simp [plainName, overriddenIn]; done) | decide +kernel) | decide +kernel
theorem ef_length (m : MethodId) (z0 : Addr) : entryFrame m #[(.ref z0)] 1 = mkF m 0 #[.val (.ref z0)] [] := by first | rfl | (simp [entryFrame, mkF, argsToLocals, Value.category, *]; done) | rfl
set_option maxRecDepth 65536 in
set_option maxHeartbeats 40000000 in
theorem rm_length {l : Launch} {Z : State} {a0 : Array Value} {n0 : Nat} (G : Gl Z a0 n0) {h0 : Heap} (O : Old Z n0 h0) (a : Addr) (cs : List Int32) (S : Str Z h0 a cs) :
    Ct [] l Z n0 (⟨"java/lang/String", "length", "()I"⟩ : MethodName) jdk_42_method_54_code 1 (some .int) ({ frames := 1, cells := 0, slots := 0, locals := 13 } : Room) #[(.ref a)] h0 (fun v h => h = h0 ∧ v = some (.int (Int32.ofNat cs.length))) := by
  refine Ct.intro pf15 ?_
  intro p e s m below meth c C
  refine AtW.cast ?_ (ef_length m a)
  obtain ⟨E, hr, t, FC, FV, A⟩ := id S
  refine w_aloadN (q := 1) C rfl rfl d15_0 rfl ?_
  refine w_getF (q := 4) (host := "") C (Or.inl (G.1 _ (List.mem_of_getElem? (i := 25) rfl))) Via.refl FV d15_1 rfl ?_
  refine w_len (q := 5) (z := (Int32.ofNat cs.length)) C A (by rw [own_bs_len]) d15_4 rfl ?_
  refine w_aloadN (q := 6) C rfl rfl d15_5 rfl ?_
  refine w_callV (q := 9) (argsL := []) (S := [(.int (Int32.ofNat cs.length))]) (W := 1) (cells' := 0) (slots' := 0) (a := a) C E (G.1 _ (List.mem_of_getElem? (i := 87) rfl)) (G.1 _ (List.mem_of_getElem? (i := 88) rfl)) (w_nf C (G.1 _ (List.mem_of_getElem? (i := 90) rfl))) (G.1 _ (List.mem_of_getElem? (i := 90) rfl)) (G.1 _ (List.mem_of_getElem? (i := 89) rfl)) (G.1 _ (List.mem_of_getElem? (i := 7) rfl)) (G.1 _ (List.mem_of_getElem? (i := 91) rfl)) (by decide) (rm_coder G O a cs S) rfl (lenOf pd_14 rfl) rfl (by decide) (own_leb rfl) (by decide) rfl rfl (by decide) (by decide) d15_6 rfl ?_
  rintro _ h26 ⟨eh27, rfl⟩
  rw [eh27]
  show AtW p l e _ s m _ below meth c n0 _ h0 0 0 (mkF m 9 #[.val (.ref a)] [(.int (0 : Int32)), (.int (Int32.ofNat cs.length))])
  refine w_ishr (q := 10) C rfl d15_9 rfl ?_
  rw [show ((Int32.ofNat cs.length) >>> ((0 : Int32) &&& 31)) = (Int32.ofNat cs.length) from own_shr0 _]
  exact w_retI C rfl d15_10 (by decide) (by decide) ⟨rfl, rfl⟩
theorem d18_0 : decode jdk_43_method_4_code 0 = .ok (.iload_n 0, 1) := by decide +kernel
theorem d18_1 : decode jdk_43_method_4_code 1 = .ok (.ifCond .lt 14, 3) := by decide +kernel
theorem d18_4 : decode jdk_43_method_4_code 4 = .ok (.iload_n 0, 1) := by decide +kernel
theorem d18_5 : decode jdk_43_method_4_code 5 = .ok (.sipush 255, 3) := by decide +kernel
theorem d18_8 : decode jdk_43_method_4_code 8 = .ok (.if_icmp .gt 7, 3) := by decide +kernel
theorem d18_11 : decode jdk_43_method_4_code 11 = .ok (.iconst 1, 1) := by decide +kernel
theorem d18_12 : decode jdk_43_method_4_code 12 = .ok (.goto 4, 3) := by decide +kernel
theorem d18_15 : decode jdk_43_method_4_code 15 = .ok (.iconst 0, 1) := by decide +kernel
theorem d18_16 : decode jdk_43_method_4_code 16 = .ok (.ireturn, 1) := by decide +kernel
theorem pf18 : plainFor (⟨"java/lang/StringLatin1", "canEncode", "(I)Z"⟩ : MethodName) = true := by first | exact plainFor_of_name (by first | (simp [plainName, overriddenIn]; done) | decide +kernel) | decide +kernel
theorem ef_canEncI (m : MethodId) (z0 : Int32) : entryFrame m #[(.int z0)] 1 = mkF m 0 #[.val (.int z0)] [] := by first | rfl | (simp [entryFrame, mkF, argsToLocals, Value.category, *]; done) | rfl
set_option maxRecDepth 65536 in
set_option maxHeartbeats 40000000 in
theorem rm_canEncI {l : Launch} {Z : State} {a0 : Array Value} {n0 : Nat} (G : Gl Z a0 n0) {h0 : Heap} (O : Old Z n0 h0) (ch : Int32) (hc : ¬ ch < 0 ∧ ¬ 255 < ch) :
    Ct [] l Z n0 (⟨"java/lang/StringLatin1", "canEncode", "(I)Z"⟩ : MethodName) jdk_43_method_4_code 1 (some .boolean) ({ frames := 0, cells := 0, slots := 0, locals := 0 } : Room) #[(.int ch)] h0 (fun v h => h = h0 ∧ v = some (.int 1)) := by
  refine Ct.intro pf18 ?_
  intro p e s m below meth c C
  refine AtW.cast ?_ (ef_canEncI m ch)
  refine w_iloadN (q := 1) C rfl d18_0 rfl ?_
  refine w_if_lt_f (q := 4) C d18_1 rfl hc.1 ?_
  refine w_iloadN (q := 5) C rfl d18_4 rfl ?_
  refine w_sipush (q := 8) (v := (255 : Int32)) C (by rfl) d18_5 rfl ?_
  refine w_icmp_gt_f (q := 11) C d18_8 rfl hc.2 ?_
  refine w_iconst (q := 12) (v := (1 : Int32)) C (by rfl) d18_11 rfl ?_
  refine w_goto (q := 16) C d18_12 (by decide) (by decide) ?_
  exact w_retZ (z := (1 : Int32)) C (t := .boolean) rfl (by simp) (by decide) d18_16 (by decide) (by decide) ⟨rfl, rfl⟩
theorem d19_0 : decode jdk_29_method_65_code 0 = .ok (.iload_n 0, 1) := by decide +kernel
theorem d19_1 : decode jdk_29_method_65_code 1 = .ok (.iload_n 1, 1) := by decide +kernel
theorem d19_2 : decode jdk_29_method_65_code 2 = .ok (.if_icmp .lt 7, 3) := by decide +kernel
theorem d19_5 : decode jdk_29_method_65_code 5 = .ok (.iload_n 0, 1) := by decide +kernel
theorem d19_6 : decode jdk_29_method_65_code 6 = .ok (.goto 4, 3) := by decide +kernel
theorem d19_9 : decode jdk_29_method_65_code 9 = .ok (.iload_n 1, 1) := by decide +kernel
theorem d19_10 : decode jdk_29_method_65_code 10 = .ok (.ireturn, 1) := by decide +kernel
theorem pf19 : plainFor (⟨"java/lang/Math", "max", "(II)I"⟩ : MethodName) = true := by first | exact plainFor_of_name (by first | (simp [plainName, overriddenIn]; done) | decide +kernel) | decide +kernel
theorem ef_mmax (m : MethodId) (z0 : Int32) (z1 : Int32) : entryFrame m #[(.int z0), (.int z1)] 2 = mkF m 0 #[.val (.int z0), .val (.int z1)] [] := by first | rfl | (simp [entryFrame, mkF, argsToLocals, Value.category, *]; done) | rfl
set_option maxRecDepth 65536 in
set_option maxHeartbeats 40000000 in
theorem rm_mmax {l : Launch} {Z : State} {a0 : Array Value} {n0 : Nat} (G : Gl Z a0 n0) {h0 : Heap} (O : Old Z n0 h0) (x : Int32) (y : Int32) :
    Ct [] l Z n0 (⟨"java/lang/Math", "max", "(II)I"⟩ : MethodName) jdk_29_method_65_code 2 (some .int) ({ frames := 0, cells := 0, slots := 0, locals := 0 } : Room) #[(.int x), (.int y)] h0 (fun v h => h = h0 ∧ v = some (.int (if x < y then y else x))) := by
  refine Ct.intro pf19 ?_
  intro p e s m below meth c C
  refine AtW.cast ?_ (ef_mmax m x y)
  refine w_iloadN (q := 1) C rfl d19_0 rfl ?_
  refine w_iloadN (q := 2) C rfl d19_1 rfl ?_
  by_cases hc : x < y
  · refine w_icmp_lt_t (q := 9) C d19_2 (by decide) (by decide) hc ?_
    refine w_iloadN (q := 10) C rfl d19_9 rfl ?_
    exact w_retI C rfl d19_10 (by decide) (by decide) ⟨rfl, by rw [if_pos hc]⟩
  · refine w_icmp_lt_f (q := 5) C d19_2 rfl hc ?_
    refine w_iloadN (q := 6) C rfl d19_5 rfl ?_
    refine w_goto (q := 10) C d19_6 (by decide) (by decide) ?_
    exact w_retI C rfl d19_10 (by decide) (by decide) ⟨rfl, by rw [if_neg hc]⟩
theorem d20_0 : decode jdk_29_method_69_code 0 = .ok (.iload_n 0, 1) := by decide +kernel
theorem d20_1 : decode jdk_29_method_69_code 1 = .ok (.iload_n 1, 1) := by decide +kernel
theorem d20_2 : decode jdk_29_method_69_code 2 = .ok (.if_icmp .gt 7, 3) := by decide +kernel
theorem d20_5 : decode jdk_29_method_69_code 5 = .ok (.iload_n 0, 1) := by decide +kernel
theorem d20_6 : decode jdk_29_method_69_code 6 = .ok (.goto 4, 3) := by decide +kernel
theorem d20_9 : decode jdk_29_method_69_code 9 = .ok (.iload_n 1, 1) := by decide +kernel
theorem d20_10 : decode jdk_29_method_69_code 10 = .ok (.ireturn, 1) := by decide +kernel
theorem pf20 : plainFor (⟨"java/lang/Math", "min", "(II)I"⟩ : MethodName) = true := by first | exact plainFor_of_name (by first | (simp [plainName, overriddenIn]; done) | decide +kernel) | decide +kernel
theorem ef_mmin (m : MethodId) (z0 : Int32) (z1 : Int32) : entryFrame m #[(.int z0), (.int z1)] 2 = mkF m 0 #[.val (.int z0), .val (.int z1)] [] := by first | rfl | (simp [entryFrame, mkF, argsToLocals, Value.category, *]; done) | rfl
set_option maxRecDepth 65536 in
set_option maxHeartbeats 40000000 in
theorem rm_mmin {l : Launch} {Z : State} {a0 : Array Value} {n0 : Nat} (G : Gl Z a0 n0) {h0 : Heap} (O : Old Z n0 h0) (x : Int32) (y : Int32) :
    Ct [] l Z n0 (⟨"java/lang/Math", "min", "(II)I"⟩ : MethodName) jdk_29_method_69_code 2 (some .int) ({ frames := 0, cells := 0, slots := 0, locals := 0 } : Room) #[(.int x), (.int y)] h0 (fun v h => h = h0 ∧ v = some (.int (if y < x then y else x))) := by
  refine Ct.intro pf20 ?_
  intro p e s m below meth c C
  refine AtW.cast ?_ (ef_mmin m x y)
  refine w_iloadN (q := 1) C rfl d20_0 rfl ?_
  refine w_iloadN (q := 2) C rfl d20_1 rfl ?_
  by_cases hc : y < x
  · refine w_icmp_gt_t (q := 9) C d20_2 (by decide) (by decide) hc ?_
    refine w_iloadN (q := 10) C rfl d20_9 rfl ?_
    exact w_retI C rfl d20_10 (by decide) (by decide) ⟨rfl, by rw [if_pos hc]⟩
  · refine w_icmp_gt_f (q := 5) C d20_2 rfl hc ?_
    refine w_iloadN (q := 6) C rfl d20_5 rfl ?_
    refine w_goto (q := 10) C d20_6 (by decide) (by decide) ?_
    exact w_retI C rfl d20_10 (by decide) (by decide) ⟨rfl, by rw [if_neg hc]⟩
def own_ix (ch : Int32) : List Int32 → Nat → Int32
  | [], _ => -1
  | c :: r, i => if c = ch then Int32.ofNat i else own_ix ch r (i + 1)
theorem own_ix_cons (ch c : Int32) (r : List Int32) (i : Nat) : own_ix ch (c :: r) i = if c = ch then Int32.ofNat i else own_ix ch r (i + 1) := rfl
theorem own_b8inj {x y : Int32} (hx : ¬ x < 0 ∧ ¬ 255 < x) (hy : ¬ y < 0 ∧ ¬ 255 < y) : x.toInt8.toInt32 = y.toInt8.toInt32 ↔ x = y :=
  ⟨fun q => by rw [← own_lo8 hx.1 hx.2, ← own_lo8 hy.1 hy.2, q], fun q => by rw [q]⟩
theorem own_ix_neg (ch : Int32) : ∀ (cs : List Int32) (i : Nat), i + cs.length < 2 ^ 31 → (own_ix ch cs i < 0 ↔ ch ∉ cs)
  | [], i, _ => by simp only [own_ix]; exact ⟨fun _ => List.not_mem_nil, fun _ => by decide⟩
  | c :: r, i, h => by
    simp only [List.length_cons] at h
    unfold own_ix
    by_cases hc : c = ch
    · rw [if_pos hc]; subst hc
      exact ⟨fun q => absurd q (ofNat_neg (by omega)), fun q => absurd (List.mem_cons_self ..) q⟩
    · rw [if_neg hc, own_ix_neg ch r (i + 1) (by omega)]
      simp [List.mem_cons, Ne.symm hc]

theorem d24_0 : decode jdk_43_method_23_code 0 = .ok (.iload_n 1, 1) := by decide +kernel
theorem d24_1 : decode jdk_43_method_23_code 1 = .ok (.i2b, 1) := by decide +kernel
theorem d24_2 : decode jdk_43_method_23_code 2 = .ok (.istore 4, 2) := by decide +kernel
theorem d24_4 : decode jdk_43_method_23_code 4 = .ok (.iload_n 2, 1) := by decide +kernel
theorem d24_5 : decode jdk_43_method_23_code 5 = .ok (.istore 5, 2) := by decide +kernel
theorem d24_7 : decode jdk_43_method_23_code 7 = .ok (.iload 5, 2) := by decide +kernel
theorem d24_9 : decode jdk_43_method_23_code 9 = .ok (.iload_n 3, 1) := by decide +kernel
theorem d24_10 : decode jdk_43_method_23_code 10 = .ok (.if_icmp .ge 21, 3) := by decide +kernel
theorem d24_13 : decode jdk_43_method_23_code 13 = .ok (.aload_n 0, 1) := by decide +kernel
theorem d24_14 : decode jdk_43_method_23_code 14 = .ok (.iload 5, 2) := by decide +kernel
theorem d24_16 : decode jdk_43_method_23_code 16 = .ok (.baload, 1) := by decide +kernel
theorem d24_17 : decode jdk_43_method_23_code 17 = .ok (.iload 4, 2) := by decide +kernel
theorem d24_19 : decode jdk_43_method_23_code 19 = .ok (.if_icmp .ne 6, 3) := by decide +kernel
theorem d24_22 : decode jdk_43_method_23_code 22 = .ok (.iload 5, 2) := by decide +kernel
theorem d24_24 : decode jdk_43_method_23_code 24 = .ok (.ireturn, 1) := by decide +kernel
theorem d24_25 : decode jdk_43_method_23_code 25 = .ok (.iinc 5 1, 3) := by decide +kernel
theorem d24_28 : decode jdk_43_method_23_code 28 = .ok (.goto (-21), 3) := by decide +kernel
theorem d24_31 : decode jdk_43_method_23_code 31 = .ok (.iconst (-1), 1) := by decide +kernel
theorem d24_32 : decode jdk_43_method_23_code 32 = .ok (.ireturn, 1) := by decide +kernel
theorem pf24 : plainFor (⟨"java/lang/StringLatin1", "indexOfChar", "([BIII)I"⟩ : MethodName) = true := by first | exact plainFor_of_name (by first | (simp [plainName, overriddenIn]; done) | decide +kernel) | decide +kernel
theorem ef_idxChar (m : MethodId) (z0 : Addr) (z1 : Int32) (z2 : Int32) (z3 : Int32) : entryFrame m #[(.ref z0), (.int z1), (.int z2), (.int z3)] 6 = mkF m 0 #[.val (.ref z0), .val (.int z1), .val (.int z2), .val (.int z3), .unset, .unset] [] := by first | rfl | (simp [entryFrame, mkF, argsToLocals, Value.category, *]; done) | rfl
set_option maxRecDepth 65536 in
set_option maxHeartbeats 40000000 in
theorem rm_idxChar {l : Launch} {Z : State} {a0 : Array Value} {n0 : Nat} (G : Gl Z a0 n0) {h0 : Heap} (O : Old Z n0 h0) (t : Addr) (cs : List Int32) (ch : Int32) (A : Ar Z h0 t .byte (own_bs cs)) (hr : L1 cs) (hc : ¬ ch < 0 ∧ ¬ 255 < ch) :
    Ct [] l Z n0 (⟨"java/lang/StringLatin1", "indexOfChar", "([BIII)I"⟩ : MethodName) jdk_43_method_23_code 6 (some .int) ({ frames := 0, cells := 0, slots := 0, locals := 0 } : Room) #[(.ref t), (.int ch), (.int (0 : Int32)), (.int (Int32.ofNat cs.length))] h0 (fun v h => h = h0 ∧ v = some (.int (own_ix ch cs 0))) := by
  refine Ct.intro pf24 ?_
  intro p e s m below meth c C
  refine AtW.cast ?_ (ef_idxChar m t ch (0 : Int32) (Int32.ofNat cs.length))
  have hl : cs.length < 2 ^ 31 := by have := A.1; rw [own_bs_len] at this; exact this
  have LOOP : ∀ (k i : Nat), i + k = cs.length → own_ix ch cs 0 = own_ix ch (cs.drop i) i → AtW p l e ({ frames := 0, cells := 0, slots := 0, locals := 0 } : Room) s m #[(.ref t), (.int ch), (.int (0 : Int32)), (.int (Int32.ofNat cs.length))] below meth c n0 (fun v h => h = h0 ∧ v = some (.int (own_ix ch cs 0))) h0 0 0 (mkF m 7 #[.val (.ref t), .val (.int ch), .val (.int (0 : Int32)), .val (.int (Int32.ofNat cs.length)), .val (.int (ch.toInt8.toInt32)), .val (.int (Int32.ofNat i))] []) := by
    intro k
    induction k with
    | zero =>
      intro i hik e
      obtain rfl : i = cs.length := by omega
      refine w_iload (q := 9) C rfl d24_7 rfl ?_
      refine w_iloadN (q := 10) C rfl d24_9 rfl ?_
      refine w_icmp_ge_t (q := 31) C d24_10 (by decide) (by decide) (fun q => Nat.lt_irrefl _ ((own_nlt hl hl).mp q)) ?_
      refine w_iconst (q := 32) (v := (-1 : Int32)) C (by rfl) d24_31 rfl ?_
      exact w_retI C rfl d24_32 (by decide) (by decide) ⟨rfl, by rw [e, List.drop_length]; rfl⟩
    | succ k ih =>
      intro i hik e
      have hil : i < cs.length := by omega
      obtain ⟨c1, hc1⟩ : ∃ c1, cs[i]? = some c1 := ⟨_, List.getElem?_eq_getElem hil⟩
      have ed : cs.drop i = c1 :: cs.drop (i + 1) := by rw [List.drop_eq_getElem_cons hil]; congr 1; exact Option.some.inj ((List.getElem?_eq_getElem hil).symm.trans hc1)
      rw [ed, own_ix_cons] at e
      refine w_iload (q := 9) C rfl d24_7 rfl ?_
      refine w_iloadN (q := 10) C rfl d24_9 rfl ?_
      refine w_icmp_ge_f (q := 13) C d24_10 rfl ((own_nlt (by omega) hl).mpr hil) ?_
      refine w_aloadN (q := 14) C rfl rfl d24_13 rfl ?_
      refine w_iload (q := 16) C rfl d24_14 rfl ?_
      refine w_baload (q := 17) (i := i) (v := (.int c1.toInt8.toInt32)) C A rfl (own_bs_get hc1) d24_16 rfl ?_
      refine w_iload (q := 19) C rfl d24_17 rfl ?_
      by_cases q1 : c1.toInt8.toInt32 = (ch.toInt8.toInt32)
      · refine w_icmp_ne_f (q := 22) C d24_19 rfl q1 ?_
        refine w_iload (q := 24) C rfl d24_22 rfl ?_
        exact w_retI C rfl d24_24 (by decide) (by decide) ⟨rfl, by rw [e, if_pos ((own_b8inj (hr.get hc1) hc).mp q1)]⟩
      · refine w_icmp_ne_t (q := 25) C d24_19 (by decide) (by decide) q1 ?_
        refine w_iinc (q := 28) (L' := #[.val (.ref t), .val (.int ch), .val (.int (0 : Int32)), .val (.int (Int32.ofNat cs.length)), .val (.int (ch.toInt8.toInt32)), .val (.int (Int32.ofNat (i + 1)))]) C rfl (own_one i) rfl d24_25 rfl ?_
        refine w_goto (q := 7) C d24_28 (by decide) (by decide) ?_
        exact ih (i + 1) (by omega) (by rw [e, if_neg (fun q => q1 ((own_b8inj (hr.get hc1) hc).mpr q))])
  refine w_iloadN (q := 1) C rfl d24_0 rfl ?_
  refine w_i2b (q := 2) C rfl d24_1 rfl ?_
  refine w_istore (q := 4) (L' := #[.val (.ref t), .val (.int ch), .val (.int (0 : Int32)), .val (.int (Int32.ofNat cs.length)), .val (.int (ch.toInt8.toInt32)), .unset]) C rfl d24_2 rfl ?_
  refine w_iloadN (q := 5) C rfl d24_4 rfl ?_
  refine w_istore (q := 7) (L' := #[.val (.ref t), .val (.int ch), .val (.int (0 : Int32)), .val (.int (Int32.ofNat cs.length)), .val (.int (ch.toInt8.toInt32)), .val (.int (0 : Int32))]) C rfl d24_5 rfl ?_
  exact LOOP cs.length 0 (by omega) rfl
theorem d17_0 : decode jdk_43_method_22_code 0 = .ok (.iload_n 1, 1) := by decide +kernel
theorem d17_1 : decode jdk_43_method_22_code 1 = .ok (.invokestatic 88, 3) := by decide +kernel
theorem d17_4 : decode jdk_43_method_22_code 4 = .ok (.ifCond .ne 5, 3) := by decide +kernel
theorem d17_7 : decode jdk_43_method_22_code 7 = .ok (.iconst (-1), 1) := by decide +kernel
theorem d17_8 : decode jdk_43_method_22_code 8 = .ok (.ireturn, 1) := by decide +kernel
theorem d17_9 : decode jdk_43_method_22_code 9 = .ok (.iload_n 2, 1) := by decide +kernel
theorem d17_10 : decode jdk_43_method_22_code 10 = .ok (.iconst 0, 1) := by decide +kernel
theorem d17_11 : decode jdk_43_method_22_code 11 = .ok (.invokestatic 92, 3) := by decide +kernel
theorem d17_14 : decode jdk_43_method_22_code 14 = .ok (.istore_n 2, 1) := by decide +kernel
theorem d17_15 : decode jdk_43_method_22_code 15 = .ok (.iload_n 3, 1) := by decide +kernel
theorem d17_16 : decode jdk_43_method_22_code 16 = .ok (.aload_n 0, 1) := by decide +kernel
theorem d17_17 : decode jdk_43_method_22_code 17 = .ok (.arraylength, 1) := by decide +kernel
theorem d17_18 : decode jdk_43_method_22_code 18 = .ok (.invokestatic 38, 3) := by decide +kernel
theorem d17_21 : decode jdk_43_method_22_code 21 = .ok (.istore_n 3, 1) := by decide +kernel
theorem d17_22 : decode jdk_43_method_22_code 22 = .ok (.iload_n 2, 1) := by decide +kernel
theorem d17_23 : decode jdk_43_method_22_code 23 = .ok (.iload_n 3, 1) := by decide +kernel
theorem d17_24 : decode jdk_43_method_22_code 24 = .ok (.if_icmp .lt 5, 3) := by decide +kernel
theorem d17_27 : decode jdk_43_method_22_code 27 = .ok (.iconst (-1), 1) := by decide +kernel
theorem d17_28 : decode jdk_43_method_22_code 28 = .ok (.ireturn, 1) := by decide +kernel
theorem d17_29 : decode jdk_43_method_22_code 29 = .ok (.aload_n 0, 1) := by decide +kernel
theorem d17_30 : decode jdk_43_method_22_code 30 = .ok (.iload_n 1, 1) := by decide +kernel
theorem d17_31 : decode jdk_43_method_22_code 31 = .ok (.iload_n 2, 1) := by decide +kernel
theorem d17_32 : decode jdk_43_method_22_code 32 = .ok (.iload_n 3, 1) := by decide +kernel
theorem d17_33 : decode jdk_43_method_22_code 33 = .ok (.invokestatic 95, 3) := by decide +kernel
theorem d17_36 : decode jdk_43_method_22_code 36 = .ok (.ireturn, 1) := by decide +kernel
theorem pf17 : plainFor (⟨"java/lang/StringLatin1", "indexOf", "([BIII)I"⟩ : MethodName) = true := by first | exact plainFor_of_name (by first | (simp [plainName, overriddenIn]; done) | decide +kernel) | decide +kernel
theorem ef_idxL (m : MethodId) (z0 : Addr) (z1 : Int32) (z2 : Int32) (z3 : Int32) : entryFrame m #[(.ref z0), (.int z1), (.int z2), (.int z3)] 4 = mkF m 0 #[.val (.ref z0), .val (.int z1), .val (.int z2), .val (.int z3)] [] := by first | rfl | (simp [entryFrame, mkF, argsToLocals, Value.category, *]; done) | rfl
set_option maxRecDepth 65536 in
set_option maxHeartbeats 40000000 in
theorem rm_idxL {l : Launch} {Z : State} {a0 : Array Value} {n0 : Nat} (G : Gl Z a0 n0) {h0 : Heap} (O : Old Z n0 h0) (t : Addr) (cs : List Int32) (ch : Int32) (A : Ar Z h0 t .byte (own_bs cs)) (hr : L1 cs) (hc : ¬ ch < 0 ∧ ¬ 255 < ch) :
    Ct [] l Z n0 (⟨"java/lang/StringLatin1", "indexOf", "([BIII)I"⟩ : MethodName) jdk_43_method_22_code 4 (some .int) ({ frames := 1, cells := 0, slots := 0, locals := 17 } : Room) #[(.ref t), (.int ch), (.int (0 : Int32)), (.int (Int32.ofNat cs.length))] h0 (fun v h => h = h0 ∧ v = some (.int (own_ix ch cs 0))) := by
  refine Ct.intro pf17 ?_
  intro p e s m below meth c C
  refine AtW.cast ?_ (ef_idxL m t ch (0 : Int32) (Int32.ofNat cs.length))
  have hl : cs.length < 2 ^ 31 := by have := A.1; rw [own_bs_len] at this; exact this
  refine w_iloadN (q := 1) C rfl d17_0 rfl ?_
  refine w_callS (q := 4) (argsL := [(.int ch)]) (S := []) (W := 0) (cells' := 0) (slots' := 0) C (G.1 _ (List.mem_of_getElem? (i := 95) rfl)) (G.1 _ (List.mem_of_getElem? (i := 96) rfl)) (G.1 _ (List.mem_of_getElem? (i := 33) rfl)) (G.1 _ (List.mem_of_getElem? (i := 97) rfl)) (by decide) (rm_canEncI G O ch hc) rfl (lenOf pd_16 rfl) rfl (by decide) (own_leb rfl) (by decide) rfl rfl (by decide) (by decide) d17_1 rfl ?_
  rintro _ h28 ⟨eh29, rfl⟩
  rw [eh29]
  show AtW p l e _ s m _ below meth c n0 _ h0 0 0 (mkF m 4 #[.val (.ref t), .val (.int ch), .val (.int (0 : Int32)), .val (.int (Int32.ofNat cs.length))] [(.int (1 : Int32))])
  refine w_if_ne_t (q := 9) C d17_4 (by decide) (by decide) (by decide) ?_
  refine w_iloadN (q := 10) C rfl d17_9 rfl ?_
  refine w_iconst (q := 11) (v := (0 : Int32)) C (by rfl) d17_10 rfl ?_
  refine w_callS (q := 14) (argsL := [(.int (0 : Int32)), (.int (0 : Int32))]) (S := []) (W := 0) (cells' := 0) (slots' := 0) C (G.1 _ (List.mem_of_getElem? (i := 98) rfl)) (G.1 _ (List.mem_of_getElem? (i := 99) rfl)) (G.1 _ (List.mem_of_getElem? (i := 100) rfl)) (G.1 _ (List.mem_of_getElem? (i := 101) rfl)) (by decide) (rm_mmax G O 0 0) rfl (lenOf pd_12 rfl) rfl (by decide) (own_leb rfl) (by decide) rfl rfl (by decide) (by decide) d17_11 rfl ?_
  rintro _ h30 ⟨eh31, rfl⟩
  rw [eh31]
  show AtW p l e _ s m _ below meth c n0 _ h0 0 0 (mkF m 14 #[.val (.ref t), .val (.int ch), .val (.int (0 : Int32)), .val (.int (Int32.ofNat cs.length))] [(.int (if (0 : Int32) < (0 : Int32) then (0 : Int32) else (0 : Int32)))])
  rw [show (if (0 : Int32) < (0 : Int32) then (0 : Int32) else (0 : Int32)) = (0 : Int32) from by decide]
  refine w_istoreN (q := 15) (L' := #[.val (.ref t), .val (.int ch), .val (.int (0 : Int32)), .val (.int (Int32.ofNat cs.length))]) C rfl d17_14 rfl ?_
  refine w_iloadN (q := 16) C rfl d17_15 rfl ?_
  refine w_aloadN (q := 17) C rfl rfl d17_16 rfl ?_
  refine w_len (q := 18) (z := (Int32.ofNat cs.length)) C A (by rw [own_bs_len]) d17_17 rfl ?_
  refine w_callS (q := 21) (argsL := [(.int (Int32.ofNat cs.length)), (.int (Int32.ofNat cs.length))]) (S := []) (W := 0) (cells' := 0) (slots' := 0) C (G.1 _ (List.mem_of_getElem? (i := 102) rfl)) (G.1 _ (List.mem_of_getElem? (i := 103) rfl)) (G.1 _ (List.mem_of_getElem? (i := 100) rfl)) (G.1 _ (List.mem_of_getElem? (i := 104) rfl)) (by decide) (rm_mmin G O _ _) rfl (lenOf pd_12 rfl) rfl (by decide) (own_leb rfl) (by decide) rfl rfl (by decide) (by decide) d17_18 rfl ?_
  rintro _ h32 ⟨eh33, rfl⟩
  rw [eh33]
  show AtW p l e _ s m _ below meth c n0 _ h0 0 0 (mkF m 21 #[.val (.ref t), .val (.int ch), .val (.int (0 : Int32)), .val (.int (Int32.ofNat cs.length))] [(.int (if (Int32.ofNat cs.length) < (Int32.ofNat cs.length) then (Int32.ofNat cs.length) else (Int32.ofNat cs.length)))])
  rw [show (if (Int32.ofNat cs.length) < (Int32.ofNat cs.length) then (Int32.ofNat cs.length) else (Int32.ofNat cs.length)) = (Int32.ofNat cs.length) from by simp]
  refine w_istoreN (q := 22) (L' := #[.val (.ref t), .val (.int ch), .val (.int (0 : Int32)), .val (.int (Int32.ofNat cs.length))]) C rfl d17_21 rfl ?_
  refine w_iloadN (q := 23) C rfl d17_22 rfl ?_
  refine w_iloadN (q := 24) C rfl d17_23 rfl ?_
  by_cases q1 : (0 : Int32) < (Int32.ofNat cs.length)
  · refine w_icmp_lt_t (q := 29) C d17_24 (by decide) (by decide) q1 ?_
    refine w_aloadN (q := 30) C rfl rfl d17_29 rfl ?_
    refine w_iloadN (q := 31) C rfl d17_30 rfl ?_
    refine w_iloadN (q := 32) C rfl d17_31 rfl ?_
    refine w_iloadN (q := 33) C rfl d17_32 rfl ?_
    refine w_callS (q := 36) (argsL := [(.ref t), (.int ch), (.int (0 : Int32)), (.int (Int32.ofNat cs.length))]) (S := []) (W := 0) (cells' := 0) (slots' := 0) C (G.1 _ (List.mem_of_getElem? (i := 115) rfl)) (G.1 _ (List.mem_of_getElem? (i := 116) rfl)) (G.1 _ (List.mem_of_getElem? (i := 33) rfl)) (G.1 _ (List.mem_of_getElem? (i := 117) rfl)) (by decide) (rm_idxChar G O t cs ch A hr hc) rfl (lenOf pd_15 rfl) rfl (by decide) (own_leb rfl) (by decide) rfl rfl (by decide) (by decide) d17_33 rfl ?_
    rintro _ h34 ⟨eh35, rfl⟩
    rw [eh35]
    show AtW p l e _ s m _ below meth c n0 _ h0 0 0 (mkF m 36 #[.val (.ref t), .val (.int ch), .val (.int (0 : Int32)), .val (.int (Int32.ofNat cs.length))] [(.int (own_ix ch cs 0))])
    exact w_retI C rfl d17_36 (by decide) (by decide) ⟨rfl, rfl⟩
  · refine w_icmp_lt_f (q := 27) C d17_24 rfl q1 ?_
    refine w_iconst (q := 28) (v := (-1 : Int32)) C (by rfl) d17_27 rfl ?_
    exact w_retI C rfl d17_28 (by decide) (by decide) ⟨rfl, by have hz : cs = [] := List.eq_nil_of_length_eq_zero (by have : ¬ 0 < cs.length := fun q => q1 ((own_nlt (i := 0) (by omega) hl).mpr q); omega); subst hz; rfl⟩
theorem d13_0 : decode jdk_42_method_80_code 0 = .ok (.aload_n 0, 1) := by decide +kernel
theorem d13_1 : decode jdk_42_method_80_code 1 = .ok (.invokevirtual 492, 3) := by decide +kernel
theorem d13_4 : decode jdk_42_method_80_code 4 = .ok (.ifCond .eq 19, 3) := by decide +kernel
theorem d13_7 : decode jdk_42_method_80_code 7 = .ok (.aload_n 0, 1) := by decide +kernel
theorem d13_8 : decode jdk_42_method_80_code 8 = .ok (.getfield 9, 3) := by decide +kernel
theorem d13_11 : decode jdk_42_method_80_code 11 = .ok (.iload_n 1, 1) := by decide +kernel
theorem d13_12 : decode jdk_42_method_80_code 12 = .ok (.iload_n 2, 1) := by decide +kernel
theorem d13_13 : decode jdk_42_method_80_code 13 = .ok (.aload_n 0, 1) := by decide +kernel
theorem d13_14 : decode jdk_42_method_80_code 14 = .ok (.invokevirtual 505, 3) := by decide +kernel
theorem d13_17 : decode jdk_42_method_80_code 17 = .ok (.invokestatic 637, 3) := by decide +kernel
theorem d13_20 : decode jdk_42_method_80_code 20 = .ok (.goto 16, 3) := by decide +kernel
theorem d13_23 : decode jdk_42_method_80_code 23 = .ok (.aload_n 0, 1) := by decide +kernel
theorem d13_24 : decode jdk_42_method_80_code 24 = .ok (.getfield 9, 3) := by decide +kernel
theorem d13_27 : decode jdk_42_method_80_code 27 = .ok (.iload_n 1, 1) := by decide +kernel
theorem d13_28 : decode jdk_42_method_80_code 28 = .ok (.iload_n 2, 1) := by decide +kernel
theorem d13_29 : decode jdk_42_method_80_code 29 = .ok (.aload_n 0, 1) := by decide +kernel
theorem d13_30 : decode jdk_42_method_80_code 30 = .ok (.invokevirtual 505, 3) := by decide +kernel
theorem d13_33 : decode jdk_42_method_80_code 33 = .ok (.invokestatic 640, 3) := by decide +kernel
theorem d13_36 : decode jdk_42_method_80_code 36 = .ok (.ireturn, 1) := by decide +kernel
theorem pf13 : plainFor (⟨"java/lang/String", "indexOf", "(II)I"⟩ : MethodName) = true := by first | exact plainFor_of_name (by first | (simp [plainName, overriddenIn]; done) | decide +kernel) | decide +kernel
theorem ef_idx2 (m : MethodId) (z0 : Addr) (z1 : Int32) (z2 : Int32) : entryFrame m #[(.ref z0), (.int z1), (.int z2)] 3 = mkF m 0 #[.val (.ref z0), .val (.int z1), .val (.int z2)] [] := by first | rfl | (simp [entryFrame, mkF, argsToLocals, Value.category, *]; done) | rfl
set_option maxRecDepth 65536 in
set_option maxHeartbeats 40000000 in
theorem rm_idx2 {l : Launch} {Z : State} {a0 : Array Value} {n0 : Nat} (G : Gl Z a0 n0) {h0 : Heap} (O : Old Z n0 h0) (a : Addr) (cs : List Int32) (ch : Int32) (S : Str Z h0 a cs) (hc : ¬ ch < 0 ∧ ¬ 255 < ch) :
    Ct [] l Z n0 (⟨"java/lang/String", "indexOf", "(II)I"⟩ : MethodName) jdk_42_method_80_code 3 (some .int) ({ frames := 2, cells := 0, slots := 0, locals := 32 } : Room) #[(.ref a), (.int ch), (.int (0 : Int32))] h0 (fun v h => h = h0 ∧ v = some (.int (own_ix ch cs 0))) := by
  refine Ct.intro pf13 ?_
  intro p e s m below meth c C
  refine AtW.cast ?_ (ef_idx2 m a ch (0 : Int32))
  obtain ⟨E, hr, t, FC, FV, A⟩ := id S
  refine w_aloadN (q := 1) C rfl rfl d13_0 rfl ?_
  refine w_callV (q := 4) (argsL := []) (S := []) (W := 0) (cells' := 0) (slots' := 0) (a := a) C E (G.1 _ (List.mem_of_getElem? (i := 77) rfl)) (G.1 _ (List.mem_of_getElem? (i := 78) rfl)) (w_nf C (G.1 _ (List.mem_of_getElem? (i := 80) rfl))) (G.1 _ (List.mem_of_getElem? (i := 80) rfl)) (G.1 _ (List.mem_of_getElem? (i := 79) rfl)) (G.1 _ (List.mem_of_getElem? (i := 7) rfl)) (G.1 _ (List.mem_of_getElem? (i := 81) rfl)) (by decide) (rm_isLatin1 G O a cs S) rfl (lenOf pd_10 rfl) rfl (by decide) (own_leb rfl) (by decide) rfl rfl (by decide) (by decide) d13_1 rfl ?_
  rintro _ h36 ⟨eh37, rfl⟩
  rw [eh37]
  show AtW p l e _ s m _ below meth c n0 _ h0 0 0 (mkF m 4 #[.val (.ref a), .val (.int ch), .val (.int (0 : Int32))] [(.int (1 : Int32))])
  refine w_if_eq_f (q := 7) C d13_4 rfl (by decide) ?_
  refine w_aloadN (q := 8) C rfl rfl d13_7 rfl ?_
  refine w_getF (q := 11) (host := "") C (Or.inl (G.1 _ (List.mem_of_getElem? (i := 25) rfl))) Via.refl FV d13_8 rfl ?_
  refine w_iloadN (q := 12) C rfl d13_11 rfl ?_
  refine w_iloadN (q := 13) C rfl d13_12 rfl ?_
  refine w_aloadN (q := 14) C rfl rfl d13_13 rfl ?_
  refine w_callV (q := 17) (argsL := []) (S := [(.int (0 : Int32)), (.int ch), (.ref t)]) (W := 3) (cells' := 0) (slots' := 0) (a := a) C E (G.1 _ (List.mem_of_getElem? (i := 82) rfl)) (G.1 _ (List.mem_of_getElem? (i := 83) rfl)) (w_nf C (G.1 _ (List.mem_of_getElem? (i := 85) rfl))) (G.1 _ (List.mem_of_getElem? (i := 85) rfl)) (G.1 _ (List.mem_of_getElem? (i := 84) rfl)) (G.1 _ (List.mem_of_getElem? (i := 7) rfl)) (G.1 _ (List.mem_of_getElem? (i := 86) rfl)) (by decide) (rm_length G O a cs S) rfl (lenOf pd_13 rfl) rfl (by decide) (own_leb rfl) (by decide) rfl rfl (by decide) (by decide) d13_14 rfl ?_
  rintro _ h38 ⟨eh39, rfl⟩
  rw [eh39]
  show AtW p l e _ s m _ below meth c n0 _ h0 0 0 (mkF m 17 #[.val (.ref a), .val (.int ch), .val (.int (0 : Int32))] [(.int (Int32.ofNat cs.length)), (.int (0 : Int32)), (.int ch), (.ref t)])
  refine w_callS (q := 20) (argsL := [(.ref t), (.int ch), (.int (0 : Int32)), (.int (Int32.ofNat cs.length))]) (S := []) (W := 0) (cells' := 0) (slots' := 0) C (G.1 _ (List.mem_of_getElem? (i := 92) rfl)) (G.1 _ (List.mem_of_getElem? (i := 93) rfl)) (G.1 _ (List.mem_of_getElem? (i := 33) rfl)) (G.1 _ (List.mem_of_getElem? (i := 94) rfl)) (by decide) (rm_idxL G O t cs ch A hr hc) rfl (lenOf pd_15 rfl) rfl (by decide) (own_leb rfl) (by decide) rfl rfl (by decide) (by decide) d13_17 rfl ?_
  rintro _ h40 ⟨eh41, rfl⟩
  rw [eh41]
  show AtW p l e _ s m _ below meth c n0 _ h0 0 0 (mkF m 20 #[.val (.ref a), .val (.int ch), .val (.int (0 : Int32))] [(.int (own_ix ch cs 0))])
  refine w_goto (q := 36) C d13_20 (by decide) (by decide) ?_
  exact w_retI C rfl d13_36 (by decide) (by decide) ⟨rfl, rfl⟩
theorem d12_0 : decode jdk_42_method_79_code 0 = .ok (.aload_n 0, 1) := by decide +kernel
theorem d12_1 : decode jdk_42_method_79_code 1 = .ok (.iload_n 1, 1) := by decide +kernel
theorem d12_2 : decode jdk_42_method_79_code 2 = .ok (.iconst 0, 1) := by decide +kernel
theorem d12_3 : decode jdk_42_method_79_code 3 = .ok (.invokevirtual 633, 3) := by decide +kernel
theorem d12_6 : decode jdk_42_method_79_code 6 = .ok (.ireturn, 1) := by decide +kernel
theorem pf12 : plainFor (⟨"java/lang/String", "indexOf", "(I)I"⟩ : MethodName) = true := by first | exact plainFor_of_name (by first | (simp [plainName, overriddenIn]; done) | decide +kernel) | decide +kernel
theorem ef_idx1 (m : MethodId) (z0 : Addr) (z1 : Int32) : entryFrame m #[(.ref z0), (.int z1)] 2 = mkF m 0 #[.val (.ref z0), .val (.int z1)] [] := by first | rfl | (simp [entryFrame, mkF, argsToLocals, Value.category, *]; done) | rfl
set_option maxRecDepth 65536 in
set_option maxHeartbeats 40000000 in
theorem rm_idx1 {l : Launch} {Z : State} {a0 : Array Value} {n0 : Nat} (G : Gl Z a0 n0) {h0 : Heap} (O : Old Z n0 h0) (a : Addr) (cs : List Int32) (ch : Int32) (S : Str Z h0 a cs) (hc : ¬ ch < 0 ∧ ¬ 255 < ch) :
    Ct [] l Z n0 (⟨"java/lang/String", "indexOf", "(I)I"⟩ : MethodName) jdk_42_method_79_code 2 (some .int) ({ frames := 3, cells := 0, slots := 0, locals := 46 } : Room) #[(.ref a), (.int ch)] h0 (fun v h => h = h0 ∧ v = some (.int (own_ix ch cs 0))) := by
  refine Ct.intro pf12 ?_
  intro p e s m below meth c C
  refine AtW.cast ?_ (ef_idx1 m a ch)
  obtain ⟨E, hr, t, FC, FV, A⟩ := id S
  refine w_aloadN (q := 1) C rfl rfl d12_0 rfl ?_
  refine w_iloadN (q := 2) C rfl d12_1 rfl ?_
  refine w_iconst (q := 3) (v := (0 : Int32)) C (by rfl) d12_2 rfl ?_
  refine w_callV (q := 6) (argsL := [(.int ch), (.int (0 : Int32))]) (S := []) (W := 0) (cells' := 0) (slots' := 0) (a := a) C E (G.1 _ (List.mem_of_getElem? (i := 72) rfl)) (G.1 _ (List.mem_of_getElem? (i := 73) rfl)) (w_nf C (G.1 _ (List.mem_of_getElem? (i := 75) rfl))) (G.1 _ (List.mem_of_getElem? (i := 75) rfl)) (G.1 _ (List.mem_of_getElem? (i := 74) rfl)) (G.1 _ (List.mem_of_getElem? (i := 7) rfl)) (G.1 _ (List.mem_of_getElem? (i := 76) rfl)) (by decide) (rm_idx2 G O a cs ch S hc) rfl (lenOf pd_12 rfl) rfl (by decide) (own_leb rfl) (by decide) rfl rfl (by decide) (by decide) d12_3 rfl ?_
  rintro _ h42 ⟨eh43, rfl⟩
  rw [eh43]
  show AtW p l e _ s m _ below meth c n0 _ h0 0 0 (mkF m 6 #[.val (.ref a), .val (.int ch)] [(.int (own_ix ch cs 0))])
  exact w_retI C rfl d12_6 (by decide) (by decide) ⟨rfl, rfl⟩
theorem own_draw (x : Int32) (h : (x &&& 511) < 256) : ¬ (x &&& 511) < 0 ∧ ¬ 255 < (x &&& 511) := by
  have e := c_mask x 511 9 (by decide) (by decide)
  rw [own_lt] at h ⊢
  rw [own_lt]
  rw [e] at h ⊢
  have e0 : (0 : Int32).toInt = 0 := rfl
  have e1 : (255 : Int32).toInt = 255 := rfl
  have e2 : (256 : Int32).toInt = 256 := rfl
  constructor <;> omega

theorem d1_0 : decode method_2_code 0 = .ok (.iload_n 0, 1) := by decide +kernel
theorem d1_1 : decode method_2_code 1 = .ok (.sipush 511, 3) := by decide +kernel
theorem d1_4 : decode method_2_code 4 = .ok (.iand, 1) := by decide +kernel
theorem d1_5 : decode method_2_code 5 = .ok (.istore_n 1, 1) := by decide +kernel
theorem d1_6 : decode method_2_code 6 = .ok (.iload_n 1, 1) := by decide +kernel
theorem d1_7 : decode method_2_code 7 = .ok (.sipush 256, 3) := by decide +kernel
theorem d1_10 : decode method_2_code 10 = .ok (.if_icmp .lt 8, 3) := by decide +kernel
theorem d1_13 : decode method_2_code 13 = .ok (.bipush 59, 2) := by decide +kernel
theorem d1_15 : decode method_2_code 15 = .ok (.goto 5, 3) := by decide +kernel
theorem d1_18 : decode method_2_code 18 = .ok (.iload_n 1, 1) := by decide +kernel
theorem d1_19 : decode method_2_code 19 = .ok (.i2c, 1) := by decide +kernel
theorem d1_20 : decode method_2_code 20 = .ok (.ireturn, 1) := by decide +kernel
theorem pf1 : plainFor (⟨"com/example/portcullis/portcullis/ldap/AttributeHasOptionsPinLaw", "draw", "(I)C"⟩ : MethodName) = true := by first | exact plainFor_of_name (by first | (simp [plainName, overriddenIn]; done) | decide +kernel) | decide +kernel
theorem ef_draw (m : MethodId) (z0 : Int32) : entryFrame m #[(.int z0)] 2 = mkF m 0 #[.val (.int z0), .unset] [] := by first | rfl | (simp [entryFrame, mkF, argsToLocals, Value.category, *]; done) | rfl
set_option maxRecDepth 65536 in
set_option maxHeartbeats 40000000 in
theorem rm_draw {l : Launch} {Z : State} {a0 : Array Value} {n0 : Nat} (G : Gl Z a0 n0) {h0 : Heap} (O : Old Z n0 h0) (x : Int32) :
    Ct [] l Z n0 (⟨"com/example/portcullis/portcullis/ldap/AttributeHasOptionsPinLaw", "draw", "(I)C"⟩ : MethodName) method_2_code 2 (some .char) ({ frames := 0, cells := 0, slots := 0, locals := 0 } : Room) #[(.int x)] h0 (fun v h => h = h0 ∧ ∃ c : Int32, v = some (.int c) ∧ ¬ c < 0 ∧ ¬ 255 < c) := by
  refine Ct.intro pf1 ?_
  intro p e s m below meth c C
  refine AtW.cast ?_ (ef_draw m x)
  refine w_iloadN (q := 1) C rfl d1_0 rfl ?_
  refine w_sipush (q := 4) (v := (511 : Int32)) C (by rfl) d1_1 rfl ?_
  refine w_iand (q := 5) C rfl d1_4 rfl ?_
  refine w_istoreN (q := 6) (L' := #[.val (.int x), .val (.int (x &&& (511 : Int32)))]) C rfl d1_5 rfl ?_
  refine w_iloadN (q := 7) C rfl d1_6 rfl ?_
  refine w_sipush (q := 10) (v := (256 : Int32)) C (by rfl) d1_7 rfl ?_
  by_cases hc : (x &&& (511 : Int32)) < (256 : Int32)
  · refine w_icmp_lt_t (q := 18) C d1_10 (by decide) (by decide) hc ?_
    refine w_iloadN (q := 19) C rfl d1_18 rfl ?_
    refine w_i2c (q := 20) C rfl d1_19 rfl ?_
    rw [show ((x &&& (511 : Int32)).toUInt32.toUInt16.toUInt32.toInt32) = (x &&& (511 : Int32)) from own_i2c (own_draw x hc)]
    exact w_retZ (z := (x &&& (511 : Int32))) C (t := .char) rfl (by simp) (own_nar (own_draw x hc).1 (own_draw x hc).2) d1_20 (by decide) (by decide) ⟨rfl, _, rfl, own_draw x hc⟩
  · refine w_icmp_lt_f (q := 13) C d1_10 rfl hc ?_
    refine w_bipush (q := 15) (v := (59 : Int32)) C (by rfl) d1_13 rfl ?_
    refine w_goto (q := 20) C d1_15 (by decide) (by decide) ?_
    exact w_retZ (z := (59 : Int32)) C (t := .char) rfl (by simp) (by decide) d1_20 (by decide) (by decide) ⟨rfl, 59, rfl, by decide⟩
theorem d10_0 : decode jdk_30_method_1_code 0 = .ok (.aload_n 0, 1) := by decide +kernel
theorem d10_1 : decode jdk_30_method_1_code 1 = .ok (.invokespecial 1, 3) := by decide +kernel
theorem d10_4 : decode jdk_30_method_1_code 4 = .ok (.return_, 1) := by decide +kernel
theorem pf10 : plainFor (⟨"java/lang/Record", "<init>", "()V"⟩ : MethodName) = true := by first | exact plainFor_of_name (by first | (simp [plainName, overriddenIn]; done) | decide +kernel) | decide +kernel
theorem ef_record (m : MethodId) (z0 : Addr) : entryFrame m #[(.ref z0)] 1 = mkF m 0 #[.val (.ref z0)] [] := by first | rfl | (simp [entryFrame, mkF, argsToLocals, Value.category, *]; done) | rfl
set_option maxRecDepth 65536 in
set_option maxHeartbeats 40000000 in
theorem rm_record {l : Launch} {Z : State} {a0 : Array Value} {n0 : Nat} (G : Gl Z a0 n0) {h0 : Heap} (O : Old Z n0 h0) (a : Addr) :
    Ct [] l Z n0 (⟨"java/lang/Record", "<init>", "()V"⟩ : MethodName) jdk_30_method_1_code 1 none ({ frames := 1, cells := 0, slots := 0, locals := 12 } : Room) #[(.ref a)] h0 (fun v h => h = h0 ∧ v = none) := by
  refine Ct.intro pf10 ?_
  intro p e s m below meth c C
  refine AtW.cast ?_ (ef_record m a)
  refine w_aloadN (q := 1) C rfl rfl d10_0 rfl ?_
  refine w_initO (q := 4) (W := 0) C (G.1 _ (List.mem_of_getElem? (i := 53) rfl)) (G.1 _ (List.mem_of_getElem? (i := 17) rfl)) (G.1 _ (List.mem_of_getElem? (i := 18) rfl)) rfl (by decide) (own_leb rfl) (by decide) d10_1 rfl ?_
  exact w_retV C rfl d10_4 (by decide) (by decide) ⟨rfl, rfl⟩
theorem d9_0 : decode prog_81_method_1_code 0 = .ok (.aload_n 0, 1) := by decide +kernel
theorem d9_1 : decode prog_81_method_1_code 1 = .ok (.invokespecial 1, 3) := by decide +kernel
theorem d9_4 : decode prog_81_method_1_code 4 = .ok (.aload_n 0, 1) := by decide +kernel
theorem d9_5 : decode prog_81_method_1_code 5 = .ok (.iload_n 1, 1) := by decide +kernel
theorem d9_6 : decode prog_81_method_1_code 6 = .ok (.putfield 7, 3) := by decide +kernel
theorem d9_9 : decode prog_81_method_1_code 9 = .ok (.aload_n 0, 1) := by decide +kernel
theorem d9_10 : decode prog_81_method_1_code 10 = .ok (.aload_n 2, 1) := by decide +kernel
theorem d9_11 : decode prog_81_method_1_code 11 = .ok (.putfield 13, 3) := by decide +kernel
theorem d9_14 : decode prog_81_method_1_code 14 = .ok (.aload_n 0, 1) := by decide +kernel
theorem d9_15 : decode prog_81_method_1_code 15 = .ok (.aload_n 3, 1) := by decide +kernel
theorem d9_16 : decode prog_81_method_1_code 16 = .ok (.putfield 17, 3) := by decide +kernel
theorem d9_19 : decode prog_81_method_1_code 19 = .ok (.aload_n 0, 1) := by decide +kernel
theorem d9_20 : decode prog_81_method_1_code 20 = .ok (.iload 4, 2) := by decide +kernel
theorem d9_22 : decode prog_81_method_1_code 22 = .ok (.putfield 20, 3) := by decide +kernel
theorem d9_25 : decode prog_81_method_1_code 25 = .ok (.return_, 1) := by decide +kernel
theorem pf9 : plainFor (⟨"com/example/portcullis/portcullis/ldap/Ldif$Attribute", "<init>", "(ILjava/lang/String;Ljava/lang/String;Z)V"⟩ : MethodName) = true := by first | exact plainFor_of_name (by first | (simp [plainName, overriddenIn]; done) | decide +kernel) | decide +kernel
theorem ef_attr (m : MethodId) (z0 : Addr) (z1 : Int32) (z2 : Addr) (z3 : Addr) (z4 : Int32) : entryFrame m #[(.ref z0), (.int z1), (.ref z2), (.ref z3), (.int z4)] 5 = mkF m 0 #[.val (.ref z0), .val (.int z1), .val (.ref z2), .val (.ref z3), .val (.int z4)] [] := by first | rfl | (simp [entryFrame, mkF, argsToLocals, Value.category, *]; done) | rfl
set_option maxRecDepth 65536 in
set_option maxHeartbeats 40000000 in
theorem rm_attr {l : Launch} {Z : State} {a0 : Array Value} {n0 : Nat} (G : Gl Z a0 n0) {h0 : Heap} (O : Old Z n0 h0) (a : Addr) (line : Int32) (d : Addr) (vv : Addr) (b64 : Int32) (E : Exa Z h0 a "com/example/portcullis/portcullis/ldap/Ldif$Attribute") (F_line : Fld Z h0 a "com/example/portcullis/portcullis/ldap/Ldif$Attribute" "line" "I" (.int (0 : Int32))) (F_description : Fld Z h0 a "com/example/portcullis/portcullis/ldap/Ldif$Attribute" "description" "Ljava/lang/String;" .null) (F_value : Fld Z h0 a "com/example/portcullis/portcullis/ldap/Ldif$Attribute" "value" "Ljava/lang/String;" .null) (F_base64 : Fld Z h0 a "com/example/portcullis/portcullis/ldap/Ldif$Attribute" "base64" "Z" (.int (0 : Int32))) (hge : n0 ≤ a) :
    Ct [] l Z n0 (⟨"com/example/portcullis/portcullis/ldap/Ldif$Attribute", "<init>", "(ILjava/lang/String;Ljava/lang/String;Z)V"⟩ : MethodName) prog_81_method_1_code 5 none ({ frames := 2, cells := 0, slots := 0, locals := 24 } : Room) #[(.ref a), (.int line), (.ref d), (.ref vv), (.int b64)] h0 (fun v h => Keep h0 h [a] ∧ v = none ∧ Exa Z h a "com/example/portcullis/portcullis/ldap/Ldif$Attribute" ∧ Fld Z h a "com/example/portcullis/portcullis/ldap/Ldif$Attribute" "line" "I" (.int line) ∧ Fld Z h a "com/example/portcullis/portcullis/ldap/Ldif$Attribute" "description" "Ljava/lang/String;" (.ref d) ∧ Fld Z h a "com/example/portcullis/portcullis/ldap/Ldif$Attribute" "value" "Ljava/lang/String;" (.ref vv) ∧ Fld Z h a "com/example/portcullis/portcullis/ldap/Ldif$Attribute" "base64" "Z" (.int (nar .boolean b64))) := by
  refine Ct.intro pf9 ?_
  intro p e s m below meth c C
  refine AtW.cast ?_ (ef_attr m a line d vv b64)
  refine w_aloadN (q := 1) C rfl rfl d9_0 rfl ?_
  refine w_callI (q := 4) (argsL := []) (S := []) (W := 0) (cells' := 0) (slots' := 0) (a := a) C rfl (G.1 _ (List.mem_of_getElem? (i := 48) rfl)) (G.1 _ (List.mem_of_getElem? (i := 49) rfl)) (G.1 _ (List.mem_of_getElem? (i := 51) rfl)) (G.1 _ (List.mem_of_getElem? (i := 52) rfl)) (by decide) (rm_record G O a) rfl (lenOf pd_4 rfl) rfl (by decide) (own_leb rfl) (by decide) rfl rfl (by decide) (by decide) d9_1 rfl ?_
  rintro _ h44 ⟨eh45, rfl⟩
  rw [eh45]
  show AtW p l e _ s m _ below meth c n0 _ h0 0 0 (mkF m 4 #[.val (.ref a), .val (.int line), .val (.ref d), .val (.ref vv), .val (.int b64)] [])
  refine w_aloadN (q := 5) C rfl rfl d9_4 rfl ?_
  refine w_iloadN (q := 6) C rfl d9_5 rfl ?_
  refine w_putF (q := 9) (host := "") (v' := (.int line)) C (G.1 _ (List.mem_of_getElem? (i := 54) rfl)) Via.refl F_line E (Or.inr ⟨(G.1 _ (List.mem_of_getElem? (i := 55) rfl)), rfl, rfl⟩) (G.1 _ (List.mem_of_getElem? (i := 43) rfl)) (ty := .int) (by decide) rfl rfl hge d9_6 rfl ?_
  intro h46 Wh46
  replace E := E.wr Wh46
  replace F_line := F_line.same Wh46
  replace F_description := F_description.other Wh46 (Or.inr (slot_ne (Or.inr (G.1 _ (List.mem_of_getElem? (i := 57) rfl))) (Or.inr (G.1 _ (List.mem_of_getElem? (i := 55) rfl))) (by decide) (t := (.object "java/lang/String")) (t' := .int) (by decide) (by decide)))
  replace F_value := F_value.other Wh46 (Or.inr (slot_ne (Or.inr (G.1 _ (List.mem_of_getElem? (i := 59) rfl))) (Or.inr (G.1 _ (List.mem_of_getElem? (i := 55) rfl))) (by decide) (t := (.object "java/lang/String")) (t' := .int) (by decide) (by decide)))
  replace F_base64 := F_base64.other Wh46 (Or.inr (slot_ne (Or.inr (G.1 _ (List.mem_of_getElem? (i := 61) rfl))) (Or.inr (G.1 _ (List.mem_of_getElem? (i := 55) rfl))) (by decide) (t := .boolean) (t' := .int) (by decide) (by decide)))
  have K47 : Keep h0 h46 [a] := (Keep.refl h0 [a]).wr Wh46 (Or.inl (List.mem_cons_self ..))
  refine w_aloadN (q := 10) C rfl rfl d9_9 rfl ?_
  refine w_aloadN (q := 11) C rfl rfl d9_10 rfl ?_
  refine w_putF (q := 14) (host := "") (v' := (.ref d)) C (G.1 _ (List.mem_of_getElem? (i := 56) rfl)) Via.refl F_description E (Or.inr ⟨(G.1 _ (List.mem_of_getElem? (i := 57) rfl)), rfl, rfl⟩) (G.1 _ (List.mem_of_getElem? (i := 43) rfl)) (ty := (.object "java/lang/String")) (by decide) rfl rfl hge d9_11 rfl ?_
  intro h48 Wh48
  replace E := E.wr Wh48
  replace F_line := F_line.other Wh48 (Or.inr (slot_ne (Or.inr (G.1 _ (List.mem_of_getElem? (i := 55) rfl))) (Or.inr (G.1 _ (List.mem_of_getElem? (i := 57) rfl))) (by decide) (t := .int) (t' := (.object "java/lang/String")) (by decide) (by decide)))
  replace F_description := F_description.same Wh48
  replace F_value := F_value.other Wh48 (Or.inr (slot_ne (Or.inr (G.1 _ (List.mem_of_getElem? (i := 59) rfl))) (Or.inr (G.1 _ (List.mem_of_getElem? (i := 57) rfl))) (by decide) (t := (.object "java/lang/String")) (t' := (.object "java/lang/String")) (by decide) (by decide)))
  replace F_base64 := F_base64.other Wh48 (Or.inr (slot_ne (Or.inr (G.1 _ (List.mem_of_getElem? (i := 61) rfl))) (Or.inr (G.1 _ (List.mem_of_getElem? (i := 57) rfl))) (by decide) (t := .boolean) (t' := (.object "java/lang/String")) (by decide) (by decide)))
  have K49 : Keep h0 h48 [a] := K47.wr Wh48 (Or.inl (List.mem_cons_self ..))
  refine w_aloadN (q := 15) C rfl rfl d9_14 rfl ?_
  refine w_aloadN (q := 16) C rfl rfl d9_15 rfl ?_
  refine w_putF (q := 19) (host := "") (v' := (.ref vv)) C (G.1 _ (List.mem_of_getElem? (i := 58) rfl)) Via.refl F_value E (Or.inr ⟨(G.1 _ (List.mem_of_getElem? (i := 59) rfl)), rfl, rfl⟩) (G.1 _ (List.mem_of_getElem? (i := 43) rfl)) (ty := (.object "java/lang/String")) (by decide) rfl rfl hge d9_16 rfl ?_
  intro h50 Wh50
  replace E := E.wr Wh50
  replace F_line := F_line.other Wh50 (Or.inr (slot_ne (Or.inr (G.1 _ (List.mem_of_getElem? (i := 55) rfl))) (Or.inr (G.1 _ (List.mem_of_getElem? (i := 59) rfl))) (by decide) (t := .int) (t' := (.object "java/lang/String")) (by decide) (by decide)))
  replace F_description := F_description.other Wh50 (Or.inr (slot_ne (Or.inr (G.1 _ (List.mem_of_getElem? (i := 57) rfl))) (Or.inr (G.1 _ (List.mem_of_getElem? (i := 59) rfl))) (by decide) (t := (.object "java/lang/String")) (t' := (.object "java/lang/String")) (by decide) (by decide)))
  replace F_value := F_value.same Wh50
  replace F_base64 := F_base64.other Wh50 (Or.inr (slot_ne (Or.inr (G.1 _ (List.mem_of_getElem? (i := 61) rfl))) (Or.inr (G.1 _ (List.mem_of_getElem? (i := 59) rfl))) (by decide) (t := .boolean) (t' := (.object "java/lang/String")) (by decide) (by decide)))
  have K51 : Keep h0 h50 [a] := K49.wr Wh50 (Or.inl (List.mem_cons_self ..))
  refine w_aloadN (q := 20) C rfl rfl d9_19 rfl ?_
  refine w_iload (q := 22) C rfl d9_20 rfl ?_
  refine w_putF (q := 25) (host := "") (v' := (.int (nar .boolean b64))) C (G.1 _ (List.mem_of_getElem? (i := 60) rfl)) Via.refl F_base64 E (Or.inr ⟨(G.1 _ (List.mem_of_getElem? (i := 61) rfl)), rfl, rfl⟩) (G.1 _ (List.mem_of_getElem? (i := 43) rfl)) (ty := .boolean) (by decide) rfl (fits_nar_bool _) hge d9_22 rfl ?_
  intro h52 Wh52
  replace E := E.wr Wh52
  replace F_line := F_line.other Wh52 (Or.inr (slot_ne (Or.inr (G.1 _ (List.mem_of_getElem? (i := 55) rfl))) (Or.inr (G.1 _ (List.mem_of_getElem? (i := 61) rfl))) (by decide) (t := .int) (t' := .boolean) (by decide) (by decide)))
  replace F_description := F_description.other Wh52 (Or.inr (slot_ne (Or.inr (G.1 _ (List.mem_of_getElem? (i := 57) rfl))) (Or.inr (G.1 _ (List.mem_of_getElem? (i := 61) rfl))) (by decide) (t := (.object "java/lang/String")) (t' := .boolean) (by decide) (by decide)))
  replace F_value := F_value.other Wh52 (Or.inr (slot_ne (Or.inr (G.1 _ (List.mem_of_getElem? (i := 59) rfl))) (Or.inr (G.1 _ (List.mem_of_getElem? (i := 61) rfl))) (by decide) (t := (.object "java/lang/String")) (t' := .boolean) (by decide) (by decide)))
  replace F_base64 := F_base64.same Wh52
  have K53 : Keep h0 h52 [a] := K51.wr Wh52 (Or.inl (List.mem_cons_self ..))
  exact w_retV C rfl d9_25 (by decide) (by decide) ⟨K53, rfl, E, F_line, F_description, F_value, F_base64⟩
theorem d11_0 : decode prog_81_method_3_code 0 = .ok (.aload_n 0, 1) := by decide +kernel
theorem d11_1 : decode prog_81_method_3_code 1 = .ok (.getfield 13, 3) := by decide +kernel
theorem d11_4 : decode prog_81_method_3_code 4 = .ok (.bipush 59, 2) := by decide +kernel
theorem d11_6 : decode prog_81_method_3_code 6 = .ok (.invokevirtual 24, 3) := by decide +kernel
theorem d11_9 : decode prog_81_method_3_code 9 = .ok (.ifCond .lt 7, 3) := by decide +kernel
theorem d11_12 : decode prog_81_method_3_code 12 = .ok (.iconst 1, 1) := by decide +kernel
theorem d11_13 : decode prog_81_method_3_code 13 = .ok (.goto 4, 3) := by decide +kernel
theorem d11_16 : decode prog_81_method_3_code 16 = .ok (.iconst 0, 1) := by decide +kernel
theorem d11_17 : decode prog_81_method_3_code 17 = .ok (.ireturn, 1) := by decide +kernel
theorem pf11 : plainFor (⟨"com/example/portcullis/portcullis/ldap/Ldif$Attribute", "hasOptions", "()Z"⟩ : MethodName) = true := by first | exact plainFor_of_name (by first | (simp [plainName, overriddenIn]; done) | decide +kernel) | decide +kernel
theorem ef_hasOpt (m : MethodId) (z0 : Addr) : entryFrame m #[(.ref z0)] 1 = mkF m 0 #[.val (.ref z0)] [] := by first | rfl | (simp [entryFrame, mkF, argsToLocals, Value.category, *]; done) | rfl
set_option maxRecDepth 65536 in
set_option maxHeartbeats 40000000 in
theorem rm_hasOpt {l : Launch} {Z : State} {a0 : Array Value} {n0 : Nat} (G : Gl Z a0 n0) {h0 : Heap} (O : Old Z n0 h0) (a : Addr) (d : Addr) (cs : List Int32) (F : Fld Z h0 a "com/example/portcullis/portcullis/ldap/Ldif$Attribute" "description" "Ljava/lang/String;" (.ref d)) (S : Str Z h0 d cs) :
    Ct [] l Z n0 (⟨"com/example/portcullis/portcullis/ldap/Ldif$Attribute", "hasOptions", "()Z"⟩ : MethodName) prog_81_method_3_code 1 (some .boolean) ({ frames := 4, cells := 0, slots := 0, locals := 59 } : Room) #[(.ref a)] h0 (fun v h => h = h0 ∧ v = some (.int (if (59 : Int32) ∈ cs then 1 else 0))) := by
  refine Ct.intro pf11 ?_
  intro p e s m below meth c C
  refine AtW.cast ?_ (ef_hasOpt m a)
  have E := S.1
  have hl := S.len
  refine w_aloadN (q := 1) C rfl rfl d11_0 rfl ?_
  refine w_getF (q := 4) (host := "") C (Or.inl (G.1 _ (List.mem_of_getElem? (i := 56) rfl))) Via.refl F d11_1 rfl ?_
  refine w_bipush (q := 6) (v := (59 : Int32)) C (by rfl) d11_4 rfl ?_
  refine w_callV (q := 9) (argsL := [(.int (59 : Int32))]) (S := []) (W := 0) (cells' := 0) (slots' := 0) (a := d) C E (G.1 _ (List.mem_of_getElem? (i := 67) rfl)) (G.1 _ (List.mem_of_getElem? (i := 68) rfl)) (w_nf C (G.1 _ (List.mem_of_getElem? (i := 70) rfl))) (G.1 _ (List.mem_of_getElem? (i := 70) rfl)) (G.1 _ (List.mem_of_getElem? (i := 69) rfl)) (G.1 _ (List.mem_of_getElem? (i := 7) rfl)) (G.1 _ (List.mem_of_getElem? (i := 71) rfl)) (by decide) (rm_idx1 G O d cs 59 S (by decide)) rfl (lenOf pd_11 rfl) rfl (by decide) (own_leb rfl) (by decide) rfl rfl (by decide) (by decide) d11_6 rfl ?_
  rintro _ h54 ⟨eh55, rfl⟩
  rw [eh55]
  show AtW p l e _ s m _ below meth c n0 _ h0 0 0 (mkF m 9 #[.val (.ref a)] [(.int (own_ix 59 cs 0))])
  by_cases hc : (own_ix 59 cs 0) < 0
  · refine w_if_lt_t (q := 16) C d11_9 (by decide) (by decide) hc ?_
    refine w_iconst (q := 17) (v := (0 : Int32)) C (by rfl) d11_16 rfl ?_
    exact w_retZ (z := (0 : Int32)) C (t := .boolean) rfl (by simp) (by decide) d11_17 (by decide) (by decide) ⟨rfl, by rw [if_neg ((own_ix_neg 59 cs 0 (by omega)).mp hc)]⟩
  · refine w_if_lt_f (q := 12) C d11_9 rfl hc ?_
    refine w_iconst (q := 13) (v := (1 : Int32)) C (by rfl) d11_12 rfl ?_
    refine w_goto (q := 17) C d11_13 (by decide) (by decide) ?_
    exact w_retZ (z := (1 : Int32)) C (t := .boolean) rfl (by simp) (by decide) d11_17 (by decide) (by decide) ⟨rfl, by rw [if_pos (Decidable.of_not_not (fun q => hc ((own_ix_neg 59 cs 0 (by omega)).mpr q)))]⟩
theorem own_n5 (x : Int32) : ∃ k : Nat, k ≤ 4 ∧ (x &&& (2147483647 : Int32)) % (5 : Int32) = Int32.ofNat k := by
  have e := c_mask x 2147483647 31 (by decide) (by decide)
  have r := c_irem (x &&& 2147483647) 5 5 rfl
  have h0 : 0 ≤ (x &&& 2147483647).toInt := by rw [e]; omega
  have r1 := r.1 h0
  refine ⟨((x &&& 2147483647) % 5).toInt.toNat, by rw [r1]; omega, ?_⟩
  rw [own_eq, own_nat (by rw [r1]; omega), r1]
  omega

-- CUT
theorem pf0 : plainFor (⟨"com/example/portcullis/portcullis/ldap/AttributeHasOptionsPinLaw", "law", "(IIIIII)Z"⟩ : MethodName) = true := by first | exact plainFor_of_name (by first | (simp [plainName, overriddenIn]; done) | decide +kernel) | decide +kernel
theorem ef_law (m : MethodId) (z0 : Int32) (z1 : Int32) (z2 : Int32) (z3 : Int32) (z4 : Int32) (z5 : Int32) : entryFrame m #[(.int z0), (.int z1), (.int z2), (.int z3), (.int z4), (.int z5)] maxLocals = mkF m 0 #[.val (.int z0), .val (.int z1), .val (.int z2), .val (.int z3), .val (.int z4), .val (.int z5), .unset, .unset, .unset, .unset, .unset, .unset, .unset, .unset, .unset, .unset] [] := by first | (simp [entryFrame, mkF, argsToLocals, Value.category, *, maxLocals]; done) | rfl
set_option maxRecDepth 65536 in
set_option maxHeartbeats 40000000 in
theorem rm_law {l : Launch} {Z : State} {a0 : Array Value} {n0 : Nat} (G : Gl Z a0 n0) {h0 : Heap} (O : Old Z n0 h0) (i0 : Int32) (i1 : Int32) (i2 : Int32) (i3 : Int32) (ln : Int32) (fl : Int32) :
    Cs tables_1 l Z consts_1 n0 x code maxLocals ret room_1 #[(.int i0), (.int i1), (.int i2), (.int i3), (.int ln), (.int fl)] h0 (fun v h => v = some (.int 1)) := by
  refine Cs.intro pf0 ?_
  intro p e s m below meth c C
  refine AtS.cast ?_ (ef_law m i0 i1 i2 i3 ln fl)
  refine s_iloadN (q := 1) C rfl at_0 rfl ?_
  refine s_callS1 (q := 4) (argsL := [(.int i0)]) (S := []) (W := 0) (cells' := 0) (slots' := 0) C (G.1 _ (List.mem_of_getElem? (i := 0) rfl)) (G.1 _ (List.mem_of_getElem? (i := 1) rfl)) (G.1 _ (List.mem_of_getElem? (i := 2) rfl)) (G.1 _ (List.mem_of_getElem? (i := 3) rfl)) (by decide) (rm_draw G O i0) rfl (lenOf pd_1 rfl) rfl (by decide) (own_leb rfl) (by decide) rfl rfl (by decide) (by decide) (wl := []) (fun _ _ q => by rw [q.1]; exact Keep.refl _ _) all0 at_1 rfl ?_
  rintro _ h56 ⟨eh57, c0, rfl, hc0⟩
  rw [eh57]
  show AtS p l e _ s m _ below meth c Z _ _ n0 _ _ _ h0 0 0 (mkF m 4 #[.val (.int i0), .val (.int i1), .val (.int i2), .val (.int i3), .val (.int ln), .val (.int fl), .unset, .unset, .unset, .unset, .unset, .unset, .unset, .unset, .unset, .unset] [(.int c0)])
  refine s_istore (q := 6) (L' := #[.val (.int i0), .val (.int i1), .val (.int i2), .val (.int i3), .val (.int ln), .val (.int fl), .val (.int c0), .unset, .unset, .unset, .unset, .unset, .unset, .unset, .unset, .unset]) C rfl at_4 rfl ?_
  refine s_iloadN (q := 7) C rfl at_6 rfl ?_
  refine s_callS1 (q := 10) (argsL := [(.int i1)]) (S := []) (W := 0) (cells' := 0) (slots' := 0) C (G.1 _ (List.mem_of_getElem? (i := 0) rfl)) (G.1 _ (List.mem_of_getElem? (i := 1) rfl)) (G.1 _ (List.mem_of_getElem? (i := 2) rfl)) (G.1 _ (List.mem_of_getElem? (i := 3) rfl)) (by decide) (rm_draw G O i1) rfl (lenOf pd_1 rfl) rfl (by decide) (own_leb rfl) (by decide) rfl rfl (by decide) (by decide) (wl := []) (fun _ _ q => by rw [q.1]; exact Keep.refl _ _) all0 at_7 rfl ?_
  rintro _ h58 ⟨eh59, c1, rfl, hc1⟩
  rw [eh59]
  show AtS p l e _ s m _ below meth c Z _ _ n0 _ _ _ h0 0 0 (mkF m 10 #[.val (.int i0), .val (.int i1), .val (.int i2), .val (.int i3), .val (.int ln), .val (.int fl), .val (.int c0), .unset, .unset, .unset, .unset, .unset, .unset, .unset, .unset, .unset] [(.int c1)])
  refine s_istore (q := 12) (L' := #[.val (.int i0), .val (.int i1), .val (.int i2), .val (.int i3), .val (.int ln), .val (.int fl), .val (.int c0), .val (.int c1), .unset, .unset, .unset, .unset, .unset, .unset, .unset, .unset]) C rfl at_10 rfl ?_
  refine s_iloadN (q := 13) C rfl at_12 rfl ?_
  refine s_callS1 (q := 16) (argsL := [(.int i2)]) (S := []) (W := 0) (cells' := 0) (slots' := 0) C (G.1 _ (List.mem_of_getElem? (i := 0) rfl)) (G.1 _ (List.mem_of_getElem? (i := 1) rfl)) (G.1 _ (List.mem_of_getElem? (i := 2) rfl)) (G.1 _ (List.mem_of_getElem? (i := 3) rfl)) (by decide) (rm_draw G O i2) rfl (lenOf pd_1 rfl) rfl (by decide) (own_leb rfl) (by decide) rfl rfl (by decide) (by decide) (wl := []) (fun _ _ q => by rw [q.1]; exact Keep.refl _ _) all0 at_13 rfl ?_
  rintro _ h60 ⟨eh61, c2, rfl, hc2⟩
  rw [eh61]
  show AtS p l e _ s m _ below meth c Z _ _ n0 _ _ _ h0 0 0 (mkF m 16 #[.val (.int i0), .val (.int i1), .val (.int i2), .val (.int i3), .val (.int ln), .val (.int fl), .val (.int c0), .val (.int c1), .unset, .unset, .unset, .unset, .unset, .unset, .unset, .unset] [(.int c2)])
  refine s_istore (q := 18) (L' := #[.val (.int i0), .val (.int i1), .val (.int i2), .val (.int i3), .val (.int ln), .val (.int fl), .val (.int c0), .val (.int c1), .val (.int c2), .unset, .unset, .unset, .unset, .unset, .unset, .unset]) C rfl at_16 rfl ?_
  refine s_iloadN (q := 19) C rfl at_18 rfl ?_
  refine s_callS1 (q := 22) (argsL := [(.int i3)]) (S := []) (W := 0) (cells' := 0) (slots' := 0) C (G.1 _ (List.mem_of_getElem? (i := 0) rfl)) (G.1 _ (List.mem_of_getElem? (i := 1) rfl)) (G.1 _ (List.mem_of_getElem? (i := 2) rfl)) (G.1 _ (List.mem_of_getElem? (i := 3) rfl)) (by decide) (rm_draw G O i3) rfl (lenOf pd_1 rfl) rfl (by decide) (own_leb rfl) (by decide) rfl rfl (by decide) (by decide) (wl := []) (fun _ _ q => by rw [q.1]; exact Keep.refl _ _) all0 at_19 rfl ?_
  rintro _ h62 ⟨eh63, c3, rfl, hc3⟩
  rw [eh63]
  show AtS p l e _ s m _ below meth c Z _ _ n0 _ _ _ h0 0 0 (mkF m 22 #[.val (.int i0), .val (.int i1), .val (.int i2), .val (.int i3), .val (.int ln), .val (.int fl), .val (.int c0), .val (.int c1), .val (.int c2), .unset, .unset, .unset, .unset, .unset, .unset, .unset] [(.int c3)])
  refine s_istore (q := 24) (L' := #[.val (.int i0), .val (.int i1), .val (.int i2), .val (.int i3), .val (.int ln), .val (.int fl), .val (.int c0), .val (.int c1), .val (.int c2), .val (.int c3), .unset, .unset, .unset, .unset, .unset, .unset]) C rfl at_22 rfl ?_
  refine s_iload (q := 26) C rfl at_24 rfl ?_
  refine s_ldcI (q := 28) C (G.1 _ (List.mem_of_getElem? (i := 4) rfl)) at_26 rfl ?_
  refine s_iand (q := 29) C rfl at_28 rfl ?_
  refine s_iconst (q := 30) (v := (5 : Int32)) C (by rfl) at_29 rfl ?_
  refine s_irem (q := 31) C (by decide) rfl at_30 rfl ?_
  obtain ⟨k, hk, ek⟩ := own_n5 ln
  rw [show ((ln &&& (2147483647 : Int32)) % (5 : Int32)) = (Int32.ofNat k) from ek]
  refine s_istore (q := 33) (L' := #[.val (.int i0), .val (.int i1), .val (.int i2), .val (.int i3), .val (.int ln), .val (.int fl), .val (.int c0), .val (.int c1), .val (.int c2), .val (.int c3), .val (.int (Int32.ofNat k)), .unset, .unset, .unset, .unset, .unset]) C rfl at_31 rfl ?_
  clear ek
  rcases k with _ | _ | _ | _ | _ | k
  · show AtS p l e _ s m _ below meth c Z _ _ n0 _ _ _ h0 0 0 (mkF m 33 #[.val (.int i0), .val (.int i1), .val (.int i2), .val (.int i3), .val (.int ln), .val (.int fl), .val (.int c0), .val (.int c1), .val (.int c2), .val (.int c3), .val (.int (0 : Int32)), .unset, .unset, .unset, .unset, .unset] [])
    refine s_iload (q := 35) C rfl at_33 rfl ?_
    refine s_if_ne_f (q := 38) C at_35 rfl (by decide) ?_
    refine s_new (q := 41) (cells' := 1) (slots' := 4) C (G.1 _ (List.mem_of_getElem? (i := 5) rfl)) (G.1 _ (List.mem_of_getElem? (i := 6) rfl)) (G.1 _ (List.mem_of_getElem? (i := 7) rfl)) rfl rfl (by decide) (by decide) at_38 rfl ?_
    intro h64 o65 g_o65 Eh64 A_o65 D_o65
    have F_value_o65 : Fld Z h64 o65 "java/lang/String" "value" "[B" .null := D_o65 (Or.inr (G.1 _ (List.mem_of_getElem? (i := 21) rfl))) (ty := (.array .byte)) (by decide)
    have F_coder_o65 : Fld Z h64 o65 "java/lang/String" "coder" "B" (.int (0 : Int32)) := D_o65 (Or.inr (G.1 _ (List.mem_of_getElem? (i := 22) rfl))) (ty := .byte) (by decide)
    have ge_o65 : n0 ≤ o65 := by rw [g_o65]; exact Old_le O
    refine s_dup (q := 42) C rfl at_41 rfl ?_
    refine s_iconst (q := 43) (v := (0 : Int32)) C (by rfl) at_42 rfl ?_
    refine s_newArr (q := 45) (cap := 0) (cells' := 2) (slots' := 4) C (G.1 _ (List.mem_of_getElem? (i := 8) rfl)) rfl (by decide) (by decide) (by decide) rfl rfl (by decide) (by decide) at_43 rfl ?_
    intro h66 o67 g_o67 Eh66 V_o67
    replace V_o67 : Ar Z h66 o67 .char [] := V_o67
    have ge_o67 : n0 ≤ o67 := by rw [g_o67]; exact Nat.le_trans (Old_le O) Eh64.1
    have ne_o65 : o65 ≠ o67 := Nat.ne_of_lt (by rw [g_o67]; exact A_o65.lt)
    have sz_o67 : h0.size ≤ o67 := by rw [g_o67]; exact Eh64.1
    have K68 : Keep h0 h66 [] := (Keep.of_ext Eh64).ext Eh66
    replace A_o65 := A_o65.ext Eh66
    replace F_value_o65 := F_value_o65.ext Eh66
    replace F_coder_o65 := F_coder_o65.ext Eh66
    have O69 := Old_k0 O K68
    refine s_callI2 (q := 48) (argsL := [(.ref o67)]) (S := [(.ref o65)]) (W := 1) (cells' := 6) (slots' := 12) (a := o65) C G.el rfl (G.1 _ (List.mem_of_getElem? (i := 9) rfl)) (G.1 _ (List.mem_of_getElem? (i := 10) rfl)) (G.1 _ (List.mem_of_getElem? (i := 7) rfl)) (G.1 _ (List.mem_of_getElem? (i := 11) rfl)) (by decide) (rm_strinite G O69 o65 o67 A_o65 F_value_o65 F_coder_o65 ge_o65 V_o67) rfl (lenOf pd_2 rfl) rfl (by decide) (own_leb rfl) (by decide) rfl rfl (by decide) (by decide) at_45 rfl ?_
    rintro _ h70 ⟨Kh70, rfl, S1⟩
    show AtS p l e _ s m _ below meth c Z _ _ n0 _ _ _ h70 6 12 (mkF m 48 #[.val (.int i0), .val (.int i1), .val (.int i2), .val (.int i3), .val (.int ln), .val (.int fl), .val (.int c0), .val (.int c1), .val (.int c2), .val (.int c3), .val (.int (0 : Int32)), .unset, .unset, .unset, .unset, .unset] [(.ref o65)])
    have K71 : Keep h0 h70 [] := own_K1 K68 Kh70 (Nat.le_of_eq g_o65.symm)
    replace O := Old_k0 O K71
    refine s_astore (q := 50) (L' := #[.val (.int i0), .val (.int i1), .val (.int i2), .val (.int i3), .val (.int ln), .val (.int fl), .val (.int c0), .val (.int c1), .val (.int c2), .val (.int c3), .val (.int (0 : Int32)), .val (.ref o65), .unset, .unset, .unset, .unset]) C rfl rfl at_48 rfl ?_
    refine s_goto (q := 178) C at_50 (by decide) (by decide) ?_
    refine s_iload (q := 180) C rfl at_178 rfl ?_
    refine s_iconst (q := 181) (v := (1 : Int32)) C (by rfl) at_180 rfl ?_
    refine s_iushr (q := 182) C rfl at_181 rfl ?_
    refine s_sipush (q := 185) (v := (255 : Int32)) C (by rfl) at_182 rfl ?_
    refine s_iand (q := 186) C rfl at_185 rfl ?_
    refine s_i2c (q := 187) C rfl at_186 rfl ?_
    rw [show ((((fl.toUInt32 >>> ((1 : Int32) &&& 31).toUInt32).toInt32) &&& (255 : Int32)).toUInt32.toUInt16.toUInt32.toInt32) = (((fl.toUInt32 >>> ((1 : Int32) &&& 31).toUInt32).toInt32) &&& (255 : Int32)) from own_i2c (own_255 _)]
    generalize hvc : (((fl.toUInt32 >>> ((1 : Int32) &&& 31).toUInt32).toInt32) &&& (255 : Int32)) = vc
    have hv : ¬ vc < 0 ∧ ¬ 255 < vc := by rw [← hvc]; exact own_255 _
    refine s_callS1 (q := 190) (argsL := [(.int vc)]) (S := []) (W := 0) (cells' := 8) (slots' := 17) C (G.1 _ (List.mem_of_getElem? (i := 27) rfl)) (G.1 _ (List.mem_of_getElem? (i := 28) rfl)) (G.1 _ (List.mem_of_getElem? (i := 7) rfl)) (G.1 _ (List.mem_of_getElem? (i := 29) rfl)) (by decide) (rm_valueOfC G O vc hv) rfl (lenOf pd_5 rfl) rfl (by decide) (own_leb rfl) (by decide) rfl rfl (by decide) (by decide) (wl := []) (fun _ _ q => q.1) all0 at_187 rfl ?_
    rintro _ h72 ⟨Kh72, vs, rfl, S2⟩
    show AtS p l e _ s m _ below meth c Z _ _ n0 _ _ _ h72 8 17 (mkF m 190 #[.val (.int i0), .val (.int i1), .val (.int i2), .val (.int i3), .val (.int ln), .val (.int fl), .val (.int c0), .val (.int c1), .val (.int c2), .val (.int c3), .val (.int (0 : Int32)), .val (.ref o65), .unset, .unset, .unset, .unset] [(.ref vs)])
    replace S1 := Str_k0 S1 Kh72
    replace O := Old_k0 O Kh72
    refine s_astore (q := 192) (L' := #[.val (.int i0), .val (.int i1), .val (.int i2), .val (.int i3), .val (.int ln), .val (.int fl), .val (.int c0), .val (.int c1), .val (.int c2), .val (.int c3), .val (.int (0 : Int32)), .val (.ref o65), .val (.ref vs), .unset, .unset, .unset]) C rfl rfl at_190 rfl ?_
    refine s_iload (q := 194) C rfl at_192 rfl ?_
    refine s_iconst (q := 195) (v := (1 : Int32)) C (by rfl) at_194 rfl ?_
    refine s_iand (q := 196) C rfl at_195 rfl ?_
    have J : ∀ b64 : Int32, AtS p l e room_1 s m #[(.int i0), (.int i1), (.int i2), (.int i3), (.int ln), (.int fl)] below meth c Z consts_1 "com/example/portcullis/portcullis/ldap/AttributeHasOptionsPinLaw" n0 (fun v h => v = some (.int 1)) h70.size [o67, o65] h72 8 17 (mkF m 204 #[.val (.int i0), .val (.int i1), .val (.int i2), .val (.int i3), .val (.int ln), .val (.int fl), .val (.int c0), .val (.int c1), .val (.int c2), .val (.int c3), .val (.int (0 : Int32)), .val (.ref o65), .val (.ref vs), .unset, .unset, .unset] [(.int b64)]) := by
      intro b64
      refine s_istore (q := 206) (L' := #[.val (.int i0), .val (.int i1), .val (.int i2), .val (.int i3), .val (.int ln), .val (.int fl), .val (.int c0), .val (.int c1), .val (.int c2), .val (.int c3), .val (.int (0 : Int32)), .val (.ref o65), .val (.ref vs), .val (.int b64), .unset, .unset]) C rfl at_204 rfl ?_
      refine s_new (q := 209) (cells' := 9) (slots' := 21) C (G.1 _ (List.mem_of_getElem? (i := 42) rfl)) (G.1 _ (List.mem_of_getElem? (i := 43) rfl)) (G.1 _ (List.mem_of_getElem? (i := 44) rfl)) rfl rfl (by decide) (by decide) at_206 rfl ?_
      intro h73 o74 g_o74 Eh73 A_o74 D_o74
      have F_line_o74 : Fld Z h73 o74 "com/example/portcullis/portcullis/ldap/Ldif$Attribute" "line" "I" (.int (0 : Int32)) := D_o74 (Or.inr (G.1 _ (List.mem_of_getElem? (i := 55) rfl))) (ty := .int) (by decide)
      have F_description_o74 : Fld Z h73 o74 "com/example/portcullis/portcullis/ldap/Ldif$Attribute" "description" "Ljava/lang/String;" .null := D_o74 (Or.inr (G.1 _ (List.mem_of_getElem? (i := 57) rfl))) (ty := (.object "java/lang/String")) (by decide)
      have F_value_o74 : Fld Z h73 o74 "com/example/portcullis/portcullis/ldap/Ldif$Attribute" "value" "Ljava/lang/String;" .null := D_o74 (Or.inr (G.1 _ (List.mem_of_getElem? (i := 59) rfl))) (ty := (.object "java/lang/String")) (by decide)
      have F_base64_o74 : Fld Z h73 o74 "com/example/portcullis/portcullis/ldap/Ldif$Attribute" "base64" "Z" (.int (0 : Int32)) := D_o74 (Or.inr (G.1 _ (List.mem_of_getElem? (i := 61) rfl))) (ty := .boolean) (by decide)
      have ge : n0 ≤ o74 := by rw [g_o74]; exact Old_le O
      have KN : Keep h72 h73 [] := Keep.of_ext Eh73
      have OL : h72.size ≤ o74 := Nat.le_of_eq g_o74.symm
      have O9 := Old_k0 O KN
      refine s_dup (q := 210) C rfl at_209 rfl ?_
      refine s_iload (q := 212) C rfl at_210 rfl ?_
      refine s_aload (q := 214) C rfl rfl at_212 rfl ?_
      refine s_aload (q := 216) C rfl rfl at_214 rfl ?_
      refine s_iload (q := 218) C rfl at_216 rfl ?_
      refine s_callI1 (q := 221) (argsL := [(.int ln), (.ref o65), (.ref vs), (.int b64)]) (S := [(.ref o74)]) (W := 1) (cells' := 9) (slots' := 21) (a := o74) C rfl (G.1 _ (List.mem_of_getElem? (i := 45) rfl)) (G.1 _ (List.mem_of_getElem? (i := 46) rfl)) (G.1 _ (List.mem_of_getElem? (i := 44) rfl)) (G.1 _ (List.mem_of_getElem? (i := 47) rfl)) (by decide) (rm_attr G O9 o74 ln o65 vs b64 A_o74 F_line_o74 F_description_o74 F_value_o74 F_base64_o74 ge) rfl (lenOf pd_9 rfl) rfl (by decide) (own_leb rfl) (by decide) rfl rfl (by decide) (by decide) (wl := [o74]) (fun _ _ q => q.1) (allS (SfOk.exa A_o74 (by decide)) (all0)) at_218 rfl ?_
      rintro _ h75 ⟨Kh75, rfl, e0, e_line, e_description, e_value, e_base64⟩
      show AtS p l e _ s m _ below meth c Z _ _ n0 _ _ _ h75 9 21 (mkF m 221 #[.val (.int i0), .val (.int i1), .val (.int i2), .val (.int i3), .val (.int ln), .val (.int fl), .val (.int c0), .val (.int c1), .val (.int c2), .val (.int c3), .val (.int (0 : Int32)), .val (.ref o65), .val (.ref vs), .val (.int b64), .unset, .unset] [(.ref o74)])
      have KM : Keep h72 h75 [] := own_K1 KN Kh75 OL
      replace S1 := Str_k0 S1 KM
      replace S2 := Str_k0 S2 KM
      replace O := Old_k0 O KM
      refine s_astore (q := 223) (L' := #[.val (.int i0), .val (.int i1), .val (.int i2), .val (.int i3), .val (.int ln), .val (.int fl), .val (.int c0), .val (.int c1), .val (.int c2), .val (.int c3), .val (.int (0 : Int32)), .val (.ref o65), .val (.ref vs), .val (.int b64), .val (.ref o74), .unset]) C rfl rfl at_221 rfl ?_
      refine s_iload (q := 225) C rfl at_223 rfl ?_
      refine s_if_le_t (q := 235) C at_225 (by decide) (by decide) (by decide) ?_
      refine s_iload (q := 237) C rfl at_235 rfl ?_
      refine s_iconst (q := 238) (v := (1 : Int32)) C (by rfl) at_237 rfl ?_
      refine s_icmp_le_t (q := 248) C at_238 (by decide) (by decide) (by decide) ?_
      refine s_iload (q := 250) C rfl at_248 rfl ?_
      refine s_iconst (q := 251) (v := (2 : Int32)) C (by rfl) at_250 rfl ?_
      refine s_icmp_le_t (q := 261) C at_251 (by decide) (by decide) (by decide) ?_
      refine s_iload (q := 263) C rfl at_261 rfl ?_
      refine s_iconst (q := 264) (v := (3 : Int32)) C (by rfl) at_263 rfl ?_
      refine s_icmp_le_t (q := 278) C at_264 (by decide) (by decide) (by decide) ?_
      refine s_iconst (q := 279) (v := (0 : Int32)) C (by rfl) at_278 rfl ?_
      refine s_istore (q := 281) (L' := #[.val (.int i0), .val (.int i1), .val (.int i2), .val (.int i3), .val (.int ln), .val (.int fl), .val (.int c0), .val (.int c1), .val (.int c2), .val (.int c3), .val (.int (0 : Int32)), .val (.ref o65), .val (.ref vs), .val (.int b64), .val (.ref o74), .val (.int (0 : Int32))]) C rfl at_279 rfl ?_
      refine s_aload (q := 283) C rfl rfl at_281 rfl ?_
      refine s_callV1 (q := 286) (argsL := []) (S := []) (W := 0) (cells' := 9) (slots' := 21) (a := o74) C e0 (G.1 _ (List.mem_of_getElem? (i := 62) rfl)) (G.1 _ (List.mem_of_getElem? (i := 63) rfl)) (s_nf (G.1 _ (List.mem_of_getElem? (i := 65) rfl))) (G.1 _ (List.mem_of_getElem? (i := 65) rfl)) (G.1 _ (List.mem_of_getElem? (i := 64) rfl)) (G.1 _ (List.mem_of_getElem? (i := 44) rfl)) (G.1 _ (List.mem_of_getElem? (i := 66) rfl)) (by decide) (rm_hasOpt G O o74 o65 [] e_description S1) rfl (lenOf pd_10 rfl) rfl (by decide) (own_leb rfl) (by decide) rfl rfl (by decide) (by decide) (wl := []) (fun _ _ q => by rw [q.1]; exact Keep.refl _ _) all0 at_283 rfl ?_
      rintro _ h76 ⟨eh77, rfl⟩
      rw [eh77]
      show AtS p l e _ s m _ below meth c Z _ _ n0 _ _ _ h75 9 21 (mkF m 286 #[.val (.int i0), .val (.int i1), .val (.int i2), .val (.int i3), .val (.int ln), .val (.int fl), .val (.int c0), .val (.int c1), .val (.int c2), .val (.int c3), .val (.int (0 : Int32)), .val (.ref o65), .val (.ref vs), .val (.int b64), .val (.ref o74), .val (.int (0 : Int32))] [(.int (if (59 : Int32) ∈ [] then 1 else 0))])
      refine s_iload (q := 288) C rfl at_286 rfl ?_
      refine s_icmp_ne_f (q := 291) C at_288 rfl (by simp [*, eq_comm]) ?_
      refine s_iconst (q := 292) (v := (1 : Int32)) C (by rfl) at_291 rfl ?_
      refine s_goto (q := 296) C at_292 (by decide) (by decide) ?_
      exact s_retZ (z := (1 : Int32)) C G.el (t := .boolean) rfl (by simp) (by decide) at_296 (by decide) (by decide) rfl
    by_cases hc78 : (fl &&& (1 : Int32)) = 0
    · refine s_if_eq_t (q := 203) C at_196 (by decide) (by decide) hc78 ?_
      refine s_iconst (q := 204) (v := (0 : Int32)) C (by rfl) at_203 rfl ?_
      exact J _
    · refine s_if_eq_f (q := 199) C at_196 rfl hc78 ?_
      refine s_iconst (q := 200) (v := (1 : Int32)) C (by rfl) at_199 rfl ?_
      refine s_goto (q := 204) C at_200 (by decide) (by decide) ?_
      exact J _
  · show AtS p l e _ s m _ below meth c Z _ _ n0 _ _ _ h0 0 0 (mkF m 33 #[.val (.int i0), .val (.int i1), .val (.int i2), .val (.int i3), .val (.int ln), .val (.int fl), .val (.int c0), .val (.int c1), .val (.int c2), .val (.int c3), .val (.int (1 : Int32)), .unset, .unset, .unset, .unset, .unset] [])
    refine s_iload (q := 35) C rfl at_33 rfl ?_
    refine s_if_ne_t (q := 53) C at_35 (by decide) (by decide) (by decide) ?_
    refine s_iload (q := 55) C rfl at_53 rfl ?_
    refine s_iconst (q := 56) (v := (1 : Int32)) C (by rfl) at_55 rfl ?_
    refine s_icmp_ne_f (q := 59) C at_56 rfl (by decide) ?_
    refine s_new (q := 62) (cells' := 1) (slots' := 4) C (G.1 _ (List.mem_of_getElem? (i := 5) rfl)) (G.1 _ (List.mem_of_getElem? (i := 6) rfl)) (G.1 _ (List.mem_of_getElem? (i := 7) rfl)) rfl rfl (by decide) (by decide) at_59 rfl ?_
    intro h79 o80 g_o80 Eh79 A_o80 D_o80
    have F_value_o80 : Fld Z h79 o80 "java/lang/String" "value" "[B" .null := D_o80 (Or.inr (G.1 _ (List.mem_of_getElem? (i := 21) rfl))) (ty := (.array .byte)) (by decide)
    have F_coder_o80 : Fld Z h79 o80 "java/lang/String" "coder" "B" (.int (0 : Int32)) := D_o80 (Or.inr (G.1 _ (List.mem_of_getElem? (i := 22) rfl))) (ty := .byte) (by decide)
    have ge_o80 : n0 ≤ o80 := by rw [g_o80]; exact Old_le O
    refine s_dup (q := 63) C rfl at_62 rfl ?_
    refine s_iconst (q := 64) (v := (1 : Int32)) C (by rfl) at_63 rfl ?_
    refine s_newArr (q := 66) (cap := 1) (cells' := 2) (slots' := 5) C (G.1 _ (List.mem_of_getElem? (i := 8) rfl)) rfl (by decide) (by decide) (by decide) rfl rfl (by decide) (by decide) at_64 rfl ?_
    intro h81 o82 g_o82 Eh81 V_o82
    replace V_o82 : Ar Z h81 o82 .char [(.int (0 : Int32))] := V_o82
    have ge_o82 : n0 ≤ o82 := by rw [g_o82]; exact Nat.le_trans (Old_le O) Eh79.1
    have ne_o80 : o80 ≠ o82 := Nat.ne_of_lt (by rw [g_o82]; exact A_o80.lt)
    have sz_o82 : h0.size ≤ o82 := by rw [g_o82]; exact Eh79.1
    have K83 : Keep h0 h81 [] := (Keep.of_ext Eh79).ext Eh81
    replace A_o80 := A_o80.ext Eh81
    replace F_value_o80 := F_value_o80.ext Eh81
    replace F_coder_o80 := F_coder_o80.ext Eh81
    refine s_dup (q := 67) C rfl at_66 rfl ?_
    refine s_iconst (q := 68) (v := (0 : Int32)) C (by rfl) at_67 rfl ?_
    refine s_iload (q := 70) C rfl at_68 rfl ?_
    refine s_castore (q := 71) (z := c0) (i := 0) C (own_nar hc0.1 hc0.2) V_o82 rfl (own_ltb rfl) ge_o82 at_70 rfl ?_
    intro h84 Wh84 Vh84
    replace A_o80 := A_o80.wr Wh84
    replace F_value_o80 := F_value_o80.other Wh84 (Or.inl ne_o80)
    replace F_coder_o80 := F_coder_o80.other Wh84 (Or.inl ne_o80)
    have K85 := K83.wr Wh84 (Or.inr sz_o82)
    have O86 := Old_k0 O K85
    have hL_S1 : L1 [c0] := (own_L1c hc0 (fun c hc => absurd hc List.not_mem_nil))
    have hA_S1 : Ar Z h84 o82 .char (List.map Value.int [c0]) := Vh84
    refine s_callI1 (q := 74) (argsL := [(.ref o82)]) (S := [(.ref o80)]) (W := 1) (cells' := 3) (slots' := 9) (a := o80) C rfl (G.1 _ (List.mem_of_getElem? (i := 9) rfl)) (G.1 _ (List.mem_of_getElem? (i := 10) rfl)) (G.1 _ (List.mem_of_getElem? (i := 7) rfl)) (G.1 _ (List.mem_of_getElem? (i := 11) rfl)) (by decide) (rm_strinit G O86 o80 o82 [c0] A_o80 F_value_o80 F_coder_o80 ge_o80 hA_S1 hL_S1 (own_leb rfl) (by simp)) rfl (lenOf pd_2 rfl) rfl (by decide) (own_leb rfl) (by decide) rfl rfl (by decide) (by decide) (wl := [o80]) (fun _ _ q => q.1) (allS (SfOk.mem (by simp)) (all0)) at_71 rfl ?_
    rintro _ h87 ⟨Kh87, rfl, S1⟩
    show AtS p l e _ s m _ below meth c Z _ _ n0 _ _ _ h87 3 9 (mkF m 74 #[.val (.int i0), .val (.int i1), .val (.int i2), .val (.int i3), .val (.int ln), .val (.int fl), .val (.int c0), .val (.int c1), .val (.int c2), .val (.int c3), .val (.int (1 : Int32)), .unset, .unset, .unset, .unset, .unset] [(.ref o80)])
    have K88 : Keep h0 h87 [] := own_K1 K85 Kh87 (Nat.le_of_eq g_o80.symm)
    replace O := Old_k0 O K88
    refine s_astore (q := 76) (L' := #[.val (.int i0), .val (.int i1), .val (.int i2), .val (.int i3), .val (.int ln), .val (.int fl), .val (.int c0), .val (.int c1), .val (.int c2), .val (.int c3), .val (.int (1 : Int32)), .val (.ref o80), .unset, .unset, .unset, .unset]) C rfl rfl at_74 rfl ?_
    refine s_goto (q := 178) C at_76 (by decide) (by decide) ?_
    refine s_iload (q := 180) C rfl at_178 rfl ?_
    refine s_iconst (q := 181) (v := (1 : Int32)) C (by rfl) at_180 rfl ?_
    refine s_iushr (q := 182) C rfl at_181 rfl ?_
    refine s_sipush (q := 185) (v := (255 : Int32)) C (by rfl) at_182 rfl ?_
    refine s_iand (q := 186) C rfl at_185 rfl ?_
    refine s_i2c (q := 187) C rfl at_186 rfl ?_
    rw [show ((((fl.toUInt32 >>> ((1 : Int32) &&& 31).toUInt32).toInt32) &&& (255 : Int32)).toUInt32.toUInt16.toUInt32.toInt32) = (((fl.toUInt32 >>> ((1 : Int32) &&& 31).toUInt32).toInt32) &&& (255 : Int32)) from own_i2c (own_255 _)]
    generalize hvc : (((fl.toUInt32 >>> ((1 : Int32) &&& 31).toUInt32).toInt32) &&& (255 : Int32)) = vc
    have hv : ¬ vc < 0 ∧ ¬ 255 < vc := by rw [← hvc]; exact own_255 _
    refine s_callS1 (q := 190) (argsL := [(.int vc)]) (S := []) (W := 0) (cells' := 5) (slots' := 14) C (G.1 _ (List.mem_of_getElem? (i := 27) rfl)) (G.1 _ (List.mem_of_getElem? (i := 28) rfl)) (G.1 _ (List.mem_of_getElem? (i := 7) rfl)) (G.1 _ (List.mem_of_getElem? (i := 29) rfl)) (by decide) (rm_valueOfC G O vc hv) rfl (lenOf pd_5 rfl) rfl (by decide) (own_leb rfl) (by decide) rfl rfl (by decide) (by decide) (wl := []) (fun _ _ q => q.1) all0 at_187 rfl ?_
    rintro _ h89 ⟨Kh89, vs, rfl, S2⟩
    show AtS p l e _ s m _ below meth c Z _ _ n0 _ _ _ h89 5 14 (mkF m 190 #[.val (.int i0), .val (.int i1), .val (.int i2), .val (.int i3), .val (.int ln), .val (.int fl), .val (.int c0), .val (.int c1), .val (.int c2), .val (.int c3), .val (.int (1 : Int32)), .val (.ref o80), .unset, .unset, .unset, .unset] [(.ref vs)])
    replace S1 := Str_k0 S1 Kh89
    replace O := Old_k0 O Kh89
    refine s_astore (q := 192) (L' := #[.val (.int i0), .val (.int i1), .val (.int i2), .val (.int i3), .val (.int ln), .val (.int fl), .val (.int c0), .val (.int c1), .val (.int c2), .val (.int c3), .val (.int (1 : Int32)), .val (.ref o80), .val (.ref vs), .unset, .unset, .unset]) C rfl rfl at_190 rfl ?_
    refine s_iload (q := 194) C rfl at_192 rfl ?_
    refine s_iconst (q := 195) (v := (1 : Int32)) C (by rfl) at_194 rfl ?_
    refine s_iand (q := 196) C rfl at_195 rfl ?_
    have J : ∀ b64 : Int32, AtS p l e room_1 s m #[(.int i0), (.int i1), (.int i2), (.int i3), (.int ln), (.int fl)] below meth c Z consts_1 "com/example/portcullis/portcullis/ldap/AttributeHasOptionsPinLaw" n0 (fun v h => v = some (.int 1)) h0.size [o82, o80] h89 5 14 (mkF m 204 #[.val (.int i0), .val (.int i1), .val (.int i2), .val (.int i3), .val (.int ln), .val (.int fl), .val (.int c0), .val (.int c1), .val (.int c2), .val (.int c3), .val (.int (1 : Int32)), .val (.ref o80), .val (.ref vs), .unset, .unset, .unset] [(.int b64)]) := by
      intro b64
      refine s_istore (q := 206) (L' := #[.val (.int i0), .val (.int i1), .val (.int i2), .val (.int i3), .val (.int ln), .val (.int fl), .val (.int c0), .val (.int c1), .val (.int c2), .val (.int c3), .val (.int (1 : Int32)), .val (.ref o80), .val (.ref vs), .val (.int b64), .unset, .unset]) C rfl at_204 rfl ?_
      refine s_new (q := 209) (cells' := 6) (slots' := 18) C (G.1 _ (List.mem_of_getElem? (i := 42) rfl)) (G.1 _ (List.mem_of_getElem? (i := 43) rfl)) (G.1 _ (List.mem_of_getElem? (i := 44) rfl)) rfl rfl (by decide) (by decide) at_206 rfl ?_
      intro h90 o91 g_o91 Eh90 A_o91 D_o91
      have F_line_o91 : Fld Z h90 o91 "com/example/portcullis/portcullis/ldap/Ldif$Attribute" "line" "I" (.int (0 : Int32)) := D_o91 (Or.inr (G.1 _ (List.mem_of_getElem? (i := 55) rfl))) (ty := .int) (by decide)
      have F_description_o91 : Fld Z h90 o91 "com/example/portcullis/portcullis/ldap/Ldif$Attribute" "description" "Ljava/lang/String;" .null := D_o91 (Or.inr (G.1 _ (List.mem_of_getElem? (i := 57) rfl))) (ty := (.object "java/lang/String")) (by decide)
      have F_value_o91 : Fld Z h90 o91 "com/example/portcullis/portcullis/ldap/Ldif$Attribute" "value" "Ljava/lang/String;" .null := D_o91 (Or.inr (G.1 _ (List.mem_of_getElem? (i := 59) rfl))) (ty := (.object "java/lang/String")) (by decide)
      have F_base64_o91 : Fld Z h90 o91 "com/example/portcullis/portcullis/ldap/Ldif$Attribute" "base64" "Z" (.int (0 : Int32)) := D_o91 (Or.inr (G.1 _ (List.mem_of_getElem? (i := 61) rfl))) (ty := .boolean) (by decide)
      have ge : n0 ≤ o91 := by rw [g_o91]; exact Old_le O
      have KN : Keep h89 h90 [] := Keep.of_ext Eh90
      have OL : h89.size ≤ o91 := Nat.le_of_eq g_o91.symm
      have O9 := Old_k0 O KN
      refine s_dup (q := 210) C rfl at_209 rfl ?_
      refine s_iload (q := 212) C rfl at_210 rfl ?_
      refine s_aload (q := 214) C rfl rfl at_212 rfl ?_
      refine s_aload (q := 216) C rfl rfl at_214 rfl ?_
      refine s_iload (q := 218) C rfl at_216 rfl ?_
      refine s_callI1 (q := 221) (argsL := [(.int ln), (.ref o80), (.ref vs), (.int b64)]) (S := [(.ref o91)]) (W := 1) (cells' := 6) (slots' := 18) (a := o91) C rfl (G.1 _ (List.mem_of_getElem? (i := 45) rfl)) (G.1 _ (List.mem_of_getElem? (i := 46) rfl)) (G.1 _ (List.mem_of_getElem? (i := 44) rfl)) (G.1 _ (List.mem_of_getElem? (i := 47) rfl)) (by decide) (rm_attr G O9 o91 ln o80 vs b64 A_o91 F_line_o91 F_description_o91 F_value_o91 F_base64_o91 ge) rfl (lenOf pd_9 rfl) rfl (by decide) (own_leb rfl) (by decide) rfl rfl (by decide) (by decide) (wl := [o91]) (fun _ _ q => q.1) (allS (SfOk.exa A_o91 (by decide)) (all0)) at_218 rfl ?_
      rintro _ h92 ⟨Kh92, rfl, e0, e_line, e_description, e_value, e_base64⟩
      show AtS p l e _ s m _ below meth c Z _ _ n0 _ _ _ h92 6 18 (mkF m 221 #[.val (.int i0), .val (.int i1), .val (.int i2), .val (.int i3), .val (.int ln), .val (.int fl), .val (.int c0), .val (.int c1), .val (.int c2), .val (.int c3), .val (.int (1 : Int32)), .val (.ref o80), .val (.ref vs), .val (.int b64), .unset, .unset] [(.ref o91)])
      have KM : Keep h89 h92 [] := own_K1 KN Kh92 OL
      replace S1 := Str_k0 S1 KM
      replace S2 := Str_k0 S2 KM
      replace O := Old_k0 O KM
      refine s_astore (q := 223) (L' := #[.val (.int i0), .val (.int i1), .val (.int i2), .val (.int i3), .val (.int ln), .val (.int fl), .val (.int c0), .val (.int c1), .val (.int c2), .val (.int c3), .val (.int (1 : Int32)), .val (.ref o80), .val (.ref vs), .val (.int b64), .val (.ref o91), .unset]) C rfl rfl at_221 rfl ?_
      refine s_iload (q := 225) C rfl at_223 rfl ?_
      refine s_if_le_f (q := 228) C at_225 rfl (by decide) ?_
      refine s_iload (q := 230) C rfl at_228 rfl ?_
      refine s_bipush (q := 232) (v := (59 : Int32)) C (by rfl) at_230 rfl ?_
      by_cases hc93 : c0 = (59 : Int32)
      · refine s_icmp_eq_t (q := 274) C at_232 (by decide) (by decide) hc93 ?_
        refine s_iconst (q := 275) (v := (1 : Int32)) C (by rfl) at_274 rfl ?_
        refine s_goto (q := 279) C at_275 (by decide) (by decide) ?_
        refine s_istore (q := 281) (L' := #[.val (.int i0), .val (.int i1), .val (.int i2), .val (.int i3), .val (.int ln), .val (.int fl), .val (.int c0), .val (.int c1), .val (.int c2), .val (.int c3), .val (.int (1 : Int32)), .val (.ref o80), .val (.ref vs), .val (.int b64), .val (.ref o91), .val (.int (1 : Int32))]) C rfl at_279 rfl ?_
        refine s_aload (q := 283) C rfl rfl at_281 rfl ?_
        refine s_callV1 (q := 286) (argsL := []) (S := []) (W := 0) (cells' := 6) (slots' := 18) (a := o91) C e0 (G.1 _ (List.mem_of_getElem? (i := 62) rfl)) (G.1 _ (List.mem_of_getElem? (i := 63) rfl)) (s_nf (G.1 _ (List.mem_of_getElem? (i := 65) rfl))) (G.1 _ (List.mem_of_getElem? (i := 65) rfl)) (G.1 _ (List.mem_of_getElem? (i := 64) rfl)) (G.1 _ (List.mem_of_getElem? (i := 44) rfl)) (G.1 _ (List.mem_of_getElem? (i := 66) rfl)) (by decide) (rm_hasOpt G O o91 o80 [c0] e_description S1) rfl (lenOf pd_10 rfl) rfl (by decide) (own_leb rfl) (by decide) rfl rfl (by decide) (by decide) (wl := []) (fun _ _ q => by rw [q.1]; exact Keep.refl _ _) all0 at_283 rfl ?_
        rintro _ h94 ⟨eh95, rfl⟩
        rw [eh95]
        show AtS p l e _ s m _ below meth c Z _ _ n0 _ _ _ h92 6 18 (mkF m 286 #[.val (.int i0), .val (.int i1), .val (.int i2), .val (.int i3), .val (.int ln), .val (.int fl), .val (.int c0), .val (.int c1), .val (.int c2), .val (.int c3), .val (.int (1 : Int32)), .val (.ref o80), .val (.ref vs), .val (.int b64), .val (.ref o91), .val (.int (1 : Int32))] [(.int (if (59 : Int32) ∈ [c0] then 1 else 0))])
        refine s_iload (q := 288) C rfl at_286 rfl ?_
        refine s_icmp_ne_f (q := 291) C at_288 rfl (by simp [*, eq_comm]) ?_
        refine s_iconst (q := 292) (v := (1 : Int32)) C (by rfl) at_291 rfl ?_
        refine s_goto (q := 296) C at_292 (by decide) (by decide) ?_
        exact s_retZ (z := (1 : Int32)) C G.el (t := .boolean) rfl (by simp) (by decide) at_296 (by decide) (by decide) rfl
      · refine s_icmp_eq_f (q := 235) C at_232 rfl hc93 ?_
        refine s_iload (q := 237) C rfl at_235 rfl ?_
        refine s_iconst (q := 238) (v := (1 : Int32)) C (by rfl) at_237 rfl ?_
        refine s_icmp_le_t (q := 248) C at_238 (by decide) (by decide) (by decide) ?_
        refine s_iload (q := 250) C rfl at_248 rfl ?_
        refine s_iconst (q := 251) (v := (2 : Int32)) C (by rfl) at_250 rfl ?_
        refine s_icmp_le_t (q := 261) C at_251 (by decide) (by decide) (by decide) ?_
        refine s_iload (q := 263) C rfl at_261 rfl ?_
        refine s_iconst (q := 264) (v := (3 : Int32)) C (by rfl) at_263 rfl ?_
        refine s_icmp_le_t (q := 278) C at_264 (by decide) (by decide) (by decide) ?_
        refine s_iconst (q := 279) (v := (0 : Int32)) C (by rfl) at_278 rfl ?_
        refine s_istore (q := 281) (L' := #[.val (.int i0), .val (.int i1), .val (.int i2), .val (.int i3), .val (.int ln), .val (.int fl), .val (.int c0), .val (.int c1), .val (.int c2), .val (.int c3), .val (.int (1 : Int32)), .val (.ref o80), .val (.ref vs), .val (.int b64), .val (.ref o91), .val (.int (0 : Int32))]) C rfl at_279 rfl ?_
        refine s_aload (q := 283) C rfl rfl at_281 rfl ?_
        refine s_callV1 (q := 286) (argsL := []) (S := []) (W := 0) (cells' := 6) (slots' := 18) (a := o91) C e0 (G.1 _ (List.mem_of_getElem? (i := 62) rfl)) (G.1 _ (List.mem_of_getElem? (i := 63) rfl)) (s_nf (G.1 _ (List.mem_of_getElem? (i := 65) rfl))) (G.1 _ (List.mem_of_getElem? (i := 65) rfl)) (G.1 _ (List.mem_of_getElem? (i := 64) rfl)) (G.1 _ (List.mem_of_getElem? (i := 44) rfl)) (G.1 _ (List.mem_of_getElem? (i := 66) rfl)) (by decide) (rm_hasOpt G O o91 o80 [c0] e_description S1) rfl (lenOf pd_10 rfl) rfl (by decide) (own_leb rfl) (by decide) rfl rfl (by decide) (by decide) (wl := []) (fun _ _ q => by rw [q.1]; exact Keep.refl _ _) all0 at_283 rfl ?_
        rintro _ h96 ⟨eh97, rfl⟩
        rw [eh97]
        show AtS p l e _ s m _ below meth c Z _ _ n0 _ _ _ h92 6 18 (mkF m 286 #[.val (.int i0), .val (.int i1), .val (.int i2), .val (.int i3), .val (.int ln), .val (.int fl), .val (.int c0), .val (.int c1), .val (.int c2), .val (.int c3), .val (.int (1 : Int32)), .val (.ref o80), .val (.ref vs), .val (.int b64), .val (.ref o91), .val (.int (0 : Int32))] [(.int (if (59 : Int32) ∈ [c0] then 1 else 0))])
        refine s_iload (q := 288) C rfl at_286 rfl ?_
        refine s_icmp_ne_f (q := 291) C at_288 rfl (by simp [*, eq_comm]) ?_
        refine s_iconst (q := 292) (v := (1 : Int32)) C (by rfl) at_291 rfl ?_
        refine s_goto (q := 296) C at_292 (by decide) (by decide) ?_
        exact s_retZ (z := (1 : Int32)) C G.el (t := .boolean) rfl (by simp) (by decide) at_296 (by decide) (by decide) rfl
    by_cases hc98 : (fl &&& (1 : Int32)) = 0
    · refine s_if_eq_t (q := 203) C at_196 (by decide) (by decide) hc98 ?_
      refine s_iconst (q := 204) (v := (0 : Int32)) C (by rfl) at_203 rfl ?_
      exact J _
    · refine s_if_eq_f (q := 199) C at_196 rfl hc98 ?_
      refine s_iconst (q := 200) (v := (1 : Int32)) C (by rfl) at_199 rfl ?_
      refine s_goto (q := 204) C at_200 (by decide) (by decide) ?_
      exact J _
  · show AtS p l e _ s m _ below meth c Z _ _ n0 _ _ _ h0 0 0 (mkF m 33 #[.val (.int i0), .val (.int i1), .val (.int i2), .val (.int i3), .val (.int ln), .val (.int fl), .val (.int c0), .val (.int c1), .val (.int c2), .val (.int c3), .val (.int (2 : Int32)), .unset, .unset, .unset, .unset, .unset] [])
    refine s_iload (q := 35) C rfl at_33 rfl ?_
    refine s_if_ne_t (q := 53) C at_35 (by decide) (by decide) (by decide) ?_
    refine s_iload (q := 55) C rfl at_53 rfl ?_
    refine s_iconst (q := 56) (v := (1 : Int32)) C (by rfl) at_55 rfl ?_
    refine s_icmp_ne_t (q := 79) C at_56 (by decide) (by decide) (by decide) ?_
    refine s_iload (q := 81) C rfl at_79 rfl ?_
    refine s_iconst (q := 82) (v := (2 : Int32)) C (by rfl) at_81 rfl ?_
    refine s_icmp_ne_f (q := 85) C at_82 rfl (by decide) ?_
    refine s_new (q := 88) (cells' := 1) (slots' := 4) C (G.1 _ (List.mem_of_getElem? (i := 5) rfl)) (G.1 _ (List.mem_of_getElem? (i := 6) rfl)) (G.1 _ (List.mem_of_getElem? (i := 7) rfl)) rfl rfl (by decide) (by decide) at_85 rfl ?_
    intro h99 o100 g_o100 Eh99 A_o100 D_o100
    have F_value_o100 : Fld Z h99 o100 "java/lang/String" "value" "[B" .null := D_o100 (Or.inr (G.1 _ (List.mem_of_getElem? (i := 21) rfl))) (ty := (.array .byte)) (by decide)
    have F_coder_o100 : Fld Z h99 o100 "java/lang/String" "coder" "B" (.int (0 : Int32)) := D_o100 (Or.inr (G.1 _ (List.mem_of_getElem? (i := 22) rfl))) (ty := .byte) (by decide)
    have ge_o100 : n0 ≤ o100 := by rw [g_o100]; exact Old_le O
    refine s_dup (q := 89) C rfl at_88 rfl ?_
    refine s_iconst (q := 90) (v := (2 : Int32)) C (by rfl) at_89 rfl ?_
    refine s_newArr (q := 92) (cap := 2) (cells' := 2) (slots' := 6) C (G.1 _ (List.mem_of_getElem? (i := 8) rfl)) rfl (by decide) (by decide) (by decide) rfl rfl (by decide) (by decide) at_90 rfl ?_
    intro h101 o102 g_o102 Eh101 V_o102
    replace V_o102 : Ar Z h101 o102 .char [(.int (0 : Int32)), (.int (0 : Int32))] := V_o102
    have ge_o102 : n0 ≤ o102 := by rw [g_o102]; exact Nat.le_trans (Old_le O) Eh99.1
    have ne_o100 : o100 ≠ o102 := Nat.ne_of_lt (by rw [g_o102]; exact A_o100.lt)
    have sz_o102 : h0.size ≤ o102 := by rw [g_o102]; exact Eh99.1
    have K103 : Keep h0 h101 [] := (Keep.of_ext Eh99).ext Eh101
    replace A_o100 := A_o100.ext Eh101
    replace F_value_o100 := F_value_o100.ext Eh101
    replace F_coder_o100 := F_coder_o100.ext Eh101
    refine s_dup (q := 93) C rfl at_92 rfl ?_
    refine s_iconst (q := 94) (v := (0 : Int32)) C (by rfl) at_93 rfl ?_
    refine s_iload (q := 96) C rfl at_94 rfl ?_
    refine s_castore (q := 97) (z := c0) (i := 0) C (own_nar hc0.1 hc0.2) V_o102 rfl (own_ltb rfl) ge_o102 at_96 rfl ?_
    intro h104 Wh104 Vh104
    replace A_o100 := A_o100.wr Wh104
    replace F_value_o100 := F_value_o100.other Wh104 (Or.inl ne_o100)
    replace F_coder_o100 := F_coder_o100.other Wh104 (Or.inl ne_o100)
    have K105 := K103.wr Wh104 (Or.inr sz_o102)
    refine s_dup (q := 98) C rfl at_97 rfl ?_
    refine s_iconst (q := 99) (v := (1 : Int32)) C (by rfl) at_98 rfl ?_
    refine s_iload (q := 101) C rfl at_99 rfl ?_
    refine s_castore (q := 102) (z := c1) (i := 1) C (own_nar hc1.1 hc1.2) Vh104 rfl (own_ltb rfl) ge_o102 at_101 rfl ?_
    intro h106 Wh106 Vh106
    replace A_o100 := A_o100.wr Wh106
    replace F_value_o100 := F_value_o100.other Wh106 (Or.inl ne_o100)
    replace F_coder_o100 := F_coder_o100.other Wh106 (Or.inl ne_o100)
    have K107 := K105.wr Wh106 (Or.inr sz_o102)
    have O108 := Old_k0 O K107
    have hL_S1 : L1 [c0, c1] := (own_L1c hc0 (own_L1c hc1 (fun c hc => absurd hc List.not_mem_nil)))
    have hA_S1 : Ar Z h106 o102 .char (List.map Value.int [c0, c1]) := Vh106
    refine s_callI1 (q := 105) (argsL := [(.ref o102)]) (S := [(.ref o100)]) (W := 1) (cells' := 3) (slots' := 10) (a := o100) C rfl (G.1 _ (List.mem_of_getElem? (i := 9) rfl)) (G.1 _ (List.mem_of_getElem? (i := 10) rfl)) (G.1 _ (List.mem_of_getElem? (i := 7) rfl)) (G.1 _ (List.mem_of_getElem? (i := 11) rfl)) (by decide) (rm_strinit G O108 o100 o102 [c0, c1] A_o100 F_value_o100 F_coder_o100 ge_o100 hA_S1 hL_S1 (own_leb rfl) (by simp)) rfl (lenOf pd_2 rfl) rfl (by decide) (own_leb rfl) (by decide) rfl rfl (by decide) (by decide) (wl := [o100]) (fun _ _ q => q.1) (allS (SfOk.mem (by simp)) (all0)) at_102 rfl ?_
    rintro _ h109 ⟨Kh109, rfl, S1⟩
    show AtS p l e _ s m _ below meth c Z _ _ n0 _ _ _ h109 3 10 (mkF m 105 #[.val (.int i0), .val (.int i1), .val (.int i2), .val (.int i3), .val (.int ln), .val (.int fl), .val (.int c0), .val (.int c1), .val (.int c2), .val (.int c3), .val (.int (2 : Int32)), .unset, .unset, .unset, .unset, .unset] [(.ref o100)])
    have K110 : Keep h0 h109 [] := own_K1 K107 Kh109 (Nat.le_of_eq g_o100.symm)
    replace O := Old_k0 O K110
    refine s_astore (q := 107) (L' := #[.val (.int i0), .val (.int i1), .val (.int i2), .val (.int i3), .val (.int ln), .val (.int fl), .val (.int c0), .val (.int c1), .val (.int c2), .val (.int c3), .val (.int (2 : Int32)), .val (.ref o100), .unset, .unset, .unset, .unset]) C rfl rfl at_105 rfl ?_
    refine s_goto (q := 178) C at_107 (by decide) (by decide) ?_
    refine s_iload (q := 180) C rfl at_178 rfl ?_
    refine s_iconst (q := 181) (v := (1 : Int32)) C (by rfl) at_180 rfl ?_
    refine s_iushr (q := 182) C rfl at_181 rfl ?_
    refine s_sipush (q := 185) (v := (255 : Int32)) C (by rfl) at_182 rfl ?_
    refine s_iand (q := 186) C rfl at_185 rfl ?_
    refine s_i2c (q := 187) C rfl at_186 rfl ?_
    rw [show ((((fl.toUInt32 >>> ((1 : Int32) &&& 31).toUInt32).toInt32) &&& (255 : Int32)).toUInt32.toUInt16.toUInt32.toInt32) = (((fl.toUInt32 >>> ((1 : Int32) &&& 31).toUInt32).toInt32) &&& (255 : Int32)) from own_i2c (own_255 _)]
    generalize hvc : (((fl.toUInt32 >>> ((1 : Int32) &&& 31).toUInt32).toInt32) &&& (255 : Int32)) = vc
    have hv : ¬ vc < 0 ∧ ¬ 255 < vc := by rw [← hvc]; exact own_255 _
    refine s_callS1 (q := 190) (argsL := [(.int vc)]) (S := []) (W := 0) (cells' := 5) (slots' := 15) C (G.1 _ (List.mem_of_getElem? (i := 27) rfl)) (G.1 _ (List.mem_of_getElem? (i := 28) rfl)) (G.1 _ (List.mem_of_getElem? (i := 7) rfl)) (G.1 _ (List.mem_of_getElem? (i := 29) rfl)) (by decide) (rm_valueOfC G O vc hv) rfl (lenOf pd_5 rfl) rfl (by decide) (own_leb rfl) (by decide) rfl rfl (by decide) (by decide) (wl := []) (fun _ _ q => q.1) all0 at_187 rfl ?_
    rintro _ h111 ⟨Kh111, vs, rfl, S2⟩
    show AtS p l e _ s m _ below meth c Z _ _ n0 _ _ _ h111 5 15 (mkF m 190 #[.val (.int i0), .val (.int i1), .val (.int i2), .val (.int i3), .val (.int ln), .val (.int fl), .val (.int c0), .val (.int c1), .val (.int c2), .val (.int c3), .val (.int (2 : Int32)), .val (.ref o100), .unset, .unset, .unset, .unset] [(.ref vs)])
    replace S1 := Str_k0 S1 Kh111
    replace O := Old_k0 O Kh111
    refine s_astore (q := 192) (L' := #[.val (.int i0), .val (.int i1), .val (.int i2), .val (.int i3), .val (.int ln), .val (.int fl), .val (.int c0), .val (.int c1), .val (.int c2), .val (.int c3), .val (.int (2 : Int32)), .val (.ref o100), .val (.ref vs), .unset, .unset, .unset]) C rfl rfl at_190 rfl ?_
    refine s_iload (q := 194) C rfl at_192 rfl ?_
    refine s_iconst (q := 195) (v := (1 : Int32)) C (by rfl) at_194 rfl ?_
    refine s_iand (q := 196) C rfl at_195 rfl ?_
    have J : ∀ b64 : Int32, AtS p l e room_1 s m #[(.int i0), (.int i1), (.int i2), (.int i3), (.int ln), (.int fl)] below meth c Z consts_1 "com/example/portcullis/portcullis/ldap/AttributeHasOptionsPinLaw" n0 (fun v h => v = some (.int 1)) h0.size [o102, o100] h111 5 15 (mkF m 204 #[.val (.int i0), .val (.int i1), .val (.int i2), .val (.int i3), .val (.int ln), .val (.int fl), .val (.int c0), .val (.int c1), .val (.int c2), .val (.int c3), .val (.int (2 : Int32)), .val (.ref o100), .val (.ref vs), .unset, .unset, .unset] [(.int b64)]) := by
      intro b64
      refine s_istore (q := 206) (L' := #[.val (.int i0), .val (.int i1), .val (.int i2), .val (.int i3), .val (.int ln), .val (.int fl), .val (.int c0), .val (.int c1), .val (.int c2), .val (.int c3), .val (.int (2 : Int32)), .val (.ref o100), .val (.ref vs), .val (.int b64), .unset, .unset]) C rfl at_204 rfl ?_
      refine s_new (q := 209) (cells' := 6) (slots' := 19) C (G.1 _ (List.mem_of_getElem? (i := 42) rfl)) (G.1 _ (List.mem_of_getElem? (i := 43) rfl)) (G.1 _ (List.mem_of_getElem? (i := 44) rfl)) rfl rfl (by decide) (by decide) at_206 rfl ?_
      intro h112 o113 g_o113 Eh112 A_o113 D_o113
      have F_line_o113 : Fld Z h112 o113 "com/example/portcullis/portcullis/ldap/Ldif$Attribute" "line" "I" (.int (0 : Int32)) := D_o113 (Or.inr (G.1 _ (List.mem_of_getElem? (i := 55) rfl))) (ty := .int) (by decide)
      have F_description_o113 : Fld Z h112 o113 "com/example/portcullis/portcullis/ldap/Ldif$Attribute" "description" "Ljava/lang/String;" .null := D_o113 (Or.inr (G.1 _ (List.mem_of_getElem? (i := 57) rfl))) (ty := (.object "java/lang/String")) (by decide)
      have F_value_o113 : Fld Z h112 o113 "com/example/portcullis/portcullis/ldap/Ldif$Attribute" "value" "Ljava/lang/String;" .null := D_o113 (Or.inr (G.1 _ (List.mem_of_getElem? (i := 59) rfl))) (ty := (.object "java/lang/String")) (by decide)
      have F_base64_o113 : Fld Z h112 o113 "com/example/portcullis/portcullis/ldap/Ldif$Attribute" "base64" "Z" (.int (0 : Int32)) := D_o113 (Or.inr (G.1 _ (List.mem_of_getElem? (i := 61) rfl))) (ty := .boolean) (by decide)
      have ge : n0 ≤ o113 := by rw [g_o113]; exact Old_le O
      have KN : Keep h111 h112 [] := Keep.of_ext Eh112
      have OL : h111.size ≤ o113 := Nat.le_of_eq g_o113.symm
      have O9 := Old_k0 O KN
      refine s_dup (q := 210) C rfl at_209 rfl ?_
      refine s_iload (q := 212) C rfl at_210 rfl ?_
      refine s_aload (q := 214) C rfl rfl at_212 rfl ?_
      refine s_aload (q := 216) C rfl rfl at_214 rfl ?_
      refine s_iload (q := 218) C rfl at_216 rfl ?_
      refine s_callI1 (q := 221) (argsL := [(.int ln), (.ref o100), (.ref vs), (.int b64)]) (S := [(.ref o113)]) (W := 1) (cells' := 6) (slots' := 19) (a := o113) C rfl (G.1 _ (List.mem_of_getElem? (i := 45) rfl)) (G.1 _ (List.mem_of_getElem? (i := 46) rfl)) (G.1 _ (List.mem_of_getElem? (i := 44) rfl)) (G.1 _ (List.mem_of_getElem? (i := 47) rfl)) (by decide) (rm_attr G O9 o113 ln o100 vs b64 A_o113 F_line_o113 F_description_o113 F_value_o113 F_base64_o113 ge) rfl (lenOf pd_9 rfl) rfl (by decide) (own_leb rfl) (by decide) rfl rfl (by decide) (by decide) (wl := [o113]) (fun _ _ q => q.1) (allS (SfOk.exa A_o113 (by decide)) (all0)) at_218 rfl ?_
      rintro _ h114 ⟨Kh114, rfl, e0, e_line, e_description, e_value, e_base64⟩
      show AtS p l e _ s m _ below meth c Z _ _ n0 _ _ _ h114 6 19 (mkF m 221 #[.val (.int i0), .val (.int i1), .val (.int i2), .val (.int i3), .val (.int ln), .val (.int fl), .val (.int c0), .val (.int c1), .val (.int c2), .val (.int c3), .val (.int (2 : Int32)), .val (.ref o100), .val (.ref vs), .val (.int b64), .unset, .unset] [(.ref o113)])
      have KM : Keep h111 h114 [] := own_K1 KN Kh114 OL
      replace S1 := Str_k0 S1 KM
      replace S2 := Str_k0 S2 KM
      replace O := Old_k0 O KM
      refine s_astore (q := 223) (L' := #[.val (.int i0), .val (.int i1), .val (.int i2), .val (.int i3), .val (.int ln), .val (.int fl), .val (.int c0), .val (.int c1), .val (.int c2), .val (.int c3), .val (.int (2 : Int32)), .val (.ref o100), .val (.ref vs), .val (.int b64), .val (.ref o113), .unset]) C rfl rfl at_221 rfl ?_
      refine s_iload (q := 225) C rfl at_223 rfl ?_
      refine s_if_le_f (q := 228) C at_225 rfl (by decide) ?_
      refine s_iload (q := 230) C rfl at_228 rfl ?_
      refine s_bipush (q := 232) (v := (59 : Int32)) C (by rfl) at_230 rfl ?_
      by_cases hc115 : c0 = (59 : Int32)
      · refine s_icmp_eq_t (q := 274) C at_232 (by decide) (by decide) hc115 ?_
        refine s_iconst (q := 275) (v := (1 : Int32)) C (by rfl) at_274 rfl ?_
        refine s_goto (q := 279) C at_275 (by decide) (by decide) ?_
        refine s_istore (q := 281) (L' := #[.val (.int i0), .val (.int i1), .val (.int i2), .val (.int i3), .val (.int ln), .val (.int fl), .val (.int c0), .val (.int c1), .val (.int c2), .val (.int c3), .val (.int (2 : Int32)), .val (.ref o100), .val (.ref vs), .val (.int b64), .val (.ref o113), .val (.int (1 : Int32))]) C rfl at_279 rfl ?_
        refine s_aload (q := 283) C rfl rfl at_281 rfl ?_
        refine s_callV1 (q := 286) (argsL := []) (S := []) (W := 0) (cells' := 6) (slots' := 19) (a := o113) C e0 (G.1 _ (List.mem_of_getElem? (i := 62) rfl)) (G.1 _ (List.mem_of_getElem? (i := 63) rfl)) (s_nf (G.1 _ (List.mem_of_getElem? (i := 65) rfl))) (G.1 _ (List.mem_of_getElem? (i := 65) rfl)) (G.1 _ (List.mem_of_getElem? (i := 64) rfl)) (G.1 _ (List.mem_of_getElem? (i := 44) rfl)) (G.1 _ (List.mem_of_getElem? (i := 66) rfl)) (by decide) (rm_hasOpt G O o113 o100 [c0, c1] e_description S1) rfl (lenOf pd_10 rfl) rfl (by decide) (own_leb rfl) (by decide) rfl rfl (by decide) (by decide) (wl := []) (fun _ _ q => by rw [q.1]; exact Keep.refl _ _) all0 at_283 rfl ?_
        rintro _ h116 ⟨eh117, rfl⟩
        rw [eh117]
        show AtS p l e _ s m _ below meth c Z _ _ n0 _ _ _ h114 6 19 (mkF m 286 #[.val (.int i0), .val (.int i1), .val (.int i2), .val (.int i3), .val (.int ln), .val (.int fl), .val (.int c0), .val (.int c1), .val (.int c2), .val (.int c3), .val (.int (2 : Int32)), .val (.ref o100), .val (.ref vs), .val (.int b64), .val (.ref o113), .val (.int (1 : Int32))] [(.int (if (59 : Int32) ∈ [c0, c1] then 1 else 0))])
        refine s_iload (q := 288) C rfl at_286 rfl ?_
        refine s_icmp_ne_f (q := 291) C at_288 rfl (by simp [*, eq_comm]) ?_
        refine s_iconst (q := 292) (v := (1 : Int32)) C (by rfl) at_291 rfl ?_
        refine s_goto (q := 296) C at_292 (by decide) (by decide) ?_
        exact s_retZ (z := (1 : Int32)) C G.el (t := .boolean) rfl (by simp) (by decide) at_296 (by decide) (by decide) rfl
      · refine s_icmp_eq_f (q := 235) C at_232 rfl hc115 ?_
        refine s_iload (q := 237) C rfl at_235 rfl ?_
        refine s_iconst (q := 238) (v := (1 : Int32)) C (by rfl) at_237 rfl ?_
        refine s_icmp_le_f (q := 241) C at_238 rfl (by decide) ?_
        refine s_iload (q := 243) C rfl at_241 rfl ?_
        refine s_bipush (q := 245) (v := (59 : Int32)) C (by rfl) at_243 rfl ?_
        by_cases hc118 : c1 = (59 : Int32)
        · refine s_icmp_eq_t (q := 274) C at_245 (by decide) (by decide) hc118 ?_
          refine s_iconst (q := 275) (v := (1 : Int32)) C (by rfl) at_274 rfl ?_
          refine s_goto (q := 279) C at_275 (by decide) (by decide) ?_
          refine s_istore (q := 281) (L' := #[.val (.int i0), .val (.int i1), .val (.int i2), .val (.int i3), .val (.int ln), .val (.int fl), .val (.int c0), .val (.int c1), .val (.int c2), .val (.int c3), .val (.int (2 : Int32)), .val (.ref o100), .val (.ref vs), .val (.int b64), .val (.ref o113), .val (.int (1 : Int32))]) C rfl at_279 rfl ?_
          refine s_aload (q := 283) C rfl rfl at_281 rfl ?_
          refine s_callV1 (q := 286) (argsL := []) (S := []) (W := 0) (cells' := 6) (slots' := 19) (a := o113) C e0 (G.1 _ (List.mem_of_getElem? (i := 62) rfl)) (G.1 _ (List.mem_of_getElem? (i := 63) rfl)) (s_nf (G.1 _ (List.mem_of_getElem? (i := 65) rfl))) (G.1 _ (List.mem_of_getElem? (i := 65) rfl)) (G.1 _ (List.mem_of_getElem? (i := 64) rfl)) (G.1 _ (List.mem_of_getElem? (i := 44) rfl)) (G.1 _ (List.mem_of_getElem? (i := 66) rfl)) (by decide) (rm_hasOpt G O o113 o100 [c0, c1] e_description S1) rfl (lenOf pd_10 rfl) rfl (by decide) (own_leb rfl) (by decide) rfl rfl (by decide) (by decide) (wl := []) (fun _ _ q => by rw [q.1]; exact Keep.refl _ _) all0 at_283 rfl ?_
          rintro _ h119 ⟨eh120, rfl⟩
          rw [eh120]
          show AtS p l e _ s m _ below meth c Z _ _ n0 _ _ _ h114 6 19 (mkF m 286 #[.val (.int i0), .val (.int i1), .val (.int i2), .val (.int i3), .val (.int ln), .val (.int fl), .val (.int c0), .val (.int c1), .val (.int c2), .val (.int c3), .val (.int (2 : Int32)), .val (.ref o100), .val (.ref vs), .val (.int b64), .val (.ref o113), .val (.int (1 : Int32))] [(.int (if (59 : Int32) ∈ [c0, c1] then 1 else 0))])
          refine s_iload (q := 288) C rfl at_286 rfl ?_
          refine s_icmp_ne_f (q := 291) C at_288 rfl (by simp [*, eq_comm]) ?_
          refine s_iconst (q := 292) (v := (1 : Int32)) C (by rfl) at_291 rfl ?_
          refine s_goto (q := 296) C at_292 (by decide) (by decide) ?_
          exact s_retZ (z := (1 : Int32)) C G.el (t := .boolean) rfl (by simp) (by decide) at_296 (by decide) (by decide) rfl
        · refine s_icmp_eq_f (q := 248) C at_245 rfl hc118 ?_
          refine s_iload (q := 250) C rfl at_248 rfl ?_
          refine s_iconst (q := 251) (v := (2 : Int32)) C (by rfl) at_250 rfl ?_
          refine s_icmp_le_t (q := 261) C at_251 (by decide) (by decide) (by decide) ?_
          refine s_iload (q := 263) C rfl at_261 rfl ?_
          refine s_iconst (q := 264) (v := (3 : Int32)) C (by rfl) at_263 rfl ?_
          refine s_icmp_le_t (q := 278) C at_264 (by decide) (by decide) (by decide) ?_
          refine s_iconst (q := 279) (v := (0 : Int32)) C (by rfl) at_278 rfl ?_
          refine s_istore (q := 281) (L' := #[.val (.int i0), .val (.int i1), .val (.int i2), .val (.int i3), .val (.int ln), .val (.int fl), .val (.int c0), .val (.int c1), .val (.int c2), .val (.int c3), .val (.int (2 : Int32)), .val (.ref o100), .val (.ref vs), .val (.int b64), .val (.ref o113), .val (.int (0 : Int32))]) C rfl at_279 rfl ?_
          refine s_aload (q := 283) C rfl rfl at_281 rfl ?_
          refine s_callV1 (q := 286) (argsL := []) (S := []) (W := 0) (cells' := 6) (slots' := 19) (a := o113) C e0 (G.1 _ (List.mem_of_getElem? (i := 62) rfl)) (G.1 _ (List.mem_of_getElem? (i := 63) rfl)) (s_nf (G.1 _ (List.mem_of_getElem? (i := 65) rfl))) (G.1 _ (List.mem_of_getElem? (i := 65) rfl)) (G.1 _ (List.mem_of_getElem? (i := 64) rfl)) (G.1 _ (List.mem_of_getElem? (i := 44) rfl)) (G.1 _ (List.mem_of_getElem? (i := 66) rfl)) (by decide) (rm_hasOpt G O o113 o100 [c0, c1] e_description S1) rfl (lenOf pd_10 rfl) rfl (by decide) (own_leb rfl) (by decide) rfl rfl (by decide) (by decide) (wl := []) (fun _ _ q => by rw [q.1]; exact Keep.refl _ _) all0 at_283 rfl ?_
          rintro _ h121 ⟨eh122, rfl⟩
          rw [eh122]
          show AtS p l e _ s m _ below meth c Z _ _ n0 _ _ _ h114 6 19 (mkF m 286 #[.val (.int i0), .val (.int i1), .val (.int i2), .val (.int i3), .val (.int ln), .val (.int fl), .val (.int c0), .val (.int c1), .val (.int c2), .val (.int c3), .val (.int (2 : Int32)), .val (.ref o100), .val (.ref vs), .val (.int b64), .val (.ref o113), .val (.int (0 : Int32))] [(.int (if (59 : Int32) ∈ [c0, c1] then 1 else 0))])
          refine s_iload (q := 288) C rfl at_286 rfl ?_
          refine s_icmp_ne_f (q := 291) C at_288 rfl (by simp [*, eq_comm]) ?_
          refine s_iconst (q := 292) (v := (1 : Int32)) C (by rfl) at_291 rfl ?_
          refine s_goto (q := 296) C at_292 (by decide) (by decide) ?_
          exact s_retZ (z := (1 : Int32)) C G.el (t := .boolean) rfl (by simp) (by decide) at_296 (by decide) (by decide) rfl
    by_cases hc123 : (fl &&& (1 : Int32)) = 0
    · refine s_if_eq_t (q := 203) C at_196 (by decide) (by decide) hc123 ?_
      refine s_iconst (q := 204) (v := (0 : Int32)) C (by rfl) at_203 rfl ?_
      exact J _
    · refine s_if_eq_f (q := 199) C at_196 rfl hc123 ?_
      refine s_iconst (q := 200) (v := (1 : Int32)) C (by rfl) at_199 rfl ?_
      refine s_goto (q := 204) C at_200 (by decide) (by decide) ?_
      exact J _
  · show AtS p l e _ s m _ below meth c Z _ _ n0 _ _ _ h0 0 0 (mkF m 33 #[.val (.int i0), .val (.int i1), .val (.int i2), .val (.int i3), .val (.int ln), .val (.int fl), .val (.int c0), .val (.int c1), .val (.int c2), .val (.int c3), .val (.int (3 : Int32)), .unset, .unset, .unset, .unset, .unset] [])
    refine s_iload (q := 35) C rfl at_33 rfl ?_
    refine s_if_ne_t (q := 53) C at_35 (by decide) (by decide) (by decide) ?_
    refine s_iload (q := 55) C rfl at_53 rfl ?_
    refine s_iconst (q := 56) (v := (1 : Int32)) C (by rfl) at_55 rfl ?_
    refine s_icmp_ne_t (q := 79) C at_56 (by decide) (by decide) (by decide) ?_
    refine s_iload (q := 81) C rfl at_79 rfl ?_
    refine s_iconst (q := 82) (v := (2 : Int32)) C (by rfl) at_81 rfl ?_
    refine s_icmp_ne_t (q := 110) C at_82 (by decide) (by decide) (by decide) ?_
    refine s_iload (q := 112) C rfl at_110 rfl ?_
    refine s_iconst (q := 113) (v := (3 : Int32)) C (by rfl) at_112 rfl ?_
    refine s_icmp_ne_f (q := 116) C at_113 rfl (by decide) ?_
    refine s_new (q := 119) (cells' := 1) (slots' := 4) C (G.1 _ (List.mem_of_getElem? (i := 5) rfl)) (G.1 _ (List.mem_of_getElem? (i := 6) rfl)) (G.1 _ (List.mem_of_getElem? (i := 7) rfl)) rfl rfl (by decide) (by decide) at_116 rfl ?_
    intro h124 o125 g_o125 Eh124 A_o125 D_o125
    have F_value_o125 : Fld Z h124 o125 "java/lang/String" "value" "[B" .null := D_o125 (Or.inr (G.1 _ (List.mem_of_getElem? (i := 21) rfl))) (ty := (.array .byte)) (by decide)
    have F_coder_o125 : Fld Z h124 o125 "java/lang/String" "coder" "B" (.int (0 : Int32)) := D_o125 (Or.inr (G.1 _ (List.mem_of_getElem? (i := 22) rfl))) (ty := .byte) (by decide)
    have ge_o125 : n0 ≤ o125 := by rw [g_o125]; exact Old_le O
    refine s_dup (q := 120) C rfl at_119 rfl ?_
    refine s_iconst (q := 121) (v := (3 : Int32)) C (by rfl) at_120 rfl ?_
    refine s_newArr (q := 123) (cap := 3) (cells' := 2) (slots' := 7) C (G.1 _ (List.mem_of_getElem? (i := 8) rfl)) rfl (by decide) (by decide) (by decide) rfl rfl (by decide) (by decide) at_121 rfl ?_
    intro h126 o127 g_o127 Eh126 V_o127
    replace V_o127 : Ar Z h126 o127 .char [(.int (0 : Int32)), (.int (0 : Int32)), (.int (0 : Int32))] := V_o127
    have ge_o127 : n0 ≤ o127 := by rw [g_o127]; exact Nat.le_trans (Old_le O) Eh124.1
    have ne_o125 : o125 ≠ o127 := Nat.ne_of_lt (by rw [g_o127]; exact A_o125.lt)
    have sz_o127 : h0.size ≤ o127 := by rw [g_o127]; exact Eh124.1
    have K128 : Keep h0 h126 [] := (Keep.of_ext Eh124).ext Eh126
    replace A_o125 := A_o125.ext Eh126
    replace F_value_o125 := F_value_o125.ext Eh126
    replace F_coder_o125 := F_coder_o125.ext Eh126
    refine s_dup (q := 124) C rfl at_123 rfl ?_
    refine s_iconst (q := 125) (v := (0 : Int32)) C (by rfl) at_124 rfl ?_
    refine s_iload (q := 127) C rfl at_125 rfl ?_
    refine s_castore (q := 128) (z := c0) (i := 0) C (own_nar hc0.1 hc0.2) V_o127 rfl (own_ltb rfl) ge_o127 at_127 rfl ?_
    intro h129 Wh129 Vh129
    replace A_o125 := A_o125.wr Wh129
    replace F_value_o125 := F_value_o125.other Wh129 (Or.inl ne_o125)
    replace F_coder_o125 := F_coder_o125.other Wh129 (Or.inl ne_o125)
    have K130 := K128.wr Wh129 (Or.inr sz_o127)
    refine s_dup (q := 129) C rfl at_128 rfl ?_
    refine s_iconst (q := 130) (v := (1 : Int32)) C (by rfl) at_129 rfl ?_
    refine s_iload (q := 132) C rfl at_130 rfl ?_
    refine s_castore (q := 133) (z := c1) (i := 1) C (own_nar hc1.1 hc1.2) Vh129 rfl (own_ltb rfl) ge_o127 at_132 rfl ?_
    intro h131 Wh131 Vh131
    replace A_o125 := A_o125.wr Wh131
    replace F_value_o125 := F_value_o125.other Wh131 (Or.inl ne_o125)
    replace F_coder_o125 := F_coder_o125.other Wh131 (Or.inl ne_o125)
    have K132 := K130.wr Wh131 (Or.inr sz_o127)
    refine s_dup (q := 134) C rfl at_133 rfl ?_
    refine s_iconst (q := 135) (v := (2 : Int32)) C (by rfl) at_134 rfl ?_
    refine s_iload (q := 137) C rfl at_135 rfl ?_
    refine s_castore (q := 138) (z := c2) (i := 2) C (own_nar hc2.1 hc2.2) Vh131 rfl (own_ltb rfl) ge_o127 at_137 rfl ?_
    intro h133 Wh133 Vh133
    replace A_o125 := A_o125.wr Wh133
    replace F_value_o125 := F_value_o125.other Wh133 (Or.inl ne_o125)
    replace F_coder_o125 := F_coder_o125.other Wh133 (Or.inl ne_o125)
    have K134 := K132.wr Wh133 (Or.inr sz_o127)
    have O135 := Old_k0 O K134
    have hL_S1 : L1 [c0, c1, c2] := (own_L1c hc0 (own_L1c hc1 (own_L1c hc2 (fun c hc => absurd hc List.not_mem_nil))))
    have hA_S1 : Ar Z h133 o127 .char (List.map Value.int [c0, c1, c2]) := Vh133
    refine s_callI1 (q := 141) (argsL := [(.ref o127)]) (S := [(.ref o125)]) (W := 1) (cells' := 3) (slots' := 11) (a := o125) C rfl (G.1 _ (List.mem_of_getElem? (i := 9) rfl)) (G.1 _ (List.mem_of_getElem? (i := 10) rfl)) (G.1 _ (List.mem_of_getElem? (i := 7) rfl)) (G.1 _ (List.mem_of_getElem? (i := 11) rfl)) (by decide) (rm_strinit G O135 o125 o127 [c0, c1, c2] A_o125 F_value_o125 F_coder_o125 ge_o125 hA_S1 hL_S1 (own_leb rfl) (by simp)) rfl (lenOf pd_2 rfl) rfl (by decide) (own_leb rfl) (by decide) rfl rfl (by decide) (by decide) (wl := [o125]) (fun _ _ q => q.1) (allS (SfOk.mem (by simp)) (all0)) at_138 rfl ?_
    rintro _ h136 ⟨Kh136, rfl, S1⟩
    show AtS p l e _ s m _ below meth c Z _ _ n0 _ _ _ h136 3 11 (mkF m 141 #[.val (.int i0), .val (.int i1), .val (.int i2), .val (.int i3), .val (.int ln), .val (.int fl), .val (.int c0), .val (.int c1), .val (.int c2), .val (.int c3), .val (.int (3 : Int32)), .unset, .unset, .unset, .unset, .unset] [(.ref o125)])
    have K137 : Keep h0 h136 [] := own_K1 K134 Kh136 (Nat.le_of_eq g_o125.symm)
    replace O := Old_k0 O K137
    refine s_astore (q := 143) (L' := #[.val (.int i0), .val (.int i1), .val (.int i2), .val (.int i3), .val (.int ln), .val (.int fl), .val (.int c0), .val (.int c1), .val (.int c2), .val (.int c3), .val (.int (3 : Int32)), .val (.ref o125), .unset, .unset, .unset, .unset]) C rfl rfl at_141 rfl ?_
    refine s_goto (q := 178) C at_143 (by decide) (by decide) ?_
    refine s_iload (q := 180) C rfl at_178 rfl ?_
    refine s_iconst (q := 181) (v := (1 : Int32)) C (by rfl) at_180 rfl ?_
    refine s_iushr (q := 182) C rfl at_181 rfl ?_
    refine s_sipush (q := 185) (v := (255 : Int32)) C (by rfl) at_182 rfl ?_
    refine s_iand (q := 186) C rfl at_185 rfl ?_
    refine s_i2c (q := 187) C rfl at_186 rfl ?_
    rw [show ((((fl.toUInt32 >>> ((1 : Int32) &&& 31).toUInt32).toInt32) &&& (255 : Int32)).toUInt32.toUInt16.toUInt32.toInt32) = (((fl.toUInt32 >>> ((1 : Int32) &&& 31).toUInt32).toInt32) &&& (255 : Int32)) from own_i2c (own_255 _)]
    generalize hvc : (((fl.toUInt32 >>> ((1 : Int32) &&& 31).toUInt32).toInt32) &&& (255 : Int32)) = vc
    have hv : ¬ vc < 0 ∧ ¬ 255 < vc := by rw [← hvc]; exact own_255 _
    refine s_callS1 (q := 190) (argsL := [(.int vc)]) (S := []) (W := 0) (cells' := 5) (slots' := 16) C (G.1 _ (List.mem_of_getElem? (i := 27) rfl)) (G.1 _ (List.mem_of_getElem? (i := 28) rfl)) (G.1 _ (List.mem_of_getElem? (i := 7) rfl)) (G.1 _ (List.mem_of_getElem? (i := 29) rfl)) (by decide) (rm_valueOfC G O vc hv) rfl (lenOf pd_5 rfl) rfl (by decide) (own_leb rfl) (by decide) rfl rfl (by decide) (by decide) (wl := []) (fun _ _ q => q.1) all0 at_187 rfl ?_
    rintro _ h138 ⟨Kh138, vs, rfl, S2⟩
    show AtS p l e _ s m _ below meth c Z _ _ n0 _ _ _ h138 5 16 (mkF m 190 #[.val (.int i0), .val (.int i1), .val (.int i2), .val (.int i3), .val (.int ln), .val (.int fl), .val (.int c0), .val (.int c1), .val (.int c2), .val (.int c3), .val (.int (3 : Int32)), .val (.ref o125), .unset, .unset, .unset, .unset] [(.ref vs)])
    replace S1 := Str_k0 S1 Kh138
    replace O := Old_k0 O Kh138
    refine s_astore (q := 192) (L' := #[.val (.int i0), .val (.int i1), .val (.int i2), .val (.int i3), .val (.int ln), .val (.int fl), .val (.int c0), .val (.int c1), .val (.int c2), .val (.int c3), .val (.int (3 : Int32)), .val (.ref o125), .val (.ref vs), .unset, .unset, .unset]) C rfl rfl at_190 rfl ?_
    refine s_iload (q := 194) C rfl at_192 rfl ?_
    refine s_iconst (q := 195) (v := (1 : Int32)) C (by rfl) at_194 rfl ?_
    refine s_iand (q := 196) C rfl at_195 rfl ?_
    have J : ∀ b64 : Int32, AtS p l e room_1 s m #[(.int i0), (.int i1), (.int i2), (.int i3), (.int ln), (.int fl)] below meth c Z consts_1 "com/example/portcullis/portcullis/ldap/AttributeHasOptionsPinLaw" n0 (fun v h => v = some (.int 1)) h0.size [o127, o125] h138 5 16 (mkF m 204 #[.val (.int i0), .val (.int i1), .val (.int i2), .val (.int i3), .val (.int ln), .val (.int fl), .val (.int c0), .val (.int c1), .val (.int c2), .val (.int c3), .val (.int (3 : Int32)), .val (.ref o125), .val (.ref vs), .unset, .unset, .unset] [(.int b64)]) := by
      intro b64
      refine s_istore (q := 206) (L' := #[.val (.int i0), .val (.int i1), .val (.int i2), .val (.int i3), .val (.int ln), .val (.int fl), .val (.int c0), .val (.int c1), .val (.int c2), .val (.int c3), .val (.int (3 : Int32)), .val (.ref o125), .val (.ref vs), .val (.int b64), .unset, .unset]) C rfl at_204 rfl ?_
      refine s_new (q := 209) (cells' := 6) (slots' := 20) C (G.1 _ (List.mem_of_getElem? (i := 42) rfl)) (G.1 _ (List.mem_of_getElem? (i := 43) rfl)) (G.1 _ (List.mem_of_getElem? (i := 44) rfl)) rfl rfl (by decide) (by decide) at_206 rfl ?_
      intro h139 o140 g_o140 Eh139 A_o140 D_o140
      have F_line_o140 : Fld Z h139 o140 "com/example/portcullis/portcullis/ldap/Ldif$Attribute" "line" "I" (.int (0 : Int32)) := D_o140 (Or.inr (G.1 _ (List.mem_of_getElem? (i := 55) rfl))) (ty := .int) (by decide)
      have F_description_o140 : Fld Z h139 o140 "com/example/portcullis/portcullis/ldap/Ldif$Attribute" "description" "Ljava/lang/String;" .null := D_o140 (Or.inr (G.1 _ (List.mem_of_getElem? (i := 57) rfl))) (ty := (.object "java/lang/String")) (by decide)
      have F_value_o140 : Fld Z h139 o140 "com/example/portcullis/portcullis/ldap/Ldif$Attribute" "value" "Ljava/lang/String;" .null := D_o140 (Or.inr (G.1 _ (List.mem_of_getElem? (i := 59) rfl))) (ty := (.object "java/lang/String")) (by decide)
      have F_base64_o140 : Fld Z h139 o140 "com/example/portcullis/portcullis/ldap/Ldif$Attribute" "base64" "Z" (.int (0 : Int32)) := D_o140 (Or.inr (G.1 _ (List.mem_of_getElem? (i := 61) rfl))) (ty := .boolean) (by decide)
      have ge : n0 ≤ o140 := by rw [g_o140]; exact Old_le O
      have KN : Keep h138 h139 [] := Keep.of_ext Eh139
      have OL : h138.size ≤ o140 := Nat.le_of_eq g_o140.symm
      have O9 := Old_k0 O KN
      refine s_dup (q := 210) C rfl at_209 rfl ?_
      refine s_iload (q := 212) C rfl at_210 rfl ?_
      refine s_aload (q := 214) C rfl rfl at_212 rfl ?_
      refine s_aload (q := 216) C rfl rfl at_214 rfl ?_
      refine s_iload (q := 218) C rfl at_216 rfl ?_
      refine s_callI1 (q := 221) (argsL := [(.int ln), (.ref o125), (.ref vs), (.int b64)]) (S := [(.ref o140)]) (W := 1) (cells' := 6) (slots' := 20) (a := o140) C rfl (G.1 _ (List.mem_of_getElem? (i := 45) rfl)) (G.1 _ (List.mem_of_getElem? (i := 46) rfl)) (G.1 _ (List.mem_of_getElem? (i := 44) rfl)) (G.1 _ (List.mem_of_getElem? (i := 47) rfl)) (by decide) (rm_attr G O9 o140 ln o125 vs b64 A_o140 F_line_o140 F_description_o140 F_value_o140 F_base64_o140 ge) rfl (lenOf pd_9 rfl) rfl (by decide) (own_leb rfl) (by decide) rfl rfl (by decide) (by decide) (wl := [o140]) (fun _ _ q => q.1) (allS (SfOk.exa A_o140 (by decide)) (all0)) at_218 rfl ?_
      rintro _ h141 ⟨Kh141, rfl, e0, e_line, e_description, e_value, e_base64⟩
      show AtS p l e _ s m _ below meth c Z _ _ n0 _ _ _ h141 6 20 (mkF m 221 #[.val (.int i0), .val (.int i1), .val (.int i2), .val (.int i3), .val (.int ln), .val (.int fl), .val (.int c0), .val (.int c1), .val (.int c2), .val (.int c3), .val (.int (3 : Int32)), .val (.ref o125), .val (.ref vs), .val (.int b64), .unset, .unset] [(.ref o140)])
      have KM : Keep h138 h141 [] := own_K1 KN Kh141 OL
      replace S1 := Str_k0 S1 KM
      replace S2 := Str_k0 S2 KM
      replace O := Old_k0 O KM
      refine s_astore (q := 223) (L' := #[.val (.int i0), .val (.int i1), .val (.int i2), .val (.int i3), .val (.int ln), .val (.int fl), .val (.int c0), .val (.int c1), .val (.int c2), .val (.int c3), .val (.int (3 : Int32)), .val (.ref o125), .val (.ref vs), .val (.int b64), .val (.ref o140), .unset]) C rfl rfl at_221 rfl ?_
      refine s_iload (q := 225) C rfl at_223 rfl ?_
      refine s_if_le_f (q := 228) C at_225 rfl (by decide) ?_
      refine s_iload (q := 230) C rfl at_228 rfl ?_
      refine s_bipush (q := 232) (v := (59 : Int32)) C (by rfl) at_230 rfl ?_
      by_cases hc142 : c0 = (59 : Int32)
      · refine s_icmp_eq_t (q := 274) C at_232 (by decide) (by decide) hc142 ?_
        refine s_iconst (q := 275) (v := (1 : Int32)) C (by rfl) at_274 rfl ?_
        refine s_goto (q := 279) C at_275 (by decide) (by decide) ?_
        refine s_istore (q := 281) (L' := #[.val (.int i0), .val (.int i1), .val (.int i2), .val (.int i3), .val (.int ln), .val (.int fl), .val (.int c0), .val (.int c1), .val (.int c2), .val (.int c3), .val (.int (3 : Int32)), .val (.ref o125), .val (.ref vs), .val (.int b64), .val (.ref o140), .val (.int (1 : Int32))]) C rfl at_279 rfl ?_
        refine s_aload (q := 283) C rfl rfl at_281 rfl ?_
        refine s_callV1 (q := 286) (argsL := []) (S := []) (W := 0) (cells' := 6) (slots' := 20) (a := o140) C e0 (G.1 _ (List.mem_of_getElem? (i := 62) rfl)) (G.1 _ (List.mem_of_getElem? (i := 63) rfl)) (s_nf (G.1 _ (List.mem_of_getElem? (i := 65) rfl))) (G.1 _ (List.mem_of_getElem? (i := 65) rfl)) (G.1 _ (List.mem_of_getElem? (i := 64) rfl)) (G.1 _ (List.mem_of_getElem? (i := 44) rfl)) (G.1 _ (List.mem_of_getElem? (i := 66) rfl)) (by decide) (rm_hasOpt G O o140 o125 [c0, c1, c2] e_description S1) rfl (lenOf pd_10 rfl) rfl (by decide) (own_leb rfl) (by decide) rfl rfl (by decide) (by decide) (wl := []) (fun _ _ q => by rw [q.1]; exact Keep.refl _ _) all0 at_283 rfl ?_
        rintro _ h143 ⟨eh144, rfl⟩
        rw [eh144]
        show AtS p l e _ s m _ below meth c Z _ _ n0 _ _ _ h141 6 20 (mkF m 286 #[.val (.int i0), .val (.int i1), .val (.int i2), .val (.int i3), .val (.int ln), .val (.int fl), .val (.int c0), .val (.int c1), .val (.int c2), .val (.int c3), .val (.int (3 : Int32)), .val (.ref o125), .val (.ref vs), .val (.int b64), .val (.ref o140), .val (.int (1 : Int32))] [(.int (if (59 : Int32) ∈ [c0, c1, c2] then 1 else 0))])
        refine s_iload (q := 288) C rfl at_286 rfl ?_
        refine s_icmp_ne_f (q := 291) C at_288 rfl (by simp [*, eq_comm]) ?_
        refine s_iconst (q := 292) (v := (1 : Int32)) C (by rfl) at_291 rfl ?_
        refine s_goto (q := 296) C at_292 (by decide) (by decide) ?_
        exact s_retZ (z := (1 : Int32)) C G.el (t := .boolean) rfl (by simp) (by decide) at_296 (by decide) (by decide) rfl
      · refine s_icmp_eq_f (q := 235) C at_232 rfl hc142 ?_
        refine s_iload (q := 237) C rfl at_235 rfl ?_
        refine s_iconst (q := 238) (v := (1 : Int32)) C (by rfl) at_237 rfl ?_
        refine s_icmp_le_f (q := 241) C at_238 rfl (by decide) ?_
        refine s_iload (q := 243) C rfl at_241 rfl ?_
        refine s_bipush (q := 245) (v := (59 : Int32)) C (by rfl) at_243 rfl ?_
        by_cases hc145 : c1 = (59 : Int32)
        · refine s_icmp_eq_t (q := 274) C at_245 (by decide) (by decide) hc145 ?_
          refine s_iconst (q := 275) (v := (1 : Int32)) C (by rfl) at_274 rfl ?_
          refine s_goto (q := 279) C at_275 (by decide) (by decide) ?_
          refine s_istore (q := 281) (L' := #[.val (.int i0), .val (.int i1), .val (.int i2), .val (.int i3), .val (.int ln), .val (.int fl), .val (.int c0), .val (.int c1), .val (.int c2), .val (.int c3), .val (.int (3 : Int32)), .val (.ref o125), .val (.ref vs), .val (.int b64), .val (.ref o140), .val (.int (1 : Int32))]) C rfl at_279 rfl ?_
          refine s_aload (q := 283) C rfl rfl at_281 rfl ?_
          refine s_callV1 (q := 286) (argsL := []) (S := []) (W := 0) (cells' := 6) (slots' := 20) (a := o140) C e0 (G.1 _ (List.mem_of_getElem? (i := 62) rfl)) (G.1 _ (List.mem_of_getElem? (i := 63) rfl)) (s_nf (G.1 _ (List.mem_of_getElem? (i := 65) rfl))) (G.1 _ (List.mem_of_getElem? (i := 65) rfl)) (G.1 _ (List.mem_of_getElem? (i := 64) rfl)) (G.1 _ (List.mem_of_getElem? (i := 44) rfl)) (G.1 _ (List.mem_of_getElem? (i := 66) rfl)) (by decide) (rm_hasOpt G O o140 o125 [c0, c1, c2] e_description S1) rfl (lenOf pd_10 rfl) rfl (by decide) (own_leb rfl) (by decide) rfl rfl (by decide) (by decide) (wl := []) (fun _ _ q => by rw [q.1]; exact Keep.refl _ _) all0 at_283 rfl ?_
          rintro _ h146 ⟨eh147, rfl⟩
          rw [eh147]
          show AtS p l e _ s m _ below meth c Z _ _ n0 _ _ _ h141 6 20 (mkF m 286 #[.val (.int i0), .val (.int i1), .val (.int i2), .val (.int i3), .val (.int ln), .val (.int fl), .val (.int c0), .val (.int c1), .val (.int c2), .val (.int c3), .val (.int (3 : Int32)), .val (.ref o125), .val (.ref vs), .val (.int b64), .val (.ref o140), .val (.int (1 : Int32))] [(.int (if (59 : Int32) ∈ [c0, c1, c2] then 1 else 0))])
          refine s_iload (q := 288) C rfl at_286 rfl ?_
          refine s_icmp_ne_f (q := 291) C at_288 rfl (by simp [*, eq_comm]) ?_
          refine s_iconst (q := 292) (v := (1 : Int32)) C (by rfl) at_291 rfl ?_
          refine s_goto (q := 296) C at_292 (by decide) (by decide) ?_
          exact s_retZ (z := (1 : Int32)) C G.el (t := .boolean) rfl (by simp) (by decide) at_296 (by decide) (by decide) rfl
        · refine s_icmp_eq_f (q := 248) C at_245 rfl hc145 ?_
          refine s_iload (q := 250) C rfl at_248 rfl ?_
          refine s_iconst (q := 251) (v := (2 : Int32)) C (by rfl) at_250 rfl ?_
          refine s_icmp_le_f (q := 254) C at_251 rfl (by decide) ?_
          refine s_iload (q := 256) C rfl at_254 rfl ?_
          refine s_bipush (q := 258) (v := (59 : Int32)) C (by rfl) at_256 rfl ?_
          by_cases hc148 : c2 = (59 : Int32)
          · refine s_icmp_eq_t (q := 274) C at_258 (by decide) (by decide) hc148 ?_
            refine s_iconst (q := 275) (v := (1 : Int32)) C (by rfl) at_274 rfl ?_
            refine s_goto (q := 279) C at_275 (by decide) (by decide) ?_
            refine s_istore (q := 281) (L' := #[.val (.int i0), .val (.int i1), .val (.int i2), .val (.int i3), .val (.int ln), .val (.int fl), .val (.int c0), .val (.int c1), .val (.int c2), .val (.int c3), .val (.int (3 : Int32)), .val (.ref o125), .val (.ref vs), .val (.int b64), .val (.ref o140), .val (.int (1 : Int32))]) C rfl at_279 rfl ?_
            refine s_aload (q := 283) C rfl rfl at_281 rfl ?_
            refine s_callV1 (q := 286) (argsL := []) (S := []) (W := 0) (cells' := 6) (slots' := 20) (a := o140) C e0 (G.1 _ (List.mem_of_getElem? (i := 62) rfl)) (G.1 _ (List.mem_of_getElem? (i := 63) rfl)) (s_nf (G.1 _ (List.mem_of_getElem? (i := 65) rfl))) (G.1 _ (List.mem_of_getElem? (i := 65) rfl)) (G.1 _ (List.mem_of_getElem? (i := 64) rfl)) (G.1 _ (List.mem_of_getElem? (i := 44) rfl)) (G.1 _ (List.mem_of_getElem? (i := 66) rfl)) (by decide) (rm_hasOpt G O o140 o125 [c0, c1, c2] e_description S1) rfl (lenOf pd_10 rfl) rfl (by decide) (own_leb rfl) (by decide) rfl rfl (by decide) (by decide) (wl := []) (fun _ _ q => by rw [q.1]; exact Keep.refl _ _) all0 at_283 rfl ?_
            rintro _ h149 ⟨eh150, rfl⟩
            rw [eh150]
            show AtS p l e _ s m _ below meth c Z _ _ n0 _ _ _ h141 6 20 (mkF m 286 #[.val (.int i0), .val (.int i1), .val (.int i2), .val (.int i3), .val (.int ln), .val (.int fl), .val (.int c0), .val (.int c1), .val (.int c2), .val (.int c3), .val (.int (3 : Int32)), .val (.ref o125), .val (.ref vs), .val (.int b64), .val (.ref o140), .val (.int (1 : Int32))] [(.int (if (59 : Int32) ∈ [c0, c1, c2] then 1 else 0))])
            refine s_iload (q := 288) C rfl at_286 rfl ?_
            refine s_icmp_ne_f (q := 291) C at_288 rfl (by simp [*, eq_comm]) ?_
            refine s_iconst (q := 292) (v := (1 : Int32)) C (by rfl) at_291 rfl ?_
            refine s_goto (q := 296) C at_292 (by decide) (by decide) ?_
            exact s_retZ (z := (1 : Int32)) C G.el (t := .boolean) rfl (by simp) (by decide) at_296 (by decide) (by decide) rfl
          · refine s_icmp_eq_f (q := 261) C at_258 rfl hc148 ?_
            refine s_iload (q := 263) C rfl at_261 rfl ?_
            refine s_iconst (q := 264) (v := (3 : Int32)) C (by rfl) at_263 rfl ?_
            refine s_icmp_le_t (q := 278) C at_264 (by decide) (by decide) (by decide) ?_
            refine s_iconst (q := 279) (v := (0 : Int32)) C (by rfl) at_278 rfl ?_
            refine s_istore (q := 281) (L' := #[.val (.int i0), .val (.int i1), .val (.int i2), .val (.int i3), .val (.int ln), .val (.int fl), .val (.int c0), .val (.int c1), .val (.int c2), .val (.int c3), .val (.int (3 : Int32)), .val (.ref o125), .val (.ref vs), .val (.int b64), .val (.ref o140), .val (.int (0 : Int32))]) C rfl at_279 rfl ?_
            refine s_aload (q := 283) C rfl rfl at_281 rfl ?_
            refine s_callV1 (q := 286) (argsL := []) (S := []) (W := 0) (cells' := 6) (slots' := 20) (a := o140) C e0 (G.1 _ (List.mem_of_getElem? (i := 62) rfl)) (G.1 _ (List.mem_of_getElem? (i := 63) rfl)) (s_nf (G.1 _ (List.mem_of_getElem? (i := 65) rfl))) (G.1 _ (List.mem_of_getElem? (i := 65) rfl)) (G.1 _ (List.mem_of_getElem? (i := 64) rfl)) (G.1 _ (List.mem_of_getElem? (i := 44) rfl)) (G.1 _ (List.mem_of_getElem? (i := 66) rfl)) (by decide) (rm_hasOpt G O o140 o125 [c0, c1, c2] e_description S1) rfl (lenOf pd_10 rfl) rfl (by decide) (own_leb rfl) (by decide) rfl rfl (by decide) (by decide) (wl := []) (fun _ _ q => by rw [q.1]; exact Keep.refl _ _) all0 at_283 rfl ?_
            rintro _ h151 ⟨eh152, rfl⟩
            rw [eh152]
            show AtS p l e _ s m _ below meth c Z _ _ n0 _ _ _ h141 6 20 (mkF m 286 #[.val (.int i0), .val (.int i1), .val (.int i2), .val (.int i3), .val (.int ln), .val (.int fl), .val (.int c0), .val (.int c1), .val (.int c2), .val (.int c3), .val (.int (3 : Int32)), .val (.ref o125), .val (.ref vs), .val (.int b64), .val (.ref o140), .val (.int (0 : Int32))] [(.int (if (59 : Int32) ∈ [c0, c1, c2] then 1 else 0))])
            refine s_iload (q := 288) C rfl at_286 rfl ?_
            refine s_icmp_ne_f (q := 291) C at_288 rfl (by simp [*, eq_comm]) ?_
            refine s_iconst (q := 292) (v := (1 : Int32)) C (by rfl) at_291 rfl ?_
            refine s_goto (q := 296) C at_292 (by decide) (by decide) ?_
            exact s_retZ (z := (1 : Int32)) C G.el (t := .boolean) rfl (by simp) (by decide) at_296 (by decide) (by decide) rfl
    by_cases hc153 : (fl &&& (1 : Int32)) = 0
    · refine s_if_eq_t (q := 203) C at_196 (by decide) (by decide) hc153 ?_
      refine s_iconst (q := 204) (v := (0 : Int32)) C (by rfl) at_203 rfl ?_
      exact J _
    · refine s_if_eq_f (q := 199) C at_196 rfl hc153 ?_
      refine s_iconst (q := 200) (v := (1 : Int32)) C (by rfl) at_199 rfl ?_
      refine s_goto (q := 204) C at_200 (by decide) (by decide) ?_
      exact J _
  · show AtS p l e _ s m _ below meth c Z _ _ n0 _ _ _ h0 0 0 (mkF m 33 #[.val (.int i0), .val (.int i1), .val (.int i2), .val (.int i3), .val (.int ln), .val (.int fl), .val (.int c0), .val (.int c1), .val (.int c2), .val (.int c3), .val (.int (4 : Int32)), .unset, .unset, .unset, .unset, .unset] [])
    refine s_iload (q := 35) C rfl at_33 rfl ?_
    refine s_if_ne_t (q := 53) C at_35 (by decide) (by decide) (by decide) ?_
    refine s_iload (q := 55) C rfl at_53 rfl ?_
    refine s_iconst (q := 56) (v := (1 : Int32)) C (by rfl) at_55 rfl ?_
    refine s_icmp_ne_t (q := 79) C at_56 (by decide) (by decide) (by decide) ?_
    refine s_iload (q := 81) C rfl at_79 rfl ?_
    refine s_iconst (q := 82) (v := (2 : Int32)) C (by rfl) at_81 rfl ?_
    refine s_icmp_ne_t (q := 110) C at_82 (by decide) (by decide) (by decide) ?_
    refine s_iload (q := 112) C rfl at_110 rfl ?_
    refine s_iconst (q := 113) (v := (3 : Int32)) C (by rfl) at_112 rfl ?_
    refine s_icmp_ne_t (q := 146) C at_113 (by decide) (by decide) (by decide) ?_
    refine s_new (q := 149) (cells' := 1) (slots' := 4) C (G.1 _ (List.mem_of_getElem? (i := 5) rfl)) (G.1 _ (List.mem_of_getElem? (i := 6) rfl)) (G.1 _ (List.mem_of_getElem? (i := 7) rfl)) rfl rfl (by decide) (by decide) at_146 rfl ?_
    intro h154 o155 g_o155 Eh154 A_o155 D_o155
    have F_value_o155 : Fld Z h154 o155 "java/lang/String" "value" "[B" .null := D_o155 (Or.inr (G.1 _ (List.mem_of_getElem? (i := 21) rfl))) (ty := (.array .byte)) (by decide)
    have F_coder_o155 : Fld Z h154 o155 "java/lang/String" "coder" "B" (.int (0 : Int32)) := D_o155 (Or.inr (G.1 _ (List.mem_of_getElem? (i := 22) rfl))) (ty := .byte) (by decide)
    have ge_o155 : n0 ≤ o155 := by rw [g_o155]; exact Old_le O
    refine s_dup (q := 150) C rfl at_149 rfl ?_
    refine s_iconst (q := 151) (v := (4 : Int32)) C (by rfl) at_150 rfl ?_
    refine s_newArr (q := 153) (cap := 4) (cells' := 2) (slots' := 8) C (G.1 _ (List.mem_of_getElem? (i := 8) rfl)) rfl (by decide) (by decide) (by decide) rfl rfl (by decide) (by decide) at_151 rfl ?_
    intro h156 o157 g_o157 Eh156 V_o157
    replace V_o157 : Ar Z h156 o157 .char [(.int (0 : Int32)), (.int (0 : Int32)), (.int (0 : Int32)), (.int (0 : Int32))] := V_o157
    have ge_o157 : n0 ≤ o157 := by rw [g_o157]; exact Nat.le_trans (Old_le O) Eh154.1
    have ne_o155 : o155 ≠ o157 := Nat.ne_of_lt (by rw [g_o157]; exact A_o155.lt)
    have sz_o157 : h0.size ≤ o157 := by rw [g_o157]; exact Eh154.1
    have K158 : Keep h0 h156 [] := (Keep.of_ext Eh154).ext Eh156
    replace A_o155 := A_o155.ext Eh156
    replace F_value_o155 := F_value_o155.ext Eh156
    replace F_coder_o155 := F_coder_o155.ext Eh156
    refine s_dup (q := 154) C rfl at_153 rfl ?_
    refine s_iconst (q := 155) (v := (0 : Int32)) C (by rfl) at_154 rfl ?_
    refine s_iload (q := 157) C rfl at_155 rfl ?_
    refine s_castore (q := 158) (z := c0) (i := 0) C (own_nar hc0.1 hc0.2) V_o157 rfl (own_ltb rfl) ge_o157 at_157 rfl ?_
    intro h159 Wh159 Vh159
    replace A_o155 := A_o155.wr Wh159
    replace F_value_o155 := F_value_o155.other Wh159 (Or.inl ne_o155)
    replace F_coder_o155 := F_coder_o155.other Wh159 (Or.inl ne_o155)
    have K160 := K158.wr Wh159 (Or.inr sz_o157)
    refine s_dup (q := 159) C rfl at_158 rfl ?_
    refine s_iconst (q := 160) (v := (1 : Int32)) C (by rfl) at_159 rfl ?_
    refine s_iload (q := 162) C rfl at_160 rfl ?_
    refine s_castore (q := 163) (z := c1) (i := 1) C (own_nar hc1.1 hc1.2) Vh159 rfl (own_ltb rfl) ge_o157 at_162 rfl ?_
    intro h161 Wh161 Vh161
    replace A_o155 := A_o155.wr Wh161
    replace F_value_o155 := F_value_o155.other Wh161 (Or.inl ne_o155)
    replace F_coder_o155 := F_coder_o155.other Wh161 (Or.inl ne_o155)
    have K162 := K160.wr Wh161 (Or.inr sz_o157)
    refine s_dup (q := 164) C rfl at_163 rfl ?_
    refine s_iconst (q := 165) (v := (2 : Int32)) C (by rfl) at_164 rfl ?_
    refine s_iload (q := 167) C rfl at_165 rfl ?_
    refine s_castore (q := 168) (z := c2) (i := 2) C (own_nar hc2.1 hc2.2) Vh161 rfl (own_ltb rfl) ge_o157 at_167 rfl ?_
    intro h163 Wh163 Vh163
    replace A_o155 := A_o155.wr Wh163
    replace F_value_o155 := F_value_o155.other Wh163 (Or.inl ne_o155)
    replace F_coder_o155 := F_coder_o155.other Wh163 (Or.inl ne_o155)
    have K164 := K162.wr Wh163 (Or.inr sz_o157)
    refine s_dup (q := 169) C rfl at_168 rfl ?_
    refine s_iconst (q := 170) (v := (3 : Int32)) C (by rfl) at_169 rfl ?_
    refine s_iload (q := 172) C rfl at_170 rfl ?_
    refine s_castore (q := 173) (z := c3) (i := 3) C (own_nar hc3.1 hc3.2) Vh163 rfl (own_ltb rfl) ge_o157 at_172 rfl ?_
    intro h165 Wh165 Vh165
    replace A_o155 := A_o155.wr Wh165
    replace F_value_o155 := F_value_o155.other Wh165 (Or.inl ne_o155)
    replace F_coder_o155 := F_coder_o155.other Wh165 (Or.inl ne_o155)
    have K166 := K164.wr Wh165 (Or.inr sz_o157)
    have O167 := Old_k0 O K166
    have hL_S1 : L1 [c0, c1, c2, c3] := (own_L1c hc0 (own_L1c hc1 (own_L1c hc2 (own_L1c hc3 (fun c hc => absurd hc List.not_mem_nil)))))
    have hA_S1 : Ar Z h165 o157 .char (List.map Value.int [c0, c1, c2, c3]) := Vh165
    refine s_callI1 (q := 176) (argsL := [(.ref o157)]) (S := [(.ref o155)]) (W := 1) (cells' := 3) (slots' := 12) (a := o155) C rfl (G.1 _ (List.mem_of_getElem? (i := 9) rfl)) (G.1 _ (List.mem_of_getElem? (i := 10) rfl)) (G.1 _ (List.mem_of_getElem? (i := 7) rfl)) (G.1 _ (List.mem_of_getElem? (i := 11) rfl)) (by decide) (rm_strinit G O167 o155 o157 [c0, c1, c2, c3] A_o155 F_value_o155 F_coder_o155 ge_o155 hA_S1 hL_S1 (own_leb rfl) (by simp)) rfl (lenOf pd_2 rfl) rfl (by decide) (own_leb rfl) (by decide) rfl rfl (by decide) (by decide) (wl := [o155]) (fun _ _ q => q.1) (allS (SfOk.mem (by simp)) (all0)) at_173 rfl ?_
    rintro _ h168 ⟨Kh168, rfl, S1⟩
    show AtS p l e _ s m _ below meth c Z _ _ n0 _ _ _ h168 3 12 (mkF m 176 #[.val (.int i0), .val (.int i1), .val (.int i2), .val (.int i3), .val (.int ln), .val (.int fl), .val (.int c0), .val (.int c1), .val (.int c2), .val (.int c3), .val (.int (4 : Int32)), .unset, .unset, .unset, .unset, .unset] [(.ref o155)])
    have K169 : Keep h0 h168 [] := own_K1 K166 Kh168 (Nat.le_of_eq g_o155.symm)
    replace O := Old_k0 O K169
    refine s_astore (q := 178) (L' := #[.val (.int i0), .val (.int i1), .val (.int i2), .val (.int i3), .val (.int ln), .val (.int fl), .val (.int c0), .val (.int c1), .val (.int c2), .val (.int c3), .val (.int (4 : Int32)), .val (.ref o155), .unset, .unset, .unset, .unset]) C rfl rfl at_176 rfl ?_
    refine s_iload (q := 180) C rfl at_178 rfl ?_
    refine s_iconst (q := 181) (v := (1 : Int32)) C (by rfl) at_180 rfl ?_
    refine s_iushr (q := 182) C rfl at_181 rfl ?_
    refine s_sipush (q := 185) (v := (255 : Int32)) C (by rfl) at_182 rfl ?_
    refine s_iand (q := 186) C rfl at_185 rfl ?_
    refine s_i2c (q := 187) C rfl at_186 rfl ?_
    rw [show ((((fl.toUInt32 >>> ((1 : Int32) &&& 31).toUInt32).toInt32) &&& (255 : Int32)).toUInt32.toUInt16.toUInt32.toInt32) = (((fl.toUInt32 >>> ((1 : Int32) &&& 31).toUInt32).toInt32) &&& (255 : Int32)) from own_i2c (own_255 _)]
    generalize hvc : (((fl.toUInt32 >>> ((1 : Int32) &&& 31).toUInt32).toInt32) &&& (255 : Int32)) = vc
    have hv : ¬ vc < 0 ∧ ¬ 255 < vc := by rw [← hvc]; exact own_255 _
    refine s_callS1 (q := 190) (argsL := [(.int vc)]) (S := []) (W := 0) (cells' := 5) (slots' := 17) C (G.1 _ (List.mem_of_getElem? (i := 27) rfl)) (G.1 _ (List.mem_of_getElem? (i := 28) rfl)) (G.1 _ (List.mem_of_getElem? (i := 7) rfl)) (G.1 _ (List.mem_of_getElem? (i := 29) rfl)) (by decide) (rm_valueOfC G O vc hv) rfl (lenOf pd_5 rfl) rfl (by decide) (own_leb rfl) (by decide) rfl rfl (by decide) (by decide) (wl := []) (fun _ _ q => q.1) all0 at_187 rfl ?_
    rintro _ h170 ⟨Kh170, vs, rfl, S2⟩
    show AtS p l e _ s m _ below meth c Z _ _ n0 _ _ _ h170 5 17 (mkF m 190 #[.val (.int i0), .val (.int i1), .val (.int i2), .val (.int i3), .val (.int ln), .val (.int fl), .val (.int c0), .val (.int c1), .val (.int c2), .val (.int c3), .val (.int (4 : Int32)), .val (.ref o155), .unset, .unset, .unset, .unset] [(.ref vs)])
    replace S1 := Str_k0 S1 Kh170
    replace O := Old_k0 O Kh170
    refine s_astore (q := 192) (L' := #[.val (.int i0), .val (.int i1), .val (.int i2), .val (.int i3), .val (.int ln), .val (.int fl), .val (.int c0), .val (.int c1), .val (.int c2), .val (.int c3), .val (.int (4 : Int32)), .val (.ref o155), .val (.ref vs), .unset, .unset, .unset]) C rfl rfl at_190 rfl ?_
    refine s_iload (q := 194) C rfl at_192 rfl ?_
    refine s_iconst (q := 195) (v := (1 : Int32)) C (by rfl) at_194 rfl ?_
    refine s_iand (q := 196) C rfl at_195 rfl ?_
    have J : ∀ b64 : Int32, AtS p l e room_1 s m #[(.int i0), (.int i1), (.int i2), (.int i3), (.int ln), (.int fl)] below meth c Z consts_1 "com/example/portcullis/portcullis/ldap/AttributeHasOptionsPinLaw" n0 (fun v h => v = some (.int 1)) h0.size [o157, o155] h170 5 17 (mkF m 204 #[.val (.int i0), .val (.int i1), .val (.int i2), .val (.int i3), .val (.int ln), .val (.int fl), .val (.int c0), .val (.int c1), .val (.int c2), .val (.int c3), .val (.int (4 : Int32)), .val (.ref o155), .val (.ref vs), .unset, .unset, .unset] [(.int b64)]) := by
      intro b64
      refine s_istore (q := 206) (L' := #[.val (.int i0), .val (.int i1), .val (.int i2), .val (.int i3), .val (.int ln), .val (.int fl), .val (.int c0), .val (.int c1), .val (.int c2), .val (.int c3), .val (.int (4 : Int32)), .val (.ref o155), .val (.ref vs), .val (.int b64), .unset, .unset]) C rfl at_204 rfl ?_
      refine s_new (q := 209) (cells' := 6) (slots' := 21) C (G.1 _ (List.mem_of_getElem? (i := 42) rfl)) (G.1 _ (List.mem_of_getElem? (i := 43) rfl)) (G.1 _ (List.mem_of_getElem? (i := 44) rfl)) rfl rfl (by decide) (by decide) at_206 rfl ?_
      intro h171 o172 g_o172 Eh171 A_o172 D_o172
      have F_line_o172 : Fld Z h171 o172 "com/example/portcullis/portcullis/ldap/Ldif$Attribute" "line" "I" (.int (0 : Int32)) := D_o172 (Or.inr (G.1 _ (List.mem_of_getElem? (i := 55) rfl))) (ty := .int) (by decide)
      have F_description_o172 : Fld Z h171 o172 "com/example/portcullis/portcullis/ldap/Ldif$Attribute" "description" "Ljava/lang/String;" .null := D_o172 (Or.inr (G.1 _ (List.mem_of_getElem? (i := 57) rfl))) (ty := (.object "java/lang/String")) (by decide)
      have F_value_o172 : Fld Z h171 o172 "com/example/portcullis/portcullis/ldap/Ldif$Attribute" "value" "Ljava/lang/String;" .null := D_o172 (Or.inr (G.1 _ (List.mem_of_getElem? (i := 59) rfl))) (ty := (.object "java/lang/String")) (by decide)
      have F_base64_o172 : Fld Z h171 o172 "com/example/portcullis/portcullis/ldap/Ldif$Attribute" "base64" "Z" (.int (0 : Int32)) := D_o172 (Or.inr (G.1 _ (List.mem_of_getElem? (i := 61) rfl))) (ty := .boolean) (by decide)
      have ge : n0 ≤ o172 := by rw [g_o172]; exact Old_le O
      have KN : Keep h170 h171 [] := Keep.of_ext Eh171
      have OL : h170.size ≤ o172 := Nat.le_of_eq g_o172.symm
      have O9 := Old_k0 O KN
      refine s_dup (q := 210) C rfl at_209 rfl ?_
      refine s_iload (q := 212) C rfl at_210 rfl ?_
      refine s_aload (q := 214) C rfl rfl at_212 rfl ?_
      refine s_aload (q := 216) C rfl rfl at_214 rfl ?_
      refine s_iload (q := 218) C rfl at_216 rfl ?_
      refine s_callI1 (q := 221) (argsL := [(.int ln), (.ref o155), (.ref vs), (.int b64)]) (S := [(.ref o172)]) (W := 1) (cells' := 6) (slots' := 21) (a := o172) C rfl (G.1 _ (List.mem_of_getElem? (i := 45) rfl)) (G.1 _ (List.mem_of_getElem? (i := 46) rfl)) (G.1 _ (List.mem_of_getElem? (i := 44) rfl)) (G.1 _ (List.mem_of_getElem? (i := 47) rfl)) (by decide) (rm_attr G O9 o172 ln o155 vs b64 A_o172 F_line_o172 F_description_o172 F_value_o172 F_base64_o172 ge) rfl (lenOf pd_9 rfl) rfl (by decide) (own_leb rfl) (by decide) rfl rfl (by decide) (by decide) (wl := [o172]) (fun _ _ q => q.1) (allS (SfOk.exa A_o172 (by decide)) (all0)) at_218 rfl ?_
      rintro _ h173 ⟨Kh173, rfl, e0, e_line, e_description, e_value, e_base64⟩
      show AtS p l e _ s m _ below meth c Z _ _ n0 _ _ _ h173 6 21 (mkF m 221 #[.val (.int i0), .val (.int i1), .val (.int i2), .val (.int i3), .val (.int ln), .val (.int fl), .val (.int c0), .val (.int c1), .val (.int c2), .val (.int c3), .val (.int (4 : Int32)), .val (.ref o155), .val (.ref vs), .val (.int b64), .unset, .unset] [(.ref o172)])
      have KM : Keep h170 h173 [] := own_K1 KN Kh173 OL
      replace S1 := Str_k0 S1 KM
      replace S2 := Str_k0 S2 KM
      replace O := Old_k0 O KM
      refine s_astore (q := 223) (L' := #[.val (.int i0), .val (.int i1), .val (.int i2), .val (.int i3), .val (.int ln), .val (.int fl), .val (.int c0), .val (.int c1), .val (.int c2), .val (.int c3), .val (.int (4 : Int32)), .val (.ref o155), .val (.ref vs), .val (.int b64), .val (.ref o172), .unset]) C rfl rfl at_221 rfl ?_
      refine s_iload (q := 225) C rfl at_223 rfl ?_
      refine s_if_le_f (q := 228) C at_225 rfl (by decide) ?_
      refine s_iload (q := 230) C rfl at_228 rfl ?_
      refine s_bipush (q := 232) (v := (59 : Int32)) C (by rfl) at_230 rfl ?_
      by_cases hc174 : c0 = (59 : Int32)
      · refine s_icmp_eq_t (q := 274) C at_232 (by decide) (by decide) hc174 ?_
        refine s_iconst (q := 275) (v := (1 : Int32)) C (by rfl) at_274 rfl ?_
        refine s_goto (q := 279) C at_275 (by decide) (by decide) ?_
        refine s_istore (q := 281) (L' := #[.val (.int i0), .val (.int i1), .val (.int i2), .val (.int i3), .val (.int ln), .val (.int fl), .val (.int c0), .val (.int c1), .val (.int c2), .val (.int c3), .val (.int (4 : Int32)), .val (.ref o155), .val (.ref vs), .val (.int b64), .val (.ref o172), .val (.int (1 : Int32))]) C rfl at_279 rfl ?_
        refine s_aload (q := 283) C rfl rfl at_281 rfl ?_
        refine s_callV1 (q := 286) (argsL := []) (S := []) (W := 0) (cells' := 6) (slots' := 21) (a := o172) C e0 (G.1 _ (List.mem_of_getElem? (i := 62) rfl)) (G.1 _ (List.mem_of_getElem? (i := 63) rfl)) (s_nf (G.1 _ (List.mem_of_getElem? (i := 65) rfl))) (G.1 _ (List.mem_of_getElem? (i := 65) rfl)) (G.1 _ (List.mem_of_getElem? (i := 64) rfl)) (G.1 _ (List.mem_of_getElem? (i := 44) rfl)) (G.1 _ (List.mem_of_getElem? (i := 66) rfl)) (by decide) (rm_hasOpt G O o172 o155 [c0, c1, c2, c3] e_description S1) rfl (lenOf pd_10 rfl) rfl (by decide) (own_leb rfl) (by decide) rfl rfl (by decide) (by decide) (wl := []) (fun _ _ q => by rw [q.1]; exact Keep.refl _ _) all0 at_283 rfl ?_
        rintro _ h175 ⟨eh176, rfl⟩
        rw [eh176]
        show AtS p l e _ s m _ below meth c Z _ _ n0 _ _ _ h173 6 21 (mkF m 286 #[.val (.int i0), .val (.int i1), .val (.int i2), .val (.int i3), .val (.int ln), .val (.int fl), .val (.int c0), .val (.int c1), .val (.int c2), .val (.int c3), .val (.int (4 : Int32)), .val (.ref o155), .val (.ref vs), .val (.int b64), .val (.ref o172), .val (.int (1 : Int32))] [(.int (if (59 : Int32) ∈ [c0, c1, c2, c3] then 1 else 0))])
        refine s_iload (q := 288) C rfl at_286 rfl ?_
        refine s_icmp_ne_f (q := 291) C at_288 rfl (by simp [*, eq_comm]) ?_
        refine s_iconst (q := 292) (v := (1 : Int32)) C (by rfl) at_291 rfl ?_
        refine s_goto (q := 296) C at_292 (by decide) (by decide) ?_
        exact s_retZ (z := (1 : Int32)) C G.el (t := .boolean) rfl (by simp) (by decide) at_296 (by decide) (by decide) rfl
      · refine s_icmp_eq_f (q := 235) C at_232 rfl hc174 ?_
        refine s_iload (q := 237) C rfl at_235 rfl ?_
        refine s_iconst (q := 238) (v := (1 : Int32)) C (by rfl) at_237 rfl ?_
        refine s_icmp_le_f (q := 241) C at_238 rfl (by decide) ?_
        refine s_iload (q := 243) C rfl at_241 rfl ?_
        refine s_bipush (q := 245) (v := (59 : Int32)) C (by rfl) at_243 rfl ?_
        by_cases hc177 : c1 = (59 : Int32)
        · refine s_icmp_eq_t (q := 274) C at_245 (by decide) (by decide) hc177 ?_
          refine s_iconst (q := 275) (v := (1 : Int32)) C (by rfl) at_274 rfl ?_
          refine s_goto (q := 279) C at_275 (by decide) (by decide) ?_
          refine s_istore (q := 281) (L' := #[.val (.int i0), .val (.int i1), .val (.int i2), .val (.int i3), .val (.int ln), .val (.int fl), .val (.int c0), .val (.int c1), .val (.int c2), .val (.int c3), .val (.int (4 : Int32)), .val (.ref o155), .val (.ref vs), .val (.int b64), .val (.ref o172), .val (.int (1 : Int32))]) C rfl at_279 rfl ?_
          refine s_aload (q := 283) C rfl rfl at_281 rfl ?_
          refine s_callV1 (q := 286) (argsL := []) (S := []) (W := 0) (cells' := 6) (slots' := 21) (a := o172) C e0 (G.1 _ (List.mem_of_getElem? (i := 62) rfl)) (G.1 _ (List.mem_of_getElem? (i := 63) rfl)) (s_nf (G.1 _ (List.mem_of_getElem? (i := 65) rfl))) (G.1 _ (List.mem_of_getElem? (i := 65) rfl)) (G.1 _ (List.mem_of_getElem? (i := 64) rfl)) (G.1 _ (List.mem_of_getElem? (i := 44) rfl)) (G.1 _ (List.mem_of_getElem? (i := 66) rfl)) (by decide) (rm_hasOpt G O o172 o155 [c0, c1, c2, c3] e_description S1) rfl (lenOf pd_10 rfl) rfl (by decide) (own_leb rfl) (by decide) rfl rfl (by decide) (by decide) (wl := []) (fun _ _ q => by rw [q.1]; exact Keep.refl _ _) all0 at_283 rfl ?_
          rintro _ h178 ⟨eh179, rfl⟩
          rw [eh179]
          show AtS p l e _ s m _ below meth c Z _ _ n0 _ _ _ h173 6 21 (mkF m 286 #[.val (.int i0), .val (.int i1), .val (.int i2), .val (.int i3), .val (.int ln), .val (.int fl), .val (.int c0), .val (.int c1), .val (.int c2), .val (.int c3), .val (.int (4 : Int32)), .val (.ref o155), .val (.ref vs), .val (.int b64), .val (.ref o172), .val (.int (1 : Int32))] [(.int (if (59 : Int32) ∈ [c0, c1, c2, c3] then 1 else 0))])
          refine s_iload (q := 288) C rfl at_286 rfl ?_
          refine s_icmp_ne_f (q := 291) C at_288 rfl (by simp [*, eq_comm]) ?_
          refine s_iconst (q := 292) (v := (1 : Int32)) C (by rfl) at_291 rfl ?_
          refine s_goto (q := 296) C at_292 (by decide) (by decide) ?_
          exact s_retZ (z := (1 : Int32)) C G.el (t := .boolean) rfl (by simp) (by decide) at_296 (by decide) (by decide) rfl
        · refine s_icmp_eq_f (q := 248) C at_245 rfl hc177 ?_
          refine s_iload (q := 250) C rfl at_248 rfl ?_
          refine s_iconst (q := 251) (v := (2 : Int32)) C (by rfl) at_250 rfl ?_
          refine s_icmp_le_f (q := 254) C at_251 rfl (by decide) ?_
          refine s_iload (q := 256) C rfl at_254 rfl ?_
          refine s_bipush (q := 258) (v := (59 : Int32)) C (by rfl) at_256 rfl ?_
          by_cases hc180 : c2 = (59 : Int32)
          · refine s_icmp_eq_t (q := 274) C at_258 (by decide) (by decide) hc180 ?_
            refine s_iconst (q := 275) (v := (1 : Int32)) C (by rfl) at_274 rfl ?_
            refine s_goto (q := 279) C at_275 (by decide) (by decide) ?_
            refine s_istore (q := 281) (L' := #[.val (.int i0), .val (.int i1), .val (.int i2), .val (.int i3), .val (.int ln), .val (.int fl), .val (.int c0), .val (.int c1), .val (.int c2), .val (.int c3), .val (.int (4 : Int32)), .val (.ref o155), .val (.ref vs), .val (.int b64), .val (.ref o172), .val (.int (1 : Int32))]) C rfl at_279 rfl ?_
            refine s_aload (q := 283) C rfl rfl at_281 rfl ?_
            refine s_callV1 (q := 286) (argsL := []) (S := []) (W := 0) (cells' := 6) (slots' := 21) (a := o172) C e0 (G.1 _ (List.mem_of_getElem? (i := 62) rfl)) (G.1 _ (List.mem_of_getElem? (i := 63) rfl)) (s_nf (G.1 _ (List.mem_of_getElem? (i := 65) rfl))) (G.1 _ (List.mem_of_getElem? (i := 65) rfl)) (G.1 _ (List.mem_of_getElem? (i := 64) rfl)) (G.1 _ (List.mem_of_getElem? (i := 44) rfl)) (G.1 _ (List.mem_of_getElem? (i := 66) rfl)) (by decide) (rm_hasOpt G O o172 o155 [c0, c1, c2, c3] e_description S1) rfl (lenOf pd_10 rfl) rfl (by decide) (own_leb rfl) (by decide) rfl rfl (by decide) (by decide) (wl := []) (fun _ _ q => by rw [q.1]; exact Keep.refl _ _) all0 at_283 rfl ?_
            rintro _ h181 ⟨eh182, rfl⟩
            rw [eh182]
            show AtS p l e _ s m _ below meth c Z _ _ n0 _ _ _ h173 6 21 (mkF m 286 #[.val (.int i0), .val (.int i1), .val (.int i2), .val (.int i3), .val (.int ln), .val (.int fl), .val (.int c0), .val (.int c1), .val (.int c2), .val (.int c3), .val (.int (4 : Int32)), .val (.ref o155), .val (.ref vs), .val (.int b64), .val (.ref o172), .val (.int (1 : Int32))] [(.int (if (59 : Int32) ∈ [c0, c1, c2, c3] then 1 else 0))])
            refine s_iload (q := 288) C rfl at_286 rfl ?_
            refine s_icmp_ne_f (q := 291) C at_288 rfl (by simp [*, eq_comm]) ?_
            refine s_iconst (q := 292) (v := (1 : Int32)) C (by rfl) at_291 rfl ?_
            refine s_goto (q := 296) C at_292 (by decide) (by decide) ?_
            exact s_retZ (z := (1 : Int32)) C G.el (t := .boolean) rfl (by simp) (by decide) at_296 (by decide) (by decide) rfl
          · refine s_icmp_eq_f (q := 261) C at_258 rfl hc180 ?_
            refine s_iload (q := 263) C rfl at_261 rfl ?_
            refine s_iconst (q := 264) (v := (3 : Int32)) C (by rfl) at_263 rfl ?_
            refine s_icmp_le_f (q := 267) C at_264 rfl (by decide) ?_
            refine s_iload (q := 269) C rfl at_267 rfl ?_
            refine s_bipush (q := 271) (v := (59 : Int32)) C (by rfl) at_269 rfl ?_
            by_cases hc183 : c3 = (59 : Int32)
            · refine s_icmp_ne_f (q := 274) C at_271 rfl hc183 ?_
              refine s_iconst (q := 275) (v := (1 : Int32)) C (by rfl) at_274 rfl ?_
              refine s_goto (q := 279) C at_275 (by decide) (by decide) ?_
              refine s_istore (q := 281) (L' := #[.val (.int i0), .val (.int i1), .val (.int i2), .val (.int i3), .val (.int ln), .val (.int fl), .val (.int c0), .val (.int c1), .val (.int c2), .val (.int c3), .val (.int (4 : Int32)), .val (.ref o155), .val (.ref vs), .val (.int b64), .val (.ref o172), .val (.int (1 : Int32))]) C rfl at_279 rfl ?_
              refine s_aload (q := 283) C rfl rfl at_281 rfl ?_
              refine s_callV1 (q := 286) (argsL := []) (S := []) (W := 0) (cells' := 6) (slots' := 21) (a := o172) C e0 (G.1 _ (List.mem_of_getElem? (i := 62) rfl)) (G.1 _ (List.mem_of_getElem? (i := 63) rfl)) (s_nf (G.1 _ (List.mem_of_getElem? (i := 65) rfl))) (G.1 _ (List.mem_of_getElem? (i := 65) rfl)) (G.1 _ (List.mem_of_getElem? (i := 64) rfl)) (G.1 _ (List.mem_of_getElem? (i := 44) rfl)) (G.1 _ (List.mem_of_getElem? (i := 66) rfl)) (by decide) (rm_hasOpt G O o172 o155 [c0, c1, c2, c3] e_description S1) rfl (lenOf pd_10 rfl) rfl (by decide) (own_leb rfl) (by decide) rfl rfl (by decide) (by decide) (wl := []) (fun _ _ q => by rw [q.1]; exact Keep.refl _ _) all0 at_283 rfl ?_
              rintro _ h184 ⟨eh185, rfl⟩
              rw [eh185]
              show AtS p l e _ s m _ below meth c Z _ _ n0 _ _ _ h173 6 21 (mkF m 286 #[.val (.int i0), .val (.int i1), .val (.int i2), .val (.int i3), .val (.int ln), .val (.int fl), .val (.int c0), .val (.int c1), .val (.int c2), .val (.int c3), .val (.int (4 : Int32)), .val (.ref o155), .val (.ref vs), .val (.int b64), .val (.ref o172), .val (.int (1 : Int32))] [(.int (if (59 : Int32) ∈ [c0, c1, c2, c3] then 1 else 0))])
              refine s_iload (q := 288) C rfl at_286 rfl ?_
              refine s_icmp_ne_f (q := 291) C at_288 rfl (by simp [*, eq_comm]) ?_
              refine s_iconst (q := 292) (v := (1 : Int32)) C (by rfl) at_291 rfl ?_
              refine s_goto (q := 296) C at_292 (by decide) (by decide) ?_
              exact s_retZ (z := (1 : Int32)) C G.el (t := .boolean) rfl (by simp) (by decide) at_296 (by decide) (by decide) rfl
            · refine s_icmp_ne_t (q := 278) C at_271 (by decide) (by decide) hc183 ?_
              refine s_iconst (q := 279) (v := (0 : Int32)) C (by rfl) at_278 rfl ?_
              refine s_istore (q := 281) (L' := #[.val (.int i0), .val (.int i1), .val (.int i2), .val (.int i3), .val (.int ln), .val (.int fl), .val (.int c0), .val (.int c1), .val (.int c2), .val (.int c3), .val (.int (4 : Int32)), .val (.ref o155), .val (.ref vs), .val (.int b64), .val (.ref o172), .val (.int (0 : Int32))]) C rfl at_279 rfl ?_
              refine s_aload (q := 283) C rfl rfl at_281 rfl ?_
              refine s_callV1 (q := 286) (argsL := []) (S := []) (W := 0) (cells' := 6) (slots' := 21) (a := o172) C e0 (G.1 _ (List.mem_of_getElem? (i := 62) rfl)) (G.1 _ (List.mem_of_getElem? (i := 63) rfl)) (s_nf (G.1 _ (List.mem_of_getElem? (i := 65) rfl))) (G.1 _ (List.mem_of_getElem? (i := 65) rfl)) (G.1 _ (List.mem_of_getElem? (i := 64) rfl)) (G.1 _ (List.mem_of_getElem? (i := 44) rfl)) (G.1 _ (List.mem_of_getElem? (i := 66) rfl)) (by decide) (rm_hasOpt G O o172 o155 [c0, c1, c2, c3] e_description S1) rfl (lenOf pd_10 rfl) rfl (by decide) (own_leb rfl) (by decide) rfl rfl (by decide) (by decide) (wl := []) (fun _ _ q => by rw [q.1]; exact Keep.refl _ _) all0 at_283 rfl ?_
              rintro _ h186 ⟨eh187, rfl⟩
              rw [eh187]
              show AtS p l e _ s m _ below meth c Z _ _ n0 _ _ _ h173 6 21 (mkF m 286 #[.val (.int i0), .val (.int i1), .val (.int i2), .val (.int i3), .val (.int ln), .val (.int fl), .val (.int c0), .val (.int c1), .val (.int c2), .val (.int c3), .val (.int (4 : Int32)), .val (.ref o155), .val (.ref vs), .val (.int b64), .val (.ref o172), .val (.int (0 : Int32))] [(.int (if (59 : Int32) ∈ [c0, c1, c2, c3] then 1 else 0))])
              refine s_iload (q := 288) C rfl at_286 rfl ?_
              refine s_icmp_ne_f (q := 291) C at_288 rfl (by simp [*, eq_comm]) ?_
              refine s_iconst (q := 292) (v := (1 : Int32)) C (by rfl) at_291 rfl ?_
              refine s_goto (q := 296) C at_292 (by decide) (by decide) ?_
              exact s_retZ (z := (1 : Int32)) C G.el (t := .boolean) rfl (by simp) (by decide) at_296 (by decide) (by decide) rfl
    by_cases hc188 : (fl &&& (1 : Int32)) = 0
    · refine s_if_eq_t (q := 203) C at_196 (by decide) (by decide) hc188 ?_
      refine s_iconst (q := 204) (v := (0 : Int32)) C (by rfl) at_203 rfl ?_
      exact J _
    · refine s_if_eq_f (q := 199) C at_196 rfl hc188 ?_
      refine s_iconst (q := 200) (v := (1 : Int32)) C (by rfl) at_199 rfl ?_
      refine s_goto (q := 204) C at_200 (by decide) (by decide) ?_
      exact J _
  · exact absurd hk (by omega)
set_option maxRecDepth 65536 in
set_option maxHeartbeats 40000000 in
theorem comes_1 {Post : Tables → Env → Array Value → State → Outcome → State → Prop} (hpost : ∀ tb e args s v u, (limb_1_1.after args s (.returned v) u = true ∧ limb_1_2.after args s (.returned v) u = true ∧ True) → ReturnedEndW s (.returned v) u (Jvm.fieldLocs frame_1_writes args s ++ Jvm.arrayLocs frame_1_arrays args s ++ Jvm.staticLocs frame_1_statics s) 24 1152 → Post tb e args s (.returned v) u) :
    ArmFor flags0 classFile x code maxLocals ret World_1 tables_1 room_1 Calls_1 rest_1 Pre_1 Post := by
  intro l hfl _ _ p e ha hc hk s m args below hf hA hF happ hP
  obtain ⟨hcalls, hrest, hpre⟩ := hP
  obtain ⟨-, -, -, hnamed, -, -, -, hat⟩ := (Spec.applies_iff hf).mp happ
  obtain ⟨hg, hn⟩ := and_e (Cond.before_iff.mp (show (Jvm.Cond.and given_1 narrow_1).before args s = true from hpre))
  obtain ⟨hcount, hg0⟩ := and_e hg
  obtain ⟨ha0, hg1⟩ := and_e hg0
  obtain ⟨ha1, hg2⟩ := and_e hg1
  obtain ⟨ha2, hg3⟩ := and_e hg2
  obtain ⟨ha3, hg4⟩ := and_e hg3
  obtain ⟨ha4, hg5⟩ := and_e hg4
  have ha5 := hg5
  obtain ⟨w0, w1, w2, w3, w4, w5, rfl⟩ : ∃ w0 w1 w2 w3 w4 w5 : Value, args = #[w0, w1, w2, w3, w4, w5] := by
    have hs : args.size = 6 := by simpa [Cond.value, given_1] using hcount
    obtain ⟨L⟩ := args
    match L, hs with
    | [w0, w1, w2, w3, w4, w5], _ => exact ⟨w0, w1, w2, w3, w4, w5, rfl⟩
  have hw := fun d (hd : d ∈ tables_1) => atoms_spec (ws := Jvm.Cond.code x code maxLocals ret :: tables_1) hat d (List.mem_cons_of_mem _ hd)
  have hfit : Fit s := fun {y c} hc i hi => by
    obtain ⟨ha, rfl⟩ := Array.getElem?_eq_some_iff.mp hc
    have q := List.all_eq_true.mp ((Array.all_eq_true_iff_forall_mem.mp hF) _ (Array.getElem_mem ha)) i (List.mem_range.mpr hi)
    simpa [Array.getElem?_eq_getElem hi] using q
  obtain ⟨i0, e0⟩ := is_v ha0
  obtain rfl : w0 = (.int i0) := Option.some.inj e0
  obtain ⟨i1, e1⟩ := is_v ha1
  obtain rfl : w1 = (.int i1) := Option.some.inj e1
  obtain ⟨i2, e2⟩ := is_v ha2
  obtain rfl : w2 = (.int i2) := Option.some.inj e2
  obtain ⟨i3, e3⟩ := is_v ha3
  obtain rfl : w3 = (.int i3) := Option.some.inj e3
  obtain ⟨i4, e4⟩ := is_v ha4
  obtain rfl : w4 = (.int i4) := Option.some.inj e4
  obtain ⟨i5, e5⟩ := is_v ha5
  obtain rfl : w5 = (.int i5) := Option.some.inj e5
  obtain ⟨hsets, hown0⟩ := atoms_of _ (rest_1_c_eq ▸ (show rest_1_c.before _ s = true from hrest))
  have hcs1 := not_v (Cond.before_iff.mp (hsets _ (List.mem_of_getElem? (i := 2) rfl)))
  obtain ⟨zc, ezc⟩ := is_v (Cond.before_iff.mp (hsets _ (List.mem_of_getElem? (i := 1) rfl)))
  have Scs : Sta s s.heap "java/lang/String" "COMPACT_STRINGS" "Z" (.int zc) := Sta.start ezc (Or.inl (hsets _ (List.mem_of_getElem? (i := 0) rfl)))
  have hzc : ¬ (zc = (0 : Int32)) := gotF (Cond.eq_ints ezc (Term.int_eval (0))) hcs1
  have hEL : EW s #[(.int i0), (.int i1), (.int i2), (.int i3), (.int i4), (.int i5)] consts_1 := (EW.cons (hw _ (List.mem_of_getElem? (i := 19) rfl)) (by decide +kernel) EW.nil)
  have G : Gl s #[(.int i0), (.int i1), (.int i2), (.int i3), (.int i4), (.int i5)] s.heap.size := ⟨hw, ⟨zc, Scs, hzc⟩, hEL, trivial⟩
  have hCH : CHv s consts_1 s.vm s.heap := CHv.start hEL (fun q hq => hcalls.1 q hq) (show Jvm.Lit.compactW.before #[(.int i0), (.int i1), (.int i2), (.int i3), (.int i4), (.int i5)] s = true from (hsets _ (List.mem_of_getElem? (i := 2) rfl))) (G.sa _ (by simp [Bundle.stringAtoms])) (G.sa _ (by simp [Bundle.stringAtoms, Bundle.sN]))
  obtain ⟨n, o, h1, h2, h3, v, L, rfl, ⟨N, hQ⟩, -, hq⟩ := rm_law (l := l) G (Old.start s) i0 i1 i2 i3 i4 i5 p e ha hc hk s m _ below hf ((Spec.applies_iff_loose hf).mp happ).1 ⟨rfl, State.Warmed39.refl s, rfl, hCH⟩ trivial
  obtain rfl : v = some (.int 1) := hQ
  refine ⟨n, _, h1, h2, h3, hpost _ _ _ _ _ _ ⟨Cond.after_iff.mpr rfl, Cond.after_iff.mpr (eq_i res_at (Term.int_eval (1)) rfl), trivial⟩ ⟨hq.1, hq.2.1, hq.2.2.1, (hq.2.2.2.sift fun y hy => Or.inr (N y hy)).mono (by decide) (by decide)⟩⟩
theorem main_1_1 : Claimed_1_1 := comes_1 fun _ _ _ _ _ _ h hF => ⟨h.1, hF⟩
theorem main_1_2 : Claimed_1_2 := comes_1 fun _ _ _ _ _ _ h hF => ⟨h.2.1, hF⟩
end Jvm.Pilot.@@N@@
namespace Jvm.Pilot.@@N@@
open Jvm Jvm.ClassFile Sem Op Lib Jvm.Free Jvm.Stand Jvm.Pilot.@@N@@.Jvm.D
/-! MADE BY PROGRAM (witnessworld.py) out of the Statement's table words and the real class files: 22 classes; the members and pool entries that the words name. The judged class is class 1, her method 2. -/
namespace start1
open Jvm.ClassFile
def u (s : String) : CpInfo := .utf8 (stringToUtf16 s)
/-- a pool by its gaps: so many unusable entries, then the entry; so many at the end -/
def gap : Nat → List CpInfo → List CpInfo
  | 0, r => r
  | n + 1, r => .unusable :: gap n r
def poolList (es : List (Nat × CpInfo)) (last : Nat) : List CpInfo := es.foldr (fun e r => gap e.1 (e.2 :: r)) (gap last [])
def pool (es : List (Nat × CpInfo)) (last : Nat) : Array CpInfo := ⟨poolList es last⟩
def fileOf (pool : Array CpInfo) (this : Nat) (attrs : Array Attribute := #[]) (ms : Array MethodInfo := #[]) (fl : Nat := 33) (sup : Nat := 0) (ifs : Array Nat := #[]) (fds : Array FieldInfo := #[]) : ClassFile where
  minorVersion := 0
  majorVersion := 65
  constantPool := pool
  accessFlags := fl
  thisClass := this
  superClass := sup
  interfaces := ifs
  fields := fds
  methods := ms
  attributes := attrs
def plain (name : String) (sup : Option ClassId) : Class where
  name := name
  kind := .ordinary
  loader := none
  accessFlags := 33
  super := sup
  interfaces := #[]
  cf := none
  fields := #[]
  methods := #[]
  instanceTypes := #[]
  staticTypes := #[]
  resolved := #[]
  callSites := []
  init := .initialized
  statics := none
  mirror := none

def pool0 : Array CpInfo := pool [(5, u "<init>"), (0, u "()V"), (1, .class_ 10), (1, u "java/lang/Object")] 113

def k0c0 : Code := { maxStack := 0, maxLocals := 1, code := object_method_1_code, exceptionTable := #[], attributes := #[] }
def k0m0 : Method := { name := "<init>", desc := "()V", sig := { parameters := [], returnType := none }, accessFlags := 1, code := some k0c0 }
/-- java/lang/Object -/
def k0 : Class := { plain "java/lang/Object" none with
  accessFlags := 33
  interfaces := #[]
  cf := some (fileOf pool0 8 #[] #[{ accessFlags := 1, nameIndex := 5, descriptorIndex := 6, attributes := #[] }] 33 0 #[] #[])
  fields := #[]
  methods := #[k0m0]
  instanceTypes := #[]
  staticTypes := #[]
  resolved := Array.replicate 124 none
  statics := none }

def pool1 : Array CpInfo := pool [(2, .class_ 4), (1, u "java/lang/Object"), (0, u "<init>"), (0, u "()V"), (0, .methodref 8 9), (0, .class_ 10), (0, .nameAndType 11 12), (0, u "com/example/portcullis/portcullis/ldap/AttributeHasOptionsPinLaw"), (0, u "draw"), (0, u "(I)C"), (0, .integer 2147483647), (0, .class_ 15), (0, u "java/lang/String"), (0, .methodref 14 17), (0, .nameAndType 5 18), (0, u "([C)V"), (0, .methodref 14 20), (0, .nameAndType 21 22), (0, u "valueOf"), (0, u "(C)Ljava/lang/String;"), (0, .class_ 24), (0, u "com/example/portcullis/portcullis/ldap/Ldif$Attribute"), (0, .methodref 23 26), (0, .nameAndType 5 27), (0, u "(ILjava/lang/String;Ljava/lang/String;Z)V"), (0, .methodref 23 29), (0, .nameAndType 30 31), (0, u "hasOptions"), (0, u "()Z"), (3, u "law"), (0, u "(IIIIII)Z")] 6

def k1m0 : Method := { name := "<init>", desc := "()V", sig := { parameters := [], returnType := none }, accessFlags := 1, code := none }
def k1c1 : Code := { maxStack := 2, maxLocals := 2, code := method_2_code, exceptionTable := #[], attributes := #[] }
def k1m1 : Method := { name := "draw", desc := "(I)C", sig := { parameters := [.int], returnType := some .char }, accessFlags := 10, code := some k1c1 }
def k1c2 : Code := { maxStack := 6, maxLocals := 16, code := code, exceptionTable := #[], attributes := #[] }
def k1m2 : Method := { name := "law", desc := "(IIIIII)Z", sig := { parameters := [.int, .int, .int, .int, .int, .int], returnType := some .boolean }, accessFlags := 9, code := some k1c2 }
/-- com/example/portcullis/portcullis/ldap/AttributeHasOptionsPinLaw -/
def k1 : Class := { plain "com/example/portcullis/portcullis/ldap/AttributeHasOptionsPinLaw" (some 0) with
  accessFlags := 49
  interfaces := #[]
  cf := some (fileOf pool1 8 #[] #[{ accessFlags := 1, nameIndex := 5, descriptorIndex := 6, attributes := #[] }, { accessFlags := 10, nameIndex := 11, descriptorIndex := 12, attributes := #[] }, { accessFlags := 9, nameIndex := 35, descriptorIndex := 36, attributes := #[] }] 49 2 #[] #[])
  fields := #[]
  methods := #[k1m0, k1m1, k1m2]
  instanceTypes := #[]
  staticTypes := #[]
  resolved := Array.replicate 43 none
  statics := none }

def pool2 : Array CpInfo := pool [(1, .class_ 2), (0, u "java/io/Serializable"), (0, .class_ 4), (0, u "java/lang/Object")] 2

/-- java/io/Serializable -/
def k2 : Class := { plain "java/io/Serializable" (some 0) with
  accessFlags := 1537
  interfaces := #[]
  cf := some (fileOf pool2 1 #[] #[] 1537 3 #[] #[])
  fields := #[]
  methods := #[]
  instanceTypes := #[]
  staticTypes := #[]
  resolved := Array.replicate 7 none
  statics := none }

def pool3 : Array CpInfo := pool [(1, .class_ 2), (0, u "java/lang/Comparable"), (0, .class_ 4), (0, u "java/lang/Object")] 7

/-- java/lang/Comparable -/
def k3 : Class := { plain "java/lang/Comparable" (some 0) with
  accessFlags := 1537
  interfaces := #[]
  cf := some (fileOf pool3 1 #[] #[] 1537 3 #[] #[])
  fields := #[]
  methods := #[]
  instanceTypes := #[]
  staticTypes := #[]
  resolved := Array.replicate 12 none
  statics := none }

def pool4 : Array CpInfo := pool [(2, .class_ 4), (1, u "java/lang/CharSequence"), (42, .class_ 48), (0, u "java/lang/CharSequence$1CodePointIterator"), (10, .class_ 60), (0, u "java/lang/CharSequence$1CharIterator"), (5, .class_ 67), (0, u "java/lang/Object")] 63

/-- java/lang/CharSequence -/
def k4 : Class := { plain "java/lang/CharSequence" (some 0) with
  accessFlags := 1537
  interfaces := #[]
  cf := some (fileOf pool4 2 #[.nestMembers #[47, 59]] #[] 1537 66 #[] #[])
  fields := #[]
  methods := #[]
  instanceTypes := #[]
  staticTypes := #[]
  resolved := Array.replicate 131 none
  statics := none }

def pool5 : Array CpInfo := pool [(1, .class_ 2), (0, u "java/lang/constant/Constable"), (0, .class_ 4), (0, u "java/lang/Object")] 6

/-- java/lang/constant/Constable -/
def k5 : Class := { plain "java/lang/constant/Constable" (some 0) with
  accessFlags := 1537
  interfaces := #[]
  cf := some (fileOf pool5 1 #[] #[] 1537 3 #[] #[])
  fields := #[]
  methods := #[]
  instanceTypes := #[]
  staticTypes := #[]
  resolved := Array.replicate 11 none
  statics := none }

def pool6 : Array CpInfo := pool [(1, .class_ 2), (0, u "java/lang/constant/ConstantDesc"), (0, .class_ 4), (0, u "java/lang/Object")] 32

/-- java/lang/constant/ConstantDesc -/
def k6 : Class := { plain "java/lang/constant/ConstantDesc" (some 0) with
  accessFlags := 1537
  interfaces := #[]
  cf := some (fileOf pool6 1 #[] #[] 1537 3 #[] #[])
  fields := #[]
  methods := #[]
  instanceTypes := #[]
  staticTypes := #[]
  resolved := Array.replicate 37 none
  statics := none }

def pool7 : Array CpInfo := pool [(1, .methodref 2 3), (0, .class_ 4), (0, .nameAndType 5 6), (0, u "java/lang/Object"), (0, u "<init>"), (0, u "()V"), (0, .string 8), (0, u ""), (0, .fieldref 10 11), (0, .class_ 12), (0, .nameAndType 13 14), (0, u "java/lang/String"), (0, u "value"), (0, u "[B"), (0, .fieldref 10 16), (0, .nameAndType 17 18), (0, u "coder"), (0, u "B"), (2, u "hash"), (0, u "I"), (2, u "hashIsZero"), (0, u "Z"), (0, .methodref 10 28), (0, .nameAndType 5 29), (0, u "([CIILjava/lang/Void;)V"), (8, .fieldref 10 39), (0, .nameAndType 40 26), (0, u "COMPACT_STRINGS"), (1, .class_ 44), (1, u "java/lang/StringUTF16"), (0, u "compress"), (1, .methodref 42 48), (0, .nameAndType 49 50), (0, u "coderFromArrayLen"), (0, u "([BI)B"), (2, u "toBytes"), (53, .class_ 109), (1, u "java/lang/StringLatin1"), (32, u "()Z"), (34, .methodref 42 178), (0, .nameAndType 45 179), (0, u "([CII)[B"), (29, .methodref 10 210), (0, .nameAndType 5 211), (0, u "([BB)V"), (122, u "()I"), (0, .methodref 10 336), (0, .nameAndType 17 337), (0, u "()B"), (31, u "(C)Z"), (122, .methodref 10 493), (0, .nameAndType 494 142), (0, u "isLatin1"), (10, .methodref 10 506), (0, .nameAndType 507 334), (0, u "length"), (67, .class_ 576), (0, u "java/lang/CharSequence"), (22, u "CASE_INSENSITIVE_ORDER"), (0, u "Ljava/util/Comparator;"), (32, .methodref 10 634), (0, .nameAndType 635 636), (0, u "indexOf"), (0, u "(II)I"), (0, .methodref 107 638), (0, .nameAndType 635 639), (0, u "([BIII)I"), (125, u "(I)I"), (16, u "valueOf"), (0, u "(C)Ljava/lang/String;"), (226, u "([C)V"), (4, .methodref 107 1016), (0, .nameAndType 1017 369), (0, u "canEncode"), (0, .methodref 107 1019), (0, .nameAndType 53 1020), (0, u "(C)[B"), (80, u "serialPersistentFields"), (0, u "[Ljava/io/ObjectStreamField;"), (0, .class_ 1104), (0, u "java/lang/String$CaseInsensitiveComparator"), (1, .class_ 1107), (0, u "java/io/Serializable"), (0, .class_ 1109), (0, u "java/lang/Comparable"), (0, .class_ 1111), (0, u "java/lang/constant/Constable"), (0, .class_ 1113), (0, u "java/lang/constant/ConstantDesc"), (2, u "serialVersionUID"), (0, u "J"), (3, u "REPL"), (0, u "C"), (2, u "LATIN1"), (1, u "UTF16")] 323

def k7m0 : Method := { name := "<init>", desc := "()V", sig := { parameters := [], returnType := none }, accessFlags := 1, code := none }
def k7c1 : Code := { maxStack := 5, maxLocals := 2, code := jdk_42_method_3_code, exceptionTable := #[], attributes := #[] }
def k7m1 : Method := { name := "<init>", desc := "([C)V", sig := { parameters := [(.array .char)], returnType := none }, accessFlags := 1, code := some k7c1 }
def k7c2 : Code := { maxStack := 2, maxLocals := 1, code := jdk_42_method_54_code, exceptionTable := #[], attributes := #[] }
def k7m2 : Method := { name := "length", desc := "()I", sig := { parameters := [], returnType := some .int }, accessFlags := 1, code := some k7c2 }
def k7c3 : Code := { maxStack := 3, maxLocals := 2, code := jdk_42_method_79_code, exceptionTable := #[], attributes := #[] }
def k7m3 : Method := { name := "indexOf", desc := "(I)I", sig := { parameters := [.int], returnType := some .int }, accessFlags := 1, code := some k7c3 }
def k7c4 : Code := { maxStack := 4, maxLocals := 3, code := jdk_42_method_80_code, exceptionTable := #[], attributes := #[] }
def k7m4 : Method := { name := "indexOf", desc := "(II)I", sig := { parameters := [.int, .int], returnType := some .int }, accessFlags := 1, code := some k7c4 }
def k7c5 : Code := { maxStack := 4, maxLocals := 1, code := jdk_42_method_139_code, exceptionTable := #[], attributes := #[] }
def k7m5 : Method := { name := "valueOf", desc := "(C)Ljava/lang/String;", sig := { parameters := [.char], returnType := some (.object "java/lang/String") }, accessFlags := 9, code := some k7c5 }
def k7c6 : Code := { maxStack := 4, maxLocals := 6, code := jdk_42_method_149_code, exceptionTable := #[], attributes := #[] }
def k7m6 : Method := { name := "<init>", desc := "([CIILjava/lang/Void;)V", sig := { parameters := [(.array .char), .int, .int, (.object "java/lang/Void")], returnType := none }, accessFlags := 2, code := some k7c6 }
def k7c7 : Code := { maxStack := 2, maxLocals := 3, code := jdk_42_method_151_code, exceptionTable := #[], attributes := #[] }
def k7m7 : Method := { name := "<init>", desc := "([BB)V", sig := { parameters := [(.array .byte), .byte], returnType := none }, accessFlags := 0, code := some k7c7 }
def k7c8 : Code := { maxStack := 1, maxLocals := 1, code := jdk_42_method_152_code, exceptionTable := #[], attributes := #[] }
def k7m8 : Method := { name := "coder", desc := "()B", sig := { parameters := [], returnType := some .byte }, accessFlags := 0, code := some k7c8 }
def k7c9 : Code := { maxStack := 1, maxLocals := 1, code := jdk_42_method_154_code, exceptionTable := #[], attributes := #[] }
def k7m9 : Method := { name := "isLatin1", desc := "()Z", sig := { parameters := [], returnType := some .boolean }, accessFlags := 0, code := some k7c9 }
/-- java/lang/String -/
def k7 : Class := { plain "java/lang/String" (some 0) with
  accessFlags := 49
  interfaces := #[2, 3, 4, 5, 6]
  cf := some (fileOf pool7 10 #[.nestMembers #[1103]] #[{ accessFlags := 1, nameIndex := 5, descriptorIndex := 6, attributes := #[] }, { accessFlags := 1, nameIndex := 5, descriptorIndex := 1010, attributes := #[] }, { accessFlags := 1, nameIndex := 507, descriptorIndex := 334, attributes := #[] }, { accessFlags := 1, nameIndex := 635, descriptorIndex := 765, attributes := #[] }, { accessFlags := 1, nameIndex := 635, descriptorIndex := 636, attributes := #[] }, { accessFlags := 9, nameIndex := 782, descriptorIndex := 783, attributes := #[] }, { accessFlags := 2, nameIndex := 5, descriptorIndex := 29, attributes := #[] }, { accessFlags := 0, nameIndex := 5, descriptorIndex := 211, attributes := #[] }, { accessFlags := 0, nameIndex := 17, descriptorIndex := 337, attributes := #[] }, { accessFlags := 0, nameIndex := 494, descriptorIndex := 142, attributes := #[] }] 49 2 #[1106, 1108, 575, 1110, 1112] #[{ accessFlags := 18, nameIndex := 13, descriptorIndex := 14, attributes := #[] }, { accessFlags := 18, nameIndex := 17, descriptorIndex := 18, attributes := #[] }, { accessFlags := 2, nameIndex := 21, descriptorIndex := 22, attributes := #[] }, { accessFlags := 2, nameIndex := 25, descriptorIndex := 26, attributes := #[] }, { accessFlags := 26, nameIndex := 1116, descriptorIndex := 1117, attributes := #[] }, { accessFlags := 24, nameIndex := 40, descriptorIndex := 26, attributes := #[] }, { accessFlags := 26, nameIndex := 1101, descriptorIndex := 1102, attributes := #[] }, { accessFlags := 26, nameIndex := 1121, descriptorIndex := 1122, attributes := #[] }, { accessFlags := 25, nameIndex := 599, descriptorIndex := 600, attributes := #[] }, { accessFlags := 24, nameIndex := 1125, descriptorIndex := 18, attributes := #[] }, { accessFlags := 24, nameIndex := 1127, descriptorIndex := 18, attributes := #[] }])
  fields := #[{ name := "value", type := (.array .byte), accessFlags := 18, slot := 0, constantValue := 0 }, { name := "coder", type := .byte, accessFlags := 18, slot := 1, constantValue := 0 }, { name := "hash", type := .int, accessFlags := 2, slot := 2, constantValue := 0 }, { name := "hashIsZero", type := .boolean, accessFlags := 2, slot := 3, constantValue := 0 }, { name := "serialVersionUID", type := .long, accessFlags := 26, slot := 0, constantValue := 0 }, { name := "COMPACT_STRINGS", type := .boolean, accessFlags := 24, slot := 1, constantValue := 0 }, { name := "serialPersistentFields", type := (.array (.object "java/io/ObjectStreamField")), accessFlags := 26, slot := 2, constantValue := 0 }, { name := "REPL", type := .char, accessFlags := 26, slot := 3, constantValue := 0 }, { name := "CASE_INSENSITIVE_ORDER", type := (.object "java/util/Comparator"), accessFlags := 25, slot := 4, constantValue := 0 }, { name := "LATIN1", type := .byte, accessFlags := 24, slot := 5, constantValue := 0 }, { name := "UTF16", type := .byte, accessFlags := 24, slot := 6, constantValue := 0 }]
  methods := #[k7m0, k7m1, k7m2, k7m3, k7m4, k7m5, k7m6, k7m7, k7m8, k7m9]
  instanceTypes := #[(.array .byte), .byte, .int, .boolean]
  staticTypes := #[.long, .boolean, (.array (.object "java/io/ObjectStreamField")), .char, (.object "java/util/Comparator"), .byte, .byte]
  resolved := Array.replicate 1451 none
  statics := some 0 }

def pool8 : Array CpInfo := pool [(4, .class_ 6), (1, u "java/lang/Object"), (0, u "<init>"), (0, u "()V"), (5, .class_ 16), (1, u "java/lang/StringLatin1"), (21, .methodref 39 40), (0, .class_ 41), (0, .nameAndType 42 43), (0, u "java/lang/Math"), (0, u "min"), (0, u "(II)I"), (44, .methodref 14 89), (0, .nameAndType 90 91), (0, u "canEncode"), (0, u "(I)Z"), (0, .methodref 39 93), (0, .nameAndType 94 43), (0, u "max"), (0, .methodref 14 96), (0, .nameAndType 97 98), (0, u "indexOfChar"), (0, u "([BIII)I"), (2, u "indexOf"), (3, u "(C)Z"), (15, u "$assertionsDisabled"), (0, u "Z"), (98, .class_ 223), (1, u "java/lang/StringLatin1$LinesSpliterator"), (156, u "toBytes"), (1, u "(C)[B"), (7, .class_ 391), (0, u "java/lang/StringLatin1$CharsSpliterator")] 3

def k8m0 : Method := { name := "<init>", desc := "()V", sig := { parameters := [], returnType := none }, accessFlags := 0, code := none }
def k8c1 : Code := { maxStack := 2, maxLocals := 1, code := jdk_43_method_3_code, exceptionTable := #[], attributes := #[] }
def k8m1 : Method := { name := "canEncode", desc := "(C)Z", sig := { parameters := [.char], returnType := some .boolean }, accessFlags := 9, code := some k8c1 }
def k8c2 : Code := { maxStack := 2, maxLocals := 1, code := jdk_43_method_4_code, exceptionTable := #[], attributes := #[] }
def k8m2 : Method := { name := "canEncode", desc := "(I)Z", sig := { parameters := [.int], returnType := some .boolean }, accessFlags := 9, code := some k8c2 }
def k8c3 : Code := { maxStack := 4, maxLocals := 4, code := jdk_43_method_22_code, exceptionTable := #[], attributes := #[] }
def k8m3 : Method := { name := "indexOf", desc := "([BIII)I", sig := { parameters := [(.array .byte), .int, .int, .int], returnType := some .int }, accessFlags := 9, code := some k8c3 }
def k8c4 : Code := { maxStack := 2, maxLocals := 6, code := jdk_43_method_23_code, exceptionTable := #[], attributes := #[] }
def k8m4 : Method := { name := "indexOfChar", desc := "([BIII)I", sig := { parameters := [(.array .byte), .int, .int, .int], returnType := some .int }, accessFlags := 10, code := some k8c4 }
def k8c5 : Code := { maxStack := 4, maxLocals := 1, code := jdk_43_method_46_code, exceptionTable := #[], attributes := #[] }
def k8m5 : Method := { name := "toBytes", desc := "(C)[B", sig := { parameters := [.char], returnType := some (.array .byte) }, accessFlags := 9, code := some k8c5 }
/-- java/lang/StringLatin1 -/
def k8 : Class := { plain "java/lang/StringLatin1" (some 0) with
  accessFlags := 48
  interfaces := #[]
  cf := some (fileOf pool8 14 #[.nestMembers #[390, 221]] #[{ accessFlags := 0, nameIndex := 7, descriptorIndex := 8, attributes := #[] }, { accessFlags := 9, nameIndex := 90, descriptorIndex := 105, attributes := #[] }, { accessFlags := 9, nameIndex := 90, descriptorIndex := 91, attributes := #[] }, { accessFlags := 9, nameIndex := 101, descriptorIndex := 98, attributes := #[] }, { accessFlags := 10, nameIndex := 97, descriptorIndex := 98, attributes := #[] }, { accessFlags := 9, nameIndex := 380, descriptorIndex := 382, attributes := #[] }] 48 4 #[] #[{ accessFlags := 4120, nameIndex := 121, descriptorIndex := 122, attributes := #[] }])
  fields := #[{ name := "$assertionsDisabled", type := .boolean, accessFlags := 4120, slot := 0, constantValue := 0 }]
  methods := #[k8m0, k8m1, k8m2, k8m3, k8m4, k8m5]
  instanceTypes := #[]
  staticTypes := #[.boolean]
  resolved := Array.replicate 395 none
  statics := none }

def pool9 : Array CpInfo := pool [(1, .methodref 2 3), (0, .class_ 4), (0, .nameAndType 5 6), (0, u "java/lang/Object"), (0, u "<init>"), (0, u "()V"), (0, .class_ 8), (0, u "java/lang/Record")] 13

def k9c0 : Code := { maxStack := 1, maxLocals := 1, code := jdk_30_method_1_code, exceptionTable := #[], attributes := #[] }
def k9m0 : Method := { name := "<init>", desc := "()V", sig := { parameters := [], returnType := none }, accessFlags := 4, code := some k9c0 }
/-- java/lang/Record -/
def k9 : Class := { plain "java/lang/Record" (some 0) with
  accessFlags := 1057
  interfaces := #[]
  cf := some (fileOf pool9 7 #[] #[{ accessFlags := 4, nameIndex := 5, descriptorIndex := 6, attributes := #[] }] 1057 2 #[] #[])
  fields := #[]
  methods := #[k9m0]
  instanceTypes := #[]
  staticTypes := #[]
  resolved := Array.replicate 22 none
  statics := none }

def pool10 : Array CpInfo := pool [(1, .methodref 2 3), (0, .class_ 4), (0, .nameAndType 5 6), (0, u "java/lang/Record"), (0, u "<init>"), (0, u "()V"), (0, .fieldref 8 9), (0, .class_ 10), (0, .nameAndType 11 12), (0, u "com/example/portcullis/portcullis/ldap/Ldif$Attribute"), (0, u "line"), (0, u "I"), (0, .fieldref 8 14), (0, .nameAndType 15 16), (0, u "description"), (0, u "Ljava/lang/String;"), (0, .fieldref 8 18), (0, .nameAndType 19 16), (0, u "value"), (0, .fieldref 8 21), (0, .nameAndType 22 23), (0, u "base64"), (0, u "Z"), (0, .methodref 25 26), (0, .class_ 27), (0, .nameAndType 28 29), (0, u "java/lang/String"), (0, u "indexOf"), (0, u "(I)I"), (72, u "(ILjava/lang/String;Ljava/lang/String;Z)V"), (5, u "hasOptions"), (0, u "()Z"), (7, .class_ 118), (0, u "com/example/portcullis/portcullis/ldap/Ldif")] 31

def k10c0 : Code := { maxStack := 2, maxLocals := 5, code := prog_81_method_1_code, exceptionTable := #[], attributes := #[] }
def k10m0 : Method := { name := "<init>", desc := "(ILjava/lang/String;Ljava/lang/String;Z)V", sig := { parameters := [.int, (.object "java/lang/String"), (.object "java/lang/String"), .boolean], returnType := none }, accessFlags := 0, code := some k10c0 }
def k10c1 : Code := { maxStack := 2, maxLocals := 1, code := prog_81_method_3_code, exceptionTable := #[], attributes := #[] }
def k10m1 : Method := { name := "hasOptions", desc := "()Z", sig := { parameters := [], returnType := some .boolean }, accessFlags := 0, code := some k10c1 }
/-- com/example/portcullis/portcullis/ldap/Ldif$Attribute -/
def k10 : Class := { plain "com/example/portcullis/portcullis/ldap/Ldif$Attribute" (some 9) with
  accessFlags := 48
  interfaces := #[]
  cf := some (fileOf pool10 8 #[.nestHost 117] #[{ accessFlags := 0, nameIndex := 5, descriptorIndex := 102, attributes := #[] }, { accessFlags := 0, nameIndex := 108, descriptorIndex := 109, attributes := #[] }] 48 2 #[] #[{ accessFlags := 18, nameIndex := 11, descriptorIndex := 12, attributes := #[] }, { accessFlags := 18, nameIndex := 15, descriptorIndex := 16, attributes := #[] }, { accessFlags := 18, nameIndex := 19, descriptorIndex := 16, attributes := #[] }, { accessFlags := 18, nameIndex := 22, descriptorIndex := 23, attributes := #[] }])
  fields := #[{ name := "line", type := .int, accessFlags := 18, slot := 0, constantValue := 0 }, { name := "description", type := (.object "java/lang/String"), accessFlags := 18, slot := 1, constantValue := 0 }, { name := "value", type := (.object "java/lang/String"), accessFlags := 18, slot := 2, constantValue := 0 }, { name := "base64", type := .boolean, accessFlags := 18, slot := 3, constantValue := 0 }]
  methods := #[k10m0, k10m1]
  instanceTypes := #[.int, (.object "java/lang/String"), (.object "java/lang/String"), .boolean]
  staticTypes := #[]
  resolved := Array.replicate 150 none
  statics := none }

def pool11 : Array CpInfo := pool [(1, .class_ 2), (0, u "java/lang/Math"), (1, .class_ 6), (1, u "java/lang/Object"), (0, u "<init>"), (0, u "()V"), (89, .class_ 100), (1, u "java/lang/Math$RandomNumberGeneratorHolder"), (71, u "negativeZeroFloatBits"), (0, u "J"), (2, u "negativeZeroDoubleBits"), (21, u "max"), (2, u "min"), (43, u "$assertionsDisabled"), (0, u "Z"), (88, u "(II)I"), (2, u "twoToTheDoubleScaleDown"), (0, u "D"), (4, u "twoToTheDoubleScaleUp"), (9, u "E"), (3, u "PI"), (2, u "TAU"), (2, u "DEGREES_TO_RADIANS"), (0, u "RADIANS_TO_DEGREES")] 94

def k11m0 : Method := { name := "<init>", desc := "()V", sig := { parameters := [], returnType := none }, accessFlags := 2, code := none }
def k11c1 : Code := { maxStack := 2, maxLocals := 2, code := jdk_29_method_65_code, exceptionTable := #[], attributes := #[] }
def k11m1 : Method := { name := "max", desc := "(II)I", sig := { parameters := [.int, .int], returnType := some .int }, accessFlags := 9, code := some k11c1 }
def k11c2 : Code := { maxStack := 2, maxLocals := 2, code := jdk_29_method_69_code, exceptionTable := #[], attributes := #[] }
def k11m2 : Method := { name := "min", desc := "(II)I", sig := { parameters := [.int, .int], returnType := some .int }, accessFlags := 9, code := some k11c2 }
/-- java/lang/Math -/
def k11 : Class := { plain "java/lang/Math" (some 0) with
  accessFlags := 49
  interfaces := #[]
  cf := some (fileOf pool11 1 #[.nestMembers #[98]] #[{ accessFlags := 2, nameIndex := 7, descriptorIndex := 8, attributes := #[] }, { accessFlags := 9, nameIndex := 198, descriptorIndex := 335, attributes := #[] }, { accessFlags := 9, nameIndex := 201, descriptorIndex := 335, attributes := #[] }] 49 4 #[] #[{ accessFlags := 25, nameIndex := 354, descriptorIndex := 339, attributes := #[] }, { accessFlags := 25, nameIndex := 358, descriptorIndex := 339, attributes := #[] }, { accessFlags := 25, nameIndex := 361, descriptorIndex := 339, attributes := #[] }, { accessFlags := 26, nameIndex := 364, descriptorIndex := 339, attributes := #[] }, { accessFlags := 26, nameIndex := 365, descriptorIndex := 339, attributes := #[] }, { accessFlags := 26, nameIndex := 172, descriptorIndex := 173, attributes := #[] }, { accessFlags := 26, nameIndex := 176, descriptorIndex := 173, attributes := #[] }, { accessFlags := 8, nameIndex := 344, descriptorIndex := 339, attributes := #[] }, { accessFlags := 8, nameIndex := 338, descriptorIndex := 339, attributes := #[] }, { accessFlags := 4120, nameIndex := 245, descriptorIndex := 246, attributes := #[] }])
  fields := #[{ name := "E", type := .double, accessFlags := 25, slot := 0, constantValue := 0 }, { name := "PI", type := .double, accessFlags := 25, slot := 1, constantValue := 0 }, { name := "TAU", type := .double, accessFlags := 25, slot := 2, constantValue := 0 }, { name := "DEGREES_TO_RADIANS", type := .double, accessFlags := 26, slot := 3, constantValue := 0 }, { name := "RADIANS_TO_DEGREES", type := .double, accessFlags := 26, slot := 4, constantValue := 0 }, { name := "negativeZeroFloatBits", type := .long, accessFlags := 26, slot := 5, constantValue := 0 }, { name := "negativeZeroDoubleBits", type := .long, accessFlags := 26, slot := 6, constantValue := 0 }, { name := "twoToTheDoubleScaleUp", type := .double, accessFlags := 8, slot := 7, constantValue := 0 }, { name := "twoToTheDoubleScaleDown", type := .double, accessFlags := 8, slot := 8, constantValue := 0 }, { name := "$assertionsDisabled", type := .boolean, accessFlags := 4120, slot := 9, constantValue := 0 }]
  methods := #[k11m0, k11m1, k11m2]
  instanceTypes := #[]
  staticTypes := #[.double, .double, .double, .double, .double, .long, .long, .double, .double, .boolean]
  resolved := Array.replicate 460 none
  statics := none }

def pool12 : Array CpInfo := pool [(6, .class_ 8), (1, u "java/lang/Object"), (0, u "<init>"), (0, u "()V"), (1, .class_ 14), (1, u "java/lang/StringUTF16"), (31, u "$assertionsDisabled"), (0, u "Z"), (13, u "HI_BYTE_SHIFT"), (0, u "I"), (2, u "LO_BYTE_SHIFT"), (49, .methodref 12 116), (0, .nameAndType 117 118), (0, u "compress"), (0, u "([CI[BII)I"), (3, u "([CII)[B"), (138, u "coderFromArrayLen"), (0, u "([BI)B"), (106, .class_ 371), (1, u "java/lang/StringUTF16$LinesSpliterator"), (58, u "MAX_LENGTH"), (196, .class_ 628), (0, u "java/lang/StringUTF16$CodePointsSpliterator"), (0, .class_ 630), (0, u "java/lang/StringUTF16$CharsSpliterator")] 4

def k12m0 : Method := { name := "<init>", desc := "()V", sig := { parameters := [], returnType := none }, accessFlags := 0, code := none }
def k12c1 : Code := { maxStack := 2, maxLocals := 2, code := jdk_52_method_15_code, exceptionTable := #[], attributes := #[] }
def k12m1 : Method := { name := "coderFromArrayLen", desc := "([BI)B", sig := { parameters := [(.array .byte), .int], returnType := some .byte }, accessFlags := 8, code := some k12c1 }
def k12c2 : Code := { maxStack := 5, maxLocals := 6, code := jdk_52_method_16_code, exceptionTable := #[], attributes := #[] }
def k12m2 : Method := { name := "compress", desc := "([CII)[B", sig := { parameters := [(.array .char), .int, .int], returnType := some (.array .byte) }, accessFlags := 9, code := some k12c2 }
def k12c3 : Code := { maxStack := 3, maxLocals := 7, code := jdk_52_method_21_code, exceptionTable := #[], attributes := #[] }
def k12m3 : Method := { name := "compress", desc := "([CI[BII)I", sig := { parameters := [(.array .char), .int, (.array .byte), .int, .int], returnType := some .int }, accessFlags := 9, code := some k12c3 }
/-- java/lang/StringUTF16 -/
def k12 : Class := { plain "java/lang/StringUTF16" (some 0) with
  accessFlags := 48
  interfaces := #[]
  cf := some (fileOf pool12 12 #[.nestMembers #[627, 629, 369]] #[{ accessFlags := 0, nameIndex := 9, descriptorIndex := 10, attributes := #[] }, { accessFlags := 8, nameIndex := 261, descriptorIndex := 262, attributes := #[] }, { accessFlags := 9, nameIndex := 117, descriptorIndex := 122, attributes := #[] }, { accessFlags := 9, nameIndex := 117, descriptorIndex := 118, attributes := #[] }] 48 6 #[] #[{ accessFlags := 26, nameIndex := 61, descriptorIndex := 62, attributes := #[] }, { accessFlags := 26, nameIndex := 65, descriptorIndex := 62, attributes := #[] }, { accessFlags := 24, nameIndex := 430, descriptorIndex := 62, attributes := #[] }, { accessFlags := 4120, nameIndex := 46, descriptorIndex := 47, attributes := #[] }])
  fields := #[{ name := "HI_BYTE_SHIFT", type := .int, accessFlags := 26, slot := 0, constantValue := 0 }, { name := "LO_BYTE_SHIFT", type := .int, accessFlags := 26, slot := 1, constantValue := 0 }, { name := "MAX_LENGTH", type := .int, accessFlags := 24, slot := 2, constantValue := 0 }, { name := "$assertionsDisabled", type := .boolean, accessFlags := 4120, slot := 3, constantValue := 0 }]
  methods := #[k12m0, k12m1, k12m2, k12m3]
  instanceTypes := #[]
  staticTypes := #[.int, .int, .int, .boolean]
  resolved := Array.replicate 635 none
  statics := none }

def pool13 : Array CpInfo := pool [(2, .class_ 4), (1, u "java/lang/Object"), (0, u "<init>"), (0, u "()V"), (17, .class_ 26), (1, u "jdk/internal/util/Preconditions"), (28, .class_ 56), (0, u "jdk/internal/util/Preconditions$4"), (57, .class_ 115), (0, u "jdk/internal/util/Preconditions$1"), (7, u "SIOOBE_FORMATTER"), (0, u "Ljava/util/function/BiFunction;"), (0, .class_ 126), (0, u "jdk/internal/util/Preconditions$2"), (3, u "AIOOBE_FORMATTER"), (0, .class_ 132), (0, u "jdk/internal/util/Preconditions$3"), (3, u "IOOBE_FORMATTER")] 57

def k13m0 : Method := { name := "<init>", desc := "()V", sig := { parameters := [], returnType := none }, accessFlags := 1, code := none }
/-- jdk/internal/util/Preconditions -/
def k13 : Class := { plain "jdk/internal/util/Preconditions" (some 0) with
  accessFlags := 33
  interfaces := #[]
  cf := some (fileOf pool13 24 #[.nestMembers #[55, 131, 125, 114]] #[{ accessFlags := 1, nameIndex := 5, descriptorIndex := 6, attributes := #[] }] 33 2 #[] #[{ accessFlags := 25, nameIndex := 123, descriptorIndex := 124, attributes := #[] }, { accessFlags := 25, nameIndex := 130, descriptorIndex := 124, attributes := #[] }, { accessFlags := 25, nameIndex := 136, descriptorIndex := 124, attributes := #[] }])
  fields := #[{ name := "SIOOBE_FORMATTER", type := (.object "java/util/function/BiFunction"), accessFlags := 25, slot := 0, constantValue := 0 }, { name := "AIOOBE_FORMATTER", type := (.object "java/util/function/BiFunction"), accessFlags := 25, slot := 1, constantValue := 0 }, { name := "IOOBE_FORMATTER", type := (.object "java/util/function/BiFunction"), accessFlags := 25, slot := 2, constantValue := 0 }]
  methods := #[k13m0]
  instanceTypes := #[]
  staticTypes := #[(.object "java/util/function/BiFunction"), (.object "java/util/function/BiFunction"), (.object "java/util/function/BiFunction")]
  resolved := Array.replicate 194 none
  statics := some 1 }

def pool14 : Array CpInfo := pool [(9, u "<init>"), (6, .class_ 18), (1, u "java/lang/Object"), (0, u "()V"), (1, .class_ 23), (1, u "jdk/internal/util/ArraysSupport"), (0, u "LOG2_ARRAY_LONG_INDEX_SCALE"), (0, u "I"), (2, u "U"), (0, u "Ljdk/internal/misc/Unsafe;"), (8, u "BIG_ENDIAN"), (0, u "Z"), (8, u "LOG2_BYTE_BIT_SIZE"), (4, u "LOG2_ARRAY_INT_INDEX_SCALE"), (54, u "JLA"), (0, u "Ljdk/internal/access/JavaLangAccess;"), (11, u "LOG2_ARRAY_BOOLEAN_INDEX_SCALE"), (9, u "LOG2_ARRAY_BYTE_INDEX_SCALE"), (5, u "LOG2_ARRAY_CHAR_INDEX_SCALE"), (5, u "LOG2_ARRAY_SHORT_INDEX_SCALE"), (18, u "LOG2_ARRAY_FLOAT_INDEX_SCALE"), (24, u "LOG2_ARRAY_DOUBLE_INDEX_SCALE"), (89, u "T_BOOLEAN"), (2, u "T_CHAR"), (1, u "T_FLOAT"), (1, u "T_DOUBLE"), (1, u "T_BYTE"), (1, u "T_SHORT"), (1, u "T_INT"), (1, u "T_LONG"), (1, u "SOFT_MAX_ARRAY_LENGTH")] 83

def k14m0 : Method := { name := "<init>", desc := "()V", sig := { parameters := [], returnType := none }, accessFlags := 2, code := none }
/-- jdk/internal/util/ArraysSupport -/
def k14 : Class := { plain "jdk/internal/util/ArraysSupport" (some 0) with
  accessFlags := 33
  interfaces := #[]
  cf := some (fileOf pool14 21 #[] #[{ accessFlags := 2, nameIndex := 9, descriptorIndex := 19, attributes := #[] }] 33 16 #[] #[{ accessFlags := 24, nameIndex := 28, descriptorIndex := 29, attributes := #[] }, { accessFlags := 26, nameIndex := 38, descriptorIndex := 39, attributes := #[] }, { accessFlags := 25, nameIndex := 121, descriptorIndex := 25, attributes := #[] }, { accessFlags := 25, nameIndex := 131, descriptorIndex := 25, attributes := #[] }, { accessFlags := 25, nameIndex := 137, descriptorIndex := 25, attributes := #[] }, { accessFlags := 25, nameIndex := 143, descriptorIndex := 25, attributes := #[] }, { accessFlags := 25, nameIndex := 53, descriptorIndex := 25, attributes := #[] }, { accessFlags := 25, nameIndex := 24, descriptorIndex := 25, attributes := #[] }, { accessFlags := 25, nameIndex := 162, descriptorIndex := 25, attributes := #[] }, { accessFlags := 25, nameIndex := 187, descriptorIndex := 25, attributes := #[] }, { accessFlags := 26, nameIndex := 48, descriptorIndex := 25, attributes := #[] }, { accessFlags := 25, nameIndex := 277, descriptorIndex := 25, attributes := #[] }, { accessFlags := 25, nameIndex := 280, descriptorIndex := 25, attributes := #[] }, { accessFlags := 25, nameIndex := 282, descriptorIndex := 25, attributes := #[] }, { accessFlags := 25, nameIndex := 284, descriptorIndex := 25, attributes := #[] }, { accessFlags := 25, nameIndex := 286, descriptorIndex := 25, attributes := #[] }, { accessFlags := 25, nameIndex := 288, descriptorIndex := 25, attributes := #[] }, { accessFlags := 25, nameIndex := 290, descriptorIndex := 25, attributes := #[] }, { accessFlags := 25, nameIndex := 292, descriptorIndex := 25, attributes := #[] }, { accessFlags := 26, nameIndex := 108, descriptorIndex := 109, attributes := #[] }, { accessFlags := 25, nameIndex := 294, descriptorIndex := 25, attributes := #[] }])
  fields := #[{ name := "U", type := (.object "jdk/internal/misc/Unsafe"), accessFlags := 24, slot := 0, constantValue := 0 }, { name := "BIG_ENDIAN", type := .boolean, accessFlags := 26, slot := 1, constantValue := 0 }, { name := "LOG2_ARRAY_BOOLEAN_INDEX_SCALE", type := .int, accessFlags := 25, slot := 2, constantValue := 0 }, { name := "LOG2_ARRAY_BYTE_INDEX_SCALE", type := .int, accessFlags := 25, slot := 3, constantValue := 0 }, { name := "LOG2_ARRAY_CHAR_INDEX_SCALE", type := .int, accessFlags := 25, slot := 4, constantValue := 0 }, { name := "LOG2_ARRAY_SHORT_INDEX_SCALE", type := .int, accessFlags := 25, slot := 5, constantValue := 0 }, { name := "LOG2_ARRAY_INT_INDEX_SCALE", type := .int, accessFlags := 25, slot := 6, constantValue := 0 }, { name := "LOG2_ARRAY_LONG_INDEX_SCALE", type := .int, accessFlags := 25, slot := 7, constantValue := 0 }, { name := "LOG2_ARRAY_FLOAT_INDEX_SCALE", type := .int, accessFlags := 25, slot := 8, constantValue := 0 }, { name := "LOG2_ARRAY_DOUBLE_INDEX_SCALE", type := .int, accessFlags := 25, slot := 9, constantValue := 0 }, { name := "LOG2_BYTE_BIT_SIZE", type := .int, accessFlags := 26, slot := 10, constantValue := 0 }, { name := "T_BOOLEAN", type := .int, accessFlags := 25, slot := 11, constantValue := 0 }, { name := "T_CHAR", type := .int, accessFlags := 25, slot := 12, constantValue := 0 }, { name := "T_FLOAT", type := .int, accessFlags := 25, slot := 13, constantValue := 0 }, { name := "T_DOUBLE", type := .int, accessFlags := 25, slot := 14, constantValue := 0 }, { name := "T_BYTE", type := .int, accessFlags := 25, slot := 15, constantValue := 0 }, { name := "T_SHORT", type := .int, accessFlags := 25, slot := 16, constantValue := 0 }, { name := "T_INT", type := .int, accessFlags := 25, slot := 17, constantValue := 0 }, { name := "T_LONG", type := .int, accessFlags := 25, slot := 18, constantValue := 0 }, { name := "JLA", type := (.object "jdk/internal/access/JavaLangAccess"), accessFlags := 26, slot := 19, constantValue := 0 }, { name := "SOFT_MAX_ARRAY_LENGTH", type := .int, accessFlags := 25, slot := 20, constantValue := 0 }]
  methods := #[k14m0]
  instanceTypes := #[]
  staticTypes := #[(.object "jdk/internal/misc/Unsafe"), .boolean, .int, .int, .int, .int, .int, .int, .int, .int, .int, .int, .int, .int, .int, .int, .int, .int, .int, (.object "jdk/internal/access/JavaLangAccess"), .int]
  resolved := Array.replicate 378 none
  statics := none }

def pool15 : Array CpInfo := pool [(1, u "java/lang/Cloneable"), (0, .class_ 1), (0, u "java/lang/Object"), (0, .class_ 3)] 3

/-- java/lang/Cloneable -/
def k15 : Class := { plain "java/lang/Cloneable" (some 0) with
  accessFlags := 1537
  interfaces := #[]
  cf := some (fileOf pool15 2 #[] #[] 1537 4 #[] #[])
  fields := #[]
  methods := #[]
  instanceTypes := #[]
  staticTypes := #[]
  resolved := Array.replicate 8 none
  statics := none }

/-- the primitive byte -/
def k16 : Class := { plain "byte" none with kind := .primitive 'B', accessFlags := 0x411 }
/-- [B -/
def k17 : Class := { plain "[B" (some 0) with kind := .array 16 .byte, interfaces := #[15, 2], accessFlags := 1041 }

/-- the primitive char -/
def k18 : Class := { plain "char" none with kind := .primitive 'C', accessFlags := 0x411 }
/-- [C -/
def k19 : Class := { plain "[C" (some 0) with kind := .array 18 .char, interfaces := #[15, 2], accessFlags := 1041 }

/-- the primitive int -/
def k20 : Class := { plain "int" none with kind := .primitive 'I', accessFlags := 0x411 }
/-- [I -/
def k21 : Class := { plain "[I" (some 0) with kind := .array 20 .int, interfaces := #[15, 2], accessFlags := 1041 }

def heap : Heap := #[{ cls := 7, slots := #[.long 0, .int 1, .null, .int 0, .null, .int 0, .int 0], vm := .statics 7 },
  { cls := 13, slots := #[.null, .null, .null], vm := .statics 13 }]
def classes : Array Class := #[k0, k1, k2, k3, k4, k5, k6, k7, k8, k9, k10, k11, k12, k13, k14, k15, k16, k17, k18, k19, k20, k21]
def interned : List (Array UInt16 × Addr) := []
def slotsUsed : Nat := 10
def theMethod : MethodId := ⟨1, 2⟩
def args0 : Array Value := #[.int 1, .int 2, .int 3, .int 4, .int 5, .int 6]
def aboutOver (below : List Frame) : State where
  vm := { classes := classes, interned := interned.toArray }
  heap := heap
  slotsUsed := slotsUsed
  threads := #[{ frames := .invoking theMethod args0 :: below }]
def below0 : List Frame := [.native { method := ⟨0, 0⟩, args := #[] }]
def about1 : State := aboutOver below0
def p0 : Program := .bare "" "" ""
def e0 : Env := launch0.env 0 0 0
theorem w_frames : about1.frames = Frame.invoking theMethod args0 :: below0 := rfl
set_option maxRecDepth 65536 in
theorem w_args : argsFit about1.vm theMethod args0 = true := by decide +kernel
set_option maxRecDepth 65536 in
theorem w_heap : heapFits about1 = true := by decide +kernel
set_option maxRecDepth 65536 in
theorem w_runnable : about1.curStatus? = some .runnable := by decide +kernel
set_option maxRecDepth 65536 in
theorem w_alone : about1.alone = true := by decide +kernel
set_option maxRecDepth 65536 in
theorem w_named : about1.methodNamed? x = some theMethod := by decide +kernel
set_option maxRecDepth 65536 in
theorem w_hears : about1.hears theMethod below0 = true := by decide +kernel
set_option maxRecDepth 65536 in
theorem w_ripe : about1.ripe theMethod args0 below0 = true := by decide +kernel
theorem w_running : about1.status = .running := rfl
set_option maxRecDepth 65536 in
theorem w_room : about1.hasRoom e0.platform room_1 = true :=
  launch0.hasRoom_least _ room_1 (by decide +kernel) (by decide +kernel) (by decide +kernel) (by decide +kernel) (by decide +kernel) (by decide +kernel)
theorem allAtoms_all (ts : List Jvm.Cond) (a : Array Jvm.Value) (st : Jvm.State) : (allAtoms ts).before a st = ts.all (fun c => c.before a st) := by
  induction ts with
  | nil => rfl
  | cons c t ih =>
    show (Jvm.Cond.and c (allAtoms t)).before a st = _
    rw [Jvm.Cond.before_and, ih, List.all_cons]
def words1 : List Jvm.Cond := Jvm.Cond.code x code maxLocals ret :: tables_1
/-- a 'code' word, met by the world's own term for the bytes: nothing is compared byte by byte -/
theorem code_word {y : MethodName} {bytes : ByteArray} {mx : Nat} {rt : Option FieldType} {a : Array Value} {s : State} {m : MethodId} {meth : Method} {c : Code} (h1 : s.methodNamed? y = some m) (h2 : s.vm.method? m = some meth) (h3 : meth.code = some c) (h4 : c.code = bytes)
    (h5 : (c.maxLocals == mx && c.exceptionTable.isEmpty && decide (c.maxStack ≤ mostOperands) && decide (meth.sig.returnType = rt) && !meth.locks && decide (parseMethodDescriptor y.desc = some meth.sig)) = true) : (Jvm.Cond.code y bytes mx rt).before a s = true := by
  simp only [Bool.and_eq_true, beq_iff_eq, Bool.not_eq_true', decide_eq_true_eq] at h5
  obtain ⟨⟨⟨⟨⟨g1, g2⟩, g3⟩, g4⟩, g5⟩, g6⟩ := h5
  simp [Cond.before, Cond.holds, Cond.value, h1, h2, h3, h4, g1, g2, g3, g4, g5, g6]
def isCode : Jvm.Cond → Bool
  | .code _ _ _ _ => true
  | _ => false
theorem all_split {L : List Jvm.Cond} {P : Jvm.Cond → Bool} (h1 : L.all (fun c => isCode c || P c) = true) (h2 : ∀ c ∈ L.filter isCode, P c = true) : L.all P = true := by
  refine List.all_eq_true.mpr fun c hc => ?_
  have h := List.all_eq_true.mp h1 c hc
  rcases Bool.eq_false_or_eq_true (isCode c) with hi | hi
  · exact h2 c (List.mem_filter.mpr ⟨hc, hi⟩)
  · simpa [hi] using h
set_option maxRecDepth 65536 in
theorem w_c0 : (Jvm.Cond.code x code maxLocals ret).before args0 about1 = true := code_word (m := ⟨1, 2⟩) (meth := k1m2) (c := k1c2) (by decide +kernel) rfl rfl rfl (by decide +kernel)
set_option maxRecDepth 65536 in
theorem w_c1 : (Jvm.Cond.code ({ cls := "com/example/portcullis/portcullis/ldap/AttributeHasOptionsPinLaw", name := "draw", desc := "(I)C" } : Jvm.MethodName) method_2_code (2 : Nat) (Option.some Jvm.ClassFile.FieldType.char)).before args0 about1 = true := code_word (m := ⟨1, 1⟩) (meth := k1m1) (c := k1c1) (by decide +kernel) rfl rfl rfl (by decide +kernel)
set_option maxRecDepth 65536 in
theorem w_c2 : (Jvm.Cond.code ({ cls := "java/lang/String", name := "<init>", desc := "([C)V" } : Jvm.MethodName) jdk_42_method_3_code (2 : Nat) (Option.none : Option Jvm.ClassFile.FieldType)).before args0 about1 = true := code_word (m := ⟨7, 1⟩) (meth := k7m1) (c := k7c1) (by decide +kernel) rfl rfl rfl (by decide +kernel)
set_option maxRecDepth 65536 in
theorem w_c3 : (Jvm.Cond.code ({ cls := "java/lang/String", name := "<init>", desc := "([CIILjava/lang/Void;)V" } : Jvm.MethodName) jdk_42_method_149_code (6 : Nat) (Option.none : Option Jvm.ClassFile.FieldType)).before args0 about1 = true := code_word (m := ⟨7, 6⟩) (meth := k7m6) (c := k7c6) (by decide +kernel) rfl rfl rfl (by decide +kernel)
set_option maxRecDepth 65536 in
theorem w_c4 : (Jvm.Cond.code ({ cls := "java/lang/Object", name := "<init>", desc := "()V" } : Jvm.MethodName) object_method_1_code (1 : Nat) (Option.none : Option Jvm.ClassFile.FieldType)).before args0 about1 = true := code_word (m := ⟨0, 0⟩) (meth := k0m0) (c := k0c0) (by decide +kernel) rfl rfl rfl (by decide +kernel)
set_option maxRecDepth 65536 in
theorem w_c5 : (Jvm.Cond.code ({ cls := "java/lang/String", name := "valueOf", desc := "(C)Ljava/lang/String;" } : Jvm.MethodName) jdk_42_method_139_code (1 : Nat) (Option.some (Jvm.ClassFile.FieldType.object "java/lang/String"))).before args0 about1 = true := code_word (m := ⟨7, 5⟩) (meth := k7m5) (c := k7c5) (by decide +kernel) rfl rfl rfl (by decide +kernel)
set_option maxRecDepth 65536 in
theorem w_c6 : (Jvm.Cond.code ({ cls := "java/lang/StringLatin1", name := "canEncode", desc := "(C)Z" } : Jvm.MethodName) jdk_43_method_3_code (1 : Nat) (Option.some Jvm.ClassFile.FieldType.boolean)).before args0 about1 = true := code_word (m := ⟨8, 1⟩) (meth := k8m1) (c := k8c1) (by decide +kernel) rfl rfl rfl (by decide +kernel)
set_option maxRecDepth 65536 in
theorem w_c7 : (Jvm.Cond.code ({ cls := "java/lang/StringLatin1", name := "toBytes", desc := "(C)[B" } : Jvm.MethodName) jdk_43_method_46_code (1 : Nat) (Option.some (Jvm.ClassFile.FieldType.array Jvm.ClassFile.FieldType.byte))).before args0 about1 = true := code_word (m := ⟨8, 5⟩) (meth := k8m5) (c := k8c5) (by decide +kernel) rfl rfl rfl (by decide +kernel)
set_option maxRecDepth 65536 in
theorem w_c8 : (Jvm.Cond.code ({ cls := "java/lang/String", name := "<init>", desc := "([BB)V" } : Jvm.MethodName) jdk_42_method_151_code (3 : Nat) (Option.none : Option Jvm.ClassFile.FieldType)).before args0 about1 = true := code_word (m := ⟨7, 7⟩) (meth := k7m7) (c := k7c7) (by decide +kernel) rfl rfl rfl (by decide +kernel)
set_option maxRecDepth 65536 in
theorem w_c9 : (Jvm.Cond.code ({ cls := "com/example/portcullis/portcullis/ldap/Ldif$Attribute", name := "<init>", desc := "(ILjava/lang/String;Ljava/lang/String;Z)V" } : Jvm.MethodName) prog_81_method_1_code (5 : Nat) (Option.none : Option Jvm.ClassFile.FieldType)).before args0 about1 = true := code_word (m := ⟨10, 0⟩) (meth := k10m0) (c := k10c0) (by decide +kernel) rfl rfl rfl (by decide +kernel)
set_option maxRecDepth 65536 in
theorem w_c10 : (Jvm.Cond.code ({ cls := "java/lang/Record", name := "<init>", desc := "()V" } : Jvm.MethodName) jdk_30_method_1_code (1 : Nat) (Option.none : Option Jvm.ClassFile.FieldType)).before args0 about1 = true := code_word (m := ⟨9, 0⟩) (meth := k9m0) (c := k9c0) (by decide +kernel) rfl rfl rfl (by decide +kernel)
set_option maxRecDepth 65536 in
theorem w_c11 : (Jvm.Cond.code ({ cls := "com/example/portcullis/portcullis/ldap/Ldif$Attribute", name := "hasOptions", desc := "()Z" } : Jvm.MethodName) prog_81_method_3_code (1 : Nat) (Option.some Jvm.ClassFile.FieldType.boolean)).before args0 about1 = true := code_word (m := ⟨10, 1⟩) (meth := k10m1) (c := k10c1) (by decide +kernel) rfl rfl rfl (by decide +kernel)
set_option maxRecDepth 65536 in
theorem w_c12 : (Jvm.Cond.code ({ cls := "java/lang/String", name := "indexOf", desc := "(I)I" } : Jvm.MethodName) jdk_42_method_79_code (2 : Nat) (Option.some Jvm.ClassFile.FieldType.int)).before args0 about1 = true := code_word (m := ⟨7, 3⟩) (meth := k7m3) (c := k7c3) (by decide +kernel) rfl rfl rfl (by decide +kernel)
set_option maxRecDepth 65536 in
theorem w_c13 : (Jvm.Cond.code ({ cls := "java/lang/String", name := "indexOf", desc := "(II)I" } : Jvm.MethodName) jdk_42_method_80_code (3 : Nat) (Option.some Jvm.ClassFile.FieldType.int)).before args0 about1 = true := code_word (m := ⟨7, 4⟩) (meth := k7m4) (c := k7c4) (by decide +kernel) rfl rfl rfl (by decide +kernel)
set_option maxRecDepth 65536 in
theorem w_c14 : (Jvm.Cond.code ({ cls := "java/lang/String", name := "isLatin1", desc := "()Z" } : Jvm.MethodName) jdk_42_method_154_code (1 : Nat) (Option.some Jvm.ClassFile.FieldType.boolean)).before args0 about1 = true := code_word (m := ⟨7, 9⟩) (meth := k7m9) (c := k7c9) (by decide +kernel) rfl rfl rfl (by decide +kernel)
set_option maxRecDepth 65536 in
theorem w_c15 : (Jvm.Cond.code ({ cls := "java/lang/String", name := "length", desc := "()I" } : Jvm.MethodName) jdk_42_method_54_code (1 : Nat) (Option.some Jvm.ClassFile.FieldType.int)).before args0 about1 = true := code_word (m := ⟨7, 2⟩) (meth := k7m2) (c := k7c2) (by decide +kernel) rfl rfl rfl (by decide +kernel)
set_option maxRecDepth 65536 in
theorem w_c16 : (Jvm.Cond.code ({ cls := "java/lang/String", name := "coder", desc := "()B" } : Jvm.MethodName) jdk_42_method_152_code (1 : Nat) (Option.some Jvm.ClassFile.FieldType.byte)).before args0 about1 = true := code_word (m := ⟨7, 8⟩) (meth := k7m8) (c := k7c8) (by decide +kernel) rfl rfl rfl (by decide +kernel)
set_option maxRecDepth 65536 in
theorem w_c17 : (Jvm.Cond.code ({ cls := "java/lang/StringLatin1", name := "indexOf", desc := "([BIII)I" } : Jvm.MethodName) jdk_43_method_22_code (4 : Nat) (Option.some Jvm.ClassFile.FieldType.int)).before args0 about1 = true := code_word (m := ⟨8, 3⟩) (meth := k8m3) (c := k8c3) (by decide +kernel) rfl rfl rfl (by decide +kernel)
set_option maxRecDepth 65536 in
theorem w_c18 : (Jvm.Cond.code ({ cls := "java/lang/StringLatin1", name := "canEncode", desc := "(I)Z" } : Jvm.MethodName) jdk_43_method_4_code (1 : Nat) (Option.some Jvm.ClassFile.FieldType.boolean)).before args0 about1 = true := code_word (m := ⟨8, 2⟩) (meth := k8m2) (c := k8c2) (by decide +kernel) rfl rfl rfl (by decide +kernel)
set_option maxRecDepth 65536 in
theorem w_c19 : (Jvm.Cond.code ({ cls := "java/lang/Math", name := "max", desc := "(II)I" } : Jvm.MethodName) jdk_29_method_65_code (2 : Nat) (Option.some Jvm.ClassFile.FieldType.int)).before args0 about1 = true := code_word (m := ⟨11, 1⟩) (meth := k11m1) (c := k11c1) (by decide +kernel) rfl rfl rfl (by decide +kernel)
set_option maxRecDepth 65536 in
theorem w_c20 : (Jvm.Cond.code ({ cls := "java/lang/Math", name := "min", desc := "(II)I" } : Jvm.MethodName) jdk_29_method_69_code (2 : Nat) (Option.some Jvm.ClassFile.FieldType.int)).before args0 about1 = true := code_word (m := ⟨11, 2⟩) (meth := k11m2) (c := k11c2) (by decide +kernel) rfl rfl rfl (by decide +kernel)
set_option maxRecDepth 65536 in
theorem w_c21 : (Jvm.Cond.code ({ cls := "java/lang/StringUTF16", name := "compress", desc := "([CII)[B" } : Jvm.MethodName) jdk_52_method_16_code (6 : Nat) (Option.some (Jvm.ClassFile.FieldType.array Jvm.ClassFile.FieldType.byte))).before args0 about1 = true := code_word (m := ⟨12, 2⟩) (meth := k12m2) (c := k12c2) (by decide +kernel) rfl rfl rfl (by decide +kernel)
set_option maxRecDepth 65536 in
theorem w_c22 : (Jvm.Cond.code ({ cls := "java/lang/StringUTF16", name := "compress", desc := "([CI[BII)I" } : Jvm.MethodName) jdk_52_method_21_code (7 : Nat) (Option.some Jvm.ClassFile.FieldType.int)).before args0 about1 = true := code_word (m := ⟨12, 3⟩) (meth := k12m3) (c := k12c3) (by decide +kernel) rfl rfl rfl (by decide +kernel)
set_option maxRecDepth 65536 in
theorem w_c23 : (Jvm.Cond.code ({ cls := "java/lang/StringUTF16", name := "coderFromArrayLen", desc := "([BI)B" } : Jvm.MethodName) jdk_52_method_15_code (2 : Nat) (Option.some Jvm.ClassFile.FieldType.byte)).before args0 about1 = true := code_word (m := ⟨12, 1⟩) (meth := k12m1) (c := k12c1) (by decide +kernel) rfl rfl rfl (by decide +kernel)
set_option maxRecDepth 65536 in
theorem w_c24 : (Jvm.Cond.code ({ cls := "java/lang/StringLatin1", name := "indexOfChar", desc := "([BIII)I" } : Jvm.MethodName) jdk_43_method_23_code (6 : Nat) (Option.some Jvm.ClassFile.FieldType.int)).before args0 about1 = true := code_word (m := ⟨8, 4⟩) (meth := k8m4) (c := k8c4) (by decide +kernel) rfl rfl rfl (by decide +kernel)
def codes1 : List Jvm.Cond := [Jvm.Cond.code x code maxLocals ret, Jvm.Cond.code ({ cls := "com/example/portcullis/portcullis/ldap/AttributeHasOptionsPinLaw", name := "draw", desc := "(I)C" } : Jvm.MethodName) method_2_code (2 : Nat) (Option.some Jvm.ClassFile.FieldType.char), Jvm.Cond.code ({ cls := "java/lang/String", name := "<init>", desc := "([C)V" } : Jvm.MethodName) jdk_42_method_3_code (2 : Nat) (Option.none : Option Jvm.ClassFile.FieldType), Jvm.Cond.code ({ cls := "java/lang/String", name := "<init>", desc := "([CIILjava/lang/Void;)V" } : Jvm.MethodName) jdk_42_method_149_code (6 : Nat) (Option.none : Option Jvm.ClassFile.FieldType), Jvm.Cond.code ({ cls := "java/lang/Object", name := "<init>", desc := "()V" } : Jvm.MethodName) object_method_1_code (1 : Nat) (Option.none : Option Jvm.ClassFile.FieldType), Jvm.Cond.code ({ cls := "java/lang/String", name := "valueOf", desc := "(C)Ljava/lang/String;" } : Jvm.MethodName) jdk_42_method_139_code (1 : Nat) (Option.some (Jvm.ClassFile.FieldType.object "java/lang/String")), Jvm.Cond.code ({ cls := "java/lang/StringLatin1", name := "canEncode", desc := "(C)Z" } : Jvm.MethodName) jdk_43_method_3_code (1 : Nat) (Option.some Jvm.ClassFile.FieldType.boolean), Jvm.Cond.code ({ cls := "java/lang/StringLatin1", name := "toBytes", desc := "(C)[B" } : Jvm.MethodName) jdk_43_method_46_code (1 : Nat) (Option.some (Jvm.ClassFile.FieldType.array Jvm.ClassFile.FieldType.byte)), Jvm.Cond.code ({ cls := "java/lang/String", name := "<init>", desc := "([BB)V" } : Jvm.MethodName) jdk_42_method_151_code (3 : Nat) (Option.none : Option Jvm.ClassFile.FieldType), Jvm.Cond.code ({ cls := "com/example/portcullis/portcullis/ldap/Ldif$Attribute", name := "<init>", desc := "(ILjava/lang/String;Ljava/lang/String;Z)V" } : Jvm.MethodName) prog_81_method_1_code (5 : Nat) (Option.none : Option Jvm.ClassFile.FieldType), Jvm.Cond.code ({ cls := "java/lang/Record", name := "<init>", desc := "()V" } : Jvm.MethodName) jdk_30_method_1_code (1 : Nat) (Option.none : Option Jvm.ClassFile.FieldType), Jvm.Cond.code ({ cls := "com/example/portcullis/portcullis/ldap/Ldif$Attribute", name := "hasOptions", desc := "()Z" } : Jvm.MethodName) prog_81_method_3_code (1 : Nat) (Option.some Jvm.ClassFile.FieldType.boolean), Jvm.Cond.code ({ cls := "java/lang/String", name := "indexOf", desc := "(I)I" } : Jvm.MethodName) jdk_42_method_79_code (2 : Nat) (Option.some Jvm.ClassFile.FieldType.int), Jvm.Cond.code ({ cls := "java/lang/String", name := "indexOf", desc := "(II)I" } : Jvm.MethodName) jdk_42_method_80_code (3 : Nat) (Option.some Jvm.ClassFile.FieldType.int), Jvm.Cond.code ({ cls := "java/lang/String", name := "isLatin1", desc := "()Z" } : Jvm.MethodName) jdk_42_method_154_code (1 : Nat) (Option.some Jvm.ClassFile.FieldType.boolean), Jvm.Cond.code ({ cls := "java/lang/String", name := "length", desc := "()I" } : Jvm.MethodName) jdk_42_method_54_code (1 : Nat) (Option.some Jvm.ClassFile.FieldType.int), Jvm.Cond.code ({ cls := "java/lang/String", name := "coder", desc := "()B" } : Jvm.MethodName) jdk_42_method_152_code (1 : Nat) (Option.some Jvm.ClassFile.FieldType.byte), Jvm.Cond.code ({ cls := "java/lang/StringLatin1", name := "indexOf", desc := "([BIII)I" } : Jvm.MethodName) jdk_43_method_22_code (4 : Nat) (Option.some Jvm.ClassFile.FieldType.int), Jvm.Cond.code ({ cls := "java/lang/StringLatin1", name := "canEncode", desc := "(I)Z" } : Jvm.MethodName) jdk_43_method_4_code (1 : Nat) (Option.some Jvm.ClassFile.FieldType.boolean), Jvm.Cond.code ({ cls := "java/lang/Math", name := "max", desc := "(II)I" } : Jvm.MethodName) jdk_29_method_65_code (2 : Nat) (Option.some Jvm.ClassFile.FieldType.int), Jvm.Cond.code ({ cls := "java/lang/Math", name := "min", desc := "(II)I" } : Jvm.MethodName) jdk_29_method_69_code (2 : Nat) (Option.some Jvm.ClassFile.FieldType.int), Jvm.Cond.code ({ cls := "java/lang/StringUTF16", name := "compress", desc := "([CII)[B" } : Jvm.MethodName) jdk_52_method_16_code (6 : Nat) (Option.some (Jvm.ClassFile.FieldType.array Jvm.ClassFile.FieldType.byte)), Jvm.Cond.code ({ cls := "java/lang/StringUTF16", name := "compress", desc := "([CI[BII)I" } : Jvm.MethodName) jdk_52_method_21_code (7 : Nat) (Option.some Jvm.ClassFile.FieldType.int), Jvm.Cond.code ({ cls := "java/lang/StringUTF16", name := "coderFromArrayLen", desc := "([BI)B" } : Jvm.MethodName) jdk_52_method_15_code (2 : Nat) (Option.some Jvm.ClassFile.FieldType.byte), Jvm.Cond.code ({ cls := "java/lang/StringLatin1", name := "indexOfChar", desc := "([BIII)I" } : Jvm.MethodName) jdk_43_method_23_code (6 : Nat) (Option.some Jvm.ClassFile.FieldType.int)]
set_option maxRecDepth 65536 in
theorem codes_eq : words1.filter isCode = codes1 := rfl
theorem w_codes : ∀ c ∈ words1.filter isCode, c.before args0 about1 = true := by
  rw [codes_eq]
  intro c hc
  simp only [codes1, List.mem_cons, List.not_mem_nil, or_false] at hc
  rcases hc with rfl | rfl | rfl | rfl | rfl | rfl | rfl | rfl | rfl | rfl | rfl | rfl | rfl | rfl | rfl | rfl | rfl | rfl | rfl | rfl | rfl | rfl | rfl | rfl | rfl
  · exact w_c0
  · exact w_c1
  · exact w_c2
  · exact w_c3
  · exact w_c4
  · exact w_c5
  · exact w_c6
  · exact w_c7
  · exact w_c8
  · exact w_c9
  · exact w_c10
  · exact w_c11
  · exact w_c12
  · exact w_c13
  · exact w_c14
  · exact w_c15
  · exact w_c16
  · exact w_c17
  · exact w_c18
  · exact w_c19
  · exact w_c20
  · exact w_c21
  · exact w_c22
  · exact w_c23
  · exact w_c24
set_option maxRecDepth 65536 in
theorem w_t1 : (words1.take 24).all (fun c => isCode c || c.before args0 about1) = true := by decide +kernel
set_option maxRecDepth 65536 in
theorem w_t2 : ((words1.drop 24).take 24).all (fun c => isCode c || c.before args0 about1) = true := by decide +kernel
set_option maxRecDepth 65536 in
theorem w_t3 : (((words1.drop 24).drop 24).take 24).all (fun c => isCode c || c.before args0 about1) = true := by decide +kernel
set_option maxRecDepth 65536 in
theorem w_t4 : ((((words1.drop 24).drop 24).drop 24).take 24).all (fun c => isCode c || c.before args0 about1) = true := by decide +kernel
set_option maxRecDepth 65536 in
theorem w_t5 : ((((words1.drop 24).drop 24).drop 24).drop 24).all (fun c => isCode c || c.before args0 about1) = true := by decide +kernel
theorem w_tables : (allAtoms (Jvm.Cond.code x code maxLocals ret :: tables_1)).before args0 about1 = true := by
  rw [allAtoms_all]
  show words1.all (fun c => c.before args0 about1) = true
  refine all_split ?_ w_codes
  rw [← List.take_append_drop 24 words1, List.all_append, w_t1, ← List.take_append_drop 24 (words1.drop 24), List.all_append, w_t2, ← List.take_append_drop 24 ((words1.drop 24).drop 24), List.all_append, w_t3, ← List.take_append_drop 24 (((words1.drop 24).drop 24).drop 24), List.all_append, w_t4, w_t5]
  rfl
set_option maxRecDepth 65536 in
theorem w_rest : rest_1_c.before args0 about1 = true := by decide +kernel
set_option maxRecDepth 65536 in
theorem w_case : (Jvm.Cond.and given_1 narrow_1).before args0 about1 = true := by decide +kernel
set_option maxRecDepth 65536 in
theorem w_consts : constsHeld consts_1 about1 := Jvm.Lit.constsHeldB_iff.mp (by decide +kernel)
theorem w_applies : (headSpec (Jvm.Cond.code x code maxLocals ret :: tables_1) room_1).applies x e0.platform about1 = true :=
  (Spec.applies_iff w_frames).mpr ⟨w_running, w_runnable, w_alone, w_named, w_hears, w_ripe, w_room, w_tables⟩
theorem atStart : AtStart classFile x code maxLocals ret World_1 tables_1 room_1 Calls_1 rest_1 Pre_1 launch0 p0 e0 about1 theMethod args0 below0 :=
  ⟨lists_1, trivial, launch0.admits_env _ _ _, launch0.least_env, fairChoices_fair.cas, fairChoices_fair.clock, w_frames, w_args, w_heap, w_applies, ⟨w_consts, trivial⟩, w_rest, w_case⟩
end start1
theorem witness_1 : WitnessClaimed_1 := ⟨start1.p0, start1.e0, start1.about1, start1.theMethod, start1.args0, start1.below0, start1.atStart⟩
end Jvm.Pilot.@@N@@
