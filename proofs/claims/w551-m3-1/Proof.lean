import JvmDerived
import JvmDerived.Pilot.@@N@@Statement
import JvmDerived.Pilot.@@N@@Code
set_option linter.unusedVariables false
set_option linter.unusedSimpArgs false
set_option maxHeartbeats 40000000
namespace Jvm.Pilot.@@N@@
open Jvm Jvm.ClassFile Sem Op Lib Jvm.Free Jvm.Stand Jvm.LawKit Jvm.RoadKit Bundle Jvm.Pilot.@@N@@.Jvm.D
/-! ## own kit: a small logic of walks -/
/-- the walk's fixed surroundings -/
def Cx (p : Program) (s : State) (m : MethodId) (meth : Method) (c : Code) (Z : State) (own : String) (bytes : ByteArray) (maxL : Nat) (ret : Option FieldType) (nm : String) : Prop :=
  p.tables.exec = Jvm.exec ∧ c.code = bytes ∧ c.maxLocals = maxL ∧ Z.Warmed39 s.vm ∧ s.vm.findClass own = some m.cls ∧ meth.sig.returnType = ret ∧ meth.locks = false ∧ meth.name = nm
/-- from every state that stands at heap h with frame g, having made at most so many cells and slots, the walk comes to a good end -/
def AtW (p : Program) (l : Launch) (e : Env) (R : Room) (s : State) (m : MethodId) (args : Array Value) (below : List Frame) (meth : Method) (c : Code) (n0 : Nat) (Q : Option Value → Heap → Prop) (h : Heap) (cells slots : Nat) (g : JFrame) : Prop :=
  ∀ (T : State) (locs : List Loc) (k n : Nat), Stand p l e R s m args below meth c T locs k n → k ≤ cells → n ≤ slots → T.heap = h → Fr n0 locs →
    ∃ t o, Steps p.tables e below (T.setTop g) t ∧ t.status = .running ∧ Ended t below o ∧ ∃ v L, o = .returned v ∧ (Fr n0 L ∧ Q v t.heap) ∧ FrameEnd s o t L R.cells R.slots
/-- a body's contract: called with 'as' at heap h0 it returns some v at some h with Q v h, and writes nothing below n0 -/
def Ct (ws : List Jvm.Cond) (l : Launch) (Z : State) (n0 : Nat) (y : MethodName) (bytes : ByteArray) (maxL : Nat) (ret : Option FieldType) (rm : Room) (as : Array Value) (h0 : Heap) (Q : Option Value → Heap → Prop) : Prop :=
  MetFree l y (head1 (Jvm.Cond.code y bytes maxL ret :: ws) rm) (fun a U => a = as ∧ Z.Warmed39 U.vm ∧ U.heap = h0) (fun _ _ _ _ _ => True)
    (fun _ U o U' => ∃ v L, o = .returned v ∧ (Fr n0 L ∧ Q v U'.heap) ∧ FrameEnd U o U' L rm.cells rm.slots)
theorem own_leb {a b : Nat} (h : Nat.ble a b = true) : a ≤ b := Nat.le_of_ble_eq_true h
theorem own_ltb {a b : Nat} (h : Nat.ble (a + 1) b = true) : a < b := Nat.le_of_ble_eq_true h
/-- the class is found and is no interface -/
def NI (s : State) (C : String) : Prop := ∃ c k, s.vm.findClass C = some c ∧ s.vm.classes[c]? = some k ∧ k.isInterface = false
theorem NI.of_inst {s : State} {args : Array Value} {C : String} {n : Nat} (w : (Jvm.Cond.instantiable C n).before args s = true) : NI s C := by
  obtain ⟨c, k, hc, hk, -, h, -⟩ := Cond.instantiable_spec w
  exact ⟨c, k, hc, hk, (Bool.or_eq_false_iff.mp h).1⟩
theorem NI.of_sel {s : State} {args : Array Value} {C : String} {y z : MethodName} (w : (Jvm.Cond.selects C y z).before args s = true) : NI s z.cls := by
  obtain ⟨c, r, m, -, -, hn, -, k, hk, hi⟩ := Cond.selects_spec w
  exact ⟨m.cls, k, findClass_of_methodNamed hn, hk, hi⟩
theorem NI.nf {s : State} {y : MethodName} (w : NI s y.cls) : NotFace s y := fun r0 h0 => by
  obtain ⟨c, k, hc, hk, hi⟩ := w
  cases (findClass_of_methodNamed h0).symm.trans hc
  exact ⟨k, hk, hi⟩
section Wk
variable {p : Program} {l : Launch} {e : Env} {R : Room} {s : State} {m : MethodId} {args : Array Value} {below : List Frame} {meth : Method} {c : Code} {n0 : Nat} {Q : Option Value → Heap → Prop} {h : Heap} {cells slots : Nat} {Z : State} {own : String} {bytes : ByteArray} {maxL : Nat} {ret : Option FieldType} {nm : String} {a0 : Array Value} {pc q : Nat} {L L' : Array Slot} {S : List Value}
theorem Ct.intro {ws : List Jvm.Cond} {y : MethodName} {rm : Room} {as : Array Value} (hp : plainFor y = true)
    (k : ∀ p e s m below meth c, Cx p s m meth c Z y.cls bytes maxL ret y.name → AtW p l e rm s m as below meth c n0 Q h 0 0 (entryFrame m as maxL)) : Ct ws l Z n0 y bytes maxL ret rm as h Q := by
  refine MetFree.of_bodySF hp hisR ?_
  intro p e s m args below meth c s₁ Bd hml0 hP hK
  obtain ⟨rfl, hZ, hh⟩ := hP
  have X0 := Stand.of_body Bd
  refine k p e s m below meth c ⟨Bd.exec, Bd.bytes, hml0, hZ, findClass_of_methodNamed Bd.named, Bd.returns, Bd.notSynchronized, (name_of_methodNamed Bd.named Bd.method).1⟩ s₁ [] 0 0 X0 (Nat.le_refl _) (Nat.le_refl _) ?_ (Fr.nil n0)
  rw [← hh, Bd.state]; rfl
theorem AtW.mono {g : JFrame} {cells' slots' : Nat} (K : AtW p l e R s m args below meth c n0 Q h cells' slots' g) (h1 : cells ≤ cells') (h2 : slots ≤ slots') : AtW p l e R s m args below meth c n0 Q h cells slots g :=
  fun T locs k n X hk hn eT N => K T locs k n X (Nat.le_trans hk h1) (Nat.le_trans hn h2) eT N
theorem AtW.go {g g' : JFrame} (K : AtW p l e R s m args below meth c n0 Q h cells slots g') (st : ∀ T, At T m c below → ∀ t, Steps p.tables e below (T.setTop g') t → Steps p.tables e below (T.setTop g) t) : AtW p l e R s m args below meth c n0 Q h cells slots g :=
  fun T locs k n X hk hn eT N => by
    obtain ⟨t, o, r1, r⟩ := K T locs k n X hk hn eT N
    exact ⟨t, o, st T X.here t r1, r⟩
theorem AtW.goX {g g' : JFrame} (K : AtW p l e R s m args below meth c n0 Q h cells slots g') (st : ∀ T locs k n, Stand p l e R s m args below meth c T locs k n → T.heap = h → ∀ t, Steps p.tables e below (T.setTop g') t → Steps p.tables e below (T.setTop g) t) : AtW p l e R s m args below meth c n0 Q h cells slots g :=
  fun T locs k n X hk hn eT N => by
    obtain ⟨t, o, r1, r⟩ := K T locs k n X hk hn eT N
    exact ⟨t, o, st T locs k n X eT t r1, r⟩
theorem AtW.cast {g g' : JFrame} (K : AtW p l e R s m args below meth c n0 Q h cells slots g') (q : g = g') : AtW p l e R s m args below meth c n0 Q h cells slots g := by rw [q]; exact K

theorem w_iload (C : Cx p s m meth c Z own bytes maxL ret nm) {k : Nat} {v : Int32} (hl : L[k]? = some (.val (.int v))) (hd : decode bytes pc = .ok (.iload k, 2)) (hq : pc + 2 = q) (K : AtW p l e R s m args below meth c n0 Q h cells slots (mkF m q L (.int v :: S))) : AtW p l e R s m args below meth c n0 Q h cells slots (mkF m pc L S) := by
  subst hq
  exact K.go fun T hA t st => XS.iload hA C.1 rfl (hb C.2.1 hd) hl st
theorem w_iloadN (C : Cx p s m meth c Z own bytes maxL ret nm) {k : Fin 4} {v : Int32} (hl : L[k.val]? = some (.val (.int v))) (hd : decode bytes pc = .ok (.iload_n k, 1)) (hq : pc + 1 = q) (K : AtW p l e R s m args below meth c n0 Q h cells slots (mkF m q L (.int v :: S))) : AtW p l e R s m args below meth c n0 Q h cells slots (mkF m pc L S) := by
  subst hq
  exact K.go fun T hA t st => XS.iloadN hA C.1 rfl (hb C.2.1 hd) hl st
theorem w_istore (C : Cx p s m meth c Z own bytes maxL ret nm) {k : Nat} {v : Int32} (hl : storeLocals L k (.int v) = some L') (hd : decode bytes pc = .ok (.istore k, 2)) (hq : pc + 2 = q) (K : AtW p l e R s m args below meth c n0 Q h cells slots (mkF m q L' S)) : AtW p l e R s m args below meth c n0 Q h cells slots (mkF m pc L (.int v :: S)) := by
  subst hq
  exact K.go fun T hA t st => XS.istore hA C.1 rfl (hb C.2.1 hd) rfl hl st
theorem w_istoreN (C : Cx p s m meth c Z own bytes maxL ret nm) {k : Fin 4} {v : Int32} (hl : storeLocals L k.val (.int v) = some L') (hd : decode bytes pc = .ok (.istore_n k, 1)) (hq : pc + 1 = q) (K : AtW p l e R s m args below meth c n0 Q h cells slots (mkF m q L' S)) : AtW p l e R s m args below meth c n0 Q h cells slots (mkF m pc L (.int v :: S)) := by
  subst hq
  exact K.go fun T hA t st => XS.istoreN hA C.1 rfl (hb C.2.1 hd) rfl hl st
theorem w_lload (C : Cx p s m meth c Z own bytes maxL ret nm) {k : Nat} {v : Int64} (hl : L[k]? = some (.val (.long v))) (hd : decode bytes pc = .ok (.lload k, 2)) (hq : pc + 2 = q) (K : AtW p l e R s m args below meth c n0 Q h cells slots (mkF m q L (.long v :: S))) : AtW p l e R s m args below meth c n0 Q h cells slots (mkF m pc L S) := by
  subst hq
  exact K.go fun T hA t st => XS.lload hA C.1 rfl (hb C.2.1 hd) hl st
theorem w_lloadN (C : Cx p s m meth c Z own bytes maxL ret nm) {k : Fin 4} {v : Int64} (hl : L[k.val]? = some (.val (.long v))) (hd : decode bytes pc = .ok (.lload_n k, 1)) (hq : pc + 1 = q) (K : AtW p l e R s m args below meth c n0 Q h cells slots (mkF m q L (.long v :: S))) : AtW p l e R s m args below meth c n0 Q h cells slots (mkF m pc L S) := by
  subst hq
  exact K.go fun T hA t st => XS.lloadN hA C.1 rfl (hb C.2.1 hd) hl st
theorem w_lstore (C : Cx p s m meth c Z own bytes maxL ret nm) {k : Nat} {v : Int64} (hl : storeLocals L k (.long v) = some L') (hd : decode bytes pc = .ok (.lstore k, 2)) (hq : pc + 2 = q) (K : AtW p l e R s m args below meth c n0 Q h cells slots (mkF m q L' S)) : AtW p l e R s m args below meth c n0 Q h cells slots (mkF m pc L (.long v :: S)) := by
  subst hq
  exact K.go fun T hA t st => XS.lstore hA C.1 rfl (hb C.2.1 hd) rfl hl st
theorem w_lstoreN (C : Cx p s m meth c Z own bytes maxL ret nm) {k : Fin 4} {v : Int64} (hl : storeLocals L k.val (.long v) = some L') (hd : decode bytes pc = .ok (.lstore_n k, 1)) (hq : pc + 1 = q) (K : AtW p l e R s m args below meth c n0 Q h cells slots (mkF m q L' S)) : AtW p l e R s m args below meth c n0 Q h cells slots (mkF m pc L (.long v :: S)) := by
  subst hq
  exact K.go fun T hA t st => XS.lstoreN hA C.1 rfl (hb C.2.1 hd) rfl hl st
theorem w_aload (C : Cx p s m meth c Z own bytes maxL ret nm) {k : Nat} {v : Value} (hl : L[k]? = some (.val v)) (hv : v.isRef = true) (hd : decode bytes pc = .ok (.aload k, 2)) (hq : pc + 2 = q) (K : AtW p l e R s m args below meth c n0 Q h cells slots (mkF m q L (v :: S))) : AtW p l e R s m args below meth c n0 Q h cells slots (mkF m pc L S) := by
  subst hq
  exact K.go fun T hA t st => XS.aload hA C.1 rfl (hb C.2.1 hd) hl hv st
theorem w_aloadN (C : Cx p s m meth c Z own bytes maxL ret nm) {k : Fin 4} {v : Value} (hl : L[k.val]? = some (.val v)) (hv : v.isRef = true) (hd : decode bytes pc = .ok (.aload_n k, 1)) (hq : pc + 1 = q) (K : AtW p l e R s m args below meth c n0 Q h cells slots (mkF m q L (v :: S))) : AtW p l e R s m args below meth c n0 Q h cells slots (mkF m pc L S) := by
  subst hq
  exact K.go fun T hA t st => XS.aloadN hA C.1 rfl (hb C.2.1 hd) hl hv st
theorem w_astore (C : Cx p s m meth c Z own bytes maxL ret nm) {k : Nat} {v : Value} (hv : v.isRef = true) (hl : storeLocals L k v = some L') (hd : decode bytes pc = .ok (.astore k, 2)) (hq : pc + 2 = q) (K : AtW p l e R s m args below meth c n0 Q h cells slots (mkF m q L' S)) : AtW p l e R s m args below meth c n0 Q h cells slots (mkF m pc L (v :: S)) := by
  subst hq
  exact K.go fun T hA t st => XS.astore hA C.1 rfl (hb C.2.1 hd) rfl hv hl st
theorem w_astoreN (C : Cx p s m meth c Z own bytes maxL ret nm) {k : Fin 4} {v : Value} (hv : v.isRef = true) (hl : storeLocals L k.val v = some L') (hd : decode bytes pc = .ok (.astore_n k, 1)) (hq : pc + 1 = q) (K : AtW p l e R s m args below meth c n0 Q h cells slots (mkF m q L' S)) : AtW p l e R s m args below meth c n0 Q h cells slots (mkF m pc L (v :: S)) := by
  subst hq
  exact K.go fun T hA t st => XS.astoreN hA C.1 rfl (hb C.2.1 hd) rfl hv hl st
theorem w_iconst (C : Cx p s m meth c Z own bytes maxL ret nm) {i : Int} {v : Int32} (hv : Int32.ofInt i = v) (hd : decode bytes pc = .ok (.iconst i, 1)) (hq : pc + 1 = q) (K : AtW p l e R s m args below meth c n0 Q h cells slots (mkF m q L (.int v :: S))) : AtW p l e R s m args below meth c n0 Q h cells slots (mkF m pc L S) := by
  subst hq
  exact K.go fun T hA t st => by subst hv; exact XS.iconst hA C.1 rfl (hb C.2.1 hd) st
theorem w_bipush (C : Cx p s m meth c Z own bytes maxL ret nm) {i : Int} {v : Int32} (hv : (Int8.ofInt i).toInt32 = v) (hd : decode bytes pc = .ok (.bipush i, 2)) (hq : pc + 2 = q) (K : AtW p l e R s m args below meth c n0 Q h cells slots (mkF m q L (.int v :: S))) : AtW p l e R s m args below meth c n0 Q h cells slots (mkF m pc L S) := by
  subst hq
  exact K.go fun T hA t st => by subst hv; exact XS.bipush hA C.1 rfl (hb C.2.1 hd) st
theorem w_sipush (C : Cx p s m meth c Z own bytes maxL ret nm) {i : Int} {v : Int32} (hv : (Int16.ofInt i).toInt32 = v) (hd : decode bytes pc = .ok (.sipush i, 3)) (hq : pc + 3 = q) (K : AtW p l e R s m args below meth c n0 Q h cells slots (mkF m q L (.int v :: S))) : AtW p l e R s m args below meth c n0 Q h cells slots (mkF m pc L S) := by
  subst hq
  exact K.go fun T hA t st => by subst hv; exact XS.sipush hA C.1 rfl (hb C.2.1 hd) st
theorem w_lconst (C : Cx p s m meth c Z own bytes maxL ret nm) {k : Fin 2} {v : Int64} (hv : Int64.ofNat k = v) (hd : decode bytes pc = .ok (.lconst k, 1)) (hq : pc + 1 = q) (K : AtW p l e R s m args below meth c n0 Q h cells slots (mkF m q L (.long v :: S))) : AtW p l e R s m args below meth c n0 Q h cells slots (mkF m pc L S) := by
  subst hq
  exact K.go fun T hA t st => by subst hv; exact XS.lconst hA C.1 rfl (hb C.2.1 hd) st
theorem w_aconst_null (C : Cx p s m meth c Z own bytes maxL ret nm)  (hd : decode bytes pc = .ok (.aconst_null, 1)) (hq : pc + 1 = q) (K : AtW p l e R s m args below meth c n0 Q h cells slots (mkF m q L (.null :: S))) : AtW p l e R s m args below meth c n0 Q h cells slots (mkF m pc L S) := by
  subst hq
  exact K.go fun T hA t st => XS.aconstNull hA C.1 rfl (hb C.2.1 hd) st
theorem w_iadd (C : Cx p s m meth c Z own bytes maxL ret nm) {x y z : Int32} (hz : x + y = z) (hd : decode bytes pc = .ok (.iadd, 1)) (hq : pc + 1 = q) (K : AtW p l e R s m args below meth c n0 Q h cells slots (mkF m q L (.int z :: S))) : AtW p l e R s m args below meth c n0 Q h cells slots (mkF m pc L (.int y :: .int x :: S)) := by
  subst hq
  exact K.go fun T hA t st => by subst hz; exact XS.iadd hA C.1 rfl (hb C.2.1 hd) rfl st
theorem w_isub (C : Cx p s m meth c Z own bytes maxL ret nm) {x y z : Int32} (hz : x - y = z) (hd : decode bytes pc = .ok (.isub, 1)) (hq : pc + 1 = q) (K : AtW p l e R s m args below meth c n0 Q h cells slots (mkF m q L (.int z :: S))) : AtW p l e R s m args below meth c n0 Q h cells slots (mkF m pc L (.int y :: .int x :: S)) := by
  subst hq
  exact K.go fun T hA t st => by subst hz; exact XS.isub hA C.1 rfl (hb C.2.1 hd) rfl st
theorem w_imul (C : Cx p s m meth c Z own bytes maxL ret nm) {x y z : Int32} (hz : x * y = z) (hd : decode bytes pc = .ok (.imul, 1)) (hq : pc + 1 = q) (K : AtW p l e R s m args below meth c n0 Q h cells slots (mkF m q L (.int z :: S))) : AtW p l e R s m args below meth c n0 Q h cells slots (mkF m pc L (.int y :: .int x :: S)) := by
  subst hq
  exact K.go fun T hA t st => by subst hz; exact XS.imul hA C.1 rfl (hb C.2.1 hd) rfl st
theorem w_iand (C : Cx p s m meth c Z own bytes maxL ret nm) {x y z : Int32} (hz : x &&& y = z) (hd : decode bytes pc = .ok (.iand, 1)) (hq : pc + 1 = q) (K : AtW p l e R s m args below meth c n0 Q h cells slots (mkF m q L (.int z :: S))) : AtW p l e R s m args below meth c n0 Q h cells slots (mkF m pc L (.int y :: .int x :: S)) := by
  subst hq
  exact K.go fun T hA t st => by subst hz; exact XS.iand hA C.1 rfl (hb C.2.1 hd) rfl st
theorem w_ior (C : Cx p s m meth c Z own bytes maxL ret nm) {x y z : Int32} (hz : x ||| y = z) (hd : decode bytes pc = .ok (.ior, 1)) (hq : pc + 1 = q) (K : AtW p l e R s m args below meth c n0 Q h cells slots (mkF m q L (.int z :: S))) : AtW p l e R s m args below meth c n0 Q h cells slots (mkF m pc L (.int y :: .int x :: S)) := by
  subst hq
  exact K.go fun T hA t st => by subst hz; exact XS.ior hA C.1 rfl (hb C.2.1 hd) rfl st
theorem w_ixor (C : Cx p s m meth c Z own bytes maxL ret nm) {x y z : Int32} (hz : x ^^^ y = z) (hd : decode bytes pc = .ok (.ixor, 1)) (hq : pc + 1 = q) (K : AtW p l e R s m args below meth c n0 Q h cells slots (mkF m q L (.int z :: S))) : AtW p l e R s m args below meth c n0 Q h cells slots (mkF m pc L (.int y :: .int x :: S)) := by
  subst hq
  exact K.go fun T hA t st => by subst hz; exact XS.ixor hA C.1 rfl (hb C.2.1 hd) rfl st
theorem w_ladd (C : Cx p s m meth c Z own bytes maxL ret nm) {x y z : Int64} (hz : x + y = z) (hd : decode bytes pc = .ok (.ladd, 1)) (hq : pc + 1 = q) (K : AtW p l e R s m args below meth c n0 Q h cells slots (mkF m q L (.long z :: S))) : AtW p l e R s m args below meth c n0 Q h cells slots (mkF m pc L (.long y :: .long x :: S)) := by
  subst hq
  exact K.go fun T hA t st => by subst hz; exact XS.ladd hA C.1 rfl (hb C.2.1 hd) rfl st
theorem w_lsub (C : Cx p s m meth c Z own bytes maxL ret nm) {x y z : Int64} (hz : x - y = z) (hd : decode bytes pc = .ok (.lsub, 1)) (hq : pc + 1 = q) (K : AtW p l e R s m args below meth c n0 Q h cells slots (mkF m q L (.long z :: S))) : AtW p l e R s m args below meth c n0 Q h cells slots (mkF m pc L (.long y :: .long x :: S)) := by
  subst hq
  exact K.go fun T hA t st => by subst hz; exact XS.lsub hA C.1 rfl (hb C.2.1 hd) rfl st
theorem w_lmul (C : Cx p s m meth c Z own bytes maxL ret nm) {x y z : Int64} (hz : x * y = z) (hd : decode bytes pc = .ok (.lmul, 1)) (hq : pc + 1 = q) (K : AtW p l e R s m args below meth c n0 Q h cells slots (mkF m q L (.long z :: S))) : AtW p l e R s m args below meth c n0 Q h cells slots (mkF m pc L (.long y :: .long x :: S)) := by
  subst hq
  exact K.go fun T hA t st => by subst hz; exact XS.lmul hA C.1 rfl (hb C.2.1 hd) rfl st
theorem w_land (C : Cx p s m meth c Z own bytes maxL ret nm) {x y z : Int64} (hz : x &&& y = z) (hd : decode bytes pc = .ok (.land, 1)) (hq : pc + 1 = q) (K : AtW p l e R s m args below meth c n0 Q h cells slots (mkF m q L (.long z :: S))) : AtW p l e R s m args below meth c n0 Q h cells slots (mkF m pc L (.long y :: .long x :: S)) := by
  subst hq
  exact K.go fun T hA t st => by subst hz; exact XS.land hA C.1 rfl (hb C.2.1 hd) rfl st
theorem w_lor (C : Cx p s m meth c Z own bytes maxL ret nm) {x y z : Int64} (hz : x ||| y = z) (hd : decode bytes pc = .ok (.lor, 1)) (hq : pc + 1 = q) (K : AtW p l e R s m args below meth c n0 Q h cells slots (mkF m q L (.long z :: S))) : AtW p l e R s m args below meth c n0 Q h cells slots (mkF m pc L (.long y :: .long x :: S)) := by
  subst hq
  exact K.go fun T hA t st => by subst hz; exact XS.lor hA C.1 rfl (hb C.2.1 hd) rfl st
theorem w_lxor (C : Cx p s m meth c Z own bytes maxL ret nm) {x y z : Int64} (hz : x ^^^ y = z) (hd : decode bytes pc = .ok (.lxor, 1)) (hq : pc + 1 = q) (K : AtW p l e R s m args below meth c n0 Q h cells slots (mkF m q L (.long z :: S))) : AtW p l e R s m args below meth c n0 Q h cells slots (mkF m pc L (.long y :: .long x :: S)) := by
  subst hq
  exact K.go fun T hA t st => by subst hz; exact XS.lxor hA C.1 rfl (hb C.2.1 hd) rfl st
theorem w_ishl (C : Cx p s m meth c Z own bytes maxL ret nm) {x y z : Int32} (hz : x <<< (y &&& 31) = z) (hd : decode bytes pc = .ok (.ishl, 1)) (hq : pc + 1 = q) (K : AtW p l e R s m args below meth c n0 Q h cells slots (mkF m q L (.int z :: S))) : AtW p l e R s m args below meth c n0 Q h cells slots (mkF m pc L (.int y :: .int x :: S)) := by
  subst hq
  exact K.go fun T hA t st => by subst hz; exact XS.ishl hA C.1 rfl (hb C.2.1 hd) rfl st
theorem w_ishr (C : Cx p s m meth c Z own bytes maxL ret nm) {x y z : Int32} (hz : x >>> (y &&& 31) = z) (hd : decode bytes pc = .ok (.ishr, 1)) (hq : pc + 1 = q) (K : AtW p l e R s m args below meth c n0 Q h cells slots (mkF m q L (.int z :: S))) : AtW p l e R s m args below meth c n0 Q h cells slots (mkF m pc L (.int y :: .int x :: S)) := by
  subst hq
  exact K.go fun T hA t st => by subst hz; exact XS.ishr hA C.1 rfl (hb C.2.1 hd) rfl st
theorem w_iushr (C : Cx p s m meth c Z own bytes maxL ret nm) {x y z : Int32} (hz : (x.toUInt32 >>> (y &&& 31).toUInt32).toInt32 = z) (hd : decode bytes pc = .ok (.iushr, 1)) (hq : pc + 1 = q) (K : AtW p l e R s m args below meth c n0 Q h cells slots (mkF m q L (.int z :: S))) : AtW p l e R s m args below meth c n0 Q h cells slots (mkF m pc L (.int y :: .int x :: S)) := by
  subst hq
  exact K.go fun T hA t st => by subst hz; exact XS.iushr hA C.1 rfl (hb C.2.1 hd) rfl st
theorem w_lshl (C : Cx p s m meth c Z own bytes maxL ret nm) {x z : Int64} {y : Int32} (hz : x <<< (y &&& 0x3f).toInt64 = z) (hd : decode bytes pc = .ok (.lshl, 1)) (hq : pc + 1 = q) (K : AtW p l e R s m args below meth c n0 Q h cells slots (mkF m q L (.long z :: S))) : AtW p l e R s m args below meth c n0 Q h cells slots (mkF m pc L (.int y :: .long x :: S)) := by
  subst hq
  exact K.go fun T hA t st => by subst hz; exact XS.lshl hA C.1 rfl (hb C.2.1 hd) rfl st
theorem w_lshr (C : Cx p s m meth c Z own bytes maxL ret nm) {x z : Int64} {y : Int32} (hz : x >>> (y &&& 0x3f).toInt64 = z) (hd : decode bytes pc = .ok (.lshr, 1)) (hq : pc + 1 = q) (K : AtW p l e R s m args below meth c n0 Q h cells slots (mkF m q L (.long z :: S))) : AtW p l e R s m args below meth c n0 Q h cells slots (mkF m pc L (.int y :: .long x :: S)) := by
  subst hq
  exact K.go fun T hA t st => by subst hz; exact XS.lshr hA C.1 rfl (hb C.2.1 hd) rfl st
theorem w_lushr (C : Cx p s m meth c Z own bytes maxL ret nm) {x z : Int64} {y : Int32} (hz : (x.toUInt64 >>> (y &&& 0x3f).toInt64.toUInt64).toInt64 = z) (hd : decode bytes pc = .ok (.lushr, 1)) (hq : pc + 1 = q) (K : AtW p l e R s m args below meth c n0 Q h cells slots (mkF m q L (.long z :: S))) : AtW p l e R s m args below meth c n0 Q h cells slots (mkF m pc L (.int y :: .long x :: S)) := by
  subst hq
  exact K.go fun T hA t st => by subst hz; exact XS.lushr hA C.1 rfl (hb C.2.1 hd) rfl st
theorem w_idiv (C : Cx p s m meth c Z own bytes maxL ret nm) {x y z : Int32} (hy : y ≠ 0) (hz : x / y = z) (hd : decode bytes pc = .ok (.idiv, 1)) (hq : pc + 1 = q) (K : AtW p l e R s m args below meth c n0 Q h cells slots (mkF m q L (.int z :: S))) : AtW p l e R s m args below meth c n0 Q h cells slots (mkF m pc L (.int y :: .int x :: S)) := by
  subst hq
  exact K.go fun T hA t st => by subst hz; exact XS.idiv hA C.1 rfl (hb C.2.1 hd) rfl hy st
theorem w_ldiv (C : Cx p s m meth c Z own bytes maxL ret nm) {x y z : Int64} (hy : y ≠ 0) (hz : x / y = z) (hd : decode bytes pc = .ok (.ldiv, 1)) (hq : pc + 1 = q) (K : AtW p l e R s m args below meth c n0 Q h cells slots (mkF m q L (.long z :: S))) : AtW p l e R s m args below meth c n0 Q h cells slots (mkF m pc L (.long y :: .long x :: S)) := by
  subst hq
  exact K.go fun T hA t st => by subst hz; exact XS.ldiv hA C.1 rfl (hb C.2.1 hd) rfl hy st
theorem w_irem (C : Cx p s m meth c Z own bytes maxL ret nm) {x y z : Int32} (hy : y ≠ 0) (hz : x % y = z) (hd : decode bytes pc = .ok (.irem, 1)) (hq : pc + 1 = q) (K : AtW p l e R s m args below meth c n0 Q h cells slots (mkF m q L (.int z :: S))) : AtW p l e R s m args below meth c n0 Q h cells slots (mkF m pc L (.int y :: .int x :: S)) := by
  subst hq
  exact K.go fun T hA t st => by subst hz; rw [← irem_eq_mod x y] at st; exact XS.irem hA C.1 rfl (hb C.2.1 hd) rfl hy st
theorem w_lrem (C : Cx p s m meth c Z own bytes maxL ret nm) {x y z : Int64} (hy : y ≠ 0) (hz : x % y = z) (hd : decode bytes pc = .ok (.lrem, 1)) (hq : pc + 1 = q) (K : AtW p l e R s m args below meth c n0 Q h cells slots (mkF m q L (.long z :: S))) : AtW p l e R s m args below meth c n0 Q h cells slots (mkF m pc L (.long y :: .long x :: S)) := by
  subst hq
  exact K.go fun T hA t st => by subst hz; rw [← lrem_mod x y] at st; exact XS.lrem hA C.1 rfl (hb C.2.1 hd) rfl hy st
theorem w_ineg (C : Cx p s m meth c Z own bytes maxL ret nm) {x : Int32} {z : Int32} (hz : -x = z) (hd : decode bytes pc = .ok (.ineg, 1)) (hq : pc + 1 = q) (K : AtW p l e R s m args below meth c n0 Q h cells slots (mkF m q L (.int z :: S))) : AtW p l e R s m args below meth c n0 Q h cells slots (mkF m pc L (.int x :: S)) := by
  subst hq
  exact K.go fun T hA t st => by subst hz; exact XS.ineg hA C.1 rfl (hb C.2.1 hd) rfl st
theorem w_lneg (C : Cx p s m meth c Z own bytes maxL ret nm) {x : Int64} {z : Int64} (hz : -x = z) (hd : decode bytes pc = .ok (.lneg, 1)) (hq : pc + 1 = q) (K : AtW p l e R s m args below meth c n0 Q h cells slots (mkF m q L (.long z :: S))) : AtW p l e R s m args below meth c n0 Q h cells slots (mkF m pc L (.long x :: S)) := by
  subst hq
  exact K.go fun T hA t st => by subst hz; exact XS.lneg hA C.1 rfl (hb C.2.1 hd) rfl st
theorem w_i2l (C : Cx p s m meth c Z own bytes maxL ret nm) {x : Int32} {z : Int64} (hz : x.toInt64 = z) (hd : decode bytes pc = .ok (.i2l, 1)) (hq : pc + 1 = q) (K : AtW p l e R s m args below meth c n0 Q h cells slots (mkF m q L (.long z :: S))) : AtW p l e R s m args below meth c n0 Q h cells slots (mkF m pc L (.int x :: S)) := by
  subst hq
  exact K.go fun T hA t st => by subst hz; exact XS.i2l hA C.1 rfl (hb C.2.1 hd) rfl st
theorem w_l2i (C : Cx p s m meth c Z own bytes maxL ret nm) {x : Int64} {z : Int32} (hz : x.toInt32 = z) (hd : decode bytes pc = .ok (.l2i, 1)) (hq : pc + 1 = q) (K : AtW p l e R s m args below meth c n0 Q h cells slots (mkF m q L (.int z :: S))) : AtW p l e R s m args below meth c n0 Q h cells slots (mkF m pc L (.long x :: S)) := by
  subst hq
  exact K.go fun T hA t st => by subst hz; exact XS.l2i hA C.1 rfl (hb C.2.1 hd) rfl st
theorem w_i2b (C : Cx p s m meth c Z own bytes maxL ret nm) {x : Int32} {z : Int32} (hz : x.toInt8.toInt32 = z) (hd : decode bytes pc = .ok (.i2b, 1)) (hq : pc + 1 = q) (K : AtW p l e R s m args below meth c n0 Q h cells slots (mkF m q L (.int z :: S))) : AtW p l e R s m args below meth c n0 Q h cells slots (mkF m pc L (.int x :: S)) := by
  subst hq
  exact K.go fun T hA t st => by subst hz; exact XS.i2b hA C.1 rfl (hb C.2.1 hd) rfl st
theorem w_i2s (C : Cx p s m meth c Z own bytes maxL ret nm) {x : Int32} {z : Int32} (hz : x.toInt16.toInt32 = z) (hd : decode bytes pc = .ok (.i2s, 1)) (hq : pc + 1 = q) (K : AtW p l e R s m args below meth c n0 Q h cells slots (mkF m q L (.int z :: S))) : AtW p l e R s m args below meth c n0 Q h cells slots (mkF m pc L (.int x :: S)) := by
  subst hq
  exact K.go fun T hA t st => by subst hz; exact XS.i2s hA C.1 rfl (hb C.2.1 hd) rfl st
theorem w_i2c (C : Cx p s m meth c Z own bytes maxL ret nm) {x : Int32} {z : Int32} (hz : x.toUInt32.toUInt16.toUInt32.toInt32 = z) (hd : decode bytes pc = .ok (.i2c, 1)) (hq : pc + 1 = q) (K : AtW p l e R s m args below meth c n0 Q h cells slots (mkF m q L (.int z :: S))) : AtW p l e R s m args below meth c n0 Q h cells slots (mkF m pc L (.int x :: S)) := by
  subst hq
  exact K.go fun T hA t st => by subst hz; exact XS.i2c hA C.1 rfl (hb C.2.1 hd) rfl st
theorem w_lcmp (C : Cx p s m meth c Z own bytes maxL ret nm) {x y : Int64} {z : Int32} (hz : lcmpW x y = z) (hd : decode bytes pc = .ok (.lcmp, 1)) (hq : pc + 1 = q) (K : AtW p l e R s m args below meth c n0 Q h cells slots (mkF m q L (.int z :: S))) : AtW p l e R s m args below meth c n0 Q h cells slots (mkF m pc L (.long y :: .long x :: S)) := by
  subst hq
  exact K.go fun T hA t st => by subst hz; exact XS.lcmp hA C.1 rfl (hb C.2.1 hd) rfl st
theorem w_dup (C : Cx p s m meth c Z own bytes maxL ret nm) {x : Value} (hc : x.category = 1) (hd : decode bytes pc = .ok (.dup, 1)) (hq : pc + 1 = q) (K : AtW p l e R s m args below meth c n0 Q h cells slots (mkF m q L (x :: x :: S))) : AtW p l e R s m args below meth c n0 Q h cells slots (mkF m pc L (x :: S)) := by
  subst hq
  exact K.go fun T hA t st => XS.dup hA C.1 rfl (hb C.2.1 hd) rfl hc st
theorem w_pop (C : Cx p s m meth c Z own bytes maxL ret nm) {x : Value} (hc : x.category = 1) (hd : decode bytes pc = .ok (.pop, 1)) (hq : pc + 1 = q) (K : AtW p l e R s m args below meth c n0 Q h cells slots (mkF m q L S)) : AtW p l e R s m args below meth c n0 Q h cells slots (mkF m pc L (x :: S)) := by
  subst hq
  exact K.go fun T hA t st => XS.pop hA C.1 rfl (hb C.2.1 hd) rfl hc st
theorem w_dup_x1 (C : Cx p s m meth c Z own bytes maxL ret nm) {x y : Value} (hc : x.category = 1) (hc' : y.category = 1) (hd : decode bytes pc = .ok (.dup_x1, 1)) (hq : pc + 1 = q) (K : AtW p l e R s m args below meth c n0 Q h cells slots (mkF m q L (x :: y :: x :: S))) : AtW p l e R s m args below meth c n0 Q h cells slots (mkF m pc L (x :: y :: S)) := by
  subst hq
  exact K.go fun T hA t st => XS.dupX1 hA C.1 rfl (hb C.2.1 hd) rfl hc hc' st
theorem w_iinc (C : Cx p s m meth c Z own bytes maxL ret nm) {k : Nat} {cst : Int} {x z : Int32} (hl : L[k]? = some (.val (.int x))) (hz : x + Int32.ofInt cst = z) (hl' : storeLocals L k (.int z) = some L') (hd : decode bytes pc = .ok (.iinc k cst, 3)) (hq : pc + 3 = q) (K : AtW p l e R s m args below meth c n0 Q h cells slots (mkF m q L' S)) : AtW p l e R s m args below meth c n0 Q h cells slots (mkF m pc L S) := by
  subst hq
  exact K.go fun T hA t st => by subst hz; exact XS.iinc hA C.1 rfl (hb C.2.1 hd) hl hl' st
theorem w_goto (C : Cx p s m meth c Z own bytes maxL ret nm) {o : Int} (hd : decode bytes pc = .ok (.goto o, 3)) (ho : 0 ≤ (pc : Int) + o) (hp : ((pc : Int) + o).toNat = q) (K : AtW p l e R s m args below meth c n0 Q h cells slots (mkF m q L S)) : AtW p l e R s m args below meth c n0 Q h cells slots (mkF m pc L S) :=
  K.go fun T hA t st => XS.goto hA C.1 rfl (pc0 := pc) (pc' := q) rfl (hb C.2.1 hd) ho hp st
theorem w_icmp_lt_t (C : Cx p s m meth c Z own bytes maxL ret nm) {o : Int} {x y : Int32} (hd : decode bytes pc = .ok (.if_icmp .lt o, 3)) (ho : 0 ≤ (pc : Int) + o) (hp : ((pc : Int) + o).toNat = q) (hc : x < y) (K : AtW p l e R s m args below meth c n0 Q h cells slots (mkF m q L S)) : AtW p l e R s m args below meth c n0 Q h cells slots (mkF m pc L (.int y :: .int x :: S)) :=
  K.go fun T hA t st => XS.icmpYes hA C.1 rfl (pc0 := pc) (pc' := q) rfl (hb C.2.1 hd) rfl (tlt hc).1 ho hp st
theorem w_icmp_lt_f (C : Cx p s m meth c Z own bytes maxL ret nm) {o : Int} {x y : Int32} (hd : decode bytes pc = .ok (.if_icmp .lt o, 3)) (hq : pc + 3 = q) (hc : ¬ x < y) (K : AtW p l e R s m args below meth c n0 Q h cells slots (mkF m q L S)) : AtW p l e R s m args below meth c n0 Q h cells slots (mkF m pc L (.int y :: .int x :: S)) := by
  subst hq
  exact K.go fun T hA t st => XS.icmpNo hA C.1 rfl (hb C.2.1 hd) rfl (flt hc).1 st
theorem w_if_lt_t (C : Cx p s m meth c Z own bytes maxL ret nm) {o : Int} {x : Int32} (hd : decode bytes pc = .ok (.ifCond .lt o, 3)) (ho : 0 ≤ (pc : Int) + o) (hp : ((pc : Int) + o).toNat = q) (hc : x < 0) (K : AtW p l e R s m args below meth c n0 Q h cells slots (mkF m q L S)) : AtW p l e R s m args below meth c n0 Q h cells slots (mkF m pc L (.int x :: S)) :=
  K.go fun T hA t st => XS.ifYes hA C.1 rfl (pc0 := pc) (pc' := q) rfl (hb C.2.1 hd) rfl ((if0 _ _).trans (tlt hc).1) ho hp st
theorem w_if_lt_f (C : Cx p s m meth c Z own bytes maxL ret nm) {o : Int} {x : Int32} (hd : decode bytes pc = .ok (.ifCond .lt o, 3)) (hq : pc + 3 = q) (hc : ¬ x < 0) (K : AtW p l e R s m args below meth c n0 Q h cells slots (mkF m q L S)) : AtW p l e R s m args below meth c n0 Q h cells slots (mkF m pc L (.int x :: S)) := by
  subst hq
  exact K.go fun T hA t st => XS.ifNo hA C.1 rfl (hb C.2.1 hd) rfl ((if0 _ _).trans (flt hc).1) st
theorem w_icmp_ge_t (C : Cx p s m meth c Z own bytes maxL ret nm) {o : Int} {x y : Int32} (hd : decode bytes pc = .ok (.if_icmp .ge o, 3)) (ho : 0 ≤ (pc : Int) + o) (hp : ((pc : Int) + o).toNat = q) (hc : ¬ x < y) (K : AtW p l e R s m args below meth c n0 Q h cells slots (mkF m q L S)) : AtW p l e R s m args below meth c n0 Q h cells slots (mkF m pc L (.int y :: .int x :: S)) :=
  K.go fun T hA t st => XS.icmpYes hA C.1 rfl (pc0 := pc) (pc' := q) rfl (hb C.2.1 hd) rfl (flt hc).2.1 ho hp st
theorem w_icmp_ge_f (C : Cx p s m meth c Z own bytes maxL ret nm) {o : Int} {x y : Int32} (hd : decode bytes pc = .ok (.if_icmp .ge o, 3)) (hq : pc + 3 = q) (hc : x < y) (K : AtW p l e R s m args below meth c n0 Q h cells slots (mkF m q L S)) : AtW p l e R s m args below meth c n0 Q h cells slots (mkF m pc L (.int y :: .int x :: S)) := by
  subst hq
  exact K.go fun T hA t st => XS.icmpNo hA C.1 rfl (hb C.2.1 hd) rfl (tlt hc).2.1 st
theorem w_if_ge_t (C : Cx p s m meth c Z own bytes maxL ret nm) {o : Int} {x : Int32} (hd : decode bytes pc = .ok (.ifCond .ge o, 3)) (ho : 0 ≤ (pc : Int) + o) (hp : ((pc : Int) + o).toNat = q) (hc : ¬ x < 0) (K : AtW p l e R s m args below meth c n0 Q h cells slots (mkF m q L S)) : AtW p l e R s m args below meth c n0 Q h cells slots (mkF m pc L (.int x :: S)) :=
  K.go fun T hA t st => XS.ifYes hA C.1 rfl (pc0 := pc) (pc' := q) rfl (hb C.2.1 hd) rfl ((if0 _ _).trans (flt hc).2.1) ho hp st
theorem w_if_ge_f (C : Cx p s m meth c Z own bytes maxL ret nm) {o : Int} {x : Int32} (hd : decode bytes pc = .ok (.ifCond .ge o, 3)) (hq : pc + 3 = q) (hc : x < 0) (K : AtW p l e R s m args below meth c n0 Q h cells slots (mkF m q L S)) : AtW p l e R s m args below meth c n0 Q h cells slots (mkF m pc L (.int x :: S)) := by
  subst hq
  exact K.go fun T hA t st => XS.ifNo hA C.1 rfl (hb C.2.1 hd) rfl ((if0 _ _).trans (tlt hc).2.1) st
theorem w_icmp_gt_t (C : Cx p s m meth c Z own bytes maxL ret nm) {o : Int} {x y : Int32} (hd : decode bytes pc = .ok (.if_icmp .gt o, 3)) (ho : 0 ≤ (pc : Int) + o) (hp : ((pc : Int) + o).toNat = q) (hc : y < x) (K : AtW p l e R s m args below meth c n0 Q h cells slots (mkF m q L S)) : AtW p l e R s m args below meth c n0 Q h cells slots (mkF m pc L (.int y :: .int x :: S)) :=
  K.go fun T hA t st => XS.icmpYes hA C.1 rfl (pc0 := pc) (pc' := q) rfl (hb C.2.1 hd) rfl (tlt hc).2.2.1 ho hp st
theorem w_icmp_gt_f (C : Cx p s m meth c Z own bytes maxL ret nm) {o : Int} {x y : Int32} (hd : decode bytes pc = .ok (.if_icmp .gt o, 3)) (hq : pc + 3 = q) (hc : ¬ y < x) (K : AtW p l e R s m args below meth c n0 Q h cells slots (mkF m q L S)) : AtW p l e R s m args below meth c n0 Q h cells slots (mkF m pc L (.int y :: .int x :: S)) := by
  subst hq
  exact K.go fun T hA t st => XS.icmpNo hA C.1 rfl (hb C.2.1 hd) rfl (flt hc).2.2.1 st
theorem w_if_gt_t (C : Cx p s m meth c Z own bytes maxL ret nm) {o : Int} {x : Int32} (hd : decode bytes pc = .ok (.ifCond .gt o, 3)) (ho : 0 ≤ (pc : Int) + o) (hp : ((pc : Int) + o).toNat = q) (hc : 0 < x) (K : AtW p l e R s m args below meth c n0 Q h cells slots (mkF m q L S)) : AtW p l e R s m args below meth c n0 Q h cells slots (mkF m pc L (.int x :: S)) :=
  K.go fun T hA t st => XS.ifYes hA C.1 rfl (pc0 := pc) (pc' := q) rfl (hb C.2.1 hd) rfl ((if0 _ _).trans (tlt hc).2.2.1) ho hp st
theorem w_if_gt_f (C : Cx p s m meth c Z own bytes maxL ret nm) {o : Int} {x : Int32} (hd : decode bytes pc = .ok (.ifCond .gt o, 3)) (hq : pc + 3 = q) (hc : ¬ 0 < x) (K : AtW p l e R s m args below meth c n0 Q h cells slots (mkF m q L S)) : AtW p l e R s m args below meth c n0 Q h cells slots (mkF m pc L (.int x :: S)) := by
  subst hq
  exact K.go fun T hA t st => XS.ifNo hA C.1 rfl (hb C.2.1 hd) rfl ((if0 _ _).trans (flt hc).2.2.1) st
theorem w_icmp_le_t (C : Cx p s m meth c Z own bytes maxL ret nm) {o : Int} {x y : Int32} (hd : decode bytes pc = .ok (.if_icmp .le o, 3)) (ho : 0 ≤ (pc : Int) + o) (hp : ((pc : Int) + o).toNat = q) (hc : ¬ y < x) (K : AtW p l e R s m args below meth c n0 Q h cells slots (mkF m q L S)) : AtW p l e R s m args below meth c n0 Q h cells slots (mkF m pc L (.int y :: .int x :: S)) :=
  K.go fun T hA t st => XS.icmpYes hA C.1 rfl (pc0 := pc) (pc' := q) rfl (hb C.2.1 hd) rfl (flt hc).2.2.2 ho hp st
theorem w_icmp_le_f (C : Cx p s m meth c Z own bytes maxL ret nm) {o : Int} {x y : Int32} (hd : decode bytes pc = .ok (.if_icmp .le o, 3)) (hq : pc + 3 = q) (hc : y < x) (K : AtW p l e R s m args below meth c n0 Q h cells slots (mkF m q L S)) : AtW p l e R s m args below meth c n0 Q h cells slots (mkF m pc L (.int y :: .int x :: S)) := by
  subst hq
  exact K.go fun T hA t st => XS.icmpNo hA C.1 rfl (hb C.2.1 hd) rfl (tlt hc).2.2.2 st
theorem w_if_le_t (C : Cx p s m meth c Z own bytes maxL ret nm) {o : Int} {x : Int32} (hd : decode bytes pc = .ok (.ifCond .le o, 3)) (ho : 0 ≤ (pc : Int) + o) (hp : ((pc : Int) + o).toNat = q) (hc : ¬ 0 < x) (K : AtW p l e R s m args below meth c n0 Q h cells slots (mkF m q L S)) : AtW p l e R s m args below meth c n0 Q h cells slots (mkF m pc L (.int x :: S)) :=
  K.go fun T hA t st => XS.ifYes hA C.1 rfl (pc0 := pc) (pc' := q) rfl (hb C.2.1 hd) rfl ((if0 _ _).trans (flt hc).2.2.2) ho hp st
theorem w_if_le_f (C : Cx p s m meth c Z own bytes maxL ret nm) {o : Int} {x : Int32} (hd : decode bytes pc = .ok (.ifCond .le o, 3)) (hq : pc + 3 = q) (hc : 0 < x) (K : AtW p l e R s m args below meth c n0 Q h cells slots (mkF m q L S)) : AtW p l e R s m args below meth c n0 Q h cells slots (mkF m pc L (.int x :: S)) := by
  subst hq
  exact K.go fun T hA t st => XS.ifNo hA C.1 rfl (hb C.2.1 hd) rfl ((if0 _ _).trans (tlt hc).2.2.2) st
theorem w_icmp_eq_t (C : Cx p s m meth c Z own bytes maxL ret nm) {o : Int} {x y : Int32} (hd : decode bytes pc = .ok (.if_icmp .eq o, 3)) (ho : 0 ≤ (pc : Int) + o) (hp : ((pc : Int) + o).toNat = q) (hc : x = y) (K : AtW p l e R s m args below meth c n0 Q h cells slots (mkF m q L S)) : AtW p l e R s m args below meth c n0 Q h cells slots (mkF m pc L (.int y :: .int x :: S)) :=
  K.go fun T hA t st => XS.icmpYes hA C.1 rfl (pc0 := pc) (pc' := q) rfl (hb C.2.1 hd) rfl (teq hc).1 ho hp st
theorem w_icmp_eq_f (C : Cx p s m meth c Z own bytes maxL ret nm) {o : Int} {x y : Int32} (hd : decode bytes pc = .ok (.if_icmp .eq o, 3)) (hq : pc + 3 = q) (hc : ¬ x = y) (K : AtW p l e R s m args below meth c n0 Q h cells slots (mkF m q L S)) : AtW p l e R s m args below meth c n0 Q h cells slots (mkF m pc L (.int y :: .int x :: S)) := by
  subst hq
  exact K.go fun T hA t st => XS.icmpNo hA C.1 rfl (hb C.2.1 hd) rfl (feq hc).1 st
theorem w_if_eq_t (C : Cx p s m meth c Z own bytes maxL ret nm) {o : Int} {x : Int32} (hd : decode bytes pc = .ok (.ifCond .eq o, 3)) (ho : 0 ≤ (pc : Int) + o) (hp : ((pc : Int) + o).toNat = q) (hc : x = 0) (K : AtW p l e R s m args below meth c n0 Q h cells slots (mkF m q L S)) : AtW p l e R s m args below meth c n0 Q h cells slots (mkF m pc L (.int x :: S)) :=
  K.go fun T hA t st => XS.ifYes hA C.1 rfl (pc0 := pc) (pc' := q) rfl (hb C.2.1 hd) rfl ((if0 _ _).trans (teq hc).1) ho hp st
theorem w_if_eq_f (C : Cx p s m meth c Z own bytes maxL ret nm) {o : Int} {x : Int32} (hd : decode bytes pc = .ok (.ifCond .eq o, 3)) (hq : pc + 3 = q) (hc : ¬ x = 0) (K : AtW p l e R s m args below meth c n0 Q h cells slots (mkF m q L S)) : AtW p l e R s m args below meth c n0 Q h cells slots (mkF m pc L (.int x :: S)) := by
  subst hq
  exact K.go fun T hA t st => XS.ifNo hA C.1 rfl (hb C.2.1 hd) rfl ((if0 _ _).trans (feq hc).1) st
theorem w_icmp_ne_t (C : Cx p s m meth c Z own bytes maxL ret nm) {o : Int} {x y : Int32} (hd : decode bytes pc = .ok (.if_icmp .ne o, 3)) (ho : 0 ≤ (pc : Int) + o) (hp : ((pc : Int) + o).toNat = q) (hc : ¬ x = y) (K : AtW p l e R s m args below meth c n0 Q h cells slots (mkF m q L S)) : AtW p l e R s m args below meth c n0 Q h cells slots (mkF m pc L (.int y :: .int x :: S)) :=
  K.go fun T hA t st => XS.icmpYes hA C.1 rfl (pc0 := pc) (pc' := q) rfl (hb C.2.1 hd) rfl (feq hc).2 ho hp st
theorem w_icmp_ne_f (C : Cx p s m meth c Z own bytes maxL ret nm) {o : Int} {x y : Int32} (hd : decode bytes pc = .ok (.if_icmp .ne o, 3)) (hq : pc + 3 = q) (hc : x = y) (K : AtW p l e R s m args below meth c n0 Q h cells slots (mkF m q L S)) : AtW p l e R s m args below meth c n0 Q h cells slots (mkF m pc L (.int y :: .int x :: S)) := by
  subst hq
  exact K.go fun T hA t st => XS.icmpNo hA C.1 rfl (hb C.2.1 hd) rfl (teq hc).2 st
theorem w_if_ne_t (C : Cx p s m meth c Z own bytes maxL ret nm) {o : Int} {x : Int32} (hd : decode bytes pc = .ok (.ifCond .ne o, 3)) (ho : 0 ≤ (pc : Int) + o) (hp : ((pc : Int) + o).toNat = q) (hc : ¬ x = 0) (K : AtW p l e R s m args below meth c n0 Q h cells slots (mkF m q L S)) : AtW p l e R s m args below meth c n0 Q h cells slots (mkF m pc L (.int x :: S)) :=
  K.go fun T hA t st => XS.ifYes hA C.1 rfl (pc0 := pc) (pc' := q) rfl (hb C.2.1 hd) rfl ((if0 _ _).trans (feq hc).2) ho hp st
theorem w_if_ne_f (C : Cx p s m meth c Z own bytes maxL ret nm) {o : Int} {x : Int32} (hd : decode bytes pc = .ok (.ifCond .ne o, 3)) (hq : pc + 3 = q) (hc : x = 0) (K : AtW p l e R s m args below meth c n0 Q h cells slots (mkF m q L S)) : AtW p l e R s m args below meth c n0 Q h cells slots (mkF m pc L (.int x :: S)) := by
  subst hq
  exact K.go fun T hA t st => XS.ifNo hA C.1 rfl (hb C.2.1 hd) rfl ((if0 _ _).trans (teq hc).2) st
theorem w_ifnull_t (C : Cx p s m meth c Z own bytes maxL ret nm) {o : Int} (hd : decode bytes pc = .ok (.ifnull o, 3)) (ho : 0 ≤ (pc : Int) + o) (hp : ((pc : Int) + o).toNat = q) (K : AtW p l e R s m args below meth c n0 Q h cells slots (mkF m q L S)) : AtW p l e R s m args below meth c n0 Q h cells slots (mkF m pc L (.null :: S)) :=
  K.go fun T hA t st => XS.ifnullYes hA C.1 rfl (pc0 := pc) (pc' := q) rfl (hb C.2.1 hd) rfl ho hp st
theorem w_ifnull_f (C : Cx p s m meth c Z own bytes maxL ret nm) {o : Int} {b : Addr} (hd : decode bytes pc = .ok (.ifnull o, 3)) (hq : pc + 3 = q) (K : AtW p l e R s m args below meth c n0 Q h cells slots (mkF m q L S)) : AtW p l e R s m args below meth c n0 Q h cells slots (mkF m pc L ((.ref b) :: S)) := by
  subst hq
  exact K.go fun T hA t st => XS.ifnullNo hA C.1 rfl (hb C.2.1 hd) rfl st
theorem w_ifnonnull_t (C : Cx p s m meth c Z own bytes maxL ret nm) {o : Int} {b : Addr} (hd : decode bytes pc = .ok (.ifnonnull o, 3)) (ho : 0 ≤ (pc : Int) + o) (hp : ((pc : Int) + o).toNat = q) (K : AtW p l e R s m args below meth c n0 Q h cells slots (mkF m q L S)) : AtW p l e R s m args below meth c n0 Q h cells slots (mkF m pc L ((.ref b) :: S)) :=
  K.go fun T hA t st => XS.ifnonnullYes hA C.1 rfl (pc0 := pc) (pc' := q) rfl (hb C.2.1 hd) rfl ho hp st
theorem w_ifnonnull_f (C : Cx p s m meth c Z own bytes maxL ret nm) {o : Int} (hd : decode bytes pc = .ok (.ifnonnull o, 3)) (hq : pc + 3 = q) (K : AtW p l e R s m args below meth c n0 Q h cells slots (mkF m q L S)) : AtW p l e R s m args below meth c n0 Q h cells slots (mkF m pc L (.null :: S)) := by
  subst hq
  exact K.go fun T hA t st => XS.ifnonnullNo hA C.1 rfl (hb C.2.1 hd) rfl st
theorem w_acmp_t (C : Cx p s m meth c Z own bytes maxL ret nm) {cd : ACond} {o : Int} {x y : Value} (hd : decode bytes pc = .ok (.if_acmp cd o, 3)) (h1 : x.isRef = true) (h2 : y.isRef = true) {same : Bool} (hs : decide (x = y) = same) (hcd : acV cd same = true) (ho : 0 ≤ (pc : Int) + o) (hp : ((pc : Int) + o).toNat = q) (K : AtW p l e R s m args below meth c n0 Q h cells slots (mkF m q L S)) : AtW p l e R s m args below meth c n0 Q h cells slots (mkF m pc L (y :: x :: S)) :=
  K.goX fun T locs k n X eT t st => Jvm.RoadKit.acmp (g := mkF m pc L (y :: x :: S)) X C.1 rfl h1 h2 (pc0 := pc) (pc' := q) (same := same) rfl (hb C.2.1 hd) rfl hs ho (by rw [if_pos hcd]; exact hp.symm) st
theorem w_acmp_f (C : Cx p s m meth c Z own bytes maxL ret nm) {cd : ACond} {o : Int} {x y : Value} (hd : decode bytes pc = .ok (.if_acmp cd o, 3)) (h1 : x.isRef = true) (h2 : y.isRef = true) {same : Bool} (hs : decide (x = y) = same) (hcd : acV cd same = false) (ho : 0 ≤ (pc : Int) + o) (hq : pc + 3 = q) (K : AtW p l e R s m args below meth c n0 Q h cells slots (mkF m q L S)) : AtW p l e R s m args below meth c n0 Q h cells slots (mkF m pc L (y :: x :: S)) :=
  K.goX fun T locs k n X eT t st => Jvm.RoadKit.acmp (g := mkF m pc L (y :: x :: S)) X C.1 rfl h1 h2 (pc0 := pc) (pc' := q) (same := same) rfl (hb C.2.1 hd) rfl hs ho (by rw [if_neg (by rw [hcd]; exact Bool.false_ne_true)]; exact hq.symm) st
theorem w_ldcI (C : Cx p s m meth c Z own bytes maxL ret nm) {i : Nat} {v : Int32} (w : (Jvm.Cond.constant own i v).before a0 Z = true) (hd : decode bytes pc = .ok (.ldc i, 2)) (hq : pc + 2 = q) (K : AtW p l e R s m args below meth c n0 Q h cells slots (mkF m q L (.int v :: S))) : AtW p l e R s m args below meth c n0 Q h cells slots (mkF m pc L S) := by
  subst hq
  exact K.goX fun T locs k n X eT t st => X.ldcInt C.1 C.2.2.2.2.1 (mvT C.2.2.2.1 w) (g := mkF m pc L S) rfl (hb C.2.1 hd) t st
theorem w_ldcwI (C : Cx p s m meth c Z own bytes maxL ret nm) {i : Nat} {v : Int32} (w : (Jvm.Cond.constant own i v).before a0 Z = true) (hd : decode bytes pc = .ok (.ldc_w i, 3)) (hq : pc + 3 = q) (K : AtW p l e R s m args below meth c n0 Q h cells slots (mkF m q L (.int v :: S))) : AtW p l e R s m args below meth c n0 Q h cells slots (mkF m pc L S) := by
  subst hq
  exact K.goX fun T locs k n X eT t st => X.ldcwInt C.1 C.2.2.2.2.1 (mvT C.2.2.2.1 w) (g := mkF m pc L S) rfl (hb C.2.1 hd) t st
theorem w_ldc2J (C : Cx p s m meth c Z own bytes maxL ret nm) {i : Nat} {v : Int64} (w : (Jvm.Cond.constantLong own i v).before a0 Z = true) (hd : decode bytes pc = .ok (.ldc2_w i, 3)) (hq : pc + 3 = q) (K : AtW p l e R s m args below meth c n0 Q h cells slots (mkF m q L (.long v :: S))) : AtW p l e R s m args below meth c n0 Q h cells slots (mkF m pc L S) := by
  subst hq
  exact K.goX fun T locs k n X eT t st => X.ldc2Long C.1 C.2.2.2.2.1 (mvT C.2.2.2.1 w) (g := mkF m pc L S) rfl (hb C.2.1 hd) t st

theorem w_getF (C : Cx p s m meth c Z own bytes maxL ret nm) {R0 O n d host : String} {i : Nat} {a : Addr} {v : Value} (w : (Jvm.Cond.fieldLink own i R0 n d).before a0 Z = true ∨ (Jvm.Cond.fieldLinkNest own i R0 n d host).before a0 Z = true) (via : Via Z R0 O n d) (F : Fld Z h a O n d v) (hd : decode bytes pc = .ok (.getfield i, 3)) (hq : pc + 3 = q) (K : AtW p l e R s m args below meth c n0 Q h cells slots (mkF m q L (v :: S))) : AtW p l e R s m args below meth c n0 Q h cells slots (mkF m pc L (.ref a :: S)) := by
  subst hq
  intro T locs k n X hk hn eT N
  obtain ⟨T', X', e', st⟩ := getF X C.1 C.2.2.2.1 (host := host) C.2.2.2.2.1 w via eT F (g := mkF m pc L (.ref a :: S)) rfl rfl (hb C.2.1 hd)
  obtain ⟨t, o, r1, r⟩ := K T' locs k n X' hk hn e' N
  exact ⟨t, o, st _ r1, r⟩
theorem w_getS (C : Cx p s m meth c Z own bytes maxL ret nm) {R0 O n d host : String} {i : Nat} {v : Value} (w : (Jvm.Cond.fieldLink own i R0 n d).before a0 Z = true ∨ (Jvm.Cond.fieldLinkNest own i R0 n d host).before a0 Z = true) (via : Via Z R0 O n d) (F : Sta Z h O n d v) (hd : decode bytes pc = .ok (.getstatic i, 3)) (hq : pc + 3 = q) (K : AtW p l e R s m args below meth c n0 Q h cells slots (mkF m q L (v :: S))) : AtW p l e R s m args below meth c n0 Q h cells slots (mkF m pc L S) := by
  subst hq
  intro T locs k n X hk hn eT N
  obtain ⟨T', X', e', st⟩ := getS2 X C.1 C.2.2.2.1 (host := host) C.2.2.2.2.1 w via eT F (g := mkF m pc L S) rfl (hb C.2.1 hd)
  obtain ⟨t, o, r1, r⟩ := K T' locs k n X' hk hn e' N
  exact ⟨t, o, st _ r1, r⟩
theorem w_cast (C : Cx p s m meth c Z own bytes maxL ret nm) {K : String} {i : Nat} {a : Addr} (w : (Jvm.Cond.classLink own i K).before a0 Z = true) (F : Ins Z h a K true) (hd : decode bytes pc = .ok (.checkcast i, 3)) (hq : pc + 3 = q) (K : AtW p l e R s m args below meth c n0 Q h cells slots (mkF m q L (.ref a :: S))) : AtW p l e R s m args below meth c n0 Q h cells slots (mkF m pc L (.ref a :: S)) := by
  subst hq
  intro T locs k n X hk hn eT N
  obtain ⟨T', X', e', st⟩ := castY X C.1 C.2.2.2.1 C.2.2.2.2.1 w eT F (g := mkF m pc L (.ref a :: S)) rfl rfl (hb C.2.1 hd)
  obtain ⟨t, o, r1, r⟩ := K T' locs k n X' hk hn e' N
  exact ⟨t, o, st _ r1, r⟩
theorem w_inst (C : Cx p s m meth c Z own bytes maxL ret nm) {K : String} {i : Nat} {a : Addr} (w : (Jvm.Cond.classLink own i K).before a0 Z = true) (F : Ins Z h a K true) (hd : decode bytes pc = .ok (.instanceof i, 3)) (hq : pc + 3 = q) (K : AtW p l e R s m args below meth c n0 Q h cells slots (mkF m q L (.int 1 :: S))) : AtW p l e R s m args below meth c n0 Q h cells slots (mkF m pc L (.ref a :: S)) := by
  subst hq
  intro T locs k n X hk hn eT N
  obtain ⟨T', X', e', st⟩ := instY X C.1 C.2.2.2.1 C.2.2.2.2.1 w eT F (g := mkF m pc L (.ref a :: S)) rfl rfl (hb C.2.1 hd)
  obtain ⟨t, o, r1, r⟩ := K T' locs k n X' hk hn e' N
  exact ⟨t, o, st _ r1, r⟩
theorem w_putF (C : Cx p s m meth c Z own bytes maxL ret nm) {R0 O n d host Cl : String} {i kk : Nat} {ty : FieldType} {a : Addr} {v v' old : Value} (w : (Jvm.Cond.fieldLink own i R0 n d).before a0 Z = true) (via : Via Z R0 O n d) (F : Fld Z h a O n d old) (E : Exa Z h a Cl)
    (hL : (Jvm.Cond.lays Cl O n d).before a0 Z = true ∨ ((Jvm.Cond.laysFinal Cl O n d).before a0 Z = true ∧ own = O ∧ nm = "<init>")) (wi : (Jvm.Cond.instantiable Cl kk).before a0 Z = true) (hty : parseFieldDescriptor d = some ty) (hn : narrow ty v = v') (hf : fits ty v' = true) (hge : n0 ≤ a)
    (hd : decode bytes pc = .ok (.putfield i, 3)) (hq : pc + 3 = q) (K : ∀ h', Wr h h' a (Jvm.RoadKit.slotOf Z O n d) v' → AtW p l e R s m args below meth c n0 Q h' cells slots (mkF m q L S)) : AtW p l e R s m args below meth c n0 Q h cells slots (mkF m pc L (v :: .ref a :: S)) := by
  subst hq
  intro T locs k n' X hk hn' eT N
  have hL' : (Jvm.Cond.lays Cl O n d).before a0 Z = true ∨ ((Jvm.Cond.laysFinal Cl O n d).before a0 Z = true ∧ own = O ∧ meth.name = "<init>") := hL.imp id fun x => ⟨x.1, x.2.1, C.2.2.2.2.2.2.2.trans x.2.2⟩
  obtain ⟨T', h', X', e', W, st⟩ := putFN X C.1 C.2.2.2.1 C.2.2.2.2.1 w via eT F E hL' wi hty hn hf (g := mkF m pc L (v :: .ref a :: S)) rfl rfl (hb C.2.1 hd)
  obtain ⟨t, o, r1, r⟩ := K h' W T' _ k n' X' hk hn' e' (Fr.snoc X' N hge)
  exact ⟨t, o, st _ r1, r⟩
theorem w_new (C : Cx p s m meth c Z own bytes maxL ret nm) {Cl : String} {i n : Nat} (w : (Jvm.Cond.classLink own i Cl).before a0 Z = true) (wi : (Jvm.Cond.instantiable Cl n).before a0 Z = true) (wz : (Jvm.Cond.initialized Cl).before a0 Z = true) {cells' slots' : Nat} (hc1 : cells + 1 = cells') (hs1 : slots + n = slots') (hc : cells' ≤ R.cells) (hl : slots' ≤ R.slots)
    (hd : decode bytes pc = .ok (.new i, 3)) (hq : pc + 3 = q) (K : ∀ h' a, a = h.size → Ext h h' → Exa Z h' a Cl → (∀ {O nm d : String} {ty : FieldType}, RoadKit.Laid Z a0 Cl O nm d → parseFieldDescriptor d = some ty → Fld Z h' a O nm d (defaultValue ty)) → AtW p l e R s m args below meth c n0 Q h' cells' slots' (mkF m q L (.ref a :: S))) : AtW p l e R s m args below meth c n0 Q h cells slots (mkF m pc L S) := by
  subst hq hc1 hs1
  intro T locs k n' X hk hn' eT N
  obtain ⟨T', h', X', e', E, A, D, -, st⟩ := newO X C.1 C.2.2.2.1 C.2.2.2.2.1 w wi wz eT (g := mkF m pc L S) rfl (hb C.2.1 hd) (by omega) (by omega)
  obtain ⟨t, o, r1, r⟩ := K h' h.size rfl E A D T' _ (k + 1) (n' + n) X' (by omega) (by omega) e' N
  exact ⟨t, o, st _ r1, r⟩
/-- an array that holds just vs -/
def Ar (Z : State) (h : Heap) (a : Addr) (ty : FieldType) (vs : List Value) : Prop := vs.length < 2 ^ 31 ∧ ∃ k, Arv Z h a k ty (Int32.ofNat vs.length) vs (defaultValue ty)
theorem ofNat_neg {n : Nat} (h : n < 2 ^ 31) : ¬ Int32.ofNat n < 0 := by
  intro q
  have := Int32.lt_iff_toInt_lt.mp q
  rw [Int32.toInt_ofNat_small h] at this
  simp at this
  omega
theorem ofNat_nat {n : Nat} (h : n < 2 ^ 31) : (Int32.ofNat n).toNatClampNeg = n := by
  simp only [Int32.toNatClampNeg, Int32.toInt_ofNat_small h]; rfl
theorem nat_of_nonneg {x : Int32} (h : ¬ x < 0) : Int32.ofNat x.toNatClampNeg = x ∧ x.toNatClampNeg < 2 ^ 31 := by
  obtain ⟨h1, h2⟩ := back32 h
  exact ⟨h1, h2⟩
theorem Ar.keep {a : Addr} {ty : FieldType} {vs : List Value} {h' : Heap} {ws : List Addr} (F : Ar Z h a ty vs) (K : Keep h h' ws) (q : a ∉ ws) : Ar Z h' a ty vs := ⟨F.1, F.2.imp fun k V => V.keep K q⟩
theorem Ar.ext {a : Addr} {ty : FieldType} {vs : List Value} {h' : Heap} (F : Ar Z h a ty vs) (E : Ext h h') : Ar Z h' a ty vs := ⟨F.1, F.2.imp fun k V => V.ext E⟩
theorem Ar.other {a b : Addr} {ty : FieldType} {vs : List Value} {h' : Heap} {sl : Nat} {v : Value} (F : Ar Z h b ty vs) (W : Wr h h' a sl v) (q : b ≠ a) : Ar Z h' b ty vs := ⟨F.1, F.2.imp fun k V => V.other W q⟩
theorem Ar.lt {a : Addr} {ty : FieldType} {vs : List Value} (F : Ar Z h a ty vs) : a < h.size := F.2.elim fun k V => V.lt
theorem Ar.eq {a : Addr} {ty : FieldType} {vs vs' : List Value} (F : Ar Z h a ty vs) (q : vs = vs') : Ar Z h a ty vs' := q ▸ F
theorem Keep.of_ext {h' : Heap} (E : Ext h h') : Keep h h' [] := (Keep.refl h []).ext E
theorem Keep.to_ext {h' : Heap} (K : Keep h h' []) : Ext h h' := ⟨K.1, fun a c q => K.2.1 a c q (by simp)⟩
theorem w_newArr (C : Cx p s m meth c Z own bytes maxL ret nm) {aty : ArrayType} {ty : FieldType} {n : Int32} (w : (Jvm.Cond.arrayClass ty).before a0 Z = true) (hty : newarray.typeOf aty = ty) (hn : ¬ n < 0) {cap : Nat} (hcap : n.toNatClampNeg ≤ cap) (hb' : cap * 8 ≤ 536870912) {cells' slots' : Nat} (hc1 : cells + 1 = cells') (hs1 : slots + cap = slots') (hc : cells' ≤ R.cells) (hl : slots' ≤ R.slots)
    (hd : decode bytes pc = .ok (.newarray aty, 2)) (hq : pc + 2 = q) (K : ∀ h' a, a = h.size → Ext h h' → Ar Z h' a ty (List.replicate n.toNatClampNeg (defaultValue ty)) → AtW p l e R s m args below meth c n0 Q h' cells' slots' (mkF m q L (.ref a :: S))) : AtW p l e R s m args below meth c n0 Q h cells slots (mkF m pc L (.int n :: S)) := by
  subst hq hc1 hs1 hty
  intro T locs k n' X hk hn' eT N
  obtain ⟨T', h', cA, X', e', E, A, st⟩ := newP X C.1 C.2.2.2.1 w eT (g := mkF m pc L (.int n :: S)) rfl (hb C.2.1 hd) rfl hn hcap hb' (by omega) (by omega)
  have q := nat_of_nonneg hn
  have V := (Arv.new A hn).pad (pad_rep [] (defaultValue (newarray.typeOf aty)) n.toNatClampNeg)
  obtain ⟨t, o, r1, r⟩ := K h' h.size rfl E ⟨by simpa using q.2, cA, by simpa [q.1] using V⟩ T' _ (k + 1) (n' + cap) X' (by omega) (by omega) e' N
  exact ⟨t, o, st _ r1, r⟩
theorem w_len (C : Cx p s m meth c Z own bytes maxL ret nm) {a : Addr} {ty : FieldType} {vs : List Value} {z : Int32} (A : Ar Z h a ty vs) (hz : Int32.ofNat vs.length = z) (hd : decode bytes pc = .ok (.arraylength, 1)) (hq : pc + 1 = q) (K : AtW p l e R s m args below meth c n0 Q h cells slots (mkF m q L (.int z :: S))) : AtW p l e R s m args below meth c n0 Q h cells slots (mkF m pc L (.ref a :: S)) := by
  subst hq hz
  obtain ⟨hlt, k, cl, Ar, -, hS, hM, -, -⟩ := A
  refine K.goX fun T locs k n X eT t st => X.arraylength C.1 (by rw [eT]; exact Ar.1) (State.isArrayOf_alike C.2.2.2.1.alike Ar.2.1) (g := mkF m pc L (.ref a :: S)) rfl rfl (hb C.2.1 hd) t ?_
  rw [len_of hS hM]; exact st

theorem w_iaload (C : Cx p s m meth c Z own bytes maxL ret nm) {a : Addr} {vs : List Value} {j : Int32} {i : Nat} {v : Value} (A : Ar Z h a .int vs) (hj : j = Int32.ofNat i) (hv : vs[i]? = some v) (hd : decode bytes pc = .ok (.iaload, 1)) (hq : pc + 1 = q) (K : AtW p l e R s m args below meth c n0 Q h cells slots (mkF m q L (v :: S))) : AtW p l e R s m args below meth c n0 Q h cells slots (mkF m pc L (.int j :: .ref a :: S)) := by
  subst hq hj
  obtain ⟨hlt, k, cl, Ar, -, hS, hM, H, -⟩ := A
  obtain ⟨hi, hg⟩ := List.getElem?_eq_some_iff.mp hv
  have e1 := ofNat_nat (n := i) (by omega)
  have e2 := ofNat_nat hlt
  have hin : ¬ (Int32.ofNat i < 0 ∨ cl.slots.size ≤ (Int32.ofNat i).toNatClampNeg) := by
    rw [e1, hS, e2]; exact fun q => q.elim (ofNat_neg (by omega)) (by omega)
  refine K.goX fun T locs k n X eT t st => X.iaload C.1 (j := Int32.ofNat i) (v := v) (by rw [eT]; exact Ar.1) (State.isArrayOf_alike C.2.2.2.1.alike Ar.2.1) Ar.2.2 hin (by rw [e1, H i (by rw [hS, e2]; exact hi)]; simp [List.getD, hv]) (g := mkF m pc L (.int (Int32.ofNat i) :: .ref a :: S)) rfl rfl (hb C.2.1 hd) t st
theorem w_caload (C : Cx p s m meth c Z own bytes maxL ret nm) {a : Addr} {vs : List Value} {j : Int32} {i : Nat} {v : Value} (A : Ar Z h a .char vs) (hj : j = Int32.ofNat i) (hv : vs[i]? = some v) (hd : decode bytes pc = .ok (.caload, 1)) (hq : pc + 1 = q) (K : AtW p l e R s m args below meth c n0 Q h cells slots (mkF m q L (v :: S))) : AtW p l e R s m args below meth c n0 Q h cells slots (mkF m pc L (.int j :: .ref a :: S)) := by
  subst hq hj
  obtain ⟨hlt, k, cl, Ar, -, hS, hM, H, -⟩ := A
  obtain ⟨hi, hg⟩ := List.getElem?_eq_some_iff.mp hv
  have e1 := ofNat_nat (n := i) (by omega)
  have e2 := ofNat_nat hlt
  have hin : ¬ (Int32.ofNat i < 0 ∨ cl.slots.size ≤ (Int32.ofNat i).toNatClampNeg) := by
    rw [e1, hS, e2]; exact fun q => q.elim (ofNat_neg (by omega)) (by omega)
  refine K.goX fun T locs k n X eT t st => X.caload C.1 (j := Int32.ofNat i) (v := v) (by rw [eT]; exact Ar.1) (State.isArrayOf_alike C.2.2.2.1.alike Ar.2.1) Ar.2.2 hin (by rw [e1, H i (by rw [hS, e2]; exact hi)]; simp [List.getD, hv]) (g := mkF m pc L (.int (Int32.ofNat i) :: .ref a :: S)) rfl rfl (hb C.2.1 hd) t st
theorem w_baload (C : Cx p s m meth c Z own bytes maxL ret nm) {a : Addr} {vs : List Value} {j : Int32} {i : Nat} {v : Value} (A : Ar Z h a .byte vs) (hj : j = Int32.ofNat i) (hv : vs[i]? = some v) (hd : decode bytes pc = .ok (.baload, 1)) (hq : pc + 1 = q) (K : AtW p l e R s m args below meth c n0 Q h cells slots (mkF m q L (v :: S))) : AtW p l e R s m args below meth c n0 Q h cells slots (mkF m pc L (.int j :: .ref a :: S)) := by
  subst hq hj
  obtain ⟨hlt, k, cl, Ar, -, hS, hM, H, -⟩ := A
  obtain ⟨hi, hg⟩ := List.getElem?_eq_some_iff.mp hv
  have e1 := ofNat_nat (n := i) (by omega)
  have e2 := ofNat_nat hlt
  have hin : ¬ (Int32.ofNat i < 0 ∨ cl.slots.size ≤ (Int32.ofNat i).toNatClampNeg) := by
    rw [e1, hS, e2]; exact fun q => q.elim (ofNat_neg (by omega)) (by omega)
  refine K.goX fun T locs k n X eT t st => X.baloadBytes C.1 (j := Int32.ofNat i) (v := v) (by rw [eT]; exact Ar.1) (State.isArrayOf_alike C.2.2.2.1.alike Ar.2.1) Ar.2.2 hin (by rw [e1, H i (by rw [hS, e2]; exact hi)]; simp [List.getD, hv]) (g := mkF m pc L (.int (Int32.ofNat i) :: .ref a :: S)) rfl rfl (hb C.2.1 hd) t st
theorem w_laload (C : Cx p s m meth c Z own bytes maxL ret nm) {a : Addr} {vs : List Value} {j : Int32} {i : Nat} {v : Value} (A : Ar Z h a .long vs) (hj : j = Int32.ofNat i) (hv : vs[i]? = some v) (hd : decode bytes pc = .ok (.laload, 1)) (hq : pc + 1 = q) (K : AtW p l e R s m args below meth c n0 Q h cells slots (mkF m q L (v :: S))) : AtW p l e R s m args below meth c n0 Q h cells slots (mkF m pc L (.int j :: .ref a :: S)) := by
  subst hq hj
  obtain ⟨hlt, k, cl, Ar, -, hS, hM, H, -⟩ := A
  obtain ⟨hi, hg⟩ := List.getElem?_eq_some_iff.mp hv
  have e1 := ofNat_nat (n := i) (by omega)
  have e2 := ofNat_nat hlt
  have hin : ¬ (Int32.ofNat i < 0 ∨ cl.slots.size ≤ (Int32.ofNat i).toNatClampNeg) := by
    rw [e1, hS, e2]; exact fun q => q.elim (ofNat_neg (by omega)) (by omega)
  refine K.goX fun T locs k n X eT t st => X.laload C.1 (j := Int32.ofNat i) (v := v) (by rw [eT]; exact Ar.1) (State.isArrayOf_alike C.2.2.2.1.alike Ar.2.1) Ar.2.2 hin (by rw [e1, H i (by rw [hS, e2]; exact hi)]; simp [List.getD, hv]) (g := mkF m pc L (.int (Int32.ofNat i) :: .ref a :: S)) rfl rfl (hb C.2.1 hd) t st
theorem w_aaload (C : Cx p s m meth c Z own bytes maxL ret nm) {a : Addr} {ty : FieldType} {vs : List Value} {j : Int32} {i : Nat} {v : Value} (A : Ar Z h a ty vs) (hj : j = Int32.ofNat i) (hv : vs[i]? = some v) (hr : ty.isReference = true) (hd : decode bytes pc = .ok (.aaload, 1)) (hq : pc + 1 = q) (K : AtW p l e R s m args below meth c n0 Q h cells slots (mkF m q L (v :: S))) : AtW p l e R s m args below meth c n0 Q h cells slots (mkF m pc L (.int j :: .ref a :: S)) := by
  subst hq hj
  obtain ⟨hlt, k, cl, Ar, -, hS, hM, H, -⟩ := A
  obtain ⟨hi, hg⟩ := List.getElem?_eq_some_iff.mp hv
  have e1 := ofNat_nat (n := i) (by omega)
  have e2 := ofNat_nat hlt
  have hin : ¬ (Int32.ofNat i < 0 ∨ cl.slots.size ≤ (Int32.ofNat i).toNatClampNeg) := by
    rw [e1, hS, e2]; exact fun q => q.elim (ofNat_neg (by omega)) (by omega)
  refine K.goX fun T locs k n X eT t st => X.aaload C.1 (j := Int32.ofNat i) (v := v) (by rw [eT]; exact Ar.1) (State.isArrayOf_alike C.2.2.2.1.alike Ar.2.1) hr Ar.2.2 hin (by rw [e1, H i (by rw [hS, e2]; exact hi)]; simp [List.getD, hv]) (g := mkF m pc L (.int (Int32.ofNat i) :: .ref a :: S)) rfl rfl (hb C.2.1 hd) t st
theorem w_iastore (C : Cx p s m meth c Z own bytes maxL ret nm) {a : Addr} {vs : List Value} {j : Int32} {i : Nat} {x : Int32} (A : Ar Z h a .int vs) (hj : j = Int32.ofNat i) (hi : i < vs.length) (hge : n0 ≤ a) (hd : decode bytes pc = .ok (.iastore, 1)) (hq : pc + 1 = q)
    (K : ∀ h', Wr h h' a i (.int x) → Ar Z h' a .int (vs.set i (.int x)) → AtW p l e R s m args below meth c n0 Q h' cells slots (mkF m q L S)) : AtW p l e R s m args below meth c n0 Q h cells slots (mkF m pc L (.int x :: .int j :: .ref a :: S)) := by
  subst hq hj
  intro T locs k n' X hk hn' eT N
  obtain ⟨hlt, k', cl, Ar, q1, hS, hM, H, G⟩ := A
  have e1 := ofNat_nat (n := i) (by omega)
  have e2 := ofNat_nat hlt
  have hin : ¬ (Int32.ofNat i < 0 ∨ cl.slots.size ≤ (Int32.ofNat i).toNatClampNeg) := by
    rw [e1, hS, e2]; exact fun q => q.elim (ofNat_neg (by omega)) (by omega)
  obtain ⟨T', h', X', e', W, st⟩ := stI X C.1 C.2.2.2.1 eT Ar (j := Int32.ofNat i) (x := x) hin (g := mkF m pc L (.int x :: .int (Int32.ofNat i) :: .ref a :: S)) rfl rfl (hb C.2.1 hd)
  have V := Arv.set Ar q1 hS hM H G (rfl) W i e1 hi
  obtain ⟨t, o, r1, r⟩ := K h' (by rw [e1] at W; exact W) ⟨by simpa using hlt, k', by rw [List.length_set]; exact V⟩ T' _ k n' X' hk hn' e' (Fr.snoc X' N hge)
  exact ⟨t, o, st _ r1, r⟩
theorem w_castore (C : Cx p s m meth c Z own bytes maxL ret nm) {a : Addr} {vs : List Value} {j : Int32} {i : Nat} {x : Int32} {z : Int32} (hz : nar .char x = z) (A : Ar Z h a .char vs) (hj : j = Int32.ofNat i) (hi : i < vs.length) (hge : n0 ≤ a) (hd : decode bytes pc = .ok (.castore, 1)) (hq : pc + 1 = q)
    (K : ∀ h', Wr h h' a i (.int z) → Ar Z h' a .char (vs.set i (.int z)) → AtW p l e R s m args below meth c n0 Q h' cells slots (mkF m q L S)) : AtW p l e R s m args below meth c n0 Q h cells slots (mkF m pc L (.int x :: .int j :: .ref a :: S)) := by
  subst hq hj hz
  intro T locs k n' X hk hn' eT N
  obtain ⟨hlt, k', cl, Ar, q1, hS, hM, H, G⟩ := A
  have e1 := ofNat_nat (n := i) (by omega)
  have e2 := ofNat_nat hlt
  have hin : ¬ (Int32.ofNat i < 0 ∨ cl.slots.size ≤ (Int32.ofNat i).toNatClampNeg) := by
    rw [e1, hS, e2]; exact fun q => q.elim (ofNat_neg (by omega)) (by omega)
  obtain ⟨T', h', X', e', W, st⟩ := stC X C.1 C.2.2.2.1 eT Ar (j := Int32.ofNat i) (x := x) hin (g := mkF m pc L (.int x :: .int (Int32.ofNat i) :: .ref a :: S)) rfl rfl (hb C.2.1 hd)
  have V := Arv.set Ar q1 hS hM H G (fits_nar_char _) W i e1 hi
  obtain ⟨t, o, r1, r⟩ := K h' (by rw [e1] at W; exact W) ⟨by simpa using hlt, k', by rw [List.length_set]; exact V⟩ T' _ k n' X' hk hn' e' (Fr.snoc X' N hge)
  exact ⟨t, o, st _ r1, r⟩
theorem w_bastore (C : Cx p s m meth c Z own bytes maxL ret nm) {a : Addr} {vs : List Value} {j : Int32} {i : Nat} {x : Int32} {z : Int32} (hz : nar .byte x = z) (A : Ar Z h a .byte vs) (hj : j = Int32.ofNat i) (hi : i < vs.length) (hge : n0 ≤ a) (hd : decode bytes pc = .ok (.bastore, 1)) (hq : pc + 1 = q)
    (K : ∀ h', Wr h h' a i (.int z) → Ar Z h' a .byte (vs.set i (.int z)) → AtW p l e R s m args below meth c n0 Q h' cells slots (mkF m q L S)) : AtW p l e R s m args below meth c n0 Q h cells slots (mkF m pc L (.int x :: .int j :: .ref a :: S)) := by
  subst hq hj hz
  intro T locs k n' X hk hn' eT N
  obtain ⟨hlt, k', cl, Ar, q1, hS, hM, H, G⟩ := A
  have e1 := ofNat_nat (n := i) (by omega)
  have e2 := ofNat_nat hlt
  have hin : ¬ (Int32.ofNat i < 0 ∨ cl.slots.size ≤ (Int32.ofNat i).toNatClampNeg) := by
    rw [e1, hS, e2]; exact fun q => q.elim (ofNat_neg (by omega)) (by omega)
  obtain ⟨T', h', X', e', W, st⟩ := stB X C.1 C.2.2.2.1 eT Ar (j := Int32.ofNat i) (x := x) hin (g := mkF m pc L (.int x :: .int (Int32.ofNat i) :: .ref a :: S)) rfl rfl (hb C.2.1 hd)
  have V := Arv.set Ar q1 hS hM H G (fits_nar_byte _) W i e1 hi
  obtain ⟨t, o, r1, r⟩ := K h' (by rw [e1] at W; exact W) ⟨by simpa using hlt, k', by rw [List.length_set]; exact V⟩ T' _ k n' X' hk hn' e' (Fr.snoc X' N hge)
  exact ⟨t, o, st _ r1, r⟩
theorem w_lastore (C : Cx p s m meth c Z own bytes maxL ret nm) {a : Addr} {vs : List Value} {j : Int32} {i : Nat} {x : Int64} (A : Ar Z h a .long vs) (hj : j = Int32.ofNat i) (hi : i < vs.length) (hge : n0 ≤ a) (hd : decode bytes pc = .ok (.lastore, 1)) (hq : pc + 1 = q)
    (K : ∀ h', Wr h h' a i (.long x) → Ar Z h' a .long (vs.set i (.long x)) → AtW p l e R s m args below meth c n0 Q h' cells slots (mkF m q L S)) : AtW p l e R s m args below meth c n0 Q h cells slots (mkF m pc L (.long x :: .int j :: .ref a :: S)) := by
  subst hq hj
  intro T locs k n' X hk hn' eT N
  obtain ⟨hlt, k', cl, Ar, q1, hS, hM, H, G⟩ := A
  have e1 := ofNat_nat (n := i) (by omega)
  have e2 := ofNat_nat hlt
  have hin : ¬ (Int32.ofNat i < 0 ∨ cl.slots.size ≤ (Int32.ofNat i).toNatClampNeg) := by
    rw [e1, hS, e2]; exact fun q => q.elim (ofNat_neg (by omega)) (by omega)
  obtain ⟨T', h', X', e', W, st⟩ := stJ X C.1 C.2.2.2.1 eT Ar (j := Int32.ofNat i) (x := x) hin (g := mkF m pc L (.long x :: .int (Int32.ofNat i) :: .ref a :: S)) rfl rfl (hb C.2.1 hd)
  have V := Arv.set Ar q1 hS hM H G (rfl) W i e1 hi
  obtain ⟨t, o, r1, r⟩ := K h' (by rw [e1] at W; exact W) ⟨by simpa using hlt, k', by rw [List.length_set]; exact V⟩ T' _ k n' X' hk hn' e' (Fr.snoc X' N hge)
  exact ⟨t, o, st _ r1, r⟩
theorem w_retZ (C : Cx p s m meth c Z own bytes maxL ret nm) {t : FieldType} {x z : Int32} (hret : ret = some t) (ht : t = .boolean ∨ t = .byte ∨ t = .char ∨ t = .short) (hz : nar t x = z) (hd : decode bytes pc = .ok (.ireturn, 1)) (hc : cells ≤ R.cells) (hs : slots ≤ R.slots) (hQ : Q (some (.int z)) h) : AtW p l e R s m args below meth c n0 Q h cells slots (mkF m pc L (.int x :: S)) := by
  subst hz
  intro T locs k n X hk hn eT N
  obtain ⟨fs, hr, hrun, hended, hW, hsame⟩ := X.leave (v := some (.int (nar t x))) (fun h => by rw [C.2.2.2.2.2.1, hret] at h; cases h) C.2.2.2.2.2.2.1
  refine ⟨_, _, retN X C.1 (t := t) (C.2.2.2.2.2.1.trans hret) ht (hb C.2.1 hd) hr, hrun, hended, _, _, rfl, ⟨N, ?_⟩, ⟨_, rfl⟩, hW, hsame.mono (Nat.le_trans hk hc) (Nat.le_trans hn hs)⟩
  show Q _ T.heap
  rw [eT]; exact hQ
theorem w_ret (C : Cx p s m meth c Z own bytes maxL ret nm) {t : FieldType} {v : Value} {i : Instr} (hret : ret = some t) (hn' : narrow t v = v)
    (hi : (i = .ireturn ∧ (t = .int ∨ t = .boolean ∨ t = .byte ∨ t = .char ∨ t = .short) ∧ ∃ z, v = .int z) ∨ (i = .lreturn ∧ t = .long ∧ ∃ z, v = .long z) ∨ (i = .dreturn ∧ t = .double ∧ ∃ z, v = .double z) ∨ (i = .freturn ∧ t = .float ∧ ∃ z, v = .float z) ∨ (i = .areturn ∧ t.isReference = true ∧ v.isRef = true))
    (hd : decode bytes pc = .ok (i, 1)) (hc : cells ≤ R.cells) (hs : slots ≤ R.slots) (hQ : Q (some v) h) : AtW p l e R s m args below meth c n0 Q h cells slots (mkF m pc L (v :: S)) := by
  intro T locs k n X hk hn eT N
  obtain ⟨fs, hr, hrun, hended, hW, hsame⟩ := X.leave (v := some v) (fun h => by rw [C.2.2.2.2.2.1, hret] at h; cases h) C.2.2.2.2.2.2.1
  refine ⟨_, _, retOut X C.1 (t := t) (C.2.2.2.2.2.1.trans hret) hn' hi (hb C.2.1 hd) hr, hrun, hended, _, _, rfl, ⟨N, ?_⟩, ⟨_, rfl⟩, hW, hsame.mono (Nat.le_trans hk hc) (Nat.le_trans hn hs)⟩
  show Q _ T.heap
  rw [eT]; exact hQ
theorem w_retI (C : Cx p s m meth c Z own bytes maxL ret nm) {x : Int32} (hret : ret = some .int) (hd : decode bytes pc = .ok (.ireturn, 1)) (hc : cells ≤ R.cells) (hs : slots ≤ R.slots) (hQ : Q (some (.int x)) h) : AtW p l e R s m args below meth c n0 Q h cells slots (mkF m pc L (.int x :: S)) :=
  w_ret C hret rfl (Or.inl ⟨rfl, Or.inl rfl, _, rfl⟩) hd hc hs hQ
theorem w_retJ (C : Cx p s m meth c Z own bytes maxL ret nm) {x : Int64} (hret : ret = some .long) (hd : decode bytes pc = .ok (.lreturn, 1)) (hc : cells ≤ R.cells) (hs : slots ≤ R.slots) (hQ : Q (some (.long x)) h) : AtW p l e R s m args below meth c n0 Q h cells slots (mkF m pc L (.long x :: S)) :=
  w_ret C hret rfl (Or.inr (Or.inl ⟨rfl, rfl, _, rfl⟩)) hd hc hs hQ
theorem w_retA (C : Cx p s m meth c Z own bytes maxL ret nm) {t : FieldType} {v : Value} (hret : ret = some t) (ht : t.isReference = true) (hv : v.isRef = true) (hd : decode bytes pc = .ok (.areturn, 1)) (hc : cells ≤ R.cells) (hs : slots ≤ R.slots) (hQ : Q (some v) h) : AtW p l e R s m args below meth c n0 Q h cells slots (mkF m pc L (v :: S)) :=
  w_ret C hret (by rcases ref_cases hv with rfl | ⟨a, rfl⟩ <;> cases t <;> first | rfl | cases ht) (Or.inr (Or.inr (Or.inr (Or.inr ⟨rfl, ht, hv⟩)))) hd hc hs hQ
theorem w_retV (C : Cx p s m meth c Z own bytes maxL ret nm) (hret : ret = none) (hd : decode bytes pc = .ok (.return_, 1)) (hc : cells ≤ R.cells) (hs : slots ≤ R.slots) (hQ : Q none h) : AtW p l e R s m args below meth c n0 Q h cells slots (mkF m pc L []) := by
  intro T locs k n X hk hn eT N
  obtain ⟨fs, hr, hrun, hended, hW, hsame⟩ := X.leave (v := none) (fun _ => rfl) C.2.2.2.2.2.2.1
  refine ⟨_, _, X.returnOut C.1 (C.2.2.2.2.2.1.trans hret) (hb C.2.1 hd) hr, hrun, hended, _, _, rfl, ⟨N, ?_⟩, ⟨_, rfl⟩, hW, hsame.mono (Nat.le_trans hk hc) (Nat.le_trans hn hs)⟩
  show Q _ T.heap
  rw [eT]; exact hQ

theorem w_callS (C : Cx p s m meth c Z own bytes maxL ret nm) {y : MethodName} {i : Nat} {argsL : List Value} {bytesY : ByteArray} {maxY : Nat} {retY : Option FieldType} {rm : Room} {Qy : Option Value → Heap → Prop} (w1 : (Jvm.Cond.methodLink own i y).before a0 Z = true) (w2 : (Jvm.Cond.static y).before a0 Z = true) (wz : (Jvm.Cond.initialized y.cls).before a0 Z = true) (wc : (Jvm.Cond.code y bytesY maxY retY).before a0 Z = true)
    (hy : y.cls ≠ "java/lang/invoke/MethodHandle" ∧ y.cls ≠ "java/lang/invoke/VarHandle") (ct : Ct [] l Z n0 y bytesY maxY retY rm argsL.toArray h Qy) {S' : List Value} (hS : S' = argsL.reverse ++ S) (hlen : ∀ sig, parseMethodDescriptor y.desc = some sig → argsL.length = sig.parameters.length) (hL : L.size = maxL) (hf : rm.frames + 1 ≤ R.frames) {W : Nat} (hW : (S.map fun v => v.category).sum ≤ W) (hlo : W + (maxY + 11) + rm.locals ≤ R.locals) {cells' slots' : Nat} (hc1 : cells + rm.cells = cells') (hs1 : slots + rm.slots = slots') (hc : cells' ≤ R.cells) (hl : slots' ≤ R.slots)
    (hd : decode bytes pc = .ok (.invokestatic i, 3)) (hq : pc + 3 = q) (K : ∀ v h', Qy v h' → AtW p l e R s m args below meth c n0 Q h' cells' slots' (mkF m q L (v.toList ++ S))) : AtW p l e R s m args below meth c n0 Q h cells slots (mkF m pc L S') := by
  subst hq hc1 hs1
  intro T locs k n' X hk hn' eT N
  obtain ⟨v, _, ⟨T', L', k', n''⟩, -, X', ⟨Lc, hQ, hl', hc', hs'⟩, st⟩ := Jvm.LawKit.callS X C.1 (y := y) C.2.2.2.2.1 (mvT C.2.2.2.1 w1) (mvT C.2.2.2.1 w2) (mvT C.2.2.2.1 wz) (mvT C.2.2.2.1 wc) hy (backOf (W := W) (Q := fun v h L => Fr n0 L ∧ Qy v h) ct C.2.2.2.1 wc wz hf hlo) (g := mkF m pc L S') rfl (hL.trans C.2.2.1.symm) (argsL := argsL) (rest := S) hlen hS (by show 2 * 0 + _ ≤ _; omega) (hb C.2.1 hd) (fun _ _ => ⟨rfl, eT, (by show k + _ ≤ _; omega), (by show n' + _ ≤ _; omega)⟩)
  dsimp only [Pt.U, Pt.locs, Pt.cells, Pt.slots] at X' hl' hc' hs' st hQ
  subst hl' hc' hs'
  obtain ⟨t, o, r1, r⟩ := K v T'.heap hQ.2 T' _ _ _ X' (by omega) (by omega) rfl (Fr.app N hQ.1)
  exact ⟨t, o, st _ r1, r⟩
theorem w_callI (C : Cx p s m meth c Z own bytes maxL ret nm) {y : MethodName} {i : Nat} {a : Addr} {argsL : List Value} {bytesY : ByteArray} {maxY : Nat} {rm : Room} {Qy : Option Value → Heap → Prop} (hnm : y.name = "<init>") (w1 : (Jvm.Cond.methodLink own i y).before a0 Z = true) (w2 : (Jvm.Cond.instanceMethod y).before a0 Z = true) (wz : (Jvm.Cond.initialized y.cls).before a0 Z = true) (wc : (Jvm.Cond.code y bytesY maxY none).before a0 Z = true)
    (hy : y.cls ≠ "java/lang/invoke/MethodHandle" ∧ y.cls ≠ "java/lang/invoke/VarHandle") (ct : Ct [] l Z n0 y bytesY maxY none rm (.ref a :: argsL).toArray h Qy) {S' : List Value} (hS : S' = argsL.reverse ++ .ref a :: S) (hlen : ∀ sig, parseMethodDescriptor y.desc = some sig → argsL.length = sig.parameters.length) (hL : L.size = maxL) (hf : rm.frames + 1 ≤ R.frames) {W : Nat} (hW : (S.map fun v => v.category).sum ≤ W) (hlo : W + (maxY + 11) + rm.locals ≤ R.locals) {cells' slots' : Nat} (hc1 : cells + rm.cells = cells') (hs1 : slots + rm.slots = slots') (hc : cells' ≤ R.cells) (hl : slots' ≤ R.slots)
    (hd : decode bytes pc = .ok (.invokespecial i, 3)) (hq : pc + 3 = q) (K : ∀ v h', Qy v h' → AtW p l e R s m args below meth c n0 Q h' cells' slots' (mkF m q L (v.toList ++ S))) : AtW p l e R s m args below meth c n0 Q h cells slots (mkF m pc L S') := by
  subst hq hc1 hs1
  intro T locs k n' X hk hn' eT N
  obtain ⟨v, _, ⟨T', L', k', n''⟩, -, X', ⟨Lc, hQ, hl', hc', hs'⟩, st⟩ := X.specialBack C.1 (y := y) hnm C.2.2.2.2.1 (mvT C.2.2.2.1 w1) (mvT C.2.2.2.1 w2) (mvT C.2.2.2.1 wc) hy (backOf (W := W) (Q := fun v h L => Fr n0 L ∧ Qy v h) ct C.2.2.2.1 wc wz hf hlo) (g := mkF m pc L S') rfl (hL.trans C.2.2.1.symm) (Steps.refl _) (a := a) (argsL := argsL) (rest := S) hlen hS (by show 2 * 0 + _ ≤ _; omega) (hb C.2.1 hd) (fun _ _ => ⟨rfl, eT, (by show k + _ ≤ _; omega), (by show n' + _ ≤ _; omega)⟩)
  dsimp only [Pt.U, Pt.locs, Pt.cells, Pt.slots] at X' hl' hc' hs' st hQ
  subst hl' hc' hs'
  obtain ⟨t, o, r1, r⟩ := K v T'.heap hQ.2 T' _ _ _ X' (by omega) (by omega) rfl (Fr.app N hQ.1)
  exact ⟨t, o, st.trans r1, r⟩
theorem w_callV (C : Cx p s m meth c Z own bytes maxL ret nm) {y z : MethodName} {Cl : String} {i : Nat} {a : Addr} {argsL : List Value} {bytesY : ByteArray} {maxY : Nat} {retY : Option FieldType} {rm : Room} {Qy : Option Value → Heap → Prop} (E : Exa Z h a Cl) (w1 : (Jvm.Cond.methodLink own i y).before a0 Z = true) (w2 : (Jvm.Cond.declares y).before a0 Z = true) (hnf : NotFace s y) (w3 : (Jvm.Cond.selects Cl y z).before a0 Z = true) (w4 : (Jvm.Cond.instanceMethod z).before a0 Z = true) (wz : (Jvm.Cond.initialized z.cls).before a0 Z = true) (wc : (Jvm.Cond.code z bytesY maxY retY).before a0 Z = true)
    (hy : y.cls ≠ "java/lang/invoke/MethodHandle" ∧ y.cls ≠ "java/lang/invoke/VarHandle") (ct : Ct [] l Z n0 z bytesY maxY retY rm (.ref a :: argsL).toArray h Qy) {S' : List Value} (hS : S' = argsL.reverse ++ .ref a :: S) (hlen : ∀ sig, parseMethodDescriptor y.desc = some sig → argsL.length = sig.parameters.length) (hL : L.size = maxL) (hf : rm.frames + 1 ≤ R.frames) {W : Nat} (hW : (S.map fun v => v.category).sum ≤ W) (hlo : W + (maxY + 11) + rm.locals ≤ R.locals) {cells' slots' : Nat} (hc1 : cells + rm.cells = cells') (hs1 : slots + rm.slots = slots') (hc : cells' ≤ R.cells) (hl : slots' ≤ R.slots)
    (hd : decode bytes pc = .ok (.invokevirtual i, 3)) (hq : pc + 3 = q) (K : ∀ v h', Qy v h' → AtW p l e R s m args below meth c n0 Q h' cells' slots' (mkF m q L (v.toList ++ S))) : AtW p l e R s m args below meth c n0 Q h cells slots (mkF m pc L S') := by
  subst hq hc1 hs1
  intro T locs k n' X hk hn' eT N
  obtain ⟨cB, kB, q1, q2, q3⟩ := isOf C.2.2.2.1 eT E
  obtain ⟨v, _, ⟨T', L', k', n''⟩, -, X', ⟨Lc, hQ, hl', hc', hs'⟩, st⟩ := X.virtualBack C.1 (y := y) (z := z) C.2.2.2.2.1 (mvT C.2.2.2.1 w1) (mvT C.2.2.2.1 w2) hnf (mvT C.2.2.2.1 w3) (mvT C.2.2.2.1 w4) hy (backOf (W := W) (Q := fun v h L => Fr n0 L ∧ Qy v h) ct C.2.2.2.1 wc wz hf hlo) q1 q3 (g := mkF m pc L S') rfl (hL.trans C.2.2.1.symm) (Steps.refl _) (argsL := argsL) (rest := S) hlen hS (by show 2 * 0 + _ ≤ _; omega) (hb C.2.1 hd) (fun _ _ => ⟨rfl, eT, (by show k + _ ≤ _; omega), (by show n' + _ ≤ _; omega)⟩)
  dsimp only [Pt.U, Pt.locs, Pt.cells, Pt.slots] at X' hl' hc' hs' st hQ
  subst hl' hc' hs'
  obtain ⟨t, o, r1, r⟩ := K v T'.heap hQ.2 T' _ _ _ X' (by omega) (by omega) rfl (Fr.app N hQ.1)
  exact ⟨t, o, st.trans r1, r⟩
theorem w_nf (C : Cx p s m meth c Z own bytes maxL ret nm) {y : MethodName} {Cl : String} (w3 : (Jvm.Cond.selects Cl y y).before a0 Z = true) : NotFace s y := notFace_of_selects (args := #[]) (mvT C.2.2.2.1 w3)
theorem w_callP (C : Cx p s m meth c Z own bytes maxL ret nm) {y : MethodName} {Cl : String} {i : Nat} {a : Addr} {argsL : List Value} {bytesY : ByteArray} {maxY : Nat} {retY : Option FieldType} {rm : Room} {Qy : Option Value → Heap → Prop} (E : Exa Z h a Cl) (w1 : (Jvm.Cond.methodLink own i y).before a0 Z = true) (w4 : (Jvm.Cond.instanceMethod y).before a0 Z = true) (hni : NI s y.cls) (w5 : (Jvm.Cond.privateMethod y).before a0 Z = true) (wz : (Jvm.Cond.initialized y.cls).before a0 Z = true) (wc : (Jvm.Cond.code y bytesY maxY retY).before a0 Z = true)
    (hy : y.cls ≠ "java/lang/invoke/MethodHandle" ∧ y.cls ≠ "java/lang/invoke/VarHandle") (ct : Ct [] l Z n0 y bytesY maxY retY rm (.ref a :: argsL).toArray h Qy) {S' : List Value} (hS : S' = argsL.reverse ++ .ref a :: S) (hlen : ∀ sig, parseMethodDescriptor y.desc = some sig → argsL.length = sig.parameters.length) (hL : L.size = maxL) (hf : rm.frames + 1 ≤ R.frames) {W : Nat} (hW : (S.map fun v => v.category).sum ≤ W) (hlo : W + (maxY + 11) + rm.locals ≤ R.locals) {cells' slots' : Nat} (hc1 : cells + rm.cells = cells') (hs1 : slots + rm.slots = slots') (hc : cells' ≤ R.cells) (hl : slots' ≤ R.slots)
    (hd : decode bytes pc = .ok (.invokevirtual i, 3)) (hq : pc + 3 = q) (K : ∀ v h', Qy v h' → AtW p l e R s m args below meth c n0 Q h' cells' slots' (mkF m q L (v.toList ++ S))) : AtW p l e R s m args below meth c n0 Q h cells slots (mkF m pc L S') := by
  subst hq hc1 hs1
  intro T locs k n' X hk hn' eT N
  obtain ⟨cq, q1, q2⟩ := E.cell
  obtain ⟨cN, kN, n1, n2, n3⟩ := hni
  have hpv := Cond.privateMethod_at (mvP C.2.2.2.1 w5 (args := #[]))
  obtain ⟨v, _, ⟨T', L', k', n''⟩, -, X', ⟨Lc, hQ, hl', hc', hs'⟩, st⟩ := X.privateBack C.1 (y := y) C.2.2.2.2.1 (mvT C.2.2.2.1 w1) (mvT C.2.2.2.1 w4) (selects_self_of_private n1 n2 n3 hpv (mvT C.2.2.2.1 w4) hy) hpv (mvT C.2.2.2.1 wc) hy (backOf (W := W) (Q := fun v h L => Fr n0 L ∧ Qy v h) ct C.2.2.2.1 wc wz hf hlo) (g := mkF m pc L S') rfl (hL.trans C.2.2.1.symm) (Steps.refl _) (a := a) (by rw [eT]; exact q1) q2 (argsL := argsL) (rest := S) hlen hS (by show 2 * 0 + _ ≤ _; omega) (hb C.2.1 hd) (fun _ _ => ⟨rfl, eT, (by show k + _ ≤ _; omega), (by show n' + _ ≤ _; omega)⟩)
  dsimp only [Pt.U, Pt.locs, Pt.cells, Pt.slots] at X' hl' hc' hs' st hQ
  subst hl' hc' hs'
  obtain ⟨t, o, r1, r⟩ := K v T'.heap hQ.2 T' _ _ _ X' (by omega) (by omega) rfl (Fr.app N hQ.1)
  exact ⟨t, o, st.trans r1, r⟩
theorem w_callB (C : Cx p s m meth c Z own bytes maxL ret nm) {y : MethodName} {i : Nat} {a : Addr} {argsL : List Value} {bytesY : ByteArray} {maxY : Nat} {W : Nat} {dc ds : Nat} {P : Pt → Array Value → Prop} {Qy : Option Value → Heap → List Loc → Prop} (hnm : y.name = "<init>") (w1 : (Jvm.Cond.methodLink own i y).before a0 Z = true) (w2 : (Jvm.Cond.instanceMethod y).before a0 Z = true) (wc : (Jvm.Cond.code y bytesY maxY none).before a0 Z = true)
    (hy : y.cls ≠ "java/lang/invoke/MethodHandle" ∧ y.cls ≠ "java/lang/invoke/VarHandle") (bk : Back l R p e below s args y 3 W (fun A a' => a' = (Value.ref a :: argsL).toArray ∧ A.U.heap = h ∧ A.cells + dc ≤ R.cells ∧ A.slots + ds ≤ R.slots) (fun A _ v B => ∃ L, Qy v B.U.heap L ∧ B.locs = A.locs ++ L ∧ B.cells = A.cells + dc ∧ B.slots = A.slots + ds))
    {S' : List Value} (hS : S' = argsL.reverse ++ .ref a :: S) (hlen : ∀ sig, parseMethodDescriptor y.desc = some sig → argsL.length = sig.parameters.length) (hL : L.size = maxL) (hW : (S.map fun v => v.category).sum ≤ W) {cells' slots' : Nat} (hc1 : cells + dc = cells') (hs1 : slots + ds = slots') (hc : cells' ≤ R.cells) (hl : slots' ≤ R.slots)
    (hd : decode bytes pc = .ok (.invokespecial i, 3)) (hq : pc + 3 = q) (K : ∀ v h' Lc, Qy v h' Lc → Fr n0 Lc ∧ AtW p l e R s m args below meth c n0 Q h' cells' slots' (mkF m q L (v.toList ++ S))) : AtW p l e R s m args below meth c n0 Q h cells slots (mkF m pc L S') := by
  subst hq hc1 hs1
  intro T locs k n' X hk hn' eT N
  obtain ⟨v, _, ⟨T', L', k', n''⟩, -, X', ⟨Lc, hQ, hl', hc', hs'⟩, st⟩ := X.specialBack C.1 (y := y) hnm C.2.2.2.2.1 (mvT C.2.2.2.1 w1) (mvT C.2.2.2.1 w2) (mvT C.2.2.2.1 wc) hy bk (g := mkF m pc L S') rfl (hL.trans C.2.2.1.symm) (Steps.refl _) (a := a) (argsL := argsL) (rest := S) hlen hS (by show 2 * 0 + _ ≤ _; omega) (hb C.2.1 hd) (fun _ _ => ⟨rfl, eT, (by show k + _ ≤ _; omega), (by show n' + _ ≤ _; omega)⟩)
  dsimp only [Pt.U, Pt.locs, Pt.cells, Pt.slots] at X' hl' hc' hs' st hQ
  subst hl' hc' hs'
  obtain ⟨N2, K2⟩ := K v T'.heap Lc hQ
  obtain ⟨t, o, r1, r⟩ := K2 T' _ _ _ X' (by omega) (by omega) rfl (Fr.app N N2)
  exact ⟨t, o, st.trans r1, r⟩

end Wk
-- CUT
def Gl (Z : State) (a0 : Array Value) (n0 : Nat) : Prop := (∀ d ∈ tables_1, d.before a0 Z = true) ∧ True
theorem pd_1 : parseMethodDescriptor "(II)I" = some ⟨[.int, .int], some .int⟩ := by decide +kernel
theorem pd_2 : parseMethodDescriptor "([II)I" = some ⟨[(.array .int), .int], some .int⟩ := by decide +kernel
theorem pd_3 : parseMethodDescriptor "([IIII)I" = some ⟨[(.array .int), .int, .int, .int], some .int⟩ := by decide +kernel
theorem d1_0 : decode jdk_29_method_69_code 0 = .ok (.iload_n 0, 1) := by decide +kernel
theorem d1_1 : decode jdk_29_method_69_code 1 = .ok (.iload_n 1, 1) := by decide +kernel
theorem d1_2 : decode jdk_29_method_69_code 2 = .ok (.if_icmp .gt 7, 3) := by decide +kernel
theorem d1_5 : decode jdk_29_method_69_code 5 = .ok (.iload_n 0, 1) := by decide +kernel
theorem d1_6 : decode jdk_29_method_69_code 6 = .ok (.goto 4, 3) := by decide +kernel
theorem d1_9 : decode jdk_29_method_69_code 9 = .ok (.iload_n 1, 1) := by decide +kernel
theorem d1_10 : decode jdk_29_method_69_code 10 = .ok (.ireturn, 1) := by decide +kernel
theorem pf1 : plainFor (⟨"java/lang/Math", "min", "(II)I"⟩ : MethodName) = true := by first | exact plainFor_of_name (by first | (simp [plainName, overriddenIn]; done) | decide +kernel) | decide +kernel
theorem ef_min (m : MethodId) (z0 : Int32) (z1 : Int32) : entryFrame m #[(.int z0), (.int z1)] 2 = mkF m 0 #[.val (.int z0), .val (.int z1)] [] := by first | rfl | (simp [entryFrame, mkF, argsToLocals, Value.category, *]; done) | rfl
set_option maxRecDepth 65536 in
set_option maxHeartbeats 40000000 in
theorem rm_min {l : Launch} {Z : State} {a0 : Array Value} {n0 : Nat} (G : Gl Z a0 n0) {h0 : Heap} (O : Old Z n0 h0) (x : Int32) (y : Int32) :
    Ct [] l Z n0 (⟨"java/lang/Math", "min", "(II)I"⟩ : MethodName) jdk_29_method_69_code 2 (some .int) ({ frames := 0, cells := 0, slots := 0, locals := 0 } : Room) #[(.int x), (.int y)] h0 (fun v h => h = h0 ∧ v = some (.int (if y < x then y else x))) := by
  refine Ct.intro pf1 ?_
  intro p e s m below meth c C
  refine AtW.cast ?_ (ef_min m x y)
  refine w_iloadN (q := 1) C rfl d1_0 rfl ?_
  refine w_iloadN (q := 2) C rfl d1_1 rfl ?_
  by_cases hc : y < x
  · refine w_icmp_gt_t (q := 9) C d1_2 (by decide) (by decide) hc ?_
    refine w_iloadN (q := 10) C rfl d1_9 rfl ?_
    exact w_retI C rfl d1_10 (by decide) (by decide) ⟨rfl, by rw [if_pos hc]⟩
  · refine w_icmp_gt_f (q := 5) C d1_2 rfl hc ?_
    refine w_iloadN (q := 6) C rfl d1_5 rfl ?_
    refine w_goto (q := 10) C d1_6 (by decide) (by decide) ?_
    exact w_retI C rfl d1_10 (by decide) (by decide) ⟨rfl, by rw [if_neg hc]⟩
theorem d2_0 : decode jdk_29_method_65_code 0 = .ok (.iload_n 0, 1) := by decide +kernel
theorem d2_1 : decode jdk_29_method_65_code 1 = .ok (.iload_n 1, 1) := by decide +kernel
theorem d2_2 : decode jdk_29_method_65_code 2 = .ok (.if_icmp .lt 7, 3) := by decide +kernel
theorem d2_5 : decode jdk_29_method_65_code 5 = .ok (.iload_n 0, 1) := by decide +kernel
theorem d2_6 : decode jdk_29_method_65_code 6 = .ok (.goto 4, 3) := by decide +kernel
theorem d2_9 : decode jdk_29_method_65_code 9 = .ok (.iload_n 1, 1) := by decide +kernel
theorem d2_10 : decode jdk_29_method_65_code 10 = .ok (.ireturn, 1) := by decide +kernel
theorem pf2 : plainFor (⟨"java/lang/Math", "max", "(II)I"⟩ : MethodName) = true := by first | exact plainFor_of_name (by first | (simp [plainName, overriddenIn]; done) | decide +kernel) | decide +kernel
theorem ef_max (m : MethodId) (z0 : Int32) (z1 : Int32) : entryFrame m #[(.int z0), (.int z1)] 2 = mkF m 0 #[.val (.int z0), .val (.int z1)] [] := by first | rfl | (simp [entryFrame, mkF, argsToLocals, Value.category, *]; done) | rfl
set_option maxRecDepth 65536 in
set_option maxHeartbeats 40000000 in
theorem rm_max {l : Launch} {Z : State} {a0 : Array Value} {n0 : Nat} (G : Gl Z a0 n0) {h0 : Heap} (O : Old Z n0 h0) (x : Int32) (y : Int32) :
    Ct [] l Z n0 (⟨"java/lang/Math", "max", "(II)I"⟩ : MethodName) jdk_29_method_65_code 2 (some .int) ({ frames := 0, cells := 0, slots := 0, locals := 0 } : Room) #[(.int x), (.int y)] h0 (fun v h => h = h0 ∧ v = some (.int (if x < y then y else x))) := by
  refine Ct.intro pf2 ?_
  intro p e s m below meth c C
  refine AtW.cast ?_ (ef_max m x y)
  refine w_iloadN (q := 1) C rfl d2_0 rfl ?_
  refine w_iloadN (q := 2) C rfl d2_1 rfl ?_
  by_cases hc : x < y
  · refine w_icmp_lt_t (q := 9) C d2_2 (by decide) (by decide) hc ?_
    refine w_iloadN (q := 10) C rfl d2_9 rfl ?_
    exact w_retI C rfl d2_10 (by decide) (by decide) ⟨rfl, by rw [if_pos hc]⟩
  · refine w_icmp_lt_f (q := 5) C d2_2 rfl hc ?_
    refine w_iloadN (q := 6) C rfl d2_5 rfl ?_
    refine w_goto (q := 10) C d2_6 (by decide) (by decide) ?_
    exact w_retI C rfl d2_10 (by decide) (by decide) ⟨rfl, by rw [if_neg hc]⟩
theorem d6_0 : decode method_2_code 0 = .ok (.iload_n 0, 1) := by decide +kernel
theorem d6_1 : decode method_2_code 1 = .ok (.iload_n 1, 1) := by decide +kernel
theorem d6_2 : decode method_2_code 2 = .ok (.if_icmp .gt 7, 3) := by decide +kernel
theorem d6_5 : decode method_2_code 5 = .ok (.iconst 1, 1) := by decide +kernel
theorem d6_6 : decode method_2_code 6 = .ok (.goto 4, 3) := by decide +kernel
theorem d6_9 : decode method_2_code 9 = .ok (.iconst 0, 1) := by decide +kernel
theorem d6_10 : decode method_2_code 10 = .ok (.ireturn, 1) := by decide +kernel
theorem pf6 : plainFor (⟨"com/example/portcullis/portcullis/dds/DomainsIntervalPinLaw", "le", "(II)I"⟩ : MethodName) = true := by first | exact plainFor_of_name (by first | (simp [plainName, overriddenIn]; done) | decide +kernel) | decide +kernel
theorem ef_le (m : MethodId) (z0 : Int32) (z1 : Int32) : entryFrame m #[(.int z0), (.int z1)] 2 = mkF m 0 #[.val (.int z0), .val (.int z1)] [] := by first | rfl | (simp [entryFrame, mkF, argsToLocals, Value.category, *]; done) | rfl
set_option maxRecDepth 65536 in
set_option maxHeartbeats 40000000 in
theorem rm_le {l : Launch} {Z : State} {a0 : Array Value} {n0 : Nat} (G : Gl Z a0 n0) {h0 : Heap} (O : Old Z n0 h0) (x : Int32) (y : Int32) :
    Ct [] l Z n0 (⟨"com/example/portcullis/portcullis/dds/DomainsIntervalPinLaw", "le", "(II)I"⟩ : MethodName) method_2_code 2 (some .int) ({ frames := 0, cells := 0, slots := 0, locals := 0 } : Room) #[(.int x), (.int y)] h0 (fun v h => h = h0 ∧ v = some (.int (if y < x then 0 else 1))) := by
  refine Ct.intro pf6 ?_
  intro p e s m below meth c C
  refine AtW.cast ?_ (ef_le m x y)
  refine w_iloadN (q := 1) C rfl d6_0 rfl ?_
  refine w_iloadN (q := 2) C rfl d6_1 rfl ?_
  by_cases hc : y < x
  · refine w_icmp_gt_t (q := 9) C d6_2 (by decide) (by decide) hc ?_
    refine w_iconst (q := 10) (v := (0 : Int32)) C (by rfl) d6_9 rfl ?_
    exact w_retI C rfl d6_10 (by decide) (by decide) ⟨rfl, by rw [if_pos hc]⟩
  · refine w_icmp_gt_f (q := 5) C d6_2 rfl hc ?_
    refine w_iconst (q := 6) (v := (1 : Int32)) C (by rfl) d6_5 rfl ?_
    refine w_goto (q := 10) C d6_6 (by decide) (by decide) ?_
    exact w_retI C rfl d6_10 (by decide) (by decide) ⟨rfl, by rw [if_neg hc]⟩
def own_cnt (key : Int32) : List Int32 → Int32
  | [] => 0
  | x :: r => (if key < x then 0 else 1) + own_cnt key r
def own_R (key : Int32) (xs : List Int32) (r : Int32) : Prop := (¬ r < 0 ∧ r = own_cnt key xs - 1) ∨ (r < 0 ∧ -r - 2 = own_cnt key xs - 1)
def own_sorted : List Int32 → Prop
  | [] => True
  | x :: r => (∀ y ∈ r, x < y) ∧ own_sorted r
theorem own_lt {x y : Int32} : x < y ↔ x.toInt < y.toInt := Int32.lt_iff_toInt_lt
theorem own_eq {x y : Int32} : x = y ↔ x.toInt = y.toInt := Int32.toInt_inj.symm

theorem d5_0 : decode jdk_65_method_59_code 0 = .ok (.iload_n 1, 1) := by decide +kernel
theorem d5_1 : decode jdk_65_method_59_code 1 = .ok (.istore 4, 2) := by decide +kernel
theorem d5_3 : decode jdk_65_method_59_code 3 = .ok (.iload_n 2, 1) := by decide +kernel
theorem d5_4 : decode jdk_65_method_59_code 4 = .ok (.iconst 1, 1) := by decide +kernel
theorem d5_5 : decode jdk_65_method_59_code 5 = .ok (.isub, 1) := by decide +kernel
theorem d5_6 : decode jdk_65_method_59_code 6 = .ok (.istore 5, 2) := by decide +kernel
theorem d5_8 : decode jdk_65_method_59_code 8 = .ok (.iload 4, 2) := by decide +kernel
theorem d5_10 : decode jdk_65_method_59_code 10 = .ok (.iload 5, 2) := by decide +kernel
theorem d5_12 : decode jdk_65_method_59_code 12 = .ok (.if_icmp .gt 54, 3) := by decide +kernel
theorem d5_15 : decode jdk_65_method_59_code 15 = .ok (.iload 4, 2) := by decide +kernel
theorem d5_17 : decode jdk_65_method_59_code 17 = .ok (.iload 5, 2) := by decide +kernel
theorem d5_19 : decode jdk_65_method_59_code 19 = .ok (.iadd, 1) := by decide +kernel
theorem d5_20 : decode jdk_65_method_59_code 20 = .ok (.iconst 1, 1) := by decide +kernel
theorem d5_21 : decode jdk_65_method_59_code 21 = .ok (.iushr, 1) := by decide +kernel
theorem d5_22 : decode jdk_65_method_59_code 22 = .ok (.istore 6, 2) := by decide +kernel
theorem d5_24 : decode jdk_65_method_59_code 24 = .ok (.aload_n 0, 1) := by decide +kernel
theorem d5_25 : decode jdk_65_method_59_code 25 = .ok (.iload 6, 2) := by decide +kernel
theorem d5_27 : decode jdk_65_method_59_code 27 = .ok (.iaload, 1) := by decide +kernel
theorem d5_28 : decode jdk_65_method_59_code 28 = .ok (.istore 7, 2) := by decide +kernel
theorem d5_30 : decode jdk_65_method_59_code 30 = .ok (.iload 7, 2) := by decide +kernel
theorem d5_32 : decode jdk_65_method_59_code 32 = .ok (.iload_n 3, 1) := by decide +kernel
theorem d5_33 : decode jdk_65_method_59_code 33 = .ok (.if_icmp .ge 12, 3) := by decide +kernel
theorem d5_36 : decode jdk_65_method_59_code 36 = .ok (.iload 6, 2) := by decide +kernel
theorem d5_38 : decode jdk_65_method_59_code 38 = .ok (.iconst 1, 1) := by decide +kernel
theorem d5_39 : decode jdk_65_method_59_code 39 = .ok (.iadd, 1) := by decide +kernel
theorem d5_40 : decode jdk_65_method_59_code 40 = .ok (.istore 4, 2) := by decide +kernel
theorem d5_42 : decode jdk_65_method_59_code 42 = .ok (.goto 21, 3) := by decide +kernel
theorem d5_45 : decode jdk_65_method_59_code 45 = .ok (.iload 7, 2) := by decide +kernel
theorem d5_47 : decode jdk_65_method_59_code 47 = .ok (.iload_n 3, 1) := by decide +kernel
theorem d5_48 : decode jdk_65_method_59_code 48 = .ok (.if_icmp .le 12, 3) := by decide +kernel
theorem d5_51 : decode jdk_65_method_59_code 51 = .ok (.iload 6, 2) := by decide +kernel
theorem d5_53 : decode jdk_65_method_59_code 53 = .ok (.iconst 1, 1) := by decide +kernel
theorem d5_54 : decode jdk_65_method_59_code 54 = .ok (.isub, 1) := by decide +kernel
theorem d5_55 : decode jdk_65_method_59_code 55 = .ok (.istore 5, 2) := by decide +kernel
theorem d5_57 : decode jdk_65_method_59_code 57 = .ok (.goto 6, 3) := by decide +kernel
theorem d5_60 : decode jdk_65_method_59_code 60 = .ok (.iload 6, 2) := by decide +kernel
theorem d5_62 : decode jdk_65_method_59_code 62 = .ok (.ireturn, 1) := by decide +kernel
theorem d5_63 : decode jdk_65_method_59_code 63 = .ok (.goto (-55), 3) := by decide +kernel
theorem d5_66 : decode jdk_65_method_59_code 66 = .ok (.iload 4, 2) := by decide +kernel
theorem d5_68 : decode jdk_65_method_59_code 68 = .ok (.iconst 1, 1) := by decide +kernel
theorem d5_69 : decode jdk_65_method_59_code 69 = .ok (.iadd, 1) := by decide +kernel
theorem d5_70 : decode jdk_65_method_59_code 70 = .ok (.ineg, 1) := by decide +kernel
theorem d5_71 : decode jdk_65_method_59_code 71 = .ok (.ireturn, 1) := by decide +kernel
theorem pf5 : plainFor (⟨"java/util/Arrays", "binarySearch0", "([IIII)I"⟩ : MethodName) = true := by first | exact plainFor_of_name (by first | (simp [plainName, overriddenIn]; done) | decide +kernel) | decide +kernel
theorem ef_bs0 (m : MethodId) (z0 : Addr) (z1 : Int32) (z2 : Int32) (z3 : Int32) : entryFrame m #[(.ref z0), (.int z1), (.int z2), (.int z3)] 8 = mkF m 0 #[.val (.ref z0), .val (.int z1), .val (.int z2), .val (.int z3), .unset, .unset, .unset, .unset] [] := by first | rfl | (simp [entryFrame, mkF, argsToLocals, Value.category, *]; done) | rfl
set_option maxRecDepth 65536 in
set_option maxHeartbeats 40000000 in
theorem rm_bs0 {l : Launch} {Z : State} {a0 : Array Value} {n0 : Nat} (G : Gl Z a0 n0) {h0 : Heap} (O : Old Z n0 h0) (a : Addr) (xs : List Int32) (key : Int32) (V : Ar Z h0 a .int (xs.map Value.int)) (hs : own_sorted xs) (hl : xs.length ≤ 3) :
    Ct [] l Z n0 (⟨"java/util/Arrays", "binarySearch0", "([IIII)I"⟩ : MethodName) jdk_65_method_59_code 8 (some .int) ({ frames := 0, cells := 0, slots := 0, locals := 0 } : Room) #[(.ref a), (.int (0 : Int32)), (.int (Int32.ofNat xs.length)), (.int key)] h0 (fun v h => h = h0 ∧ ∃ r, v = some (.int r) ∧ own_R key xs r) := by
  refine Ct.intro pf5 ?_
  intro p e s m below meth c C
  refine AtW.cast ?_ (ef_bs0 m a (0 : Int32) (Int32.ofNat xs.length) key)
  rcases xs with _ | ⟨x0, _ | ⟨x1, _ | ⟨x2, _ | ⟨x3, xs⟩⟩⟩⟩
  · show AtW p l e _ s m _ below meth c n0 _ h0 0 0 (mkF m 0 #[.val (.ref a), .val (.int (0 : Int32)), .val (.int (0 : Int32)), .val (.int key), .unset, .unset, .unset, .unset] [])
    refine w_iloadN (q := 1) C rfl d5_0 rfl ?_
    refine w_istore (q := 3) (L' := #[.val (.ref a), .val (.int (0 : Int32)), .val (.int (0 : Int32)), .val (.int key), .val (.int (0 : Int32)), .unset, .unset, .unset]) C rfl d5_1 rfl ?_
    refine w_iloadN (q := 4) C rfl d5_3 rfl ?_
    refine w_iconst (q := 5) (v := (1 : Int32)) C (by rfl) d5_4 rfl ?_
    refine w_isub (q := 6) (z := (-1 : Int32)) C (by decide) d5_5 rfl ?_
    refine w_istore (q := 8) (L' := #[.val (.ref a), .val (.int (0 : Int32)), .val (.int (0 : Int32)), .val (.int key), .val (.int (0 : Int32)), .val (.int (-1 : Int32)), .unset, .unset]) C rfl d5_6 rfl ?_
    refine w_iload (q := 10) C rfl d5_8 rfl ?_
    refine w_iload (q := 12) C rfl d5_10 rfl ?_
    refine w_icmp_gt_t (q := 66) C d5_12 (by decide) (by decide) (by decide) ?_
    refine w_iload (q := 68) C rfl d5_66 rfl ?_
    refine w_iconst (q := 69) (v := (1 : Int32)) C (by rfl) d5_68 rfl ?_
    refine w_iadd (q := 70) (z := (1 : Int32)) C (by decide) d5_69 rfl ?_
    refine w_ineg (q := 71) (z := (-1 : Int32)) C (by decide) d5_70 rfl ?_
    exact w_retI C rfl d5_71 (by decide) (by decide) ⟨rfl, _, rfl, (by simp only [own_sorted, List.mem_cons, List.not_mem_nil, or_false, forall_eq_or_imp, forall_eq, and_true, true_and, false_imp_iff, implies_true] at hs; simp only [own_R, own_cnt]; (repeat' split) <;> first | decide | (exfalso; simp only [own_lt, own_eq] at *; omega))⟩
  · show AtW p l e _ s m _ below meth c n0 _ h0 0 0 (mkF m 0 #[.val (.ref a), .val (.int (0 : Int32)), .val (.int (1 : Int32)), .val (.int key), .unset, .unset, .unset, .unset] [])
    refine w_iloadN (q := 1) C rfl d5_0 rfl ?_
    refine w_istore (q := 3) (L' := #[.val (.ref a), .val (.int (0 : Int32)), .val (.int (1 : Int32)), .val (.int key), .val (.int (0 : Int32)), .unset, .unset, .unset]) C rfl d5_1 rfl ?_
    refine w_iloadN (q := 4) C rfl d5_3 rfl ?_
    refine w_iconst (q := 5) (v := (1 : Int32)) C (by rfl) d5_4 rfl ?_
    refine w_isub (q := 6) (z := (0 : Int32)) C (by decide) d5_5 rfl ?_
    refine w_istore (q := 8) (L' := #[.val (.ref a), .val (.int (0 : Int32)), .val (.int (1 : Int32)), .val (.int key), .val (.int (0 : Int32)), .val (.int (0 : Int32)), .unset, .unset]) C rfl d5_6 rfl ?_
    refine w_iload (q := 10) C rfl d5_8 rfl ?_
    refine w_iload (q := 12) C rfl d5_10 rfl ?_
    refine w_icmp_gt_f (q := 15) C d5_12 rfl (by decide) ?_
    refine w_iload (q := 17) C rfl d5_15 rfl ?_
    refine w_iload (q := 19) C rfl d5_17 rfl ?_
    refine w_iadd (q := 20) (z := (0 : Int32)) C (by decide) d5_19 rfl ?_
    refine w_iconst (q := 21) (v := (1 : Int32)) C (by rfl) d5_20 rfl ?_
    refine w_iushr (q := 22) (z := (0 : Int32)) C (by decide) d5_21 rfl ?_
    refine w_istore (q := 24) (L' := #[.val (.ref a), .val (.int (0 : Int32)), .val (.int (1 : Int32)), .val (.int key), .val (.int (0 : Int32)), .val (.int (0 : Int32)), .val (.int (0 : Int32)), .unset]) C rfl d5_22 rfl ?_
    refine w_aloadN (q := 25) C rfl rfl d5_24 rfl ?_
    refine w_iload (q := 27) C rfl d5_25 rfl ?_
    refine w_iaload (q := 28) (i := 0) (v := (.int x0)) C V rfl rfl d5_27 rfl ?_
    refine w_istore (q := 30) (L' := #[.val (.ref a), .val (.int (0 : Int32)), .val (.int (1 : Int32)), .val (.int key), .val (.int (0 : Int32)), .val (.int (0 : Int32)), .val (.int (0 : Int32)), .val (.int x0)]) C rfl d5_28 rfl ?_
    refine w_iload (q := 32) C rfl d5_30 rfl ?_
    refine w_iloadN (q := 33) C rfl d5_32 rfl ?_
    by_cases hc1 : x0 < key
    · refine w_icmp_ge_f (q := 36) C d5_33 rfl hc1 ?_
      refine w_iload (q := 38) C rfl d5_36 rfl ?_
      refine w_iconst (q := 39) (v := (1 : Int32)) C (by rfl) d5_38 rfl ?_
      refine w_iadd (q := 40) (z := (1 : Int32)) C (by decide) d5_39 rfl ?_
      refine w_istore (q := 42) (L' := #[.val (.ref a), .val (.int (0 : Int32)), .val (.int (1 : Int32)), .val (.int key), .val (.int (1 : Int32)), .val (.int (0 : Int32)), .val (.int (0 : Int32)), .val (.int x0)]) C rfl d5_40 rfl ?_
      refine w_goto (q := 63) C d5_42 (by decide) (by decide) ?_
      refine w_goto (q := 8) C d5_63 (by decide) (by decide) ?_
      refine w_iload (q := 10) C rfl d5_8 rfl ?_
      refine w_iload (q := 12) C rfl d5_10 rfl ?_
      refine w_icmp_gt_t (q := 66) C d5_12 (by decide) (by decide) (by decide) ?_
      refine w_iload (q := 68) C rfl d5_66 rfl ?_
      refine w_iconst (q := 69) (v := (1 : Int32)) C (by rfl) d5_68 rfl ?_
      refine w_iadd (q := 70) (z := (2 : Int32)) C (by decide) d5_69 rfl ?_
      refine w_ineg (q := 71) (z := (-2 : Int32)) C (by decide) d5_70 rfl ?_
      exact w_retI C rfl d5_71 (by decide) (by decide) ⟨rfl, _, rfl, (by simp only [own_sorted, List.mem_cons, List.not_mem_nil, or_false, forall_eq_or_imp, forall_eq, and_true, true_and, false_imp_iff, implies_true] at hs; simp only [own_R, own_cnt]; (repeat' split) <;> first | decide | (exfalso; simp only [own_lt, own_eq] at *; omega))⟩
    · refine w_icmp_ge_t (q := 45) C d5_33 (by decide) (by decide) hc1 ?_
      refine w_iload (q := 47) C rfl d5_45 rfl ?_
      refine w_iloadN (q := 48) C rfl d5_47 rfl ?_
      by_cases hc2 : key < x0
      · refine w_icmp_le_f (q := 51) C d5_48 rfl hc2 ?_
        refine w_iload (q := 53) C rfl d5_51 rfl ?_
        refine w_iconst (q := 54) (v := (1 : Int32)) C (by rfl) d5_53 rfl ?_
        refine w_isub (q := 55) (z := (-1 : Int32)) C (by decide) d5_54 rfl ?_
        refine w_istore (q := 57) (L' := #[.val (.ref a), .val (.int (0 : Int32)), .val (.int (1 : Int32)), .val (.int key), .val (.int (0 : Int32)), .val (.int (-1 : Int32)), .val (.int (0 : Int32)), .val (.int x0)]) C rfl d5_55 rfl ?_
        refine w_goto (q := 63) C d5_57 (by decide) (by decide) ?_
        refine w_goto (q := 8) C d5_63 (by decide) (by decide) ?_
        refine w_iload (q := 10) C rfl d5_8 rfl ?_
        refine w_iload (q := 12) C rfl d5_10 rfl ?_
        refine w_icmp_gt_t (q := 66) C d5_12 (by decide) (by decide) (by decide) ?_
        refine w_iload (q := 68) C rfl d5_66 rfl ?_
        refine w_iconst (q := 69) (v := (1 : Int32)) C (by rfl) d5_68 rfl ?_
        refine w_iadd (q := 70) (z := (1 : Int32)) C (by decide) d5_69 rfl ?_
        refine w_ineg (q := 71) (z := (-1 : Int32)) C (by decide) d5_70 rfl ?_
        exact w_retI C rfl d5_71 (by decide) (by decide) ⟨rfl, _, rfl, (by simp only [own_sorted, List.mem_cons, List.not_mem_nil, or_false, forall_eq_or_imp, forall_eq, and_true, true_and, false_imp_iff, implies_true] at hs; simp only [own_R, own_cnt]; (repeat' split) <;> first | decide | (exfalso; simp only [own_lt, own_eq] at *; omega))⟩
      · refine w_icmp_le_t (q := 60) C d5_48 (by decide) (by decide) hc2 ?_
        refine w_iload (q := 62) C rfl d5_60 rfl ?_
        exact w_retI C rfl d5_62 (by decide) (by decide) ⟨rfl, _, rfl, (by simp only [own_sorted, List.mem_cons, List.not_mem_nil, or_false, forall_eq_or_imp, forall_eq, and_true, true_and, false_imp_iff, implies_true] at hs; simp only [own_R, own_cnt]; (repeat' split) <;> first | decide | (exfalso; simp only [own_lt, own_eq] at *; omega))⟩
  · show AtW p l e _ s m _ below meth c n0 _ h0 0 0 (mkF m 0 #[.val (.ref a), .val (.int (0 : Int32)), .val (.int (2 : Int32)), .val (.int key), .unset, .unset, .unset, .unset] [])
    refine w_iloadN (q := 1) C rfl d5_0 rfl ?_
    refine w_istore (q := 3) (L' := #[.val (.ref a), .val (.int (0 : Int32)), .val (.int (2 : Int32)), .val (.int key), .val (.int (0 : Int32)), .unset, .unset, .unset]) C rfl d5_1 rfl ?_
    refine w_iloadN (q := 4) C rfl d5_3 rfl ?_
    refine w_iconst (q := 5) (v := (1 : Int32)) C (by rfl) d5_4 rfl ?_
    refine w_isub (q := 6) (z := (1 : Int32)) C (by decide) d5_5 rfl ?_
    refine w_istore (q := 8) (L' := #[.val (.ref a), .val (.int (0 : Int32)), .val (.int (2 : Int32)), .val (.int key), .val (.int (0 : Int32)), .val (.int (1 : Int32)), .unset, .unset]) C rfl d5_6 rfl ?_
    refine w_iload (q := 10) C rfl d5_8 rfl ?_
    refine w_iload (q := 12) C rfl d5_10 rfl ?_
    refine w_icmp_gt_f (q := 15) C d5_12 rfl (by decide) ?_
    refine w_iload (q := 17) C rfl d5_15 rfl ?_
    refine w_iload (q := 19) C rfl d5_17 rfl ?_
    refine w_iadd (q := 20) (z := (1 : Int32)) C (by decide) d5_19 rfl ?_
    refine w_iconst (q := 21) (v := (1 : Int32)) C (by rfl) d5_20 rfl ?_
    refine w_iushr (q := 22) (z := (0 : Int32)) C (by decide) d5_21 rfl ?_
    refine w_istore (q := 24) (L' := #[.val (.ref a), .val (.int (0 : Int32)), .val (.int (2 : Int32)), .val (.int key), .val (.int (0 : Int32)), .val (.int (1 : Int32)), .val (.int (0 : Int32)), .unset]) C rfl d5_22 rfl ?_
    refine w_aloadN (q := 25) C rfl rfl d5_24 rfl ?_
    refine w_iload (q := 27) C rfl d5_25 rfl ?_
    refine w_iaload (q := 28) (i := 0) (v := (.int x0)) C V rfl rfl d5_27 rfl ?_
    refine w_istore (q := 30) (L' := #[.val (.ref a), .val (.int (0 : Int32)), .val (.int (2 : Int32)), .val (.int key), .val (.int (0 : Int32)), .val (.int (1 : Int32)), .val (.int (0 : Int32)), .val (.int x0)]) C rfl d5_28 rfl ?_
    refine w_iload (q := 32) C rfl d5_30 rfl ?_
    refine w_iloadN (q := 33) C rfl d5_32 rfl ?_
    by_cases hc3 : x0 < key
    · refine w_icmp_ge_f (q := 36) C d5_33 rfl hc3 ?_
      refine w_iload (q := 38) C rfl d5_36 rfl ?_
      refine w_iconst (q := 39) (v := (1 : Int32)) C (by rfl) d5_38 rfl ?_
      refine w_iadd (q := 40) (z := (1 : Int32)) C (by decide) d5_39 rfl ?_
      refine w_istore (q := 42) (L' := #[.val (.ref a), .val (.int (0 : Int32)), .val (.int (2 : Int32)), .val (.int key), .val (.int (1 : Int32)), .val (.int (1 : Int32)), .val (.int (0 : Int32)), .val (.int x0)]) C rfl d5_40 rfl ?_
      refine w_goto (q := 63) C d5_42 (by decide) (by decide) ?_
      refine w_goto (q := 8) C d5_63 (by decide) (by decide) ?_
      refine w_iload (q := 10) C rfl d5_8 rfl ?_
      refine w_iload (q := 12) C rfl d5_10 rfl ?_
      refine w_icmp_gt_f (q := 15) C d5_12 rfl (by decide) ?_
      refine w_iload (q := 17) C rfl d5_15 rfl ?_
      refine w_iload (q := 19) C rfl d5_17 rfl ?_
      refine w_iadd (q := 20) (z := (2 : Int32)) C (by decide) d5_19 rfl ?_
      refine w_iconst (q := 21) (v := (1 : Int32)) C (by rfl) d5_20 rfl ?_
      refine w_iushr (q := 22) (z := (1 : Int32)) C (by decide) d5_21 rfl ?_
      refine w_istore (q := 24) (L' := #[.val (.ref a), .val (.int (0 : Int32)), .val (.int (2 : Int32)), .val (.int key), .val (.int (1 : Int32)), .val (.int (1 : Int32)), .val (.int (1 : Int32)), .val (.int x0)]) C rfl d5_22 rfl ?_
      refine w_aloadN (q := 25) C rfl rfl d5_24 rfl ?_
      refine w_iload (q := 27) C rfl d5_25 rfl ?_
      refine w_iaload (q := 28) (i := 1) (v := (.int x1)) C V rfl rfl d5_27 rfl ?_
      refine w_istore (q := 30) (L' := #[.val (.ref a), .val (.int (0 : Int32)), .val (.int (2 : Int32)), .val (.int key), .val (.int (1 : Int32)), .val (.int (1 : Int32)), .val (.int (1 : Int32)), .val (.int x1)]) C rfl d5_28 rfl ?_
      refine w_iload (q := 32) C rfl d5_30 rfl ?_
      refine w_iloadN (q := 33) C rfl d5_32 rfl ?_
      by_cases hc4 : x1 < key
      · refine w_icmp_ge_f (q := 36) C d5_33 rfl hc4 ?_
        refine w_iload (q := 38) C rfl d5_36 rfl ?_
        refine w_iconst (q := 39) (v := (1 : Int32)) C (by rfl) d5_38 rfl ?_
        refine w_iadd (q := 40) (z := (2 : Int32)) C (by decide) d5_39 rfl ?_
        refine w_istore (q := 42) (L' := #[.val (.ref a), .val (.int (0 : Int32)), .val (.int (2 : Int32)), .val (.int key), .val (.int (2 : Int32)), .val (.int (1 : Int32)), .val (.int (1 : Int32)), .val (.int x1)]) C rfl d5_40 rfl ?_
        refine w_goto (q := 63) C d5_42 (by decide) (by decide) ?_
        refine w_goto (q := 8) C d5_63 (by decide) (by decide) ?_
        refine w_iload (q := 10) C rfl d5_8 rfl ?_
        refine w_iload (q := 12) C rfl d5_10 rfl ?_
        refine w_icmp_gt_t (q := 66) C d5_12 (by decide) (by decide) (by decide) ?_
        refine w_iload (q := 68) C rfl d5_66 rfl ?_
        refine w_iconst (q := 69) (v := (1 : Int32)) C (by rfl) d5_68 rfl ?_
        refine w_iadd (q := 70) (z := (3 : Int32)) C (by decide) d5_69 rfl ?_
        refine w_ineg (q := 71) (z := (-3 : Int32)) C (by decide) d5_70 rfl ?_
        exact w_retI C rfl d5_71 (by decide) (by decide) ⟨rfl, _, rfl, (by simp only [own_sorted, List.mem_cons, List.not_mem_nil, or_false, forall_eq_or_imp, forall_eq, and_true, true_and, false_imp_iff, implies_true] at hs; simp only [own_R, own_cnt]; (repeat' split) <;> first | decide | (exfalso; simp only [own_lt, own_eq] at *; omega))⟩
      · refine w_icmp_ge_t (q := 45) C d5_33 (by decide) (by decide) hc4 ?_
        refine w_iload (q := 47) C rfl d5_45 rfl ?_
        refine w_iloadN (q := 48) C rfl d5_47 rfl ?_
        by_cases hc5 : key < x1
        · refine w_icmp_le_f (q := 51) C d5_48 rfl hc5 ?_
          refine w_iload (q := 53) C rfl d5_51 rfl ?_
          refine w_iconst (q := 54) (v := (1 : Int32)) C (by rfl) d5_53 rfl ?_
          refine w_isub (q := 55) (z := (0 : Int32)) C (by decide) d5_54 rfl ?_
          refine w_istore (q := 57) (L' := #[.val (.ref a), .val (.int (0 : Int32)), .val (.int (2 : Int32)), .val (.int key), .val (.int (1 : Int32)), .val (.int (0 : Int32)), .val (.int (1 : Int32)), .val (.int x1)]) C rfl d5_55 rfl ?_
          refine w_goto (q := 63) C d5_57 (by decide) (by decide) ?_
          refine w_goto (q := 8) C d5_63 (by decide) (by decide) ?_
          refine w_iload (q := 10) C rfl d5_8 rfl ?_
          refine w_iload (q := 12) C rfl d5_10 rfl ?_
          refine w_icmp_gt_t (q := 66) C d5_12 (by decide) (by decide) (by decide) ?_
          refine w_iload (q := 68) C rfl d5_66 rfl ?_
          refine w_iconst (q := 69) (v := (1 : Int32)) C (by rfl) d5_68 rfl ?_
          refine w_iadd (q := 70) (z := (2 : Int32)) C (by decide) d5_69 rfl ?_
          refine w_ineg (q := 71) (z := (-2 : Int32)) C (by decide) d5_70 rfl ?_
          exact w_retI C rfl d5_71 (by decide) (by decide) ⟨rfl, _, rfl, (by simp only [own_sorted, List.mem_cons, List.not_mem_nil, or_false, forall_eq_or_imp, forall_eq, and_true, true_and, false_imp_iff, implies_true] at hs; simp only [own_R, own_cnt]; (repeat' split) <;> first | decide | (exfalso; simp only [own_lt, own_eq] at *; omega))⟩
        · refine w_icmp_le_t (q := 60) C d5_48 (by decide) (by decide) hc5 ?_
          refine w_iload (q := 62) C rfl d5_60 rfl ?_
          exact w_retI C rfl d5_62 (by decide) (by decide) ⟨rfl, _, rfl, (by simp only [own_sorted, List.mem_cons, List.not_mem_nil, or_false, forall_eq_or_imp, forall_eq, and_true, true_and, false_imp_iff, implies_true] at hs; simp only [own_R, own_cnt]; (repeat' split) <;> first | decide | (exfalso; simp only [own_lt, own_eq] at *; omega))⟩
    · refine w_icmp_ge_t (q := 45) C d5_33 (by decide) (by decide) hc3 ?_
      refine w_iload (q := 47) C rfl d5_45 rfl ?_
      refine w_iloadN (q := 48) C rfl d5_47 rfl ?_
      by_cases hc6 : key < x0
      · refine w_icmp_le_f (q := 51) C d5_48 rfl hc6 ?_
        refine w_iload (q := 53) C rfl d5_51 rfl ?_
        refine w_iconst (q := 54) (v := (1 : Int32)) C (by rfl) d5_53 rfl ?_
        refine w_isub (q := 55) (z := (-1 : Int32)) C (by decide) d5_54 rfl ?_
        refine w_istore (q := 57) (L' := #[.val (.ref a), .val (.int (0 : Int32)), .val (.int (2 : Int32)), .val (.int key), .val (.int (0 : Int32)), .val (.int (-1 : Int32)), .val (.int (0 : Int32)), .val (.int x0)]) C rfl d5_55 rfl ?_
        refine w_goto (q := 63) C d5_57 (by decide) (by decide) ?_
        refine w_goto (q := 8) C d5_63 (by decide) (by decide) ?_
        refine w_iload (q := 10) C rfl d5_8 rfl ?_
        refine w_iload (q := 12) C rfl d5_10 rfl ?_
        refine w_icmp_gt_t (q := 66) C d5_12 (by decide) (by decide) (by decide) ?_
        refine w_iload (q := 68) C rfl d5_66 rfl ?_
        refine w_iconst (q := 69) (v := (1 : Int32)) C (by rfl) d5_68 rfl ?_
        refine w_iadd (q := 70) (z := (1 : Int32)) C (by decide) d5_69 rfl ?_
        refine w_ineg (q := 71) (z := (-1 : Int32)) C (by decide) d5_70 rfl ?_
        exact w_retI C rfl d5_71 (by decide) (by decide) ⟨rfl, _, rfl, (by simp only [own_sorted, List.mem_cons, List.not_mem_nil, or_false, forall_eq_or_imp, forall_eq, and_true, true_and, false_imp_iff, implies_true] at hs; simp only [own_R, own_cnt]; (repeat' split) <;> first | decide | (exfalso; simp only [own_lt, own_eq] at *; omega))⟩
      · refine w_icmp_le_t (q := 60) C d5_48 (by decide) (by decide) hc6 ?_
        refine w_iload (q := 62) C rfl d5_60 rfl ?_
        exact w_retI C rfl d5_62 (by decide) (by decide) ⟨rfl, _, rfl, (by simp only [own_sorted, List.mem_cons, List.not_mem_nil, or_false, forall_eq_or_imp, forall_eq, and_true, true_and, false_imp_iff, implies_true] at hs; simp only [own_R, own_cnt]; (repeat' split) <;> first | decide | (exfalso; simp only [own_lt, own_eq] at *; omega))⟩
  · show AtW p l e _ s m _ below meth c n0 _ h0 0 0 (mkF m 0 #[.val (.ref a), .val (.int (0 : Int32)), .val (.int (3 : Int32)), .val (.int key), .unset, .unset, .unset, .unset] [])
    refine w_iloadN (q := 1) C rfl d5_0 rfl ?_
    refine w_istore (q := 3) (L' := #[.val (.ref a), .val (.int (0 : Int32)), .val (.int (3 : Int32)), .val (.int key), .val (.int (0 : Int32)), .unset, .unset, .unset]) C rfl d5_1 rfl ?_
    refine w_iloadN (q := 4) C rfl d5_3 rfl ?_
    refine w_iconst (q := 5) (v := (1 : Int32)) C (by rfl) d5_4 rfl ?_
    refine w_isub (q := 6) (z := (2 : Int32)) C (by decide) d5_5 rfl ?_
    refine w_istore (q := 8) (L' := #[.val (.ref a), .val (.int (0 : Int32)), .val (.int (3 : Int32)), .val (.int key), .val (.int (0 : Int32)), .val (.int (2 : Int32)), .unset, .unset]) C rfl d5_6 rfl ?_
    refine w_iload (q := 10) C rfl d5_8 rfl ?_
    refine w_iload (q := 12) C rfl d5_10 rfl ?_
    refine w_icmp_gt_f (q := 15) C d5_12 rfl (by decide) ?_
    refine w_iload (q := 17) C rfl d5_15 rfl ?_
    refine w_iload (q := 19) C rfl d5_17 rfl ?_
    refine w_iadd (q := 20) (z := (2 : Int32)) C (by decide) d5_19 rfl ?_
    refine w_iconst (q := 21) (v := (1 : Int32)) C (by rfl) d5_20 rfl ?_
    refine w_iushr (q := 22) (z := (1 : Int32)) C (by decide) d5_21 rfl ?_
    refine w_istore (q := 24) (L' := #[.val (.ref a), .val (.int (0 : Int32)), .val (.int (3 : Int32)), .val (.int key), .val (.int (0 : Int32)), .val (.int (2 : Int32)), .val (.int (1 : Int32)), .unset]) C rfl d5_22 rfl ?_
    refine w_aloadN (q := 25) C rfl rfl d5_24 rfl ?_
    refine w_iload (q := 27) C rfl d5_25 rfl ?_
    refine w_iaload (q := 28) (i := 1) (v := (.int x1)) C V rfl rfl d5_27 rfl ?_
    refine w_istore (q := 30) (L' := #[.val (.ref a), .val (.int (0 : Int32)), .val (.int (3 : Int32)), .val (.int key), .val (.int (0 : Int32)), .val (.int (2 : Int32)), .val (.int (1 : Int32)), .val (.int x1)]) C rfl d5_28 rfl ?_
    refine w_iload (q := 32) C rfl d5_30 rfl ?_
    refine w_iloadN (q := 33) C rfl d5_32 rfl ?_
    by_cases hc7 : x1 < key
    · refine w_icmp_ge_f (q := 36) C d5_33 rfl hc7 ?_
      refine w_iload (q := 38) C rfl d5_36 rfl ?_
      refine w_iconst (q := 39) (v := (1 : Int32)) C (by rfl) d5_38 rfl ?_
      refine w_iadd (q := 40) (z := (2 : Int32)) C (by decide) d5_39 rfl ?_
      refine w_istore (q := 42) (L' := #[.val (.ref a), .val (.int (0 : Int32)), .val (.int (3 : Int32)), .val (.int key), .val (.int (2 : Int32)), .val (.int (2 : Int32)), .val (.int (1 : Int32)), .val (.int x1)]) C rfl d5_40 rfl ?_
      refine w_goto (q := 63) C d5_42 (by decide) (by decide) ?_
      refine w_goto (q := 8) C d5_63 (by decide) (by decide) ?_
      refine w_iload (q := 10) C rfl d5_8 rfl ?_
      refine w_iload (q := 12) C rfl d5_10 rfl ?_
      refine w_icmp_gt_f (q := 15) C d5_12 rfl (by decide) ?_
      refine w_iload (q := 17) C rfl d5_15 rfl ?_
      refine w_iload (q := 19) C rfl d5_17 rfl ?_
      refine w_iadd (q := 20) (z := (4 : Int32)) C (by decide) d5_19 rfl ?_
      refine w_iconst (q := 21) (v := (1 : Int32)) C (by rfl) d5_20 rfl ?_
      refine w_iushr (q := 22) (z := (2 : Int32)) C (by decide) d5_21 rfl ?_
      refine w_istore (q := 24) (L' := #[.val (.ref a), .val (.int (0 : Int32)), .val (.int (3 : Int32)), .val (.int key), .val (.int (2 : Int32)), .val (.int (2 : Int32)), .val (.int (2 : Int32)), .val (.int x1)]) C rfl d5_22 rfl ?_
      refine w_aloadN (q := 25) C rfl rfl d5_24 rfl ?_
      refine w_iload (q := 27) C rfl d5_25 rfl ?_
      refine w_iaload (q := 28) (i := 2) (v := (.int x2)) C V rfl rfl d5_27 rfl ?_
      refine w_istore (q := 30) (L' := #[.val (.ref a), .val (.int (0 : Int32)), .val (.int (3 : Int32)), .val (.int key), .val (.int (2 : Int32)), .val (.int (2 : Int32)), .val (.int (2 : Int32)), .val (.int x2)]) C rfl d5_28 rfl ?_
      refine w_iload (q := 32) C rfl d5_30 rfl ?_
      refine w_iloadN (q := 33) C rfl d5_32 rfl ?_
      by_cases hc8 : x2 < key
      · refine w_icmp_ge_f (q := 36) C d5_33 rfl hc8 ?_
        refine w_iload (q := 38) C rfl d5_36 rfl ?_
        refine w_iconst (q := 39) (v := (1 : Int32)) C (by rfl) d5_38 rfl ?_
        refine w_iadd (q := 40) (z := (3 : Int32)) C (by decide) d5_39 rfl ?_
        refine w_istore (q := 42) (L' := #[.val (.ref a), .val (.int (0 : Int32)), .val (.int (3 : Int32)), .val (.int key), .val (.int (3 : Int32)), .val (.int (2 : Int32)), .val (.int (2 : Int32)), .val (.int x2)]) C rfl d5_40 rfl ?_
        refine w_goto (q := 63) C d5_42 (by decide) (by decide) ?_
        refine w_goto (q := 8) C d5_63 (by decide) (by decide) ?_
        refine w_iload (q := 10) C rfl d5_8 rfl ?_
        refine w_iload (q := 12) C rfl d5_10 rfl ?_
        refine w_icmp_gt_t (q := 66) C d5_12 (by decide) (by decide) (by decide) ?_
        refine w_iload (q := 68) C rfl d5_66 rfl ?_
        refine w_iconst (q := 69) (v := (1 : Int32)) C (by rfl) d5_68 rfl ?_
        refine w_iadd (q := 70) (z := (4 : Int32)) C (by decide) d5_69 rfl ?_
        refine w_ineg (q := 71) (z := (-4 : Int32)) C (by decide) d5_70 rfl ?_
        exact w_retI C rfl d5_71 (by decide) (by decide) ⟨rfl, _, rfl, (by simp only [own_sorted, List.mem_cons, List.not_mem_nil, or_false, forall_eq_or_imp, forall_eq, and_true, true_and, false_imp_iff, implies_true] at hs; simp only [own_R, own_cnt]; (repeat' split) <;> first | decide | (exfalso; simp only [own_lt, own_eq] at *; omega))⟩
      · refine w_icmp_ge_t (q := 45) C d5_33 (by decide) (by decide) hc8 ?_
        refine w_iload (q := 47) C rfl d5_45 rfl ?_
        refine w_iloadN (q := 48) C rfl d5_47 rfl ?_
        by_cases hc9 : key < x2
        · refine w_icmp_le_f (q := 51) C d5_48 rfl hc9 ?_
          refine w_iload (q := 53) C rfl d5_51 rfl ?_
          refine w_iconst (q := 54) (v := (1 : Int32)) C (by rfl) d5_53 rfl ?_
          refine w_isub (q := 55) (z := (1 : Int32)) C (by decide) d5_54 rfl ?_
          refine w_istore (q := 57) (L' := #[.val (.ref a), .val (.int (0 : Int32)), .val (.int (3 : Int32)), .val (.int key), .val (.int (2 : Int32)), .val (.int (1 : Int32)), .val (.int (2 : Int32)), .val (.int x2)]) C rfl d5_55 rfl ?_
          refine w_goto (q := 63) C d5_57 (by decide) (by decide) ?_
          refine w_goto (q := 8) C d5_63 (by decide) (by decide) ?_
          refine w_iload (q := 10) C rfl d5_8 rfl ?_
          refine w_iload (q := 12) C rfl d5_10 rfl ?_
          refine w_icmp_gt_t (q := 66) C d5_12 (by decide) (by decide) (by decide) ?_
          refine w_iload (q := 68) C rfl d5_66 rfl ?_
          refine w_iconst (q := 69) (v := (1 : Int32)) C (by rfl) d5_68 rfl ?_
          refine w_iadd (q := 70) (z := (3 : Int32)) C (by decide) d5_69 rfl ?_
          refine w_ineg (q := 71) (z := (-3 : Int32)) C (by decide) d5_70 rfl ?_
          exact w_retI C rfl d5_71 (by decide) (by decide) ⟨rfl, _, rfl, (by simp only [own_sorted, List.mem_cons, List.not_mem_nil, or_false, forall_eq_or_imp, forall_eq, and_true, true_and, false_imp_iff, implies_true] at hs; simp only [own_R, own_cnt]; (repeat' split) <;> first | decide | (exfalso; simp only [own_lt, own_eq] at *; omega))⟩
        · refine w_icmp_le_t (q := 60) C d5_48 (by decide) (by decide) hc9 ?_
          refine w_iload (q := 62) C rfl d5_60 rfl ?_
          exact w_retI C rfl d5_62 (by decide) (by decide) ⟨rfl, _, rfl, (by simp only [own_sorted, List.mem_cons, List.not_mem_nil, or_false, forall_eq_or_imp, forall_eq, and_true, true_and, false_imp_iff, implies_true] at hs; simp only [own_R, own_cnt]; (repeat' split) <;> first | decide | (exfalso; simp only [own_lt, own_eq] at *; omega))⟩
    · refine w_icmp_ge_t (q := 45) C d5_33 (by decide) (by decide) hc7 ?_
      refine w_iload (q := 47) C rfl d5_45 rfl ?_
      refine w_iloadN (q := 48) C rfl d5_47 rfl ?_
      by_cases hc10 : key < x1
      · refine w_icmp_le_f (q := 51) C d5_48 rfl hc10 ?_
        refine w_iload (q := 53) C rfl d5_51 rfl ?_
        refine w_iconst (q := 54) (v := (1 : Int32)) C (by rfl) d5_53 rfl ?_
        refine w_isub (q := 55) (z := (0 : Int32)) C (by decide) d5_54 rfl ?_
        refine w_istore (q := 57) (L' := #[.val (.ref a), .val (.int (0 : Int32)), .val (.int (3 : Int32)), .val (.int key), .val (.int (0 : Int32)), .val (.int (0 : Int32)), .val (.int (1 : Int32)), .val (.int x1)]) C rfl d5_55 rfl ?_
        refine w_goto (q := 63) C d5_57 (by decide) (by decide) ?_
        refine w_goto (q := 8) C d5_63 (by decide) (by decide) ?_
        refine w_iload (q := 10) C rfl d5_8 rfl ?_
        refine w_iload (q := 12) C rfl d5_10 rfl ?_
        refine w_icmp_gt_f (q := 15) C d5_12 rfl (by decide) ?_
        refine w_iload (q := 17) C rfl d5_15 rfl ?_
        refine w_iload (q := 19) C rfl d5_17 rfl ?_
        refine w_iadd (q := 20) (z := (0 : Int32)) C (by decide) d5_19 rfl ?_
        refine w_iconst (q := 21) (v := (1 : Int32)) C (by rfl) d5_20 rfl ?_
        refine w_iushr (q := 22) (z := (0 : Int32)) C (by decide) d5_21 rfl ?_
        refine w_istore (q := 24) (L' := #[.val (.ref a), .val (.int (0 : Int32)), .val (.int (3 : Int32)), .val (.int key), .val (.int (0 : Int32)), .val (.int (0 : Int32)), .val (.int (0 : Int32)), .val (.int x1)]) C rfl d5_22 rfl ?_
        refine w_aloadN (q := 25) C rfl rfl d5_24 rfl ?_
        refine w_iload (q := 27) C rfl d5_25 rfl ?_
        refine w_iaload (q := 28) (i := 0) (v := (.int x0)) C V rfl rfl d5_27 rfl ?_
        refine w_istore (q := 30) (L' := #[.val (.ref a), .val (.int (0 : Int32)), .val (.int (3 : Int32)), .val (.int key), .val (.int (0 : Int32)), .val (.int (0 : Int32)), .val (.int (0 : Int32)), .val (.int x0)]) C rfl d5_28 rfl ?_
        refine w_iload (q := 32) C rfl d5_30 rfl ?_
        refine w_iloadN (q := 33) C rfl d5_32 rfl ?_
        by_cases hc11 : x0 < key
        · refine w_icmp_ge_f (q := 36) C d5_33 rfl hc11 ?_
          refine w_iload (q := 38) C rfl d5_36 rfl ?_
          refine w_iconst (q := 39) (v := (1 : Int32)) C (by rfl) d5_38 rfl ?_
          refine w_iadd (q := 40) (z := (1 : Int32)) C (by decide) d5_39 rfl ?_
          refine w_istore (q := 42) (L' := #[.val (.ref a), .val (.int (0 : Int32)), .val (.int (3 : Int32)), .val (.int key), .val (.int (1 : Int32)), .val (.int (0 : Int32)), .val (.int (0 : Int32)), .val (.int x0)]) C rfl d5_40 rfl ?_
          refine w_goto (q := 63) C d5_42 (by decide) (by decide) ?_
          refine w_goto (q := 8) C d5_63 (by decide) (by decide) ?_
          refine w_iload (q := 10) C rfl d5_8 rfl ?_
          refine w_iload (q := 12) C rfl d5_10 rfl ?_
          refine w_icmp_gt_t (q := 66) C d5_12 (by decide) (by decide) (by decide) ?_
          refine w_iload (q := 68) C rfl d5_66 rfl ?_
          refine w_iconst (q := 69) (v := (1 : Int32)) C (by rfl) d5_68 rfl ?_
          refine w_iadd (q := 70) (z := (2 : Int32)) C (by decide) d5_69 rfl ?_
          refine w_ineg (q := 71) (z := (-2 : Int32)) C (by decide) d5_70 rfl ?_
          exact w_retI C rfl d5_71 (by decide) (by decide) ⟨rfl, _, rfl, (by simp only [own_sorted, List.mem_cons, List.not_mem_nil, or_false, forall_eq_or_imp, forall_eq, and_true, true_and, false_imp_iff, implies_true] at hs; simp only [own_R, own_cnt]; (repeat' split) <;> first | decide | (exfalso; simp only [own_lt, own_eq] at *; omega))⟩
        · refine w_icmp_ge_t (q := 45) C d5_33 (by decide) (by decide) hc11 ?_
          refine w_iload (q := 47) C rfl d5_45 rfl ?_
          refine w_iloadN (q := 48) C rfl d5_47 rfl ?_
          by_cases hc12 : key < x0
          · refine w_icmp_le_f (q := 51) C d5_48 rfl hc12 ?_
            refine w_iload (q := 53) C rfl d5_51 rfl ?_
            refine w_iconst (q := 54) (v := (1 : Int32)) C (by rfl) d5_53 rfl ?_
            refine w_isub (q := 55) (z := (-1 : Int32)) C (by decide) d5_54 rfl ?_
            refine w_istore (q := 57) (L' := #[.val (.ref a), .val (.int (0 : Int32)), .val (.int (3 : Int32)), .val (.int key), .val (.int (0 : Int32)), .val (.int (-1 : Int32)), .val (.int (0 : Int32)), .val (.int x0)]) C rfl d5_55 rfl ?_
            refine w_goto (q := 63) C d5_57 (by decide) (by decide) ?_
            refine w_goto (q := 8) C d5_63 (by decide) (by decide) ?_
            refine w_iload (q := 10) C rfl d5_8 rfl ?_
            refine w_iload (q := 12) C rfl d5_10 rfl ?_
            refine w_icmp_gt_t (q := 66) C d5_12 (by decide) (by decide) (by decide) ?_
            refine w_iload (q := 68) C rfl d5_66 rfl ?_
            refine w_iconst (q := 69) (v := (1 : Int32)) C (by rfl) d5_68 rfl ?_
            refine w_iadd (q := 70) (z := (1 : Int32)) C (by decide) d5_69 rfl ?_
            refine w_ineg (q := 71) (z := (-1 : Int32)) C (by decide) d5_70 rfl ?_
            exact w_retI C rfl d5_71 (by decide) (by decide) ⟨rfl, _, rfl, (by simp only [own_sorted, List.mem_cons, List.not_mem_nil, or_false, forall_eq_or_imp, forall_eq, and_true, true_and, false_imp_iff, implies_true] at hs; simp only [own_R, own_cnt]; (repeat' split) <;> first | decide | (exfalso; simp only [own_lt, own_eq] at *; omega))⟩
          · refine w_icmp_le_t (q := 60) C d5_48 (by decide) (by decide) hc12 ?_
            refine w_iload (q := 62) C rfl d5_60 rfl ?_
            exact w_retI C rfl d5_62 (by decide) (by decide) ⟨rfl, _, rfl, (by simp only [own_sorted, List.mem_cons, List.not_mem_nil, or_false, forall_eq_or_imp, forall_eq, and_true, true_and, false_imp_iff, implies_true] at hs; simp only [own_R, own_cnt]; (repeat' split) <;> first | decide | (exfalso; simp only [own_lt, own_eq] at *; omega))⟩
      · refine w_icmp_le_t (q := 60) C d5_48 (by decide) (by decide) hc10 ?_
        refine w_iload (q := 62) C rfl d5_60 rfl ?_
        exact w_retI C rfl d5_62 (by decide) (by decide) ⟨rfl, _, rfl, (by simp only [own_sorted, List.mem_cons, List.not_mem_nil, or_false, forall_eq_or_imp, forall_eq, and_true, true_and, false_imp_iff, implies_true] at hs; simp only [own_R, own_cnt]; (repeat' split) <;> first | decide | (exfalso; simp only [own_lt, own_eq] at *; omega))⟩
  · exact absurd hl (by simp <;> omega)
theorem d4_0 : decode jdk_65_method_57_code 0 = .ok (.aload_n 0, 1) := by decide +kernel
theorem d4_1 : decode jdk_65_method_57_code 1 = .ok (.iconst 0, 1) := by decide +kernel
theorem d4_2 : decode jdk_65_method_57_code 2 = .ok (.aload_n 0, 1) := by decide +kernel
theorem d4_3 : decode jdk_65_method_57_code 3 = .ok (.arraylength, 1) := by decide +kernel
theorem d4_4 : decode jdk_65_method_57_code 4 = .ok (.iload_n 1, 1) := by decide +kernel
theorem d4_5 : decode jdk_65_method_57_code 5 = .ok (.invokestatic 209, 3) := by decide +kernel
theorem d4_8 : decode jdk_65_method_57_code 8 = .ok (.ireturn, 1) := by decide +kernel
theorem pf4 : plainFor (⟨"java/util/Arrays", "binarySearch", "([II)I"⟩ : MethodName) = true := by first | exact plainFor_of_name (by first | (simp [plainName, overriddenIn]; done) | decide +kernel) | decide +kernel
theorem ef_bs (m : MethodId) (z0 : Addr) (z1 : Int32) : entryFrame m #[(.ref z0), (.int z1)] 2 = mkF m 0 #[.val (.ref z0), .val (.int z1)] [] := by first | rfl | (simp [entryFrame, mkF, argsToLocals, Value.category, *]; done) | rfl
set_option maxRecDepth 65536 in
set_option maxHeartbeats 40000000 in
theorem rm_bs {l : Launch} {Z : State} {a0 : Array Value} {n0 : Nat} (G : Gl Z a0 n0) {h0 : Heap} (O : Old Z n0 h0) (a : Addr) (xs : List Int32) (key : Int32) (V : Ar Z h0 a .int (xs.map Value.int)) (hs : own_sorted xs) (hl : xs.length ≤ 3) :
    Ct [] l Z n0 (⟨"java/util/Arrays", "binarySearch", "([II)I"⟩ : MethodName) jdk_65_method_57_code 2 (some .int) ({ frames := 1, cells := 0, slots := 0, locals := 19 } : Room) #[(.ref a), (.int key)] h0 (fun v h => h = h0 ∧ ∃ r, v = some (.int r) ∧ own_R key xs r) := by
  refine Ct.intro pf4 ?_
  intro p e s m below meth c C
  refine AtW.cast ?_ (ef_bs m a key)
  refine w_aloadN (q := 1) C rfl rfl d4_0 rfl ?_
  refine w_iconst (q := 2) (v := (0 : Int32)) C (by rfl) d4_1 rfl ?_
  refine w_aloadN (q := 3) C rfl rfl d4_2 rfl ?_
  refine w_len (q := 4) (z := (Int32.ofNat xs.length)) C V (by rw [List.length_map]) d4_3 rfl ?_
  refine w_iloadN (q := 5) C rfl d4_4 rfl ?_
  refine w_callS (q := 8) (argsL := [(.ref a), (.int (0 : Int32)), (.int (Int32.ofNat xs.length)), (.int key)]) (S := []) (W := 0) (cells' := 0) (slots' := 0) C (G.1 _ (List.mem_of_getElem? (i := 16) rfl)) (G.1 _ (List.mem_of_getElem? (i := 17) rfl)) (G.1 _ (List.mem_of_getElem? (i := 14) rfl)) (G.1 _ (List.mem_of_getElem? (i := 18) rfl)) (by decide) (rm_bs0 G O a xs key V hs hl) rfl (lenOf pd_3 rfl) rfl (by decide) (own_leb rfl) (by decide) rfl rfl (by decide) (by decide) d4_5 rfl ?_
  rintro _ h13 ⟨eh14, r, rfl, hR⟩
  rw [eh14]
  show AtW p l e _ s m _ below meth c n0 _ h0 0 0 (mkF m 8 #[.val (.ref a), .val (.int key)] [(.int r)])
  exact w_retI C rfl d4_8 (by decide) (by decide) ⟨rfl, r, rfl, hR⟩
theorem d3_0 : decode prog_28_method_5_code 0 = .ok (.aload_n 0, 1) := by decide +kernel
theorem d3_1 : decode prog_28_method_5_code 1 = .ok (.iload_n 1, 1) := by decide +kernel
theorem d3_2 : decode prog_28_method_5_code 2 = .ok (.invokestatic 137, 3) := by decide +kernel
theorem d3_5 : decode prog_28_method_5_code 5 = .ok (.istore_n 2, 1) := by decide +kernel
theorem d3_6 : decode prog_28_method_5_code 6 = .ok (.iload_n 2, 1) := by decide +kernel
theorem d3_7 : decode prog_28_method_5_code 7 = .ok (.ifCond .lt 7, 3) := by decide +kernel
theorem d3_10 : decode prog_28_method_5_code 10 = .ok (.iload_n 2, 1) := by decide +kernel
theorem d3_11 : decode prog_28_method_5_code 11 = .ok (.goto 7, 3) := by decide +kernel
theorem d3_14 : decode prog_28_method_5_code 14 = .ok (.iload_n 2, 1) := by decide +kernel
theorem d3_15 : decode prog_28_method_5_code 15 = .ok (.ineg, 1) := by decide +kernel
theorem d3_16 : decode prog_28_method_5_code 16 = .ok (.iconst 2, 1) := by decide +kernel
theorem d3_17 : decode prog_28_method_5_code 17 = .ok (.isub, 1) := by decide +kernel
theorem d3_18 : decode prog_28_method_5_code 18 = .ok (.ireturn, 1) := by decide +kernel
theorem pf3 : plainFor (⟨"com/example/portcullis/portcullis/dds/Domains", "interval", "([II)I"⟩ : MethodName) = true := by first | exact plainFor_of_name (by first | (simp [plainName, overriddenIn]; done) | decide +kernel) | decide +kernel
theorem ef_interval (m : MethodId) (z0 : Addr) (z1 : Int32) : entryFrame m #[(.ref z0), (.int z1)] 3 = mkF m 0 #[.val (.ref z0), .val (.int z1), .unset] [] := by first | rfl | (simp [entryFrame, mkF, argsToLocals, Value.category, *]; done) | rfl
set_option maxRecDepth 65536 in
set_option maxHeartbeats 40000000 in
theorem rm_interval {l : Launch} {Z : State} {a0 : Array Value} {n0 : Nat} (G : Gl Z a0 n0) {h0 : Heap} (O : Old Z n0 h0) (a : Addr) (xs : List Int32) (key : Int32) (V : Ar Z h0 a .int (xs.map Value.int)) (hs : own_sorted xs) (hl : xs.length ≤ 3) :
    Ct [] l Z n0 (⟨"com/example/portcullis/portcullis/dds/Domains", "interval", "([II)I"⟩ : MethodName) prog_28_method_5_code 3 (some .int) ({ frames := 2, cells := 0, slots := 0, locals := 32 } : Room) #[(.ref a), (.int key)] h0 (fun v h => h = h0 ∧ v = some (.int (own_cnt key xs - 1))) := by
  refine Ct.intro pf3 ?_
  intro p e s m below meth c C
  refine AtW.cast ?_ (ef_interval m a key)
  refine w_aloadN (q := 1) C rfl rfl d3_0 rfl ?_
  refine w_iloadN (q := 2) C rfl d3_1 rfl ?_
  refine w_callS (q := 5) (argsL := [(.ref a), (.int key)]) (S := []) (W := 0) (cells' := 0) (slots' := 0) C (G.1 _ (List.mem_of_getElem? (i := 12) rfl)) (G.1 _ (List.mem_of_getElem? (i := 13) rfl)) (G.1 _ (List.mem_of_getElem? (i := 14) rfl)) (G.1 _ (List.mem_of_getElem? (i := 15) rfl)) (by decide) (rm_bs G O a xs key V hs hl) rfl (lenOf pd_2 rfl) rfl (by decide) (own_leb rfl) (by decide) rfl rfl (by decide) (by decide) d3_2 rfl ?_
  rintro _ h15 ⟨eh16, r, rfl, hR⟩
  rw [eh16]
  show AtW p l e _ s m _ below meth c n0 _ h0 0 0 (mkF m 5 #[.val (.ref a), .val (.int key), .unset] [(.int r)])
  refine w_istoreN (q := 6) (L' := #[.val (.ref a), .val (.int key), .val (.int r)]) C rfl d3_5 rfl ?_
  refine w_iloadN (q := 7) C rfl d3_6 rfl ?_
  by_cases hc : r < 0
  · refine w_if_lt_t (q := 14) C d3_7 (by decide) (by decide) hc ?_
    refine w_iloadN (q := 15) C rfl d3_14 rfl ?_
    refine w_ineg (q := 16) C rfl d3_15 rfl ?_
    refine w_iconst (q := 17) (v := (2 : Int32)) C (by rfl) d3_16 rfl ?_
    refine w_isub (q := 18) C rfl d3_17 rfl ?_
    exact w_retI C rfl d3_18 (by decide) (by decide) ⟨rfl, by rcases hR with ⟨q1, q2⟩ | ⟨q1, q2⟩; exact absurd hc q1; rw [q2]⟩
  · refine w_if_lt_f (q := 10) C d3_7 rfl hc ?_
    refine w_iloadN (q := 11) C rfl d3_10 rfl ?_
    refine w_goto (q := 18) C d3_11 (by decide) (by decide) ?_
    exact w_retI C rfl d3_18 (by decide) (by decide) ⟨rfl, by rcases hR with ⟨q1, q2⟩ | ⟨q1, q2⟩; rw [q2]; exact absurd q1 hc⟩
theorem own_and3 (x : Int32) : x &&& 3 = 0 ∨ x &&& 3 = 1 ∨ x &&& 3 = 2 ∨ x &&& 3 = 3 := by
  have h := c_mask x 3 2 (by decide) (by decide)
  have h2 : 0 ≤ (x &&& 3).toInt ∧ (x &&& 3).toInt < 4 := by rw [h]; constructor <;> omega
  simp only [own_eq]
  show _ = 0 ∨ _ = 1 ∨ _ = 2 ∨ _ = 3
  omega
theorem own_mid {a b c lo hi mid : Int32} (h1 : (if c < (if b < a then b else a) then c else (if b < a then b else a)) = lo) (h2 : (if (if a < b then b else a) < c then c else (if a < b then b else a)) = hi)
    (h3 : (a.toInt64 + b.toInt64 + c.toInt64 - lo.toInt64 - hi.toInt64).toInt32 = mid) : lo.toInt ≤ mid.toInt ∧ mid.toInt ≤ hi.toInt := by
  have e1 := c_ladd a.toInt64 b.toInt64
  have e2 := c_ladd (a.toInt64 + b.toInt64) c.toInt64
  have e3 := c_lsub (a.toInt64 + b.toInt64 + c.toInt64) lo.toInt64
  have e4 := c_lsub (a.toInt64 + b.toInt64 + c.toInt64 - lo.toInt64) hi.toInt64
  have e5 := c_l2i (a.toInt64 + b.toInt64 + c.toInt64 - lo.toInt64 - hi.toInt64)
  rw [h3] at e5
  have r1 := rng32 a
  have r2 := rng32 b
  have r3 := rng32 c
  have r4 := rng32 lo
  have r5 := rng32 hi
  have r6 := rng32 mid
  have r7 := rng64 (a.toInt64 + b.toInt64)
  have r8 := rng64 (a.toInt64 + b.toInt64 + c.toInt64)
  have r9 := rng64 (a.toInt64 + b.toInt64 + c.toInt64 - lo.toInt64)
  have r10 := rng64 (a.toInt64 + b.toInt64 + c.toInt64 - lo.toInt64 - hi.toInt64)
  simp only [c_i2l] at e1 e2 e3 e4
  have hlo : lo.toInt = min (min a.toInt b.toInt) c.toInt := by
    subst h1; simp only [own_lt]; (repeat' split) <;> omega
  have hhi : hi.toInt = max (max a.toInt b.toInt) c.toInt := by
    subst h2; simp only [own_lt]; (repeat' split) <;> omega
  omega

-- CUT
theorem pf0 : plainFor (⟨"com/example/portcullis/portcullis/dds/DomainsIntervalPinLaw", "law", "(IIIII)Z"⟩ : MethodName) = true := by first | exact plainFor_of_name (by first | (simp [plainName, overriddenIn]; done) | decide +kernel) | decide +kernel
theorem ef_law (m : MethodId) (z0 : Int32) (z1 : Int32) (z2 : Int32) (z3 : Int32) (z4 : Int32) : entryFrame m #[(.int z0), (.int z1), (.int z2), (.int z3), (.int z4)] maxLocals = mkF m 0 #[.val (.int z0), .val (.int z1), .val (.int z2), .val (.int z3), .val (.int z4), .unset, .unset, .unset, .unset, .unset, .unset, .unset, .unset, .unset] [] := by first | (simp [entryFrame, mkF, argsToLocals, Value.category, *, maxLocals]; done) | rfl
set_option maxRecDepth 65536 in
set_option maxHeartbeats 40000000 in
theorem rm_law {l : Launch} {Z : State} {a0 : Array Value} {n0 : Nat} (G : Gl Z a0 n0) {h0 : Heap} (O : Old Z n0 h0) (a : Int32) (b : Int32) (c0 : Int32) (x0 : Int32) (sel : Int32) :
    Ct tables_1 l Z n0 x code maxLocals ret room_1 #[(.int a), (.int b), (.int c0), (.int x0), (.int sel)] h0 (fun v h => v = some (.int 1)) := by
  refine Ct.intro pf0 ?_
  intro p e s m below meth c C
  refine AtW.cast ?_ (ef_law m a b c0 x0 sel)
  refine w_iloadN (q := 1) C rfl at_0 rfl ?_
  refine w_iloadN (q := 2) C rfl at_1 rfl ?_
  refine w_callS (q := 5) (argsL := [(.int a), (.int b)]) (S := []) (W := 0) (cells' := 0) (slots' := 0) C (G.1 _ (List.mem_of_getElem? (i := 0) rfl)) (G.1 _ (List.mem_of_getElem? (i := 1) rfl)) (G.1 _ (List.mem_of_getElem? (i := 2) rfl)) (G.1 _ (List.mem_of_getElem? (i := 3) rfl)) (by decide) (rm_min G O _ _) rfl (lenOf pd_1 rfl) rfl (by decide) (own_leb rfl) (by decide) rfl rfl (by decide) (by decide) at_2 rfl ?_
  rintro _ h17 ⟨eh18, rfl⟩
  rw [eh18]
  show AtW p l e _ s m _ below meth c n0 _ h0 0 0 (mkF m 5 #[.val (.int a), .val (.int b), .val (.int c0), .val (.int x0), .val (.int sel), .unset, .unset, .unset, .unset, .unset, .unset, .unset, .unset, .unset] [(.int (if b < a then b else a))])
  refine w_iloadN (q := 6) C rfl at_5 rfl ?_
  refine w_callS (q := 9) (argsL := [(.int (if b < a then b else a)), (.int c0)]) (S := []) (W := 0) (cells' := 0) (slots' := 0) C (G.1 _ (List.mem_of_getElem? (i := 0) rfl)) (G.1 _ (List.mem_of_getElem? (i := 1) rfl)) (G.1 _ (List.mem_of_getElem? (i := 2) rfl)) (G.1 _ (List.mem_of_getElem? (i := 3) rfl)) (by decide) (rm_min G O _ _) rfl (lenOf pd_1 rfl) rfl (by decide) (own_leb rfl) (by decide) rfl rfl (by decide) (by decide) at_6 rfl ?_
  rintro _ h19 ⟨eh20, rfl⟩
  rw [eh20]
  show AtW p l e _ s m _ below meth c n0 _ h0 0 0 (mkF m 9 #[.val (.int a), .val (.int b), .val (.int c0), .val (.int x0), .val (.int sel), .unset, .unset, .unset, .unset, .unset, .unset, .unset, .unset, .unset] [(.int (if c0 < (if b < a then b else a) then c0 else (if b < a then b else a)))])
  generalize hlo : (if c0 < (if b < a then b else a) then c0 else (if b < a then b else a)) = lo
  refine w_istore (q := 11) (L' := #[.val (.int a), .val (.int b), .val (.int c0), .val (.int x0), .val (.int sel), .val (.int lo), .unset, .unset, .unset, .unset, .unset, .unset, .unset, .unset]) C rfl at_9 rfl ?_
  refine w_iloadN (q := 12) C rfl at_11 rfl ?_
  refine w_iloadN (q := 13) C rfl at_12 rfl ?_
  refine w_callS (q := 16) (argsL := [(.int a), (.int b)]) (S := []) (W := 0) (cells' := 0) (slots' := 0) C (G.1 _ (List.mem_of_getElem? (i := 4) rfl)) (G.1 _ (List.mem_of_getElem? (i := 5) rfl)) (G.1 _ (List.mem_of_getElem? (i := 2) rfl)) (G.1 _ (List.mem_of_getElem? (i := 6) rfl)) (by decide) (rm_max G O _ _) rfl (lenOf pd_1 rfl) rfl (by decide) (own_leb rfl) (by decide) rfl rfl (by decide) (by decide) at_13 rfl ?_
  rintro _ h21 ⟨eh22, rfl⟩
  rw [eh22]
  show AtW p l e _ s m _ below meth c n0 _ h0 0 0 (mkF m 16 #[.val (.int a), .val (.int b), .val (.int c0), .val (.int x0), .val (.int sel), .val (.int lo), .unset, .unset, .unset, .unset, .unset, .unset, .unset, .unset] [(.int (if a < b then b else a))])
  refine w_iloadN (q := 17) C rfl at_16 rfl ?_
  refine w_callS (q := 20) (argsL := [(.int (if a < b then b else a)), (.int c0)]) (S := []) (W := 0) (cells' := 0) (slots' := 0) C (G.1 _ (List.mem_of_getElem? (i := 4) rfl)) (G.1 _ (List.mem_of_getElem? (i := 5) rfl)) (G.1 _ (List.mem_of_getElem? (i := 2) rfl)) (G.1 _ (List.mem_of_getElem? (i := 6) rfl)) (by decide) (rm_max G O _ _) rfl (lenOf pd_1 rfl) rfl (by decide) (own_leb rfl) (by decide) rfl rfl (by decide) (by decide) at_17 rfl ?_
  rintro _ h23 ⟨eh24, rfl⟩
  rw [eh24]
  show AtW p l e _ s m _ below meth c n0 _ h0 0 0 (mkF m 20 #[.val (.int a), .val (.int b), .val (.int c0), .val (.int x0), .val (.int sel), .val (.int lo), .unset, .unset, .unset, .unset, .unset, .unset, .unset, .unset] [(.int (if (if a < b then b else a) < c0 then c0 else (if a < b then b else a)))])
  generalize hhi : (if (if a < b then b else a) < c0 then c0 else (if a < b then b else a)) = hi
  refine w_istore (q := 22) (L' := #[.val (.int a), .val (.int b), .val (.int c0), .val (.int x0), .val (.int sel), .val (.int lo), .val (.int hi), .unset, .unset, .unset, .unset, .unset, .unset, .unset]) C rfl at_20 rfl ?_
  refine w_iloadN (q := 23) C rfl at_22 rfl ?_
  refine w_i2l (q := 24) C rfl at_23 rfl ?_
  refine w_iloadN (q := 25) C rfl at_24 rfl ?_
  refine w_i2l (q := 26) C rfl at_25 rfl ?_
  refine w_ladd (q := 27) C rfl at_26 rfl ?_
  refine w_iloadN (q := 28) C rfl at_27 rfl ?_
  refine w_i2l (q := 29) C rfl at_28 rfl ?_
  refine w_ladd (q := 30) C rfl at_29 rfl ?_
  refine w_iload (q := 32) C rfl at_30 rfl ?_
  refine w_i2l (q := 33) C rfl at_32 rfl ?_
  refine w_lsub (q := 34) C rfl at_33 rfl ?_
  refine w_iload (q := 36) C rfl at_34 rfl ?_
  refine w_i2l (q := 37) C rfl at_36 rfl ?_
  refine w_lsub (q := 38) C rfl at_37 rfl ?_
  refine w_l2i (q := 39) C rfl at_38 rfl ?_
  generalize hmid : ((((((a.toInt64) + (b.toInt64)) + (c0.toInt64)) - (lo.toInt64)) - (hi.toInt64)).toInt32) = mid
  have hm := own_mid hlo hhi hmid
  refine w_istore (q := 41) (L' := #[.val (.int a), .val (.int b), .val (.int c0), .val (.int x0), .val (.int sel), .val (.int lo), .val (.int hi), .val (.int mid), .unset, .unset, .unset, .unset, .unset, .unset]) C rfl at_39 rfl ?_
  refine w_iload (q := 43) C rfl at_41 rfl ?_
  refine w_iconst (q := 44) (v := (3 : Int32)) C (by rfl) at_43 rfl ?_
  refine w_iand (q := 45) C rfl at_44 rfl ?_
  generalize hn : (sel &&& (3 : Int32)) = n
  refine w_istore (q := 47) (L' := #[.val (.int a), .val (.int b), .val (.int c0), .val (.int x0), .val (.int sel), .val (.int lo), .val (.int hi), .val (.int mid), .val (.int n), .unset, .unset, .unset, .unset, .unset]) C rfl at_45 rfl ?_
  rcases own_and3 sel with q | q | q | q <;> rw [hn] at q <;> subst q
  · show AtW p l e _ s m _ below meth c n0 _ h0 0 0 (mkF m 47 #[.val (.int a), .val (.int b), .val (.int c0), .val (.int x0), .val (.int sel), .val (.int lo), .val (.int hi), .val (.int mid), .val (.int (0 : Int32)), .unset, .unset, .unset, .unset, .unset] [])
    refine w_iload (q := 49) C rfl at_47 rfl ?_
    refine w_iconst (q := 50) (v := (2 : Int32)) C (by rfl) at_49 rfl ?_
    refine w_icmp_lt_t (q := 60) C at_50 (by decide) (by decide) (by decide) ?_
    refine w_iload (q := 62) C rfl at_60 rfl ?_
    refine w_iconst (q := 63) (v := (3 : Int32)) C (by rfl) at_62 rfl ?_
    refine w_icmp_ne_t (q := 75) C at_63 (by decide) (by decide) (by decide) ?_
    refine w_iload (q := 77) C rfl at_75 rfl ?_
    refine w_iconst (q := 78) (v := (2 : Int32)) C (by rfl) at_77 rfl ?_
    refine w_iushr (q := 79) C rfl at_78 rfl ?_
    refine w_iconst (q := 80) (v := (3 : Int32)) C (by rfl) at_79 rfl ?_
    refine w_iand (q := 81) C rfl at_80 rfl ?_
    refine w_istore (q := 83) (L' := #[.val (.int a), .val (.int b), .val (.int c0), .val (.int x0), .val (.int sel), .val (.int lo), .val (.int hi), .val (.int mid), .val (.int (0 : Int32)), .val (.int (((sel.toUInt32 >>> ((2 : Int32) &&& 31).toUInt32).toInt32) &&& (3 : Int32))), .unset, .unset, .unset, .unset]) C rfl at_81 rfl ?_
    refine w_iload (q := 85) C rfl at_83 rfl ?_
    refine w_iconst (q := 86) (v := (4 : Int32)) C (by rfl) at_85 rfl ?_
    refine w_iushr (q := 87) C rfl at_86 rfl ?_
    refine w_iconst (q := 88) (v := (3 : Int32)) C (by rfl) at_87 rfl ?_
    refine w_iand (q := 89) C rfl at_88 rfl ?_
    refine w_iconst (q := 90) (v := (1 : Int32)) C (by rfl) at_89 rfl ?_
    refine w_isub (q := 91) C rfl at_90 rfl ?_
    refine w_istore (q := 93) (L' := #[.val (.int a), .val (.int b), .val (.int c0), .val (.int x0), .val (.int sel), .val (.int lo), .val (.int hi), .val (.int mid), .val (.int (0 : Int32)), .val (.int (((sel.toUInt32 >>> ((2 : Int32) &&& 31).toUInt32).toInt32) &&& (3 : Int32))), .val (.int ((((sel.toUInt32 >>> ((4 : Int32) &&& 31).toUInt32).toInt32) &&& (3 : Int32)) - (1 : Int32))), .unset, .unset, .unset]) C rfl at_91 rfl ?_
    have J : ∀ id : Int32, AtW p l e room_1 s m #[(.int a), (.int b), (.int c0), (.int x0), (.int sel)] below meth c n0 (fun v h => v = some (.int 1)) h0 0 0 (mkF m 143 #[.val (.int a), .val (.int b), .val (.int c0), .val (.int x0), .val (.int sel), .val (.int lo), .val (.int hi), .val (.int mid), .val (.int (0 : Int32)), .val (.int (((sel.toUInt32 >>> ((2 : Int32) &&& 31).toUInt32).toInt32) &&& (3 : Int32))), .val (.int ((((sel.toUInt32 >>> ((4 : Int32) &&& 31).toUInt32).toInt32) &&& (3 : Int32)) - (1 : Int32))), .val (.int id), .unset, .unset] []) := by
      intro id
      refine w_iload (q := 145) C rfl at_143 rfl ?_
      refine w_if_ne_f (q := 148) C at_145 rfl (by decide) ?_
      refine w_iconst (q := 149) (v := (0 : Int32)) C (by rfl) at_148 rfl ?_
      refine w_newArr (q := 151) (cap := 0) (cells' := 1) (slots' := 0) C (G.1 _ (List.mem_of_getElem? (i := 7) rfl)) rfl (by decide) (by decide) (by decide) rfl rfl (by decide) (by decide) at_149 rfl ?_
      intro h25 o26 g_o26 Eh25 V_o26
      replace V_o26 : Ar Z h25 o26 .int [] := V_o26
      have ga : n0 ≤ o26 := by rw [g_o26, ← O.1]; exact O.2.1
      have Kh25 : Keep h0 h25 [] := Keep.of_ext Eh25
      have O2 : Old Z n0 h25 := O.keep Kh25 all0
      refine w_astore (q := 153) (L' := #[.val (.int a), .val (.int b), .val (.int c0), .val (.int x0), .val (.int sel), .val (.int lo), .val (.int hi), .val (.int mid), .val (.int (0 : Int32)), .val (.int (((sel.toUInt32 >>> ((2 : Int32) &&& 31).toUInt32).toInt32) &&& (3 : Int32))), .val (.int ((((sel.toUInt32 >>> ((4 : Int32) &&& 31).toUInt32).toInt32) &&& (3 : Int32)) - (1 : Int32))), .val (.int id), .val (.ref o26), .unset]) C rfl rfl at_151 rfl ?_
      refine w_iconst (q := 154) (v := (0 : Int32)) C (by rfl) at_153 rfl ?_
      refine w_istore (q := 156) (L' := #[.val (.int a), .val (.int b), .val (.int c0), .val (.int x0), .val (.int sel), .val (.int lo), .val (.int hi), .val (.int mid), .val (.int (0 : Int32)), .val (.int (((sel.toUInt32 >>> ((2 : Int32) &&& 31).toUInt32).toInt32) &&& (3 : Int32))), .val (.int ((((sel.toUInt32 >>> ((4 : Int32) &&& 31).toUInt32).toInt32) &&& (3 : Int32)) - (1 : Int32))), .val (.int id), .val (.ref o26), .val (.int (0 : Int32))]) C rfl at_154 rfl ?_
      refine w_goto (q := 273) C at_156 (by decide) (by decide) ?_
      refine w_aload (q := 275) C rfl rfl at_273 rfl ?_
      refine w_iload (q := 277) C rfl at_275 rfl ?_
      have V9 : Ar Z h25 o26 .int ([].map Value.int) := V_o26
      refine w_callS (q := 280) (argsL := [(.ref o26), (.int id)]) (S := []) (W := 0) (cells' := 1) (slots' := 0) C (G.1 _ (List.mem_of_getElem? (i := 8) rfl)) (G.1 _ (List.mem_of_getElem? (i := 9) rfl)) (G.1 _ (List.mem_of_getElem? (i := 10) rfl)) (G.1 _ (List.mem_of_getElem? (i := 11) rfl)) (by decide) (rm_interval G O2 o26 [] id V9 trivial (own_leb rfl)) rfl (lenOf pd_2 rfl) rfl (by decide) (own_leb rfl) (by decide) rfl rfl (by decide) (by decide) at_277 rfl ?_
      rintro _ h27 ⟨eh28, rfl⟩
      rw [eh28]
      show AtW p l e _ s m _ below meth c n0 _ h25 1 0 (mkF m 280 #[.val (.int a), .val (.int b), .val (.int c0), .val (.int x0), .val (.int sel), .val (.int lo), .val (.int hi), .val (.int mid), .val (.int (0 : Int32)), .val (.int (((sel.toUInt32 >>> ((2 : Int32) &&& 31).toUInt32).toInt32) &&& (3 : Int32))), .val (.int ((((sel.toUInt32 >>> ((4 : Int32) &&& 31).toUInt32).toInt32) &&& (3 : Int32)) - (1 : Int32))), .val (.int id), .val (.ref o26), .val (.int (0 : Int32))] [(.int (own_cnt id [] - 1))])
      refine w_iload (q := 282) C rfl at_280 rfl ?_
      refine w_iconst (q := 283) (v := (1 : Int32)) C (by rfl) at_282 rfl ?_
      refine w_isub (q := 284) (z := (-1 : Int32)) C (by decide) at_283 rfl ?_
      refine w_icmp_ne_f (q := 287) C at_284 rfl (rfl) ?_
      refine w_iconst (q := 288) (v := (1 : Int32)) C (by rfl) at_287 rfl ?_
      refine w_goto (q := 292) C at_288 (by decide) (by decide) ?_
      exact w_retZ (z := (1 : Int32)) C (t := .boolean) rfl (by simp) (by decide) at_292 (by decide) (by decide) rfl
    refine w_iload (q := 95) C rfl at_93 rfl ?_
    by_cases hc29 : (((sel.toUInt32 >>> ((2 : Int32) &&& 31).toUInt32).toInt32) &&& (3 : Int32)) = 0
    · refine w_if_ne_f (q := 98) C at_95 rfl hc29 ?_
      refine w_iload (q := 100) C rfl at_98 rfl ?_
      refine w_iload (q := 102) C rfl at_100 rfl ?_
      refine w_iadd (q := 103) C rfl at_102 rfl ?_
      refine w_istore (q := 105) (L' := #[.val (.int a), .val (.int b), .val (.int c0), .val (.int x0), .val (.int sel), .val (.int lo), .val (.int hi), .val (.int mid), .val (.int (0 : Int32)), .val (.int (((sel.toUInt32 >>> ((2 : Int32) &&& 31).toUInt32).toInt32) &&& (3 : Int32))), .val (.int ((((sel.toUInt32 >>> ((4 : Int32) &&& 31).toUInt32).toInt32) &&& (3 : Int32)) - (1 : Int32))), .val (.int (lo + ((((sel.toUInt32 >>> ((4 : Int32) &&& 31).toUInt32).toInt32) &&& (3 : Int32)) - (1 : Int32)))), .unset, .unset]) C rfl at_103 rfl ?_
      refine w_goto (q := 143) C at_105 (by decide) (by decide) ?_
      exact J _
    · refine w_if_ne_t (q := 108) C at_95 (by decide) (by decide) hc29 ?_
      refine w_iload (q := 110) C rfl at_108 rfl ?_
      refine w_iconst (q := 111) (v := (1 : Int32)) C (by rfl) at_110 rfl ?_
      by_cases hc30 : (((sel.toUInt32 >>> ((2 : Int32) &&& 31).toUInt32).toInt32) &&& (3 : Int32)) = (1 : Int32)
      · refine w_icmp_ne_f (q := 114) C at_111 rfl hc30 ?_
        refine w_iload (q := 116) C rfl at_114 rfl ?_
        refine w_iload (q := 118) C rfl at_116 rfl ?_
        refine w_iadd (q := 119) C rfl at_118 rfl ?_
        refine w_istore (q := 121) (L' := #[.val (.int a), .val (.int b), .val (.int c0), .val (.int x0), .val (.int sel), .val (.int lo), .val (.int hi), .val (.int mid), .val (.int (0 : Int32)), .val (.int (((sel.toUInt32 >>> ((2 : Int32) &&& 31).toUInt32).toInt32) &&& (3 : Int32))), .val (.int ((((sel.toUInt32 >>> ((4 : Int32) &&& 31).toUInt32).toInt32) &&& (3 : Int32)) - (1 : Int32))), .val (.int (mid + ((((sel.toUInt32 >>> ((4 : Int32) &&& 31).toUInt32).toInt32) &&& (3 : Int32)) - (1 : Int32)))), .unset, .unset]) C rfl at_119 rfl ?_
        refine w_goto (q := 143) C at_121 (by decide) (by decide) ?_
        exact J _
      · refine w_icmp_ne_t (q := 124) C at_111 (by decide) (by decide) hc30 ?_
        refine w_iload (q := 126) C rfl at_124 rfl ?_
        refine w_iconst (q := 127) (v := (2 : Int32)) C (by rfl) at_126 rfl ?_
        by_cases hc31 : (((sel.toUInt32 >>> ((2 : Int32) &&& 31).toUInt32).toInt32) &&& (3 : Int32)) = (2 : Int32)
        · refine w_icmp_ne_f (q := 130) C at_127 rfl hc31 ?_
          refine w_iload (q := 132) C rfl at_130 rfl ?_
          refine w_iload (q := 134) C rfl at_132 rfl ?_
          refine w_iadd (q := 135) C rfl at_134 rfl ?_
          refine w_istore (q := 137) (L' := #[.val (.int a), .val (.int b), .val (.int c0), .val (.int x0), .val (.int sel), .val (.int lo), .val (.int hi), .val (.int mid), .val (.int (0 : Int32)), .val (.int (((sel.toUInt32 >>> ((2 : Int32) &&& 31).toUInt32).toInt32) &&& (3 : Int32))), .val (.int ((((sel.toUInt32 >>> ((4 : Int32) &&& 31).toUInt32).toInt32) &&& (3 : Int32)) - (1 : Int32))), .val (.int (hi + ((((sel.toUInt32 >>> ((4 : Int32) &&& 31).toUInt32).toInt32) &&& (3 : Int32)) - (1 : Int32)))), .unset, .unset]) C rfl at_135 rfl ?_
          refine w_goto (q := 143) C at_137 (by decide) (by decide) ?_
          exact J _
        · refine w_icmp_ne_t (q := 140) C at_127 (by decide) (by decide) hc31 ?_
          refine w_iloadN (q := 141) C rfl at_140 rfl ?_
          refine w_istore (q := 143) (L' := #[.val (.int a), .val (.int b), .val (.int c0), .val (.int x0), .val (.int sel), .val (.int lo), .val (.int hi), .val (.int mid), .val (.int (0 : Int32)), .val (.int (((sel.toUInt32 >>> ((2 : Int32) &&& 31).toUInt32).toInt32) &&& (3 : Int32))), .val (.int ((((sel.toUInt32 >>> ((4 : Int32) &&& 31).toUInt32).toInt32) &&& (3 : Int32)) - (1 : Int32))), .val (.int x0), .unset, .unset]) C rfl at_141 rfl ?_
          exact J _
  · show AtW p l e _ s m _ below meth c n0 _ h0 0 0 (mkF m 47 #[.val (.int a), .val (.int b), .val (.int c0), .val (.int x0), .val (.int sel), .val (.int lo), .val (.int hi), .val (.int mid), .val (.int (1 : Int32)), .unset, .unset, .unset, .unset, .unset] [])
    refine w_iload (q := 49) C rfl at_47 rfl ?_
    refine w_iconst (q := 50) (v := (2 : Int32)) C (by rfl) at_49 rfl ?_
    refine w_icmp_lt_t (q := 60) C at_50 (by decide) (by decide) (by decide) ?_
    refine w_iload (q := 62) C rfl at_60 rfl ?_
    refine w_iconst (q := 63) (v := (3 : Int32)) C (by rfl) at_62 rfl ?_
    refine w_icmp_ne_t (q := 75) C at_63 (by decide) (by decide) (by decide) ?_
    refine w_iload (q := 77) C rfl at_75 rfl ?_
    refine w_iconst (q := 78) (v := (2 : Int32)) C (by rfl) at_77 rfl ?_
    refine w_iushr (q := 79) C rfl at_78 rfl ?_
    refine w_iconst (q := 80) (v := (3 : Int32)) C (by rfl) at_79 rfl ?_
    refine w_iand (q := 81) C rfl at_80 rfl ?_
    refine w_istore (q := 83) (L' := #[.val (.int a), .val (.int b), .val (.int c0), .val (.int x0), .val (.int sel), .val (.int lo), .val (.int hi), .val (.int mid), .val (.int (1 : Int32)), .val (.int (((sel.toUInt32 >>> ((2 : Int32) &&& 31).toUInt32).toInt32) &&& (3 : Int32))), .unset, .unset, .unset, .unset]) C rfl at_81 rfl ?_
    refine w_iload (q := 85) C rfl at_83 rfl ?_
    refine w_iconst (q := 86) (v := (4 : Int32)) C (by rfl) at_85 rfl ?_
    refine w_iushr (q := 87) C rfl at_86 rfl ?_
    refine w_iconst (q := 88) (v := (3 : Int32)) C (by rfl) at_87 rfl ?_
    refine w_iand (q := 89) C rfl at_88 rfl ?_
    refine w_iconst (q := 90) (v := (1 : Int32)) C (by rfl) at_89 rfl ?_
    refine w_isub (q := 91) C rfl at_90 rfl ?_
    refine w_istore (q := 93) (L' := #[.val (.int a), .val (.int b), .val (.int c0), .val (.int x0), .val (.int sel), .val (.int lo), .val (.int hi), .val (.int mid), .val (.int (1 : Int32)), .val (.int (((sel.toUInt32 >>> ((2 : Int32) &&& 31).toUInt32).toInt32) &&& (3 : Int32))), .val (.int ((((sel.toUInt32 >>> ((4 : Int32) &&& 31).toUInt32).toInt32) &&& (3 : Int32)) - (1 : Int32))), .unset, .unset, .unset]) C rfl at_91 rfl ?_
    have J : ∀ id : Int32, AtW p l e room_1 s m #[(.int a), (.int b), (.int c0), (.int x0), (.int sel)] below meth c n0 (fun v h => v = some (.int 1)) h0 0 0 (mkF m 143 #[.val (.int a), .val (.int b), .val (.int c0), .val (.int x0), .val (.int sel), .val (.int lo), .val (.int hi), .val (.int mid), .val (.int (1 : Int32)), .val (.int (((sel.toUInt32 >>> ((2 : Int32) &&& 31).toUInt32).toInt32) &&& (3 : Int32))), .val (.int ((((sel.toUInt32 >>> ((4 : Int32) &&& 31).toUInt32).toInt32) &&& (3 : Int32)) - (1 : Int32))), .val (.int id), .unset, .unset] []) := by
      intro id
      refine w_iload (q := 145) C rfl at_143 rfl ?_
      refine w_if_ne_t (q := 159) C at_145 (by decide) (by decide) (by decide) ?_
      refine w_iload (q := 161) C rfl at_159 rfl ?_
      refine w_iconst (q := 162) (v := (1 : Int32)) C (by rfl) at_161 rfl ?_
      refine w_icmp_ne_f (q := 165) C at_162 rfl (by decide) ?_
      refine w_iconst (q := 166) (v := (1 : Int32)) C (by rfl) at_165 rfl ?_
      refine w_newArr (q := 168) (cap := 1) (cells' := 1) (slots' := 1) C (G.1 _ (List.mem_of_getElem? (i := 7) rfl)) rfl (by decide) (by decide) (by decide) rfl rfl (by decide) (by decide) at_166 rfl ?_
      intro h32 o33 g_o33 Eh32 V_o33
      replace V_o33 : Ar Z h32 o33 .int [(.int (0 : Int32))] := V_o33
      have ga : n0 ≤ o33 := by rw [g_o33, ← O.1]; exact O.2.1
      have Kh32 : Keep h0 h32 [] := Keep.of_ext Eh32
      refine w_dup (q := 169) C rfl at_168 rfl ?_
      refine w_iconst (q := 170) (v := (0 : Int32)) C (by rfl) at_169 rfl ?_
      refine w_iload (q := 172) C rfl at_170 rfl ?_
      refine w_iastore (q := 173) (i := 0) C V_o33 rfl (own_ltb rfl) ga at_172 rfl ?_
      intro h34 Wh34 Vh34
      have Kh34 : Keep h0 h34 [] := Kh32.wr Wh34 (Or.inr (by rw [g_o33]; exact Nat.le_refl _))
      have O2 : Old Z n0 h34 := O.keep Kh34 all0
      refine w_astore (q := 175) (L' := #[.val (.int a), .val (.int b), .val (.int c0), .val (.int x0), .val (.int sel), .val (.int lo), .val (.int hi), .val (.int mid), .val (.int (1 : Int32)), .val (.int (((sel.toUInt32 >>> ((2 : Int32) &&& 31).toUInt32).toInt32) &&& (3 : Int32))), .val (.int ((((sel.toUInt32 >>> ((4 : Int32) &&& 31).toUInt32).toInt32) &&& (3 : Int32)) - (1 : Int32))), .val (.int id), .val (.ref o33), .unset]) C rfl rfl at_173 rfl ?_
      refine w_iload (q := 177) C rfl at_175 rfl ?_
      refine w_iload (q := 179) C rfl at_177 rfl ?_
      refine w_callS (q := 182) (argsL := [(.int lo), (.int id)]) (S := []) (W := 0) (cells' := 1) (slots' := 1) C (G.1 _ (List.mem_of_getElem? (i := 19) rfl)) (G.1 _ (List.mem_of_getElem? (i := 20) rfl)) (G.1 _ (List.mem_of_getElem? (i := 21) rfl)) (G.1 _ (List.mem_of_getElem? (i := 22) rfl)) (by decide) (rm_le G O2 _ _) rfl (lenOf pd_1 rfl) rfl (by decide) (own_leb rfl) (by decide) rfl rfl (by decide) (by decide) at_179 rfl ?_
      rintro _ h35 ⟨eh36, rfl⟩
      rw [eh36]
      show AtW p l e _ s m _ below meth c n0 _ h34 1 1 (mkF m 182 #[.val (.int a), .val (.int b), .val (.int c0), .val (.int x0), .val (.int sel), .val (.int lo), .val (.int hi), .val (.int mid), .val (.int (1 : Int32)), .val (.int (((sel.toUInt32 >>> ((2 : Int32) &&& 31).toUInt32).toInt32) &&& (3 : Int32))), .val (.int ((((sel.toUInt32 >>> ((4 : Int32) &&& 31).toUInt32).toInt32) &&& (3 : Int32)) - (1 : Int32))), .val (.int id), .val (.ref o33), .unset] [(.int (if id < lo then 0 else 1))])
      refine w_istore (q := 184) (L' := #[.val (.int a), .val (.int b), .val (.int c0), .val (.int x0), .val (.int sel), .val (.int lo), .val (.int hi), .val (.int mid), .val (.int (1 : Int32)), .val (.int (((sel.toUInt32 >>> ((2 : Int32) &&& 31).toUInt32).toInt32) &&& (3 : Int32))), .val (.int ((((sel.toUInt32 >>> ((4 : Int32) &&& 31).toUInt32).toInt32) &&& (3 : Int32)) - (1 : Int32))), .val (.int id), .val (.ref o33), .val (.int (if id < lo then 0 else 1))]) C rfl at_182 rfl ?_
      refine w_goto (q := 273) C at_184 (by decide) (by decide) ?_
      refine w_aload (q := 275) C rfl rfl at_273 rfl ?_
      refine w_iload (q := 277) C rfl at_275 rfl ?_
      have V9 : Ar Z h34 o33 .int ([lo].map Value.int) := Vh34
      refine w_callS (q := 280) (argsL := [(.ref o33), (.int id)]) (S := []) (W := 0) (cells' := 1) (slots' := 1) C (G.1 _ (List.mem_of_getElem? (i := 8) rfl)) (G.1 _ (List.mem_of_getElem? (i := 9) rfl)) (G.1 _ (List.mem_of_getElem? (i := 10) rfl)) (G.1 _ (List.mem_of_getElem? (i := 11) rfl)) (by decide) (rm_interval G O2 o33 [lo] id V9 ⟨by simp, trivial⟩ (own_leb rfl)) rfl (lenOf pd_2 rfl) rfl (by decide) (own_leb rfl) (by decide) rfl rfl (by decide) (by decide) at_277 rfl ?_
      rintro _ h37 ⟨eh38, rfl⟩
      rw [eh38]
      show AtW p l e _ s m _ below meth c n0 _ h34 1 1 (mkF m 280 #[.val (.int a), .val (.int b), .val (.int c0), .val (.int x0), .val (.int sel), .val (.int lo), .val (.int hi), .val (.int mid), .val (.int (1 : Int32)), .val (.int (((sel.toUInt32 >>> ((2 : Int32) &&& 31).toUInt32).toInt32) &&& (3 : Int32))), .val (.int ((((sel.toUInt32 >>> ((4 : Int32) &&& 31).toUInt32).toInt32) &&& (3 : Int32)) - (1 : Int32))), .val (.int id), .val (.ref o33), .val (.int (if id < lo then 0 else 1))] [(.int (own_cnt id [lo] - 1))])
      refine w_iload (q := 282) C rfl at_280 rfl ?_
      refine w_iconst (q := 283) (v := (1 : Int32)) C (by rfl) at_282 rfl ?_
      refine w_isub (q := 284) C rfl at_283 rfl ?_
      refine w_icmp_ne_f (q := 287) C at_284 rfl (by simp [own_cnt]) ?_
      refine w_iconst (q := 288) (v := (1 : Int32)) C (by rfl) at_287 rfl ?_
      refine w_goto (q := 292) C at_288 (by decide) (by decide) ?_
      exact w_retZ (z := (1 : Int32)) C (t := .boolean) rfl (by simp) (by decide) at_292 (by decide) (by decide) rfl
    refine w_iload (q := 95) C rfl at_93 rfl ?_
    by_cases hc39 : (((sel.toUInt32 >>> ((2 : Int32) &&& 31).toUInt32).toInt32) &&& (3 : Int32)) = 0
    · refine w_if_ne_f (q := 98) C at_95 rfl hc39 ?_
      refine w_iload (q := 100) C rfl at_98 rfl ?_
      refine w_iload (q := 102) C rfl at_100 rfl ?_
      refine w_iadd (q := 103) C rfl at_102 rfl ?_
      refine w_istore (q := 105) (L' := #[.val (.int a), .val (.int b), .val (.int c0), .val (.int x0), .val (.int sel), .val (.int lo), .val (.int hi), .val (.int mid), .val (.int (1 : Int32)), .val (.int (((sel.toUInt32 >>> ((2 : Int32) &&& 31).toUInt32).toInt32) &&& (3 : Int32))), .val (.int ((((sel.toUInt32 >>> ((4 : Int32) &&& 31).toUInt32).toInt32) &&& (3 : Int32)) - (1 : Int32))), .val (.int (lo + ((((sel.toUInt32 >>> ((4 : Int32) &&& 31).toUInt32).toInt32) &&& (3 : Int32)) - (1 : Int32)))), .unset, .unset]) C rfl at_103 rfl ?_
      refine w_goto (q := 143) C at_105 (by decide) (by decide) ?_
      exact J _
    · refine w_if_ne_t (q := 108) C at_95 (by decide) (by decide) hc39 ?_
      refine w_iload (q := 110) C rfl at_108 rfl ?_
      refine w_iconst (q := 111) (v := (1 : Int32)) C (by rfl) at_110 rfl ?_
      by_cases hc40 : (((sel.toUInt32 >>> ((2 : Int32) &&& 31).toUInt32).toInt32) &&& (3 : Int32)) = (1 : Int32)
      · refine w_icmp_ne_f (q := 114) C at_111 rfl hc40 ?_
        refine w_iload (q := 116) C rfl at_114 rfl ?_
        refine w_iload (q := 118) C rfl at_116 rfl ?_
        refine w_iadd (q := 119) C rfl at_118 rfl ?_
        refine w_istore (q := 121) (L' := #[.val (.int a), .val (.int b), .val (.int c0), .val (.int x0), .val (.int sel), .val (.int lo), .val (.int hi), .val (.int mid), .val (.int (1 : Int32)), .val (.int (((sel.toUInt32 >>> ((2 : Int32) &&& 31).toUInt32).toInt32) &&& (3 : Int32))), .val (.int ((((sel.toUInt32 >>> ((4 : Int32) &&& 31).toUInt32).toInt32) &&& (3 : Int32)) - (1 : Int32))), .val (.int (mid + ((((sel.toUInt32 >>> ((4 : Int32) &&& 31).toUInt32).toInt32) &&& (3 : Int32)) - (1 : Int32)))), .unset, .unset]) C rfl at_119 rfl ?_
        refine w_goto (q := 143) C at_121 (by decide) (by decide) ?_
        exact J _
      · refine w_icmp_ne_t (q := 124) C at_111 (by decide) (by decide) hc40 ?_
        refine w_iload (q := 126) C rfl at_124 rfl ?_
        refine w_iconst (q := 127) (v := (2 : Int32)) C (by rfl) at_126 rfl ?_
        by_cases hc41 : (((sel.toUInt32 >>> ((2 : Int32) &&& 31).toUInt32).toInt32) &&& (3 : Int32)) = (2 : Int32)
        · refine w_icmp_ne_f (q := 130) C at_127 rfl hc41 ?_
          refine w_iload (q := 132) C rfl at_130 rfl ?_
          refine w_iload (q := 134) C rfl at_132 rfl ?_
          refine w_iadd (q := 135) C rfl at_134 rfl ?_
          refine w_istore (q := 137) (L' := #[.val (.int a), .val (.int b), .val (.int c0), .val (.int x0), .val (.int sel), .val (.int lo), .val (.int hi), .val (.int mid), .val (.int (1 : Int32)), .val (.int (((sel.toUInt32 >>> ((2 : Int32) &&& 31).toUInt32).toInt32) &&& (3 : Int32))), .val (.int ((((sel.toUInt32 >>> ((4 : Int32) &&& 31).toUInt32).toInt32) &&& (3 : Int32)) - (1 : Int32))), .val (.int (hi + ((((sel.toUInt32 >>> ((4 : Int32) &&& 31).toUInt32).toInt32) &&& (3 : Int32)) - (1 : Int32)))), .unset, .unset]) C rfl at_135 rfl ?_
          refine w_goto (q := 143) C at_137 (by decide) (by decide) ?_
          exact J _
        · refine w_icmp_ne_t (q := 140) C at_127 (by decide) (by decide) hc41 ?_
          refine w_iloadN (q := 141) C rfl at_140 rfl ?_
          refine w_istore (q := 143) (L' := #[.val (.int a), .val (.int b), .val (.int c0), .val (.int x0), .val (.int sel), .val (.int lo), .val (.int hi), .val (.int mid), .val (.int (1 : Int32)), .val (.int (((sel.toUInt32 >>> ((2 : Int32) &&& 31).toUInt32).toInt32) &&& (3 : Int32))), .val (.int ((((sel.toUInt32 >>> ((4 : Int32) &&& 31).toUInt32).toInt32) &&& (3 : Int32)) - (1 : Int32))), .val (.int x0), .unset, .unset]) C rfl at_141 rfl ?_
          exact J _
  · show AtW p l e _ s m _ below meth c n0 _ h0 0 0 (mkF m 47 #[.val (.int a), .val (.int b), .val (.int c0), .val (.int x0), .val (.int sel), .val (.int lo), .val (.int hi), .val (.int mid), .val (.int (2 : Int32)), .unset, .unset, .unset, .unset, .unset] [])
    refine w_iload (q := 49) C rfl at_47 rfl ?_
    refine w_iconst (q := 50) (v := (2 : Int32)) C (by rfl) at_49 rfl ?_
    refine w_icmp_lt_f (q := 53) C at_50 rfl (by decide) ?_
    refine w_iload (q := 55) C rfl at_53 rfl ?_
    refine w_iload (q := 57) C rfl at_55 rfl ?_
    by_cases hc42 : lo = mid
    · refine w_icmp_eq_t (q := 73) C at_57 (by decide) (by decide) hc42 ?_
      refine w_iconst (q := 74) (v := (1 : Int32)) C (by rfl) at_73 rfl ?_
      exact w_retZ (z := (1 : Int32)) C (t := .boolean) rfl (by simp) (by decide) at_74 (by decide) (by decide) rfl
    · refine w_icmp_eq_f (q := 60) C at_57 rfl hc42 ?_
      refine w_iload (q := 62) C rfl at_60 rfl ?_
      refine w_iconst (q := 63) (v := (3 : Int32)) C (by rfl) at_62 rfl ?_
      refine w_icmp_ne_t (q := 75) C at_63 (by decide) (by decide) (by decide) ?_
      refine w_iload (q := 77) C rfl at_75 rfl ?_
      refine w_iconst (q := 78) (v := (2 : Int32)) C (by rfl) at_77 rfl ?_
      refine w_iushr (q := 79) C rfl at_78 rfl ?_
      refine w_iconst (q := 80) (v := (3 : Int32)) C (by rfl) at_79 rfl ?_
      refine w_iand (q := 81) C rfl at_80 rfl ?_
      refine w_istore (q := 83) (L' := #[.val (.int a), .val (.int b), .val (.int c0), .val (.int x0), .val (.int sel), .val (.int lo), .val (.int hi), .val (.int mid), .val (.int (2 : Int32)), .val (.int (((sel.toUInt32 >>> ((2 : Int32) &&& 31).toUInt32).toInt32) &&& (3 : Int32))), .unset, .unset, .unset, .unset]) C rfl at_81 rfl ?_
      refine w_iload (q := 85) C rfl at_83 rfl ?_
      refine w_iconst (q := 86) (v := (4 : Int32)) C (by rfl) at_85 rfl ?_
      refine w_iushr (q := 87) C rfl at_86 rfl ?_
      refine w_iconst (q := 88) (v := (3 : Int32)) C (by rfl) at_87 rfl ?_
      refine w_iand (q := 89) C rfl at_88 rfl ?_
      refine w_iconst (q := 90) (v := (1 : Int32)) C (by rfl) at_89 rfl ?_
      refine w_isub (q := 91) C rfl at_90 rfl ?_
      refine w_istore (q := 93) (L' := #[.val (.int a), .val (.int b), .val (.int c0), .val (.int x0), .val (.int sel), .val (.int lo), .val (.int hi), .val (.int mid), .val (.int (2 : Int32)), .val (.int (((sel.toUInt32 >>> ((2 : Int32) &&& 31).toUInt32).toInt32) &&& (3 : Int32))), .val (.int ((((sel.toUInt32 >>> ((4 : Int32) &&& 31).toUInt32).toInt32) &&& (3 : Int32)) - (1 : Int32))), .unset, .unset, .unset]) C rfl at_91 rfl ?_
      have J : ∀ id : Int32, AtW p l e room_1 s m #[(.int a), (.int b), (.int c0), (.int x0), (.int sel)] below meth c n0 (fun v h => v = some (.int 1)) h0 0 0 (mkF m 143 #[.val (.int a), .val (.int b), .val (.int c0), .val (.int x0), .val (.int sel), .val (.int lo), .val (.int hi), .val (.int mid), .val (.int (2 : Int32)), .val (.int (((sel.toUInt32 >>> ((2 : Int32) &&& 31).toUInt32).toInt32) &&& (3 : Int32))), .val (.int ((((sel.toUInt32 >>> ((4 : Int32) &&& 31).toUInt32).toInt32) &&& (3 : Int32)) - (1 : Int32))), .val (.int id), .unset, .unset] []) := by
        intro id
        refine w_iload (q := 145) C rfl at_143 rfl ?_
        refine w_if_ne_t (q := 159) C at_145 (by decide) (by decide) (by decide) ?_
        refine w_iload (q := 161) C rfl at_159 rfl ?_
        refine w_iconst (q := 162) (v := (1 : Int32)) C (by rfl) at_161 rfl ?_
        refine w_icmp_ne_t (q := 187) C at_162 (by decide) (by decide) (by decide) ?_
        refine w_iload (q := 189) C rfl at_187 rfl ?_
        refine w_iconst (q := 190) (v := (2 : Int32)) C (by rfl) at_189 rfl ?_
        refine w_icmp_ne_f (q := 193) C at_190 rfl (by decide) ?_
        refine w_iconst (q := 194) (v := (2 : Int32)) C (by rfl) at_193 rfl ?_
        refine w_newArr (q := 196) (cap := 2) (cells' := 1) (slots' := 2) C (G.1 _ (List.mem_of_getElem? (i := 7) rfl)) rfl (by decide) (by decide) (by decide) rfl rfl (by decide) (by decide) at_194 rfl ?_
        intro h43 o44 g_o44 Eh43 V_o44
        replace V_o44 : Ar Z h43 o44 .int [(.int (0 : Int32)), (.int (0 : Int32))] := V_o44
        have ga : n0 ≤ o44 := by rw [g_o44, ← O.1]; exact O.2.1
        have Kh43 : Keep h0 h43 [] := Keep.of_ext Eh43
        refine w_dup (q := 197) C rfl at_196 rfl ?_
        refine w_iconst (q := 198) (v := (0 : Int32)) C (by rfl) at_197 rfl ?_
        refine w_iload (q := 200) C rfl at_198 rfl ?_
        refine w_iastore (q := 201) (i := 0) C V_o44 rfl (own_ltb rfl) ga at_200 rfl ?_
        intro h45 Wh45 Vh45
        have Kh45 : Keep h0 h45 [] := Kh43.wr Wh45 (Or.inr (by rw [g_o44]; exact Nat.le_refl _))
        refine w_dup (q := 202) C rfl at_201 rfl ?_
        refine w_iconst (q := 203) (v := (1 : Int32)) C (by rfl) at_202 rfl ?_
        refine w_iload (q := 205) C rfl at_203 rfl ?_
        refine w_iastore (q := 206) (i := 1) C Vh45 rfl (own_ltb rfl) ga at_205 rfl ?_
        intro h46 Wh46 Vh46
        have Kh46 : Keep h0 h46 [] := Kh45.wr Wh46 (Or.inr (by rw [g_o44]; exact Nat.le_refl _))
        have O2 : Old Z n0 h46 := O.keep Kh46 all0
        refine w_astore (q := 208) (L' := #[.val (.int a), .val (.int b), .val (.int c0), .val (.int x0), .val (.int sel), .val (.int lo), .val (.int hi), .val (.int mid), .val (.int (2 : Int32)), .val (.int (((sel.toUInt32 >>> ((2 : Int32) &&& 31).toUInt32).toInt32) &&& (3 : Int32))), .val (.int ((((sel.toUInt32 >>> ((4 : Int32) &&& 31).toUInt32).toInt32) &&& (3 : Int32)) - (1 : Int32))), .val (.int id), .val (.ref o44), .unset]) C rfl rfl at_206 rfl ?_
        refine w_iload (q := 210) C rfl at_208 rfl ?_
        refine w_iload (q := 212) C rfl at_210 rfl ?_
        refine w_callS (q := 215) (argsL := [(.int lo), (.int id)]) (S := []) (W := 0) (cells' := 1) (slots' := 2) C (G.1 _ (List.mem_of_getElem? (i := 19) rfl)) (G.1 _ (List.mem_of_getElem? (i := 20) rfl)) (G.1 _ (List.mem_of_getElem? (i := 21) rfl)) (G.1 _ (List.mem_of_getElem? (i := 22) rfl)) (by decide) (rm_le G O2 _ _) rfl (lenOf pd_1 rfl) rfl (by decide) (own_leb rfl) (by decide) rfl rfl (by decide) (by decide) at_212 rfl ?_
        rintro _ h47 ⟨eh48, rfl⟩
        rw [eh48]
        show AtW p l e _ s m _ below meth c n0 _ h46 1 2 (mkF m 215 #[.val (.int a), .val (.int b), .val (.int c0), .val (.int x0), .val (.int sel), .val (.int lo), .val (.int hi), .val (.int mid), .val (.int (2 : Int32)), .val (.int (((sel.toUInt32 >>> ((2 : Int32) &&& 31).toUInt32).toInt32) &&& (3 : Int32))), .val (.int ((((sel.toUInt32 >>> ((4 : Int32) &&& 31).toUInt32).toInt32) &&& (3 : Int32)) - (1 : Int32))), .val (.int id), .val (.ref o44), .unset] [(.int (if id < lo then 0 else 1))])
        refine w_iload (q := 217) C rfl at_215 rfl ?_
        refine w_iload (q := 219) C rfl at_217 rfl ?_
        refine w_callS (q := 222) (argsL := [(.int mid), (.int id)]) (S := [(.int (if id < lo then 0 else 1))]) (W := 1) (cells' := 1) (slots' := 2) C (G.1 _ (List.mem_of_getElem? (i := 19) rfl)) (G.1 _ (List.mem_of_getElem? (i := 20) rfl)) (G.1 _ (List.mem_of_getElem? (i := 21) rfl)) (G.1 _ (List.mem_of_getElem? (i := 22) rfl)) (by decide) (rm_le G O2 _ _) rfl (lenOf pd_1 rfl) rfl (by decide) (own_leb rfl) (by decide) rfl rfl (by decide) (by decide) at_219 rfl ?_
        rintro _ h49 ⟨eh50, rfl⟩
        rw [eh50]
        show AtW p l e _ s m _ below meth c n0 _ h46 1 2 (mkF m 222 #[.val (.int a), .val (.int b), .val (.int c0), .val (.int x0), .val (.int sel), .val (.int lo), .val (.int hi), .val (.int mid), .val (.int (2 : Int32)), .val (.int (((sel.toUInt32 >>> ((2 : Int32) &&& 31).toUInt32).toInt32) &&& (3 : Int32))), .val (.int ((((sel.toUInt32 >>> ((4 : Int32) &&& 31).toUInt32).toInt32) &&& (3 : Int32)) - (1 : Int32))), .val (.int id), .val (.ref o44), .unset] [(.int (if id < mid then 0 else 1)), (.int (if id < lo then 0 else 1))])
        refine w_iadd (q := 223) C rfl at_222 rfl ?_
        refine w_istore (q := 225) (L' := #[.val (.int a), .val (.int b), .val (.int c0), .val (.int x0), .val (.int sel), .val (.int lo), .val (.int hi), .val (.int mid), .val (.int (2 : Int32)), .val (.int (((sel.toUInt32 >>> ((2 : Int32) &&& 31).toUInt32).toInt32) &&& (3 : Int32))), .val (.int ((((sel.toUInt32 >>> ((4 : Int32) &&& 31).toUInt32).toInt32) &&& (3 : Int32)) - (1 : Int32))), .val (.int id), .val (.ref o44), .val (.int ((if id < lo then 0 else 1) + (if id < mid then 0 else 1)))]) C rfl at_223 rfl ?_
        refine w_goto (q := 273) C at_225 (by decide) (by decide) ?_
        refine w_aload (q := 275) C rfl rfl at_273 rfl ?_
        refine w_iload (q := 277) C rfl at_275 rfl ?_
        have V9 : Ar Z h46 o44 .int ([lo, mid].map Value.int) := Vh46
        refine w_callS (q := 280) (argsL := [(.ref o44), (.int id)]) (S := []) (W := 0) (cells' := 1) (slots' := 2) C (G.1 _ (List.mem_of_getElem? (i := 8) rfl)) (G.1 _ (List.mem_of_getElem? (i := 9) rfl)) (G.1 _ (List.mem_of_getElem? (i := 10) rfl)) (G.1 _ (List.mem_of_getElem? (i := 11) rfl)) (by decide) (rm_interval G O2 o44 [lo, mid] id V9 ⟨by simp [own_lt]; simp only [own_eq] at *; omega, ⟨by simp, trivial⟩⟩ (own_leb rfl)) rfl (lenOf pd_2 rfl) rfl (by decide) (own_leb rfl) (by decide) rfl rfl (by decide) (by decide) at_277 rfl ?_
        rintro _ h51 ⟨eh52, rfl⟩
        rw [eh52]
        show AtW p l e _ s m _ below meth c n0 _ h46 1 2 (mkF m 280 #[.val (.int a), .val (.int b), .val (.int c0), .val (.int x0), .val (.int sel), .val (.int lo), .val (.int hi), .val (.int mid), .val (.int (2 : Int32)), .val (.int (((sel.toUInt32 >>> ((2 : Int32) &&& 31).toUInt32).toInt32) &&& (3 : Int32))), .val (.int ((((sel.toUInt32 >>> ((4 : Int32) &&& 31).toUInt32).toInt32) &&& (3 : Int32)) - (1 : Int32))), .val (.int id), .val (.ref o44), .val (.int ((if id < lo then 0 else 1) + (if id < mid then 0 else 1)))] [(.int (own_cnt id [lo, mid] - 1))])
        refine w_iload (q := 282) C rfl at_280 rfl ?_
        refine w_iconst (q := 283) (v := (1 : Int32)) C (by rfl) at_282 rfl ?_
        refine w_isub (q := 284) C rfl at_283 rfl ?_
        refine w_icmp_ne_f (q := 287) C at_284 rfl (by simp [own_cnt]) ?_
        refine w_iconst (q := 288) (v := (1 : Int32)) C (by rfl) at_287 rfl ?_
        refine w_goto (q := 292) C at_288 (by decide) (by decide) ?_
        exact w_retZ (z := (1 : Int32)) C (t := .boolean) rfl (by simp) (by decide) at_292 (by decide) (by decide) rfl
      refine w_iload (q := 95) C rfl at_93 rfl ?_
      by_cases hc53 : (((sel.toUInt32 >>> ((2 : Int32) &&& 31).toUInt32).toInt32) &&& (3 : Int32)) = 0
      · refine w_if_ne_f (q := 98) C at_95 rfl hc53 ?_
        refine w_iload (q := 100) C rfl at_98 rfl ?_
        refine w_iload (q := 102) C rfl at_100 rfl ?_
        refine w_iadd (q := 103) C rfl at_102 rfl ?_
        refine w_istore (q := 105) (L' := #[.val (.int a), .val (.int b), .val (.int c0), .val (.int x0), .val (.int sel), .val (.int lo), .val (.int hi), .val (.int mid), .val (.int (2 : Int32)), .val (.int (((sel.toUInt32 >>> ((2 : Int32) &&& 31).toUInt32).toInt32) &&& (3 : Int32))), .val (.int ((((sel.toUInt32 >>> ((4 : Int32) &&& 31).toUInt32).toInt32) &&& (3 : Int32)) - (1 : Int32))), .val (.int (lo + ((((sel.toUInt32 >>> ((4 : Int32) &&& 31).toUInt32).toInt32) &&& (3 : Int32)) - (1 : Int32)))), .unset, .unset]) C rfl at_103 rfl ?_
        refine w_goto (q := 143) C at_105 (by decide) (by decide) ?_
        exact J _
      · refine w_if_ne_t (q := 108) C at_95 (by decide) (by decide) hc53 ?_
        refine w_iload (q := 110) C rfl at_108 rfl ?_
        refine w_iconst (q := 111) (v := (1 : Int32)) C (by rfl) at_110 rfl ?_
        by_cases hc54 : (((sel.toUInt32 >>> ((2 : Int32) &&& 31).toUInt32).toInt32) &&& (3 : Int32)) = (1 : Int32)
        · refine w_icmp_ne_f (q := 114) C at_111 rfl hc54 ?_
          refine w_iload (q := 116) C rfl at_114 rfl ?_
          refine w_iload (q := 118) C rfl at_116 rfl ?_
          refine w_iadd (q := 119) C rfl at_118 rfl ?_
          refine w_istore (q := 121) (L' := #[.val (.int a), .val (.int b), .val (.int c0), .val (.int x0), .val (.int sel), .val (.int lo), .val (.int hi), .val (.int mid), .val (.int (2 : Int32)), .val (.int (((sel.toUInt32 >>> ((2 : Int32) &&& 31).toUInt32).toInt32) &&& (3 : Int32))), .val (.int ((((sel.toUInt32 >>> ((4 : Int32) &&& 31).toUInt32).toInt32) &&& (3 : Int32)) - (1 : Int32))), .val (.int (mid + ((((sel.toUInt32 >>> ((4 : Int32) &&& 31).toUInt32).toInt32) &&& (3 : Int32)) - (1 : Int32)))), .unset, .unset]) C rfl at_119 rfl ?_
          refine w_goto (q := 143) C at_121 (by decide) (by decide) ?_
          exact J _
        · refine w_icmp_ne_t (q := 124) C at_111 (by decide) (by decide) hc54 ?_
          refine w_iload (q := 126) C rfl at_124 rfl ?_
          refine w_iconst (q := 127) (v := (2 : Int32)) C (by rfl) at_126 rfl ?_
          by_cases hc55 : (((sel.toUInt32 >>> ((2 : Int32) &&& 31).toUInt32).toInt32) &&& (3 : Int32)) = (2 : Int32)
          · refine w_icmp_ne_f (q := 130) C at_127 rfl hc55 ?_
            refine w_iload (q := 132) C rfl at_130 rfl ?_
            refine w_iload (q := 134) C rfl at_132 rfl ?_
            refine w_iadd (q := 135) C rfl at_134 rfl ?_
            refine w_istore (q := 137) (L' := #[.val (.int a), .val (.int b), .val (.int c0), .val (.int x0), .val (.int sel), .val (.int lo), .val (.int hi), .val (.int mid), .val (.int (2 : Int32)), .val (.int (((sel.toUInt32 >>> ((2 : Int32) &&& 31).toUInt32).toInt32) &&& (3 : Int32))), .val (.int ((((sel.toUInt32 >>> ((4 : Int32) &&& 31).toUInt32).toInt32) &&& (3 : Int32)) - (1 : Int32))), .val (.int (hi + ((((sel.toUInt32 >>> ((4 : Int32) &&& 31).toUInt32).toInt32) &&& (3 : Int32)) - (1 : Int32)))), .unset, .unset]) C rfl at_135 rfl ?_
            refine w_goto (q := 143) C at_137 (by decide) (by decide) ?_
            exact J _
          · refine w_icmp_ne_t (q := 140) C at_127 (by decide) (by decide) hc55 ?_
            refine w_iloadN (q := 141) C rfl at_140 rfl ?_
            refine w_istore (q := 143) (L' := #[.val (.int a), .val (.int b), .val (.int c0), .val (.int x0), .val (.int sel), .val (.int lo), .val (.int hi), .val (.int mid), .val (.int (2 : Int32)), .val (.int (((sel.toUInt32 >>> ((2 : Int32) &&& 31).toUInt32).toInt32) &&& (3 : Int32))), .val (.int ((((sel.toUInt32 >>> ((4 : Int32) &&& 31).toUInt32).toInt32) &&& (3 : Int32)) - (1 : Int32))), .val (.int x0), .unset, .unset]) C rfl at_141 rfl ?_
            exact J _
  · show AtW p l e _ s m _ below meth c n0 _ h0 0 0 (mkF m 47 #[.val (.int a), .val (.int b), .val (.int c0), .val (.int x0), .val (.int sel), .val (.int lo), .val (.int hi), .val (.int mid), .val (.int (3 : Int32)), .unset, .unset, .unset, .unset, .unset] [])
    refine w_iload (q := 49) C rfl at_47 rfl ?_
    refine w_iconst (q := 50) (v := (2 : Int32)) C (by rfl) at_49 rfl ?_
    refine w_icmp_lt_f (q := 53) C at_50 rfl (by decide) ?_
    refine w_iload (q := 55) C rfl at_53 rfl ?_
    refine w_iload (q := 57) C rfl at_55 rfl ?_
    by_cases hc56 : lo = mid
    · refine w_icmp_eq_t (q := 73) C at_57 (by decide) (by decide) hc56 ?_
      refine w_iconst (q := 74) (v := (1 : Int32)) C (by rfl) at_73 rfl ?_
      exact w_retZ (z := (1 : Int32)) C (t := .boolean) rfl (by simp) (by decide) at_74 (by decide) (by decide) rfl
    · refine w_icmp_eq_f (q := 60) C at_57 rfl hc56 ?_
      refine w_iload (q := 62) C rfl at_60 rfl ?_
      refine w_iconst (q := 63) (v := (3 : Int32)) C (by rfl) at_62 rfl ?_
      refine w_icmp_ne_f (q := 66) C at_63 rfl (by decide) ?_
      refine w_iload (q := 68) C rfl at_66 rfl ?_
      refine w_iload (q := 70) C rfl at_68 rfl ?_
      by_cases hc57 : mid = hi
      · refine w_icmp_ne_f (q := 73) C at_70 rfl hc57 ?_
        refine w_iconst (q := 74) (v := (1 : Int32)) C (by rfl) at_73 rfl ?_
        exact w_retZ (z := (1 : Int32)) C (t := .boolean) rfl (by simp) (by decide) at_74 (by decide) (by decide) rfl
      · refine w_icmp_ne_t (q := 75) C at_70 (by decide) (by decide) hc57 ?_
        refine w_iload (q := 77) C rfl at_75 rfl ?_
        refine w_iconst (q := 78) (v := (2 : Int32)) C (by rfl) at_77 rfl ?_
        refine w_iushr (q := 79) C rfl at_78 rfl ?_
        refine w_iconst (q := 80) (v := (3 : Int32)) C (by rfl) at_79 rfl ?_
        refine w_iand (q := 81) C rfl at_80 rfl ?_
        refine w_istore (q := 83) (L' := #[.val (.int a), .val (.int b), .val (.int c0), .val (.int x0), .val (.int sel), .val (.int lo), .val (.int hi), .val (.int mid), .val (.int (3 : Int32)), .val (.int (((sel.toUInt32 >>> ((2 : Int32) &&& 31).toUInt32).toInt32) &&& (3 : Int32))), .unset, .unset, .unset, .unset]) C rfl at_81 rfl ?_
        refine w_iload (q := 85) C rfl at_83 rfl ?_
        refine w_iconst (q := 86) (v := (4 : Int32)) C (by rfl) at_85 rfl ?_
        refine w_iushr (q := 87) C rfl at_86 rfl ?_
        refine w_iconst (q := 88) (v := (3 : Int32)) C (by rfl) at_87 rfl ?_
        refine w_iand (q := 89) C rfl at_88 rfl ?_
        refine w_iconst (q := 90) (v := (1 : Int32)) C (by rfl) at_89 rfl ?_
        refine w_isub (q := 91) C rfl at_90 rfl ?_
        refine w_istore (q := 93) (L' := #[.val (.int a), .val (.int b), .val (.int c0), .val (.int x0), .val (.int sel), .val (.int lo), .val (.int hi), .val (.int mid), .val (.int (3 : Int32)), .val (.int (((sel.toUInt32 >>> ((2 : Int32) &&& 31).toUInt32).toInt32) &&& (3 : Int32))), .val (.int ((((sel.toUInt32 >>> ((4 : Int32) &&& 31).toUInt32).toInt32) &&& (3 : Int32)) - (1 : Int32))), .unset, .unset, .unset]) C rfl at_91 rfl ?_
        have J : ∀ id : Int32, AtW p l e room_1 s m #[(.int a), (.int b), (.int c0), (.int x0), (.int sel)] below meth c n0 (fun v h => v = some (.int 1)) h0 0 0 (mkF m 143 #[.val (.int a), .val (.int b), .val (.int c0), .val (.int x0), .val (.int sel), .val (.int lo), .val (.int hi), .val (.int mid), .val (.int (3 : Int32)), .val (.int (((sel.toUInt32 >>> ((2 : Int32) &&& 31).toUInt32).toInt32) &&& (3 : Int32))), .val (.int ((((sel.toUInt32 >>> ((4 : Int32) &&& 31).toUInt32).toInt32) &&& (3 : Int32)) - (1 : Int32))), .val (.int id), .unset, .unset] []) := by
          intro id
          refine w_iload (q := 145) C rfl at_143 rfl ?_
          refine w_if_ne_t (q := 159) C at_145 (by decide) (by decide) (by decide) ?_
          refine w_iload (q := 161) C rfl at_159 rfl ?_
          refine w_iconst (q := 162) (v := (1 : Int32)) C (by rfl) at_161 rfl ?_
          refine w_icmp_ne_t (q := 187) C at_162 (by decide) (by decide) (by decide) ?_
          refine w_iload (q := 189) C rfl at_187 rfl ?_
          refine w_iconst (q := 190) (v := (2 : Int32)) C (by rfl) at_189 rfl ?_
          refine w_icmp_ne_t (q := 228) C at_190 (by decide) (by decide) (by decide) ?_
          refine w_iconst (q := 229) (v := (3 : Int32)) C (by rfl) at_228 rfl ?_
          refine w_newArr (q := 231) (cap := 3) (cells' := 1) (slots' := 3) C (G.1 _ (List.mem_of_getElem? (i := 7) rfl)) rfl (by decide) (by decide) (by decide) rfl rfl (by decide) (by decide) at_229 rfl ?_
          intro h58 o59 g_o59 Eh58 V_o59
          replace V_o59 : Ar Z h58 o59 .int [(.int (0 : Int32)), (.int (0 : Int32)), (.int (0 : Int32))] := V_o59
          have ga : n0 ≤ o59 := by rw [g_o59, ← O.1]; exact O.2.1
          have Kh58 : Keep h0 h58 [] := Keep.of_ext Eh58
          refine w_dup (q := 232) C rfl at_231 rfl ?_
          refine w_iconst (q := 233) (v := (0 : Int32)) C (by rfl) at_232 rfl ?_
          refine w_iload (q := 235) C rfl at_233 rfl ?_
          refine w_iastore (q := 236) (i := 0) C V_o59 rfl (own_ltb rfl) ga at_235 rfl ?_
          intro h60 Wh60 Vh60
          have Kh60 : Keep h0 h60 [] := Kh58.wr Wh60 (Or.inr (by rw [g_o59]; exact Nat.le_refl _))
          refine w_dup (q := 237) C rfl at_236 rfl ?_
          refine w_iconst (q := 238) (v := (1 : Int32)) C (by rfl) at_237 rfl ?_
          refine w_iload (q := 240) C rfl at_238 rfl ?_
          refine w_iastore (q := 241) (i := 1) C Vh60 rfl (own_ltb rfl) ga at_240 rfl ?_
          intro h61 Wh61 Vh61
          have Kh61 : Keep h0 h61 [] := Kh60.wr Wh61 (Or.inr (by rw [g_o59]; exact Nat.le_refl _))
          refine w_dup (q := 242) C rfl at_241 rfl ?_
          refine w_iconst (q := 243) (v := (2 : Int32)) C (by rfl) at_242 rfl ?_
          refine w_iload (q := 245) C rfl at_243 rfl ?_
          refine w_iastore (q := 246) (i := 2) C Vh61 rfl (own_ltb rfl) ga at_245 rfl ?_
          intro h62 Wh62 Vh62
          have Kh62 : Keep h0 h62 [] := Kh61.wr Wh62 (Or.inr (by rw [g_o59]; exact Nat.le_refl _))
          have O2 : Old Z n0 h62 := O.keep Kh62 all0
          refine w_astore (q := 248) (L' := #[.val (.int a), .val (.int b), .val (.int c0), .val (.int x0), .val (.int sel), .val (.int lo), .val (.int hi), .val (.int mid), .val (.int (3 : Int32)), .val (.int (((sel.toUInt32 >>> ((2 : Int32) &&& 31).toUInt32).toInt32) &&& (3 : Int32))), .val (.int ((((sel.toUInt32 >>> ((4 : Int32) &&& 31).toUInt32).toInt32) &&& (3 : Int32)) - (1 : Int32))), .val (.int id), .val (.ref o59), .unset]) C rfl rfl at_246 rfl ?_
          refine w_iload (q := 250) C rfl at_248 rfl ?_
          refine w_iload (q := 252) C rfl at_250 rfl ?_
          refine w_callS (q := 255) (argsL := [(.int lo), (.int id)]) (S := []) (W := 0) (cells' := 1) (slots' := 3) C (G.1 _ (List.mem_of_getElem? (i := 19) rfl)) (G.1 _ (List.mem_of_getElem? (i := 20) rfl)) (G.1 _ (List.mem_of_getElem? (i := 21) rfl)) (G.1 _ (List.mem_of_getElem? (i := 22) rfl)) (by decide) (rm_le G O2 _ _) rfl (lenOf pd_1 rfl) rfl (by decide) (own_leb rfl) (by decide) rfl rfl (by decide) (by decide) at_252 rfl ?_
          rintro _ h63 ⟨eh64, rfl⟩
          rw [eh64]
          show AtW p l e _ s m _ below meth c n0 _ h62 1 3 (mkF m 255 #[.val (.int a), .val (.int b), .val (.int c0), .val (.int x0), .val (.int sel), .val (.int lo), .val (.int hi), .val (.int mid), .val (.int (3 : Int32)), .val (.int (((sel.toUInt32 >>> ((2 : Int32) &&& 31).toUInt32).toInt32) &&& (3 : Int32))), .val (.int ((((sel.toUInt32 >>> ((4 : Int32) &&& 31).toUInt32).toInt32) &&& (3 : Int32)) - (1 : Int32))), .val (.int id), .val (.ref o59), .unset] [(.int (if id < lo then 0 else 1))])
          refine w_iload (q := 257) C rfl at_255 rfl ?_
          refine w_iload (q := 259) C rfl at_257 rfl ?_
          refine w_callS (q := 262) (argsL := [(.int mid), (.int id)]) (S := [(.int (if id < lo then 0 else 1))]) (W := 1) (cells' := 1) (slots' := 3) C (G.1 _ (List.mem_of_getElem? (i := 19) rfl)) (G.1 _ (List.mem_of_getElem? (i := 20) rfl)) (G.1 _ (List.mem_of_getElem? (i := 21) rfl)) (G.1 _ (List.mem_of_getElem? (i := 22) rfl)) (by decide) (rm_le G O2 _ _) rfl (lenOf pd_1 rfl) rfl (by decide) (own_leb rfl) (by decide) rfl rfl (by decide) (by decide) at_259 rfl ?_
          rintro _ h65 ⟨eh66, rfl⟩
          rw [eh66]
          show AtW p l e _ s m _ below meth c n0 _ h62 1 3 (mkF m 262 #[.val (.int a), .val (.int b), .val (.int c0), .val (.int x0), .val (.int sel), .val (.int lo), .val (.int hi), .val (.int mid), .val (.int (3 : Int32)), .val (.int (((sel.toUInt32 >>> ((2 : Int32) &&& 31).toUInt32).toInt32) &&& (3 : Int32))), .val (.int ((((sel.toUInt32 >>> ((4 : Int32) &&& 31).toUInt32).toInt32) &&& (3 : Int32)) - (1 : Int32))), .val (.int id), .val (.ref o59), .unset] [(.int (if id < mid then 0 else 1)), (.int (if id < lo then 0 else 1))])
          refine w_iadd (q := 263) C rfl at_262 rfl ?_
          refine w_iload (q := 265) C rfl at_263 rfl ?_
          refine w_iload (q := 267) C rfl at_265 rfl ?_
          refine w_callS (q := 270) (argsL := [(.int hi), (.int id)]) (S := [(.int ((if id < lo then 0 else 1) + (if id < mid then 0 else 1)))]) (W := 1) (cells' := 1) (slots' := 3) C (G.1 _ (List.mem_of_getElem? (i := 19) rfl)) (G.1 _ (List.mem_of_getElem? (i := 20) rfl)) (G.1 _ (List.mem_of_getElem? (i := 21) rfl)) (G.1 _ (List.mem_of_getElem? (i := 22) rfl)) (by decide) (rm_le G O2 _ _) rfl (lenOf pd_1 rfl) rfl (by decide) (own_leb rfl) (by decide) rfl rfl (by decide) (by decide) at_267 rfl ?_
          rintro _ h67 ⟨eh68, rfl⟩
          rw [eh68]
          show AtW p l e _ s m _ below meth c n0 _ h62 1 3 (mkF m 270 #[.val (.int a), .val (.int b), .val (.int c0), .val (.int x0), .val (.int sel), .val (.int lo), .val (.int hi), .val (.int mid), .val (.int (3 : Int32)), .val (.int (((sel.toUInt32 >>> ((2 : Int32) &&& 31).toUInt32).toInt32) &&& (3 : Int32))), .val (.int ((((sel.toUInt32 >>> ((4 : Int32) &&& 31).toUInt32).toInt32) &&& (3 : Int32)) - (1 : Int32))), .val (.int id), .val (.ref o59), .unset] [(.int (if id < hi then 0 else 1)), (.int ((if id < lo then 0 else 1) + (if id < mid then 0 else 1)))])
          refine w_iadd (q := 271) C rfl at_270 rfl ?_
          refine w_istore (q := 273) (L' := #[.val (.int a), .val (.int b), .val (.int c0), .val (.int x0), .val (.int sel), .val (.int lo), .val (.int hi), .val (.int mid), .val (.int (3 : Int32)), .val (.int (((sel.toUInt32 >>> ((2 : Int32) &&& 31).toUInt32).toInt32) &&& (3 : Int32))), .val (.int ((((sel.toUInt32 >>> ((4 : Int32) &&& 31).toUInt32).toInt32) &&& (3 : Int32)) - (1 : Int32))), .val (.int id), .val (.ref o59), .val (.int (((if id < lo then 0 else 1) + (if id < mid then 0 else 1)) + (if id < hi then 0 else 1)))]) C rfl at_271 rfl ?_
          refine w_aload (q := 275) C rfl rfl at_273 rfl ?_
          refine w_iload (q := 277) C rfl at_275 rfl ?_
          have V9 : Ar Z h62 o59 .int ([lo, mid, hi].map Value.int) := Vh62
          refine w_callS (q := 280) (argsL := [(.ref o59), (.int id)]) (S := []) (W := 0) (cells' := 1) (slots' := 3) C (G.1 _ (List.mem_of_getElem? (i := 8) rfl)) (G.1 _ (List.mem_of_getElem? (i := 9) rfl)) (G.1 _ (List.mem_of_getElem? (i := 10) rfl)) (G.1 _ (List.mem_of_getElem? (i := 11) rfl)) (by decide) (rm_interval G O2 o59 [lo, mid, hi] id V9 ⟨by simp [own_lt]; simp only [own_eq] at *; omega, ⟨by simp [own_lt]; simp only [own_eq] at *; omega, ⟨by simp, trivial⟩⟩⟩ (own_leb rfl)) rfl (lenOf pd_2 rfl) rfl (by decide) (own_leb rfl) (by decide) rfl rfl (by decide) (by decide) at_277 rfl ?_
          rintro _ h69 ⟨eh70, rfl⟩
          rw [eh70]
          show AtW p l e _ s m _ below meth c n0 _ h62 1 3 (mkF m 280 #[.val (.int a), .val (.int b), .val (.int c0), .val (.int x0), .val (.int sel), .val (.int lo), .val (.int hi), .val (.int mid), .val (.int (3 : Int32)), .val (.int (((sel.toUInt32 >>> ((2 : Int32) &&& 31).toUInt32).toInt32) &&& (3 : Int32))), .val (.int ((((sel.toUInt32 >>> ((4 : Int32) &&& 31).toUInt32).toInt32) &&& (3 : Int32)) - (1 : Int32))), .val (.int id), .val (.ref o59), .val (.int (((if id < lo then 0 else 1) + (if id < mid then 0 else 1)) + (if id < hi then 0 else 1)))] [(.int (own_cnt id [lo, mid, hi] - 1))])
          refine w_iload (q := 282) C rfl at_280 rfl ?_
          refine w_iconst (q := 283) (v := (1 : Int32)) C (by rfl) at_282 rfl ?_
          refine w_isub (q := 284) C rfl at_283 rfl ?_
          refine w_icmp_ne_f (q := 287) C at_284 rfl (by simp [own_cnt, Int32.add_assoc]) ?_
          refine w_iconst (q := 288) (v := (1 : Int32)) C (by rfl) at_287 rfl ?_
          refine w_goto (q := 292) C at_288 (by decide) (by decide) ?_
          exact w_retZ (z := (1 : Int32)) C (t := .boolean) rfl (by simp) (by decide) at_292 (by decide) (by decide) rfl
        refine w_iload (q := 95) C rfl at_93 rfl ?_
        by_cases hc71 : (((sel.toUInt32 >>> ((2 : Int32) &&& 31).toUInt32).toInt32) &&& (3 : Int32)) = 0
        · refine w_if_ne_f (q := 98) C at_95 rfl hc71 ?_
          refine w_iload (q := 100) C rfl at_98 rfl ?_
          refine w_iload (q := 102) C rfl at_100 rfl ?_
          refine w_iadd (q := 103) C rfl at_102 rfl ?_
          refine w_istore (q := 105) (L' := #[.val (.int a), .val (.int b), .val (.int c0), .val (.int x0), .val (.int sel), .val (.int lo), .val (.int hi), .val (.int mid), .val (.int (3 : Int32)), .val (.int (((sel.toUInt32 >>> ((2 : Int32) &&& 31).toUInt32).toInt32) &&& (3 : Int32))), .val (.int ((((sel.toUInt32 >>> ((4 : Int32) &&& 31).toUInt32).toInt32) &&& (3 : Int32)) - (1 : Int32))), .val (.int (lo + ((((sel.toUInt32 >>> ((4 : Int32) &&& 31).toUInt32).toInt32) &&& (3 : Int32)) - (1 : Int32)))), .unset, .unset]) C rfl at_103 rfl ?_
          refine w_goto (q := 143) C at_105 (by decide) (by decide) ?_
          exact J _
        · refine w_if_ne_t (q := 108) C at_95 (by decide) (by decide) hc71 ?_
          refine w_iload (q := 110) C rfl at_108 rfl ?_
          refine w_iconst (q := 111) (v := (1 : Int32)) C (by rfl) at_110 rfl ?_
          by_cases hc72 : (((sel.toUInt32 >>> ((2 : Int32) &&& 31).toUInt32).toInt32) &&& (3 : Int32)) = (1 : Int32)
          · refine w_icmp_ne_f (q := 114) C at_111 rfl hc72 ?_
            refine w_iload (q := 116) C rfl at_114 rfl ?_
            refine w_iload (q := 118) C rfl at_116 rfl ?_
            refine w_iadd (q := 119) C rfl at_118 rfl ?_
            refine w_istore (q := 121) (L' := #[.val (.int a), .val (.int b), .val (.int c0), .val (.int x0), .val (.int sel), .val (.int lo), .val (.int hi), .val (.int mid), .val (.int (3 : Int32)), .val (.int (((sel.toUInt32 >>> ((2 : Int32) &&& 31).toUInt32).toInt32) &&& (3 : Int32))), .val (.int ((((sel.toUInt32 >>> ((4 : Int32) &&& 31).toUInt32).toInt32) &&& (3 : Int32)) - (1 : Int32))), .val (.int (mid + ((((sel.toUInt32 >>> ((4 : Int32) &&& 31).toUInt32).toInt32) &&& (3 : Int32)) - (1 : Int32)))), .unset, .unset]) C rfl at_119 rfl ?_
            refine w_goto (q := 143) C at_121 (by decide) (by decide) ?_
            exact J _
          · refine w_icmp_ne_t (q := 124) C at_111 (by decide) (by decide) hc72 ?_
            refine w_iload (q := 126) C rfl at_124 rfl ?_
            refine w_iconst (q := 127) (v := (2 : Int32)) C (by rfl) at_126 rfl ?_
            by_cases hc73 : (((sel.toUInt32 >>> ((2 : Int32) &&& 31).toUInt32).toInt32) &&& (3 : Int32)) = (2 : Int32)
            · refine w_icmp_ne_f (q := 130) C at_127 rfl hc73 ?_
              refine w_iload (q := 132) C rfl at_130 rfl ?_
              refine w_iload (q := 134) C rfl at_132 rfl ?_
              refine w_iadd (q := 135) C rfl at_134 rfl ?_
              refine w_istore (q := 137) (L' := #[.val (.int a), .val (.int b), .val (.int c0), .val (.int x0), .val (.int sel), .val (.int lo), .val (.int hi), .val (.int mid), .val (.int (3 : Int32)), .val (.int (((sel.toUInt32 >>> ((2 : Int32) &&& 31).toUInt32).toInt32) &&& (3 : Int32))), .val (.int ((((sel.toUInt32 >>> ((4 : Int32) &&& 31).toUInt32).toInt32) &&& (3 : Int32)) - (1 : Int32))), .val (.int (hi + ((((sel.toUInt32 >>> ((4 : Int32) &&& 31).toUInt32).toInt32) &&& (3 : Int32)) - (1 : Int32)))), .unset, .unset]) C rfl at_135 rfl ?_
              refine w_goto (q := 143) C at_137 (by decide) (by decide) ?_
              exact J _
            · refine w_icmp_ne_t (q := 140) C at_127 (by decide) (by decide) hc73 ?_
              refine w_iloadN (q := 141) C rfl at_140 rfl ?_
              refine w_istore (q := 143) (L' := #[.val (.int a), .val (.int b), .val (.int c0), .val (.int x0), .val (.int sel), .val (.int lo), .val (.int hi), .val (.int mid), .val (.int (3 : Int32)), .val (.int (((sel.toUInt32 >>> ((2 : Int32) &&& 31).toUInt32).toInt32) &&& (3 : Int32))), .val (.int ((((sel.toUInt32 >>> ((4 : Int32) &&& 31).toUInt32).toInt32) &&& (3 : Int32)) - (1 : Int32))), .val (.int x0), .unset, .unset]) C rfl at_141 rfl ?_
              exact J _
set_option maxRecDepth 65536 in
set_option maxHeartbeats 40000000 in
theorem comes_1 {Post : Tables → Env → Array Value → State → Outcome → State → Prop} (hpost : ∀ tb e args s v u, (limb_1_1.after args s (.returned v) u = true ∧ limb_1_2.after args s (.returned v) u = true ∧ True) → FrameEnd s (.returned v) u (Jvm.fieldLocs frame_1_writes args s ++ Jvm.arrayLocs frame_1_arrays args s ++ Jvm.staticLocs frame_1_statics s) 16 128 → Post tb e args s (.returned v) u) :
    ArmFor flags0 classFile x code maxLocals ret World_1 tables_1 room_1 Calls_1 rest_1 Pre_1 Post := by
  intro l hfl _ _ p e ha hc hk s m args below hf hA hF happ hP
  obtain ⟨hcalls, hrest, hpre⟩ := hP
  obtain ⟨-, -, -, hnamed, -, -, -, hat⟩ := (Spec.applies_iff hf).mp happ
  obtain ⟨hg, hn⟩ := and_e (Cond.before_iff.mp (show (Jvm.Cond.and given_1 narrow_1).before args s = true from hpre))
  obtain ⟨hcount, hg0⟩ := and_e hg
  obtain ⟨ha0, hg1⟩ := and_e hg0
  obtain ⟨ha1, hg2⟩ := and_e hg1
  obtain ⟨ha2, hg3⟩ := and_e hg2
  obtain ⟨ha3, hg4⟩ := and_e hg3
  have ha4 := hg4
  obtain ⟨w0, w1, w2, w3, w4, rfl⟩ : ∃ w0 w1 w2 w3 w4 : Value, args = #[w0, w1, w2, w3, w4] := by
    have hs : args.size = 5 := by simpa [Cond.value, given_1] using hcount
    obtain ⟨L⟩ := args
    match L, hs with
    | [w0, w1, w2, w3, w4], _ => exact ⟨w0, w1, w2, w3, w4, rfl⟩
  have hw := fun d (hd : d ∈ tables_1) => atoms_spec (ws := Jvm.Cond.code x code maxLocals ret :: tables_1) hat d (List.mem_cons_of_mem _ hd)
  have hfit : Fit s := fun {y c} hc i hi => by
    obtain ⟨ha, rfl⟩ := Array.getElem?_eq_some_iff.mp hc
    have q := List.all_eq_true.mp ((Array.all_eq_true_iff_forall_mem.mp hF) _ (Array.getElem_mem ha)) i (List.mem_range.mpr hi)
    simpa [Array.getElem?_eq_getElem hi] using q
  obtain ⟨i0, e0⟩ := is_v ha0
  obtain rfl : w0 = (.int i0) := Option.some.inj e0
  obtain ⟨i1, e1⟩ := is_v ha1
  obtain rfl : w1 = (.int i1) := Option.some.inj e1
  obtain ⟨i2, e2⟩ := is_v ha2
  obtain rfl : w2 = (.int i2) := Option.some.inj e2
  obtain ⟨i3, e3⟩ := is_v ha3
  obtain rfl : w3 = (.int i3) := Option.some.inj e3
  obtain ⟨i4, e4⟩ := is_v ha4
  obtain rfl : w4 = (.int i4) := Option.some.inj e4
  have G : Gl s #[.int i0, .int i1, .int i2, .int i3, .int i4] s.heap.size := ⟨hw, trivial⟩
  obtain ⟨n, o, h1, h2, h3, v, L, rfl, ⟨N, hQ⟩, hq⟩ := rm_law (l := l) G (Old.start s) i0 i1 i2 i3 i4 p e ha hc hk s m _ below hf ((Spec.applies_iff_loose hf).mp happ).1 ⟨rfl, State.Warmed39.refl s, rfl⟩ trivial
  obtain rfl : v = some (.int 1) := hQ
  refine ⟨n, _, h1, h2, h3, hpost _ _ _ _ _ _ ⟨Cond.after_iff.mpr rfl, Cond.after_iff.mpr (eq_i res_at (Term.int_eval (1)) rfl), trivial⟩ ⟨hq.1, hq.2.1, (hq.2.2.sift fun y hy => Or.inr (N y hy)).mono (by decide) (by decide)⟩⟩
theorem main_1_1 : Claimed_1_1 := comes_1 fun _ _ _ _ _ _ h hF => ⟨h.1, hF⟩
theorem main_1_2 : Claimed_1_2 := comes_1 fun _ _ _ _ _ _ h hF => ⟨h.2.1, hF⟩
end Jvm.Pilot.@@N@@
namespace Jvm.Pilot.@@N@@
open Jvm Jvm.ClassFile Sem Op Lib Jvm.Free Jvm.Stand Jvm.Pilot.@@N@@.Jvm.D
/-! MADE BY PROGRAM (witnessworld.py) out of the Statement's table words and the real class files: 11 classes; the members and pool entries that the words name. The judged class is class 1, her method 2. -/
namespace start1
open Jvm.ClassFile
def u (s : String) : CpInfo := .utf8 (stringToUtf16 s)
/-- a pool by its gaps: so many unusable entries, then the entry; so many at the end -/
def gap : Nat → List CpInfo → List CpInfo
  | 0, r => r
  | n + 1, r => .unusable :: gap n r
def poolList (es : List (Nat × CpInfo)) (last : Nat) : List CpInfo := es.foldr (fun e r => gap e.1 (e.2 :: r)) (gap last [])
def pool (es : List (Nat × CpInfo)) (last : Nat) : Array CpInfo := ⟨poolList es last⟩
def fileOf (pool : Array CpInfo) (this : Nat) (attrs : Array Attribute := #[]) (ms : Array MethodInfo := #[]) (fl : Nat := 33) (sup : Nat := 0) (ifs : Array Nat := #[]) (fds : Array FieldInfo := #[]) : ClassFile where
  minorVersion := 0
  majorVersion := 65
  constantPool := pool
  accessFlags := fl
  thisClass := this
  superClass := sup
  interfaces := ifs
  fields := fds
  methods := ms
  attributes := attrs
def plain (name : String) (sup : Option ClassId) : Class where
  name := name
  kind := .ordinary
  loader := none
  accessFlags := 33
  super := sup
  interfaces := #[]
  cf := none
  fields := #[]
  methods := #[]
  instanceTypes := #[]
  staticTypes := #[]
  resolved := #[]
  callSites := []
  init := .initialized
  statics := none
  mirror := none

def pool0 : Array CpInfo := pool [(5, u "<init>"), (0, u "()V"), (1, .class_ 10), (1, u "java/lang/Object")] 113

def k0m0 : Method := { name := "<init>", desc := "()V", sig := { parameters := [], returnType := none }, accessFlags := 1, code := none }
/-- java/lang/Object -/
def k0 : Class := { plain "java/lang/Object" none with
  accessFlags := 33
  interfaces := #[]
  cf := some (fileOf pool0 8 #[] #[{ accessFlags := 1, nameIndex := 5, descriptorIndex := 6, attributes := #[] }] 33 0 #[] #[])
  fields := #[]
  methods := #[k0m0]
  instanceTypes := #[]
  staticTypes := #[]
  resolved := Array.replicate 124 none
  statics := none }

def pool1 : Array CpInfo := pool [(2, .class_ 4), (1, u "java/lang/Object"), (0, u "<init>"), (0, u "()V"), (0, .methodref 8 9), (0, .class_ 10), (0, .nameAndType 11 12), (0, u "java/lang/Math"), (0, u "min"), (0, u "(II)I"), (0, .methodref 8 14), (0, .nameAndType 15 12), (0, u "max"), (0, .methodref 17 18), (0, .class_ 19), (0, .nameAndType 20 12), (0, u "com/example/portcullis/portcullis/dds/DomainsIntervalPinLaw"), (0, u "le"), (0, .methodref 22 23), (0, .class_ 24), (0, .nameAndType 25 26), (0, u "com/example/portcullis/portcullis/dds/Domains"), (0, u "interval"), (0, u "([II)I"), (3, u "law"), (0, u "(IIIII)Z")] 4

def k1m0 : Method := { name := "<init>", desc := "()V", sig := { parameters := [], returnType := none }, accessFlags := 1, code := none }
def k1c1 : Code := { maxStack := 2, maxLocals := 2, code := method_2_code, exceptionTable := #[], attributes := #[] }
def k1m1 : Method := { name := "le", desc := "(II)I", sig := { parameters := [.int, .int], returnType := some .int }, accessFlags := 10, code := some k1c1 }
def k1c2 : Code := { maxStack := 4, maxLocals := 14, code := code, exceptionTable := #[], attributes := #[] }
def k1m2 : Method := { name := "law", desc := "(IIIII)Z", sig := { parameters := [.int, .int, .int, .int, .int], returnType := some .boolean }, accessFlags := 9, code := some k1c2 }
/-- com/example/portcullis/portcullis/dds/DomainsIntervalPinLaw -/
def k1 : Class := { plain "com/example/portcullis/portcullis/dds/DomainsIntervalPinLaw" (some 0) with
  accessFlags := 49
  interfaces := #[]
  cf := some (fileOf pool1 17 #[] #[{ accessFlags := 1, nameIndex := 5, descriptorIndex := 6, attributes := #[] }, { accessFlags := 10, nameIndex := 20, descriptorIndex := 12, attributes := #[] }, { accessFlags := 9, nameIndex := 30, descriptorIndex := 31, attributes := #[] }] 49 2 #[] #[])
  fields := #[]
  methods := #[k1m0, k1m1, k1m2]
  instanceTypes := #[]
  staticTypes := #[]
  resolved := Array.replicate 36 none
  statics := none }

def pool2 : Array CpInfo := pool [(1, .class_ 2), (0, u "java/lang/Math"), (1, .class_ 6), (1, u "java/lang/Object"), (0, u "<init>"), (0, u "()V"), (89, .class_ 100), (1, u "java/lang/Math$RandomNumberGeneratorHolder"), (71, u "negativeZeroFloatBits"), (0, u "J"), (2, u "negativeZeroDoubleBits"), (21, u "max"), (2, u "min"), (43, u "$assertionsDisabled"), (0, u "Z"), (88, u "(II)I"), (2, u "twoToTheDoubleScaleDown"), (0, u "D"), (4, u "twoToTheDoubleScaleUp"), (9, u "E"), (3, u "PI"), (2, u "TAU"), (2, u "DEGREES_TO_RADIANS"), (0, u "RADIANS_TO_DEGREES")] 94

def k2m0 : Method := { name := "<init>", desc := "()V", sig := { parameters := [], returnType := none }, accessFlags := 2, code := none }
def k2c1 : Code := { maxStack := 2, maxLocals := 2, code := jdk_29_method_65_code, exceptionTable := #[], attributes := #[] }
def k2m1 : Method := { name := "max", desc := "(II)I", sig := { parameters := [.int, .int], returnType := some .int }, accessFlags := 9, code := some k2c1 }
def k2c2 : Code := { maxStack := 2, maxLocals := 2, code := jdk_29_method_69_code, exceptionTable := #[], attributes := #[] }
def k2m2 : Method := { name := "min", desc := "(II)I", sig := { parameters := [.int, .int], returnType := some .int }, accessFlags := 9, code := some k2c2 }
/-- java/lang/Math -/
def k2 : Class := { plain "java/lang/Math" (some 0) with
  accessFlags := 49
  interfaces := #[]
  cf := some (fileOf pool2 1 #[.nestMembers #[98]] #[{ accessFlags := 2, nameIndex := 7, descriptorIndex := 8, attributes := #[] }, { accessFlags := 9, nameIndex := 198, descriptorIndex := 335, attributes := #[] }, { accessFlags := 9, nameIndex := 201, descriptorIndex := 335, attributes := #[] }] 49 4 #[] #[{ accessFlags := 25, nameIndex := 354, descriptorIndex := 339, attributes := #[] }, { accessFlags := 25, nameIndex := 358, descriptorIndex := 339, attributes := #[] }, { accessFlags := 25, nameIndex := 361, descriptorIndex := 339, attributes := #[] }, { accessFlags := 26, nameIndex := 364, descriptorIndex := 339, attributes := #[] }, { accessFlags := 26, nameIndex := 365, descriptorIndex := 339, attributes := #[] }, { accessFlags := 26, nameIndex := 172, descriptorIndex := 173, attributes := #[] }, { accessFlags := 26, nameIndex := 176, descriptorIndex := 173, attributes := #[] }, { accessFlags := 8, nameIndex := 344, descriptorIndex := 339, attributes := #[] }, { accessFlags := 8, nameIndex := 338, descriptorIndex := 339, attributes := #[] }, { accessFlags := 4120, nameIndex := 245, descriptorIndex := 246, attributes := #[] }])
  fields := #[{ name := "E", type := .double, accessFlags := 25, slot := 0, constantValue := 0 }, { name := "PI", type := .double, accessFlags := 25, slot := 1, constantValue := 0 }, { name := "TAU", type := .double, accessFlags := 25, slot := 2, constantValue := 0 }, { name := "DEGREES_TO_RADIANS", type := .double, accessFlags := 26, slot := 3, constantValue := 0 }, { name := "RADIANS_TO_DEGREES", type := .double, accessFlags := 26, slot := 4, constantValue := 0 }, { name := "negativeZeroFloatBits", type := .long, accessFlags := 26, slot := 5, constantValue := 0 }, { name := "negativeZeroDoubleBits", type := .long, accessFlags := 26, slot := 6, constantValue := 0 }, { name := "twoToTheDoubleScaleUp", type := .double, accessFlags := 8, slot := 7, constantValue := 0 }, { name := "twoToTheDoubleScaleDown", type := .double, accessFlags := 8, slot := 8, constantValue := 0 }, { name := "$assertionsDisabled", type := .boolean, accessFlags := 4120, slot := 9, constantValue := 0 }]
  methods := #[k2m0, k2m1, k2m2]
  instanceTypes := #[]
  staticTypes := #[.double, .double, .double, .double, .double, .long, .long, .double, .double, .boolean]
  resolved := Array.replicate 460 none
  statics := none }

def pool3 : Array CpInfo := pool [(4, .class_ 6), (1, u "java/lang/Object"), (3, .class_ 12), (1, u "com/example/portcullis/portcullis/dds/Domains"), (0, u "mins"), (0, u "[I"), (2, u "maxes"), (74, .class_ 94), (1, u "java/util/Arrays"), (42, .methodref 92 138), (0, .nameAndType 139 140), (0, u "binarySearch"), (0, u "([II)I"), (2, u "interval"), (0, u "MAX_ID"), (0, u "I"), (1, u "ID"), (0, u "Ljava/lang/String;"), (0, u "ID_RANGE"), (0, u "MIN"), (0, u "MAX")] 48

def k3c0 : Code := { maxStack := 2, maxLocals := 3, code := prog_28_method_5_code, exceptionTable := #[], attributes := #[] }
def k3m0 : Method := { name := "interval", desc := "([II)I", sig := { parameters := [(.array .int), .int], returnType := some .int }, accessFlags := 8, code := some k3c0 }
/-- com/example/portcullis/portcullis/dds/Domains -/
def k3 : Class := { plain "com/example/portcullis/portcullis/dds/Domains" (some 0) with
  accessFlags := 48
  interfaces := #[]
  cf := some (fileOf pool3 10 #[] #[{ accessFlags := 8, nameIndex := 143, descriptorIndex := 140, attributes := #[] }] 48 4 #[] #[{ accessFlags := 24, nameIndex := 144, descriptorIndex := 145, attributes := #[] }, { accessFlags := 26, nameIndex := 147, descriptorIndex := 148, attributes := #[] }, { accessFlags := 26, nameIndex := 149, descriptorIndex := 148, attributes := #[] }, { accessFlags := 26, nameIndex := 150, descriptorIndex := 148, attributes := #[] }, { accessFlags := 26, nameIndex := 151, descriptorIndex := 148, attributes := #[] }, { accessFlags := 18, nameIndex := 13, descriptorIndex := 14, attributes := #[] }, { accessFlags := 18, nameIndex := 17, descriptorIndex := 14, attributes := #[] }])
  fields := #[{ name := "MAX_ID", type := .int, accessFlags := 24, slot := 0, constantValue := 0 }, { name := "ID", type := (.object "java/lang/String"), accessFlags := 26, slot := 1, constantValue := 0 }, { name := "ID_RANGE", type := (.object "java/lang/String"), accessFlags := 26, slot := 2, constantValue := 0 }, { name := "MIN", type := (.object "java/lang/String"), accessFlags := 26, slot := 3, constantValue := 0 }, { name := "MAX", type := (.object "java/lang/String"), accessFlags := 26, slot := 4, constantValue := 0 }, { name := "mins", type := (.array .int), accessFlags := 18, slot := 0, constantValue := 0 }, { name := "maxes", type := (.array .int), accessFlags := 18, slot := 1, constantValue := 0 }]
  methods := #[k3m0]
  instanceTypes := #[(.array .int), (.array .int)]
  staticTypes := #[.int, (.object "java/lang/String"), (.object "java/lang/String"), (.object "java/lang/String"), (.object "java/lang/String")]
  resolved := Array.replicate 200 none
  statics := none }

def pool4 : Array CpInfo := pool [(2, .class_ 4), (1, u "java/lang/Object"), (0, u "<init>"), (0, u "()V"), (7, .class_ 16), (1, u "java/util/Arrays"), (57, .class_ 76), (1, u "java/util/Arrays$NaturalOrder"), (36, .class_ 115), (1, u "java/util/Arrays$LegacyMergeSort"), (1, u "Z"), (89, u "binarySearch0"), (1, .methodref 14 210), (0, .nameAndType 207 211), (0, u "([IIII)I"), (163, .class_ 376), (0, u "java/util/Arrays$ArrayList"), (68, u "$assertionsDisabled"), (269, u "MIN_ARRAY_SORT_GRAN"), (0, u "I"), (2, u "INSERTIONSORT_THRESHOLD"), (74, u "binarySearch"), (4, u "([II)I"), (175, .class_ 976), (0, u "java/util/Arrays$ArrayItr")] 52

def k4m0 : Method := { name := "<init>", desc := "()V", sig := { parameters := [], returnType := none }, accessFlags := 2, code := none }
def k4c1 : Code := { maxStack := 4, maxLocals := 2, code := jdk_65_method_57_code, exceptionTable := #[], attributes := #[] }
def k4m1 : Method := { name := "binarySearch", desc := "([II)I", sig := { parameters := [(.array .int), .int], returnType := some .int }, accessFlags := 9, code := some k4c1 }
def k4c2 : Code := { maxStack := 2, maxLocals := 8, code := jdk_65_method_59_code, exceptionTable := #[], attributes := #[] }
def k4m2 : Method := { name := "binarySearch0", desc := "([IIII)I", sig := { parameters := [(.array .int), .int, .int, .int], returnType := some .int }, accessFlags := 10, code := some k4c2 }
/-- java/util/Arrays -/
def k4 : Class := { plain "java/util/Arrays" (some 0) with
  accessFlags := 49
  interfaces := #[]
  cf := some (fileOf pool4 14 #[.nestMembers #[975, 375, 113, 74]] #[{ accessFlags := 2, nameIndex := 5, descriptorIndex := 6, attributes := #[] }, { accessFlags := 9, nameIndex := 794, descriptorIndex := 799, attributes := #[] }, { accessFlags := 10, nameIndex := 207, descriptorIndex := 211, attributes := #[] }] 49 2 #[] #[{ accessFlags := 26, nameIndex := 715, descriptorIndex := 716, attributes := #[] }, { accessFlags := 26, nameIndex := 719, descriptorIndex := 716, attributes := #[] }, { accessFlags := 4120, nameIndex := 445, descriptorIndex := 117, attributes := #[] }])
  fields := #[{ name := "MIN_ARRAY_SORT_GRAN", type := .int, accessFlags := 26, slot := 0, constantValue := 0 }, { name := "INSERTIONSORT_THRESHOLD", type := .int, accessFlags := 26, slot := 1, constantValue := 0 }, { name := "$assertionsDisabled", type := .boolean, accessFlags := 4120, slot := 2, constantValue := 0 }]
  methods := #[k4m0, k4m1, k4m2]
  instanceTypes := #[]
  staticTypes := #[.int, .int, .boolean]
  resolved := Array.replicate 1029 none
  statics := none }

def pool5 : Array CpInfo := pool [(1, u "java/lang/Cloneable"), (0, .class_ 1), (0, u "java/lang/Object"), (0, .class_ 3)] 3

/-- java/lang/Cloneable -/
def k5 : Class := { plain "java/lang/Cloneable" (some 0) with
  accessFlags := 1537
  interfaces := #[]
  cf := some (fileOf pool5 2 #[] #[] 1537 4 #[] #[])
  fields := #[]
  methods := #[]
  instanceTypes := #[]
  staticTypes := #[]
  resolved := Array.replicate 8 none
  statics := none }

def pool6 : Array CpInfo := pool [(1, u "java/io/Serializable"), (0, .class_ 1), (0, u "java/lang/Object"), (0, .class_ 3)] 3

/-- java/io/Serializable -/
def k6 : Class := { plain "java/io/Serializable" (some 0) with
  accessFlags := 1537
  interfaces := #[]
  cf := some (fileOf pool6 2 #[] #[] 1537 4 #[] #[])
  fields := #[]
  methods := #[]
  instanceTypes := #[]
  staticTypes := #[]
  resolved := Array.replicate 8 none
  statics := none }

/-- the primitive byte -/
def k7 : Class := { plain "byte" none with kind := .primitive 'B', accessFlags := 0x411 }
/-- [B -/
def k8 : Class := { plain "[B" (some 0) with kind := .array 7 .byte, interfaces := #[5, 6], accessFlags := 1041 }

/-- the primitive int -/
def k9 : Class := { plain "int" none with kind := .primitive 'I', accessFlags := 0x411 }
/-- [I -/
def k10 : Class := { plain "[I" (some 0) with kind := .array 9 .int, interfaces := #[5, 6], accessFlags := 1041 }

def heap : Heap := #[]
def classes : Array Class := #[k0, k1, k2, k3, k4, k5, k6, k7, k8, k9, k10]
def interned : List (Array UInt16 × Addr) := []
def slotsUsed : Nat := 0
def theMethod : MethodId := ⟨1, 2⟩
def args0 : Array Value := #[.int 1, .int 2, .int 3, .int 4, .int 5]
def aboutOver (below : List Frame) : State where
  vm := { classes := classes, interned := interned.toArray }
  heap := heap
  slotsUsed := slotsUsed
  threads := #[{ frames := .invoking theMethod args0 :: below }]
def below0 : List Frame := [.native { method := ⟨0, 0⟩, args := #[] }]
def about1 : State := aboutOver below0
def p0 : Program := .bare "" "" ""
def e0 : Env := launch0.env 0 0 0
theorem w_frames : about1.frames = Frame.invoking theMethod args0 :: below0 := rfl
set_option maxRecDepth 65536 in
theorem w_args : argsFit about1.vm theMethod args0 = true := by decide +kernel
set_option maxRecDepth 65536 in
theorem w_heap : heapFits about1 = true := by decide +kernel
set_option maxRecDepth 65536 in
theorem w_runnable : about1.curStatus? = some .runnable := by decide +kernel
set_option maxRecDepth 65536 in
theorem w_alone : about1.alone = true := by decide +kernel
set_option maxRecDepth 65536 in
theorem w_named : about1.methodNamed? x = some theMethod := by decide +kernel
set_option maxRecDepth 65536 in
theorem w_hears : about1.hears theMethod below0 = true := by decide +kernel
set_option maxRecDepth 65536 in
theorem w_ripe : about1.ripe theMethod args0 below0 = true := by decide +kernel
theorem w_running : about1.status = .running := rfl
set_option maxRecDepth 65536 in
theorem w_room : about1.hasRoom e0.platform room_1 = true :=
  launch0.hasRoom_least _ room_1 (by decide +kernel) (by decide +kernel) (by decide +kernel) (by decide +kernel) (by decide +kernel) (by decide +kernel)
theorem allAtoms_all (ts : List Jvm.Cond) (a : Array Jvm.Value) (st : Jvm.State) : (allAtoms ts).before a st = ts.all (fun c => c.before a st) := by
  induction ts with
  | nil => rfl
  | cons c t ih =>
    show (Jvm.Cond.and c (allAtoms t)).before a st = _
    rw [Jvm.Cond.before_and, ih, List.all_cons]
def words1 : List Jvm.Cond := Jvm.Cond.code x code maxLocals ret :: tables_1
/-- a 'code' word, met by the world's own term for the bytes: nothing is compared byte by byte -/
theorem code_word {y : MethodName} {bytes : ByteArray} {mx : Nat} {rt : Option FieldType} {a : Array Value} {s : State} {m : MethodId} {meth : Method} {c : Code} (h1 : s.methodNamed? y = some m) (h2 : s.vm.method? m = some meth) (h3 : meth.code = some c) (h4 : c.code = bytes)
    (h5 : (c.maxLocals == mx && c.exceptionTable.isEmpty && decide (c.maxStack ≤ mostOperands) && decide (meth.sig.returnType = rt) && !meth.locks && decide (parseMethodDescriptor y.desc = some meth.sig)) = true) : (Jvm.Cond.code y bytes mx rt).before a s = true := by
  simp only [Bool.and_eq_true, beq_iff_eq, Bool.not_eq_true', decide_eq_true_eq] at h5
  obtain ⟨⟨⟨⟨⟨g1, g2⟩, g3⟩, g4⟩, g5⟩, g6⟩ := h5
  simp [Cond.before, Cond.holds, Cond.value, h1, h2, h3, h4, g1, g2, g3, g4, g5, g6]
def isCode : Jvm.Cond → Bool
  | .code _ _ _ _ => true
  | _ => false
theorem all_split {L : List Jvm.Cond} {P : Jvm.Cond → Bool} (h1 : L.all (fun c => isCode c || P c) = true) (h2 : ∀ c ∈ L.filter isCode, P c = true) : L.all P = true := by
  refine List.all_eq_true.mpr fun c hc => ?_
  have h := List.all_eq_true.mp h1 c hc
  rcases Bool.eq_false_or_eq_true (isCode c) with hi | hi
  · exact h2 c (List.mem_filter.mpr ⟨hc, hi⟩)
  · simpa [hi] using h
set_option maxRecDepth 65536 in
theorem w_c0 : (Jvm.Cond.code x code maxLocals ret).before args0 about1 = true := code_word (m := ⟨1, 2⟩) (meth := k1m2) (c := k1c2) (by decide +kernel) rfl rfl rfl (by decide +kernel)
set_option maxRecDepth 65536 in
theorem w_c1 : (Jvm.Cond.code ({ cls := "java/lang/Math", name := "min", desc := "(II)I" } : Jvm.MethodName) jdk_29_method_69_code (2 : Nat) (Option.some Jvm.ClassFile.FieldType.int)).before args0 about1 = true := code_word (m := ⟨2, 2⟩) (meth := k2m2) (c := k2c2) (by decide +kernel) rfl rfl rfl (by decide +kernel)
set_option maxRecDepth 65536 in
theorem w_c2 : (Jvm.Cond.code ({ cls := "java/lang/Math", name := "max", desc := "(II)I" } : Jvm.MethodName) jdk_29_method_65_code (2 : Nat) (Option.some Jvm.ClassFile.FieldType.int)).before args0 about1 = true := code_word (m := ⟨2, 1⟩) (meth := k2m1) (c := k2c1) (by decide +kernel) rfl rfl rfl (by decide +kernel)
set_option maxRecDepth 65536 in
theorem w_c3 : (Jvm.Cond.code ({ cls := "com/example/portcullis/portcullis/dds/Domains", name := "interval", desc := "([II)I" } : Jvm.MethodName) prog_28_method_5_code (3 : Nat) (Option.some Jvm.ClassFile.FieldType.int)).before args0 about1 = true := code_word (m := ⟨3, 0⟩) (meth := k3m0) (c := k3c0) (by decide +kernel) rfl rfl rfl (by decide +kernel)
set_option maxRecDepth 65536 in
theorem w_c4 : (Jvm.Cond.code ({ cls := "java/util/Arrays", name := "binarySearch", desc := "([II)I" } : Jvm.MethodName) jdk_65_method_57_code (2 : Nat) (Option.some Jvm.ClassFile.FieldType.int)).before args0 about1 = true := code_word (m := ⟨4, 1⟩) (meth := k4m1) (c := k4c1) (by decide +kernel) rfl rfl rfl (by decide +kernel)
set_option maxRecDepth 65536 in
theorem w_c5 : (Jvm.Cond.code ({ cls := "java/util/Arrays", name := "binarySearch0", desc := "([IIII)I" } : Jvm.MethodName) jdk_65_method_59_code (8 : Nat) (Option.some Jvm.ClassFile.FieldType.int)).before args0 about1 = true := code_word (m := ⟨4, 2⟩) (meth := k4m2) (c := k4c2) (by decide +kernel) rfl rfl rfl (by decide +kernel)
set_option maxRecDepth 65536 in
theorem w_c6 : (Jvm.Cond.code ({ cls := "com/example/portcullis/portcullis/dds/DomainsIntervalPinLaw", name := "le", desc := "(II)I" } : Jvm.MethodName) method_2_code (2 : Nat) (Option.some Jvm.ClassFile.FieldType.int)).before args0 about1 = true := code_word (m := ⟨1, 1⟩) (meth := k1m1) (c := k1c1) (by decide +kernel) rfl rfl rfl (by decide +kernel)
def codes1 : List Jvm.Cond := [Jvm.Cond.code x code maxLocals ret, Jvm.Cond.code ({ cls := "java/lang/Math", name := "min", desc := "(II)I" } : Jvm.MethodName) jdk_29_method_69_code (2 : Nat) (Option.some Jvm.ClassFile.FieldType.int), Jvm.Cond.code ({ cls := "java/lang/Math", name := "max", desc := "(II)I" } : Jvm.MethodName) jdk_29_method_65_code (2 : Nat) (Option.some Jvm.ClassFile.FieldType.int), Jvm.Cond.code ({ cls := "com/example/portcullis/portcullis/dds/Domains", name := "interval", desc := "([II)I" } : Jvm.MethodName) prog_28_method_5_code (3 : Nat) (Option.some Jvm.ClassFile.FieldType.int), Jvm.Cond.code ({ cls := "java/util/Arrays", name := "binarySearch", desc := "([II)I" } : Jvm.MethodName) jdk_65_method_57_code (2 : Nat) (Option.some Jvm.ClassFile.FieldType.int), Jvm.Cond.code ({ cls := "java/util/Arrays", name := "binarySearch0", desc := "([IIII)I" } : Jvm.MethodName) jdk_65_method_59_code (8 : Nat) (Option.some Jvm.ClassFile.FieldType.int), Jvm.Cond.code ({ cls := "com/example/portcullis/portcullis/dds/DomainsIntervalPinLaw", name := "le", desc := "(II)I" } : Jvm.MethodName) method_2_code (2 : Nat) (Option.some Jvm.ClassFile.FieldType.int)]
set_option maxRecDepth 65536 in
theorem codes_eq : words1.filter isCode = codes1 := rfl
theorem w_codes : ∀ c ∈ words1.filter isCode, c.before args0 about1 = true := by
  rw [codes_eq]
  intro c hc
  simp only [codes1, List.mem_cons, List.not_mem_nil, or_false] at hc
  rcases hc with rfl | rfl | rfl | rfl | rfl | rfl | rfl
  · exact w_c0
  · exact w_c1
  · exact w_c2
  · exact w_c3
  · exact w_c4
  · exact w_c5
  · exact w_c6
set_option maxRecDepth 65536 in
theorem w_t1 : words1.all (fun c => isCode c || c.before args0 about1) = true := by decide +kernel
theorem w_tables : (allAtoms (Jvm.Cond.code x code maxLocals ret :: tables_1)).before args0 about1 = true := by
  rw [allAtoms_all]
  show words1.all (fun c => c.before args0 about1) = true
  refine all_split ?_ w_codes
  rw [w_t1]
set_option maxRecDepth 65536 in
theorem w_case : (Jvm.Cond.and given_1 narrow_1).before args0 about1 = true := by decide +kernel
theorem w_applies : (headSpec (Jvm.Cond.code x code maxLocals ret :: tables_1) room_1).applies x e0.platform about1 = true :=
  (Spec.applies_iff w_frames).mpr ⟨w_running, w_runnable, w_alone, w_named, w_hears, w_ripe, w_room, w_tables⟩
theorem atStart : AtStart classFile x code maxLocals ret World_1 tables_1 room_1 Calls_1 rest_1 Pre_1 launch0 p0 e0 about1 theMethod args0 below0 :=
  ⟨lists_1, trivial, launch0.admits_env _ _ _, launch0.least_env, fairChoices_fair.cas, fairChoices_fair.clock, w_frames, w_args, w_heap, w_applies, trivial, trivial, w_case⟩
end start1
theorem witness_1 : WitnessClaimed_1 := ⟨start1.p0, start1.e0, start1.about1, start1.theMethod, start1.args0, start1.below0, start1.atStart⟩
end Jvm.Pilot.@@N@@
