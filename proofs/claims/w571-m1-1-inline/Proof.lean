import JvmDerived
import JvmDerived.Pilot.@@N@@Statement
import JvmDerived.Pilot.@@N@@Code
set_option linter.unusedVariables false
set_option linter.unusedSimpArgs false
set_option maxHeartbeats 40000000
namespace Jvm.Pilot.@@N@@
open Jvm Jvm.ClassFile Sem Op Lib Jvm.Free Jvm.Stand Jvm.LawKit Jvm.RoadKit Bundle Jvm.Pilot.@@N@@.Jvm.D
/-! ## own kit: a small logic of walks -/
/-- the walk's fixed surroundings -/
def Cx (p : Program) (s : State) (m : MethodId) (meth : Method) (c : Code) (Z : State) (own : String) (bytes : ByteArray) (maxL : Nat) (ret : Option FieldType) (nm : String) : Prop :=
  p.tables.exec = Jvm.exec ∧ c.code = bytes ∧ c.maxLocals = maxL ∧ Z.Warmed39 s.vm ∧ s.vm.findClass own = some m.cls ∧ meth.sig.returnType = ret ∧ meth.locks = false ∧ meth.name = nm
/-- from every state that stands at heap h with frame g, having made at most so many cells and slots, the walk comes to a good end -/
def AtW (p : Program) (l : Launch) (e : Env) (R : Room) (s : State) (m : MethodId) (args : Array Value) (below : List Frame) (meth : Method) (c : Code) (n0 : Nat) (Q : Option Value → Heap → Prop) (h : Heap) (cells slots : Nat) (g : JFrame) : Prop :=
  ∀ (T : State) (locs : List Loc) (k n : Nat), Stand p l e R s m args below meth c T locs k n → k ≤ cells → n ≤ slots → T.heap = h → Fr n0 locs →
    ∃ t o, Steps p.tables e below (T.setTop g) t ∧ t.status = .running ∧ Ended t below o ∧ ∃ v L, o = .returned v ∧ (Fr n0 L ∧ Q v t.heap) ∧ FrameEnd s o t L R.cells R.slots
/-- a body's contract: called with 'as' at heap h0 it returns some v at some h with Q v h, and writes nothing below n0 -/
def Ct (ws : List Jvm.Cond) (l : Launch) (Z : State) (n0 : Nat) (y : MethodName) (bytes : ByteArray) (maxL : Nat) (ret : Option FieldType) (rm : Room) (as : Array Value) (h0 : Heap) (Q : Option Value → Heap → Prop) : Prop :=
  MetFree l y (head1 (Jvm.Cond.code y bytes maxL ret :: ws) rm) (fun a U => a = as ∧ Z.Warmed39 U.vm ∧ U.heap = h0) (fun _ _ _ _ _ => True)
    (fun _ U o U' => ∃ v L, o = .returned v ∧ (Fr n0 L ∧ Q v U'.heap) ∧ FrameEnd U o U' L rm.cells rm.slots)
theorem own_leb {a b : Nat} (h : Nat.ble a b = true) : a ≤ b := Nat.le_of_ble_eq_true h
theorem own_ltb {a b : Nat} (h : Nat.ble (a + 1) b = true) : a < b := Nat.le_of_ble_eq_true h
/-- the class is found and is no interface -/
def NI (s : State) (C : String) : Prop := ∃ c k, s.vm.findClass C = some c ∧ s.vm.classes[c]? = some k ∧ k.isInterface = false
theorem NI.of_inst {s : State} {args : Array Value} {C : String} {n : Nat} (w : (Jvm.Cond.instantiable C n).before args s = true) : NI s C := by
  obtain ⟨c, k, hc, hk, -, h, -⟩ := Cond.instantiable_spec w
  exact ⟨c, k, hc, hk, (Bool.or_eq_false_iff.mp h).1⟩
theorem NI.of_sel {s : State} {args : Array Value} {C : String} {y z : MethodName} (w : (Jvm.Cond.selects C y z).before args s = true) : NI s z.cls := by
  obtain ⟨c, r, m, -, -, hn, -, k, hk, hi⟩ := Cond.selects_spec w
  exact ⟨m.cls, k, findClass_of_methodNamed hn, hk, hi⟩
theorem NI.nf {s : State} {y : MethodName} (w : NI s y.cls) : NotFace s y := fun r0 h0 => by
  obtain ⟨c, k, hc, hk, hi⟩ := w
  cases (findClass_of_methodNamed h0).symm.trans hc
  exact ⟨k, hk, hi⟩
section Wk
variable {p : Program} {l : Launch} {e : Env} {R : Room} {s : State} {m : MethodId} {args : Array Value} {below : List Frame} {meth : Method} {c : Code} {n0 : Nat} {Q : Option Value → Heap → Prop} {h : Heap} {cells slots : Nat} {Z : State} {own : String} {bytes : ByteArray} {maxL : Nat} {ret : Option FieldType} {nm : String} {a0 : Array Value} {pc q : Nat} {L L' : Array Slot} {S : List Value}
theorem Ct.intro {ws : List Jvm.Cond} {y : MethodName} {rm : Room} {as : Array Value} (hp : plainFor y = true)
    (k : ∀ p e s m below meth c, Cx p s m meth c Z y.cls bytes maxL ret y.name → AtW p l e rm s m as below meth c n0 Q h 0 0 (entryFrame m as maxL)) : Ct ws l Z n0 y bytes maxL ret rm as h Q := by
  refine MetFree.of_bodySF hp hisR ?_
  intro p e s m args below meth c s₁ Bd hml0 hP hK
  obtain ⟨rfl, hZ, hh⟩ := hP
  have X0 := Stand.of_body Bd
  refine k p e s m below meth c ⟨Bd.exec, Bd.bytes, hml0, hZ, findClass_of_methodNamed Bd.named, Bd.returns, Bd.notSynchronized, (name_of_methodNamed Bd.named Bd.method).1⟩ s₁ [] 0 0 X0 (Nat.le_refl _) (Nat.le_refl _) ?_ (Fr.nil n0)
  rw [← hh, Bd.state]; rfl
theorem AtW.mono {g : JFrame} {cells' slots' : Nat} (K : AtW p l e R s m args below meth c n0 Q h cells' slots' g) (h1 : cells ≤ cells') (h2 : slots ≤ slots') : AtW p l e R s m args below meth c n0 Q h cells slots g :=
  fun T locs k n X hk hn eT N => K T locs k n X (Nat.le_trans hk h1) (Nat.le_trans hn h2) eT N
theorem AtW.go {g g' : JFrame} (K : AtW p l e R s m args below meth c n0 Q h cells slots g') (st : ∀ T, At T m c below → ∀ t, Steps p.tables e below (T.setTop g') t → Steps p.tables e below (T.setTop g) t) : AtW p l e R s m args below meth c n0 Q h cells slots g :=
  fun T locs k n X hk hn eT N => by
    obtain ⟨t, o, r1, r⟩ := K T locs k n X hk hn eT N
    exact ⟨t, o, st T X.here t r1, r⟩
theorem AtW.goX {g g' : JFrame} (K : AtW p l e R s m args below meth c n0 Q h cells slots g') (st : ∀ T locs k n, Stand p l e R s m args below meth c T locs k n → T.heap = h → ∀ t, Steps p.tables e below (T.setTop g') t → Steps p.tables e below (T.setTop g) t) : AtW p l e R s m args below meth c n0 Q h cells slots g :=
  fun T locs k n X hk hn eT N => by
    obtain ⟨t, o, r1, r⟩ := K T locs k n X hk hn eT N
    exact ⟨t, o, st T locs k n X eT t r1, r⟩
theorem AtW.cast {g g' : JFrame} (K : AtW p l e R s m args below meth c n0 Q h cells slots g') (q : g = g') : AtW p l e R s m args below meth c n0 Q h cells slots g := by rw [q]; exact K

theorem w_iload (C : Cx p s m meth c Z own bytes maxL ret nm) {k : Nat} {v : Int32} (hl : L[k]? = some (.val (.int v))) (hd : decode bytes pc = .ok (.iload k, 2)) (hq : pc + 2 = q) (K : AtW p l e R s m args below meth c n0 Q h cells slots (mkF m q L (.int v :: S))) : AtW p l e R s m args below meth c n0 Q h cells slots (mkF m pc L S) := by
  subst hq
  exact K.go fun T hA t st => XS.iload hA C.1 rfl (hb C.2.1 hd) hl st
theorem w_iloadN (C : Cx p s m meth c Z own bytes maxL ret nm) {k : Fin 4} {v : Int32} (hl : L[k.val]? = some (.val (.int v))) (hd : decode bytes pc = .ok (.iload_n k, 1)) (hq : pc + 1 = q) (K : AtW p l e R s m args below meth c n0 Q h cells slots (mkF m q L (.int v :: S))) : AtW p l e R s m args below meth c n0 Q h cells slots (mkF m pc L S) := by
  subst hq
  exact K.go fun T hA t st => XS.iloadN hA C.1 rfl (hb C.2.1 hd) hl st
theorem w_istore (C : Cx p s m meth c Z own bytes maxL ret nm) {k : Nat} {v : Int32} (hl : storeLocals L k (.int v) = some L') (hd : decode bytes pc = .ok (.istore k, 2)) (hq : pc + 2 = q) (K : AtW p l e R s m args below meth c n0 Q h cells slots (mkF m q L' S)) : AtW p l e R s m args below meth c n0 Q h cells slots (mkF m pc L (.int v :: S)) := by
  subst hq
  exact K.go fun T hA t st => XS.istore hA C.1 rfl (hb C.2.1 hd) rfl hl st
theorem w_istoreN (C : Cx p s m meth c Z own bytes maxL ret nm) {k : Fin 4} {v : Int32} (hl : storeLocals L k.val (.int v) = some L') (hd : decode bytes pc = .ok (.istore_n k, 1)) (hq : pc + 1 = q) (K : AtW p l e R s m args below meth c n0 Q h cells slots (mkF m q L' S)) : AtW p l e R s m args below meth c n0 Q h cells slots (mkF m pc L (.int v :: S)) := by
  subst hq
  exact K.go fun T hA t st => XS.istoreN hA C.1 rfl (hb C.2.1 hd) rfl hl st
theorem w_lload (C : Cx p s m meth c Z own bytes maxL ret nm) {k : Nat} {v : Int64} (hl : L[k]? = some (.val (.long v))) (hd : decode bytes pc = .ok (.lload k, 2)) (hq : pc + 2 = q) (K : AtW p l e R s m args below meth c n0 Q h cells slots (mkF m q L (.long v :: S))) : AtW p l e R s m args below meth c n0 Q h cells slots (mkF m pc L S) := by
  subst hq
  exact K.go fun T hA t st => XS.lload hA C.1 rfl (hb C.2.1 hd) hl st
theorem w_lloadN (C : Cx p s m meth c Z own bytes maxL ret nm) {k : Fin 4} {v : Int64} (hl : L[k.val]? = some (.val (.long v))) (hd : decode bytes pc = .ok (.lload_n k, 1)) (hq : pc + 1 = q) (K : AtW p l e R s m args below meth c n0 Q h cells slots (mkF m q L (.long v :: S))) : AtW p l e R s m args below meth c n0 Q h cells slots (mkF m pc L S) := by
  subst hq
  exact K.go fun T hA t st => XS.lloadN hA C.1 rfl (hb C.2.1 hd) hl st
theorem w_lstore (C : Cx p s m meth c Z own bytes maxL ret nm) {k : Nat} {v : Int64} (hl : storeLocals L k (.long v) = some L') (hd : decode bytes pc = .ok (.lstore k, 2)) (hq : pc + 2 = q) (K : AtW p l e R s m args below meth c n0 Q h cells slots (mkF m q L' S)) : AtW p l e R s m args below meth c n0 Q h cells slots (mkF m pc L (.long v :: S)) := by
  subst hq
  exact K.go fun T hA t st => XS.lstore hA C.1 rfl (hb C.2.1 hd) rfl hl st
theorem w_lstoreN (C : Cx p s m meth c Z own bytes maxL ret nm) {k : Fin 4} {v : Int64} (hl : storeLocals L k.val (.long v) = some L') (hd : decode bytes pc = .ok (.lstore_n k, 1)) (hq : pc + 1 = q) (K : AtW p l e R s m args below meth c n0 Q h cells slots (mkF m q L' S)) : AtW p l e R s m args below meth c n0 Q h cells slots (mkF m pc L (.long v :: S)) := by
  subst hq
  exact K.go fun T hA t st => XS.lstoreN hA C.1 rfl (hb C.2.1 hd) rfl hl st
theorem w_aload (C : Cx p s m meth c Z own bytes maxL ret nm) {k : Nat} {v : Value} (hl : L[k]? = some (.val v)) (hv : v.isRef = true) (hd : decode bytes pc = .ok (.aload k, 2)) (hq : pc + 2 = q) (K : AtW p l e R s m args below meth c n0 Q h cells slots (mkF m q L (v :: S))) : AtW p l e R s m args below meth c n0 Q h cells slots (mkF m pc L S) := by
  subst hq
  exact K.go fun T hA t st => XS.aload hA C.1 rfl (hb C.2.1 hd) hl hv st
theorem w_aloadN (C : Cx p s m meth c Z own bytes maxL ret nm) {k : Fin 4} {v : Value} (hl : L[k.val]? = some (.val v)) (hv : v.isRef = true) (hd : decode bytes pc = .ok (.aload_n k, 1)) (hq : pc + 1 = q) (K : AtW p l e R s m args below meth c n0 Q h cells slots (mkF m q L (v :: S))) : AtW p l e R s m args below meth c n0 Q h cells slots (mkF m pc L S) := by
  subst hq
  exact K.go fun T hA t st => XS.aloadN hA C.1 rfl (hb C.2.1 hd) hl hv st
theorem w_astore (C : Cx p s m meth c Z own bytes maxL ret nm) {k : Nat} {v : Value} (hv : v.isRef = true) (hl : storeLocals L k v = some L') (hd : decode bytes pc = .ok (.astore k, 2)) (hq : pc + 2 = q) (K : AtW p l e R s m args below meth c n0 Q h cells slots (mkF m q L' S)) : AtW p l e R s m args below meth c n0 Q h cells slots (mkF m pc L (v :: S)) := by
  subst hq
  exact K.go fun T hA t st => XS.astore hA C.1 rfl (hb C.2.1 hd) rfl hv hl st
theorem w_astoreN (C : Cx p s m meth c Z own bytes maxL ret nm) {k : Fin 4} {v : Value} (hv : v.isRef = true) (hl : storeLocals L k.val v = some L') (hd : decode bytes pc = .ok (.astore_n k, 1)) (hq : pc + 1 = q) (K : AtW p l e R s m args below meth c n0 Q h cells slots (mkF m q L' S)) : AtW p l e R s m args below meth c n0 Q h cells slots (mkF m pc L (v :: S)) := by
  subst hq
  exact K.go fun T hA t st => XS.astoreN hA C.1 rfl (hb C.2.1 hd) rfl hv hl st
theorem w_iconst (C : Cx p s m meth c Z own bytes maxL ret nm) {i : Int} {v : Int32} (hv : Int32.ofInt i = v) (hd : decode bytes pc = .ok (.iconst i, 1)) (hq : pc + 1 = q) (K : AtW p l e R s m args below meth c n0 Q h cells slots (mkF m q L (.int v :: S))) : AtW p l e R s m args below meth c n0 Q h cells slots (mkF m pc L S) := by
  subst hq
  exact K.go fun T hA t st => by subst hv; exact XS.iconst hA C.1 rfl (hb C.2.1 hd) st
theorem w_bipush (C : Cx p s m meth c Z own bytes maxL ret nm) {i : Int} {v : Int32} (hv : (Int8.ofInt i).toInt32 = v) (hd : decode bytes pc = .ok (.bipush i, 2)) (hq : pc + 2 = q) (K : AtW p l e R s m args below meth c n0 Q h cells slots (mkF m q L (.int v :: S))) : AtW p l e R s m args below meth c n0 Q h cells slots (mkF m pc L S) := by
  subst hq
  exact K.go fun T hA t st => by subst hv; exact XS.bipush hA C.1 rfl (hb C.2.1 hd) st
theorem w_sipush (C : Cx p s m meth c Z own bytes maxL ret nm) {i : Int} {v : Int32} (hv : (Int16.ofInt i).toInt32 = v) (hd : decode bytes pc = .ok (.sipush i, 3)) (hq : pc + 3 = q) (K : AtW p l e R s m args below meth c n0 Q h cells slots (mkF m q L (.int v :: S))) : AtW p l e R s m args below meth c n0 Q h cells slots (mkF m pc L S) := by
  subst hq
  exact K.go fun T hA t st => by subst hv; exact XS.sipush hA C.1 rfl (hb C.2.1 hd) st
theorem w_lconst (C : Cx p s m meth c Z own bytes maxL ret nm) {k : Fin 2} {v : Int64} (hv : Int64.ofNat k = v) (hd : decode bytes pc = .ok (.lconst k, 1)) (hq : pc + 1 = q) (K : AtW p l e R s m args below meth c n0 Q h cells slots (mkF m q L (.long v :: S))) : AtW p l e R s m args below meth c n0 Q h cells slots (mkF m pc L S) := by
  subst hq
  exact K.go fun T hA t st => by subst hv; exact XS.lconst hA C.1 rfl (hb C.2.1 hd) st
theorem w_aconst_null (C : Cx p s m meth c Z own bytes maxL ret nm)  (hd : decode bytes pc = .ok (.aconst_null, 1)) (hq : pc + 1 = q) (K : AtW p l e R s m args below meth c n0 Q h cells slots (mkF m q L (.null :: S))) : AtW p l e R s m args below meth c n0 Q h cells slots (mkF m pc L S) := by
  subst hq
  exact K.go fun T hA t st => XS.aconstNull hA C.1 rfl (hb C.2.1 hd) st
theorem w_iadd (C : Cx p s m meth c Z own bytes maxL ret nm) {x y z : Int32} (hz : x + y = z) (hd : decode bytes pc = .ok (.iadd, 1)) (hq : pc + 1 = q) (K : AtW p l e R s m args below meth c n0 Q h cells slots (mkF m q L (.int z :: S))) : AtW p l e R s m args below meth c n0 Q h cells slots (mkF m pc L (.int y :: .int x :: S)) := by
  subst hq
  exact K.go fun T hA t st => by subst hz; exact XS.iadd hA C.1 rfl (hb C.2.1 hd) rfl st
theorem w_isub (C : Cx p s m meth c Z own bytes maxL ret nm) {x y z : Int32} (hz : x - y = z) (hd : decode bytes pc = .ok (.isub, 1)) (hq : pc + 1 = q) (K : AtW p l e R s m args below meth c n0 Q h cells slots (mkF m q L (.int z :: S))) : AtW p l e R s m args below meth c n0 Q h cells slots (mkF m pc L (.int y :: .int x :: S)) := by
  subst hq
  exact K.go fun T hA t st => by subst hz; exact XS.isub hA C.1 rfl (hb C.2.1 hd) rfl st
theorem w_imul (C : Cx p s m meth c Z own bytes maxL ret nm) {x y z : Int32} (hz : x * y = z) (hd : decode bytes pc = .ok (.imul, 1)) (hq : pc + 1 = q) (K : AtW p l e R s m args below meth c n0 Q h cells slots (mkF m q L (.int z :: S))) : AtW p l e R s m args below meth c n0 Q h cells slots (mkF m pc L (.int y :: .int x :: S)) := by
  subst hq
  exact K.go fun T hA t st => by subst hz; exact XS.imul hA C.1 rfl (hb C.2.1 hd) rfl st
theorem w_iand (C : Cx p s m meth c Z own bytes maxL ret nm) {x y z : Int32} (hz : x &&& y = z) (hd : decode bytes pc = .ok (.iand, 1)) (hq : pc + 1 = q) (K : AtW p l e R s m args below meth c n0 Q h cells slots (mkF m q L (.int z :: S))) : AtW p l e R s m args below meth c n0 Q h cells slots (mkF m pc L (.int y :: .int x :: S)) := by
  subst hq
  exact K.go fun T hA t st => by subst hz; exact XS.iand hA C.1 rfl (hb C.2.1 hd) rfl st
theorem w_ior (C : Cx p s m meth c Z own bytes maxL ret nm) {x y z : Int32} (hz : x ||| y = z) (hd : decode bytes pc = .ok (.ior, 1)) (hq : pc + 1 = q) (K : AtW p l e R s m args below meth c n0 Q h cells slots (mkF m q L (.int z :: S))) : AtW p l e R s m args below meth c n0 Q h cells slots (mkF m pc L (.int y :: .int x :: S)) := by
  subst hq
  exact K.go fun T hA t st => by subst hz; exact XS.ior hA C.1 rfl (hb C.2.1 hd) rfl st
theorem w_ixor (C : Cx p s m meth c Z own bytes maxL ret nm) {x y z : Int32} (hz : x ^^^ y = z) (hd : decode bytes pc = .ok (.ixor, 1)) (hq : pc + 1 = q) (K : AtW p l e R s m args below meth c n0 Q h cells slots (mkF m q L (.int z :: S))) : AtW p l e R s m args below meth c n0 Q h cells slots (mkF m pc L (.int y :: .int x :: S)) := by
  subst hq
  exact K.go fun T hA t st => by subst hz; exact XS.ixor hA C.1 rfl (hb C.2.1 hd) rfl st
theorem w_ladd (C : Cx p s m meth c Z own bytes maxL ret nm) {x y z : Int64} (hz : x + y = z) (hd : decode bytes pc = .ok (.ladd, 1)) (hq : pc + 1 = q) (K : AtW p l e R s m args below meth c n0 Q h cells slots (mkF m q L (.long z :: S))) : AtW p l e R s m args below meth c n0 Q h cells slots (mkF m pc L (.long y :: .long x :: S)) := by
  subst hq
  exact K.go fun T hA t st => by subst hz; exact XS.ladd hA C.1 rfl (hb C.2.1 hd) rfl st
theorem w_lsub (C : Cx p s m meth c Z own bytes maxL ret nm) {x y z : Int64} (hz : x - y = z) (hd : decode bytes pc = .ok (.lsub, 1)) (hq : pc + 1 = q) (K : AtW p l e R s m args below meth c n0 Q h cells slots (mkF m q L (.long z :: S))) : AtW p l e R s m args below meth c n0 Q h cells slots (mkF m pc L (.long y :: .long x :: S)) := by
  subst hq
  exact K.go fun T hA t st => by subst hz; exact XS.lsub hA C.1 rfl (hb C.2.1 hd) rfl st
theorem w_lmul (C : Cx p s m meth c Z own bytes maxL ret nm) {x y z : Int64} (hz : x * y = z) (hd : decode bytes pc = .ok (.lmul, 1)) (hq : pc + 1 = q) (K : AtW p l e R s m args below meth c n0 Q h cells slots (mkF m q L (.long z :: S))) : AtW p l e R s m args below meth c n0 Q h cells slots (mkF m pc L (.long y :: .long x :: S)) := by
  subst hq
  exact K.go fun T hA t st => by subst hz; exact XS.lmul hA C.1 rfl (hb C.2.1 hd) rfl st
theorem w_land (C : Cx p s m meth c Z own bytes maxL ret nm) {x y z : Int64} (hz : x &&& y = z) (hd : decode bytes pc = .ok (.land, 1)) (hq : pc + 1 = q) (K : AtW p l e R s m args below meth c n0 Q h cells slots (mkF m q L (.long z :: S))) : AtW p l e R s m args below meth c n0 Q h cells slots (mkF m pc L (.long y :: .long x :: S)) := by
  subst hq
  exact K.go fun T hA t st => by subst hz; exact XS.land hA C.1 rfl (hb C.2.1 hd) rfl st
theorem w_lor (C : Cx p s m meth c Z own bytes maxL ret nm) {x y z : Int64} (hz : x ||| y = z) (hd : decode bytes pc = .ok (.lor, 1)) (hq : pc + 1 = q) (K : AtW p l e R s m args below meth c n0 Q h cells slots (mkF m q L (.long z :: S))) : AtW p l e R s m args below meth c n0 Q h cells slots (mkF m pc L (.long y :: .long x :: S)) := by
  subst hq
  exact K.go fun T hA t st => by subst hz; exact XS.lor hA C.1 rfl (hb C.2.1 hd) rfl st
theorem w_lxor (C : Cx p s m meth c Z own bytes maxL ret nm) {x y z : Int64} (hz : x ^^^ y = z) (hd : decode bytes pc = .ok (.lxor, 1)) (hq : pc + 1 = q) (K : AtW p l e R s m args below meth c n0 Q h cells slots (mkF m q L (.long z :: S))) : AtW p l e R s m args below meth c n0 Q h cells slots (mkF m pc L (.long y :: .long x :: S)) := by
  subst hq
  exact K.go fun T hA t st => by subst hz; exact XS.lxor hA C.1 rfl (hb C.2.1 hd) rfl st
theorem w_ishl (C : Cx p s m meth c Z own bytes maxL ret nm) {x y z : Int32} (hz : x <<< (y &&& 31) = z) (hd : decode bytes pc = .ok (.ishl, 1)) (hq : pc + 1 = q) (K : AtW p l e R s m args below meth c n0 Q h cells slots (mkF m q L (.int z :: S))) : AtW p l e R s m args below meth c n0 Q h cells slots (mkF m pc L (.int y :: .int x :: S)) := by
  subst hq
  exact K.go fun T hA t st => by subst hz; exact XS.ishl hA C.1 rfl (hb C.2.1 hd) rfl st
theorem w_ishr (C : Cx p s m meth c Z own bytes maxL ret nm) {x y z : Int32} (hz : x >>> (y &&& 31) = z) (hd : decode bytes pc = .ok (.ishr, 1)) (hq : pc + 1 = q) (K : AtW p l e R s m args below meth c n0 Q h cells slots (mkF m q L (.int z :: S))) : AtW p l e R s m args below meth c n0 Q h cells slots (mkF m pc L (.int y :: .int x :: S)) := by
  subst hq
  exact K.go fun T hA t st => by subst hz; exact XS.ishr hA C.1 rfl (hb C.2.1 hd) rfl st
theorem w_iushr (C : Cx p s m meth c Z own bytes maxL ret nm) {x y z : Int32} (hz : (x.toUInt32 >>> (y &&& 31).toUInt32).toInt32 = z) (hd : decode bytes pc = .ok (.iushr, 1)) (hq : pc + 1 = q) (K : AtW p l e R s m args below meth c n0 Q h cells slots (mkF m q L (.int z :: S))) : AtW p l e R s m args below meth c n0 Q h cells slots (mkF m pc L (.int y :: .int x :: S)) := by
  subst hq
  exact K.go fun T hA t st => by subst hz; exact XS.iushr hA C.1 rfl (hb C.2.1 hd) rfl st
theorem w_lshl (C : Cx p s m meth c Z own bytes maxL ret nm) {x z : Int64} {y : Int32} (hz : x <<< (y &&& 0x3f).toInt64 = z) (hd : decode bytes pc = .ok (.lshl, 1)) (hq : pc + 1 = q) (K : AtW p l e R s m args below meth c n0 Q h cells slots (mkF m q L (.long z :: S))) : AtW p l e R s m args below meth c n0 Q h cells slots (mkF m pc L (.int y :: .long x :: S)) := by
  subst hq
  exact K.go fun T hA t st => by subst hz; exact XS.lshl hA C.1 rfl (hb C.2.1 hd) rfl st
theorem w_lshr (C : Cx p s m meth c Z own bytes maxL ret nm) {x z : Int64} {y : Int32} (hz : x >>> (y &&& 0x3f).toInt64 = z) (hd : decode bytes pc = .ok (.lshr, 1)) (hq : pc + 1 = q) (K : AtW p l e R s m args below meth c n0 Q h cells slots (mkF m q L (.long z :: S))) : AtW p l e R s m args below meth c n0 Q h cells slots (mkF m pc L (.int y :: .long x :: S)) := by
  subst hq
  exact K.go fun T hA t st => by subst hz; exact XS.lshr hA C.1 rfl (hb C.2.1 hd) rfl st
theorem w_lushr (C : Cx p s m meth c Z own bytes maxL ret nm) {x z : Int64} {y : Int32} (hz : (x.toUInt64 >>> (y &&& 0x3f).toInt64.toUInt64).toInt64 = z) (hd : decode bytes pc = .ok (.lushr, 1)) (hq : pc + 1 = q) (K : AtW p l e R s m args below meth c n0 Q h cells slots (mkF m q L (.long z :: S))) : AtW p l e R s m args below meth c n0 Q h cells slots (mkF m pc L (.int y :: .long x :: S)) := by
  subst hq
  exact K.go fun T hA t st => by subst hz; exact XS.lushr hA C.1 rfl (hb C.2.1 hd) rfl st
theorem w_idiv (C : Cx p s m meth c Z own bytes maxL ret nm) {x y z : Int32} (hy : y ≠ 0) (hz : x / y = z) (hd : decode bytes pc = .ok (.idiv, 1)) (hq : pc + 1 = q) (K : AtW p l e R s m args below meth c n0 Q h cells slots (mkF m q L (.int z :: S))) : AtW p l e R s m args below meth c n0 Q h cells slots (mkF m pc L (.int y :: .int x :: S)) := by
  subst hq
  exact K.go fun T hA t st => by subst hz; exact XS.idiv hA C.1 rfl (hb C.2.1 hd) rfl hy st
theorem w_ldiv (C : Cx p s m meth c Z own bytes maxL ret nm) {x y z : Int64} (hy : y ≠ 0) (hz : x / y = z) (hd : decode bytes pc = .ok (.ldiv, 1)) (hq : pc + 1 = q) (K : AtW p l e R s m args below meth c n0 Q h cells slots (mkF m q L (.long z :: S))) : AtW p l e R s m args below meth c n0 Q h cells slots (mkF m pc L (.long y :: .long x :: S)) := by
  subst hq
  exact K.go fun T hA t st => by subst hz; exact XS.ldiv hA C.1 rfl (hb C.2.1 hd) rfl hy st
theorem w_irem (C : Cx p s m meth c Z own bytes maxL ret nm) {x y z : Int32} (hy : y ≠ 0) (hz : x % y = z) (hd : decode bytes pc = .ok (.irem, 1)) (hq : pc + 1 = q) (K : AtW p l e R s m args below meth c n0 Q h cells slots (mkF m q L (.int z :: S))) : AtW p l e R s m args below meth c n0 Q h cells slots (mkF m pc L (.int y :: .int x :: S)) := by
  subst hq
  exact K.go fun T hA t st => by subst hz; rw [← irem_eq_mod x y] at st; exact XS.irem hA C.1 rfl (hb C.2.1 hd) rfl hy st
theorem w_lrem (C : Cx p s m meth c Z own bytes maxL ret nm) {x y z : Int64} (hy : y ≠ 0) (hz : x % y = z) (hd : decode bytes pc = .ok (.lrem, 1)) (hq : pc + 1 = q) (K : AtW p l e R s m args below meth c n0 Q h cells slots (mkF m q L (.long z :: S))) : AtW p l e R s m args below meth c n0 Q h cells slots (mkF m pc L (.long y :: .long x :: S)) := by
  subst hq
  exact K.go fun T hA t st => by subst hz; rw [← lrem_mod x y] at st; exact XS.lrem hA C.1 rfl (hb C.2.1 hd) rfl hy st
theorem w_ineg (C : Cx p s m meth c Z own bytes maxL ret nm) {x : Int32} {z : Int32} (hz : -x = z) (hd : decode bytes pc = .ok (.ineg, 1)) (hq : pc + 1 = q) (K : AtW p l e R s m args below meth c n0 Q h cells slots (mkF m q L (.int z :: S))) : AtW p l e R s m args below meth c n0 Q h cells slots (mkF m pc L (.int x :: S)) := by
  subst hq
  exact K.go fun T hA t st => by subst hz; exact XS.ineg hA C.1 rfl (hb C.2.1 hd) rfl st
theorem w_lneg (C : Cx p s m meth c Z own bytes maxL ret nm) {x : Int64} {z : Int64} (hz : -x = z) (hd : decode bytes pc = .ok (.lneg, 1)) (hq : pc + 1 = q) (K : AtW p l e R s m args below meth c n0 Q h cells slots (mkF m q L (.long z :: S))) : AtW p l e R s m args below meth c n0 Q h cells slots (mkF m pc L (.long x :: S)) := by
  subst hq
  exact K.go fun T hA t st => by subst hz; exact XS.lneg hA C.1 rfl (hb C.2.1 hd) rfl st
theorem w_i2l (C : Cx p s m meth c Z own bytes maxL ret nm) {x : Int32} {z : Int64} (hz : x.toInt64 = z) (hd : decode bytes pc = .ok (.i2l, 1)) (hq : pc + 1 = q) (K : AtW p l e R s m args below meth c n0 Q h cells slots (mkF m q L (.long z :: S))) : AtW p l e R s m args below meth c n0 Q h cells slots (mkF m pc L (.int x :: S)) := by
  subst hq
  exact K.go fun T hA t st => by subst hz; exact XS.i2l hA C.1 rfl (hb C.2.1 hd) rfl st
theorem w_l2i (C : Cx p s m meth c Z own bytes maxL ret nm) {x : Int64} {z : Int32} (hz : x.toInt32 = z) (hd : decode bytes pc = .ok (.l2i, 1)) (hq : pc + 1 = q) (K : AtW p l e R s m args below meth c n0 Q h cells slots (mkF m q L (.int z :: S))) : AtW p l e R s m args below meth c n0 Q h cells slots (mkF m pc L (.long x :: S)) := by
  subst hq
  exact K.go fun T hA t st => by subst hz; exact XS.l2i hA C.1 rfl (hb C.2.1 hd) rfl st
theorem w_i2b (C : Cx p s m meth c Z own bytes maxL ret nm) {x : Int32} {z : Int32} (hz : x.toInt8.toInt32 = z) (hd : decode bytes pc = .ok (.i2b, 1)) (hq : pc + 1 = q) (K : AtW p l e R s m args below meth c n0 Q h cells slots (mkF m q L (.int z :: S))) : AtW p l e R s m args below meth c n0 Q h cells slots (mkF m pc L (.int x :: S)) := by
  subst hq
  exact K.go fun T hA t st => by subst hz; exact XS.i2b hA C.1 rfl (hb C.2.1 hd) rfl st
theorem w_i2s (C : Cx p s m meth c Z own bytes maxL ret nm) {x : Int32} {z : Int32} (hz : x.toInt16.toInt32 = z) (hd : decode bytes pc = .ok (.i2s, 1)) (hq : pc + 1 = q) (K : AtW p l e R s m args below meth c n0 Q h cells slots (mkF m q L (.int z :: S))) : AtW p l e R s m args below meth c n0 Q h cells slots (mkF m pc L (.int x :: S)) := by
  subst hq
  exact K.go fun T hA t st => by subst hz; exact XS.i2s hA C.1 rfl (hb C.2.1 hd) rfl st
theorem w_i2c (C : Cx p s m meth c Z own bytes maxL ret nm) {x : Int32} {z : Int32} (hz : x.toUInt32.toUInt16.toUInt32.toInt32 = z) (hd : decode bytes pc = .ok (.i2c, 1)) (hq : pc + 1 = q) (K : AtW p l e R s m args below meth c n0 Q h cells slots (mkF m q L (.int z :: S))) : AtW p l e R s m args below meth c n0 Q h cells slots (mkF m pc L (.int x :: S)) := by
  subst hq
  exact K.go fun T hA t st => by subst hz; exact XS.i2c hA C.1 rfl (hb C.2.1 hd) rfl st
theorem w_lcmp (C : Cx p s m meth c Z own bytes maxL ret nm) {x y : Int64} {z : Int32} (hz : lcmpW x y = z) (hd : decode bytes pc = .ok (.lcmp, 1)) (hq : pc + 1 = q) (K : AtW p l e R s m args below meth c n0 Q h cells slots (mkF m q L (.int z :: S))) : AtW p l e R s m args below meth c n0 Q h cells slots (mkF m pc L (.long y :: .long x :: S)) := by
  subst hq
  exact K.go fun T hA t st => by subst hz; exact XS.lcmp hA C.1 rfl (hb C.2.1 hd) rfl st
theorem w_dup (C : Cx p s m meth c Z own bytes maxL ret nm) {x : Value} (hc : x.category = 1) (hd : decode bytes pc = .ok (.dup, 1)) (hq : pc + 1 = q) (K : AtW p l e R s m args below meth c n0 Q h cells slots (mkF m q L (x :: x :: S))) : AtW p l e R s m args below meth c n0 Q h cells slots (mkF m pc L (x :: S)) := by
  subst hq
  exact K.go fun T hA t st => XS.dup hA C.1 rfl (hb C.2.1 hd) rfl hc st
theorem w_pop (C : Cx p s m meth c Z own bytes maxL ret nm) {x : Value} (hc : x.category = 1) (hd : decode bytes pc = .ok (.pop, 1)) (hq : pc + 1 = q) (K : AtW p l e R s m args below meth c n0 Q h cells slots (mkF m q L S)) : AtW p l e R s m args below meth c n0 Q h cells slots (mkF m pc L (x :: S)) := by
  subst hq
  exact K.go fun T hA t st => XS.pop hA C.1 rfl (hb C.2.1 hd) rfl hc st
theorem w_dup_x1 (C : Cx p s m meth c Z own bytes maxL ret nm) {x y : Value} (hc : x.category = 1) (hc' : y.category = 1) (hd : decode bytes pc = .ok (.dup_x1, 1)) (hq : pc + 1 = q) (K : AtW p l e R s m args below meth c n0 Q h cells slots (mkF m q L (x :: y :: x :: S))) : AtW p l e R s m args below meth c n0 Q h cells slots (mkF m pc L (x :: y :: S)) := by
  subst hq
  exact K.go fun T hA t st => XS.dupX1 hA C.1 rfl (hb C.2.1 hd) rfl hc hc' st
theorem w_iinc (C : Cx p s m meth c Z own bytes maxL ret nm) {k : Nat} {cst : Int} {x z : Int32} (hl : L[k]? = some (.val (.int x))) (hz : x + Int32.ofInt cst = z) (hl' : storeLocals L k (.int z) = some L') (hd : decode bytes pc = .ok (.iinc k cst, 3)) (hq : pc + 3 = q) (K : AtW p l e R s m args below meth c n0 Q h cells slots (mkF m q L' S)) : AtW p l e R s m args below meth c n0 Q h cells slots (mkF m pc L S) := by
  subst hq
  exact K.go fun T hA t st => by subst hz; exact XS.iinc hA C.1 rfl (hb C.2.1 hd) hl hl' st
theorem w_goto (C : Cx p s m meth c Z own bytes maxL ret nm) {o : Int} (hd : decode bytes pc = .ok (.goto o, 3)) (ho : 0 ≤ (pc : Int) + o) (hp : ((pc : Int) + o).toNat = q) (K : AtW p l e R s m args below meth c n0 Q h cells slots (mkF m q L S)) : AtW p l e R s m args below meth c n0 Q h cells slots (mkF m pc L S) :=
  K.go fun T hA t st => XS.goto hA C.1 rfl (pc0 := pc) (pc' := q) rfl (hb C.2.1 hd) ho hp st
theorem w_icmp_lt_t (C : Cx p s m meth c Z own bytes maxL ret nm) {o : Int} {x y : Int32} (hd : decode bytes pc = .ok (.if_icmp .lt o, 3)) (ho : 0 ≤ (pc : Int) + o) (hp : ((pc : Int) + o).toNat = q) (hc : x < y) (K : AtW p l e R s m args below meth c n0 Q h cells slots (mkF m q L S)) : AtW p l e R s m args below meth c n0 Q h cells slots (mkF m pc L (.int y :: .int x :: S)) :=
  K.go fun T hA t st => XS.icmpYes hA C.1 rfl (pc0 := pc) (pc' := q) rfl (hb C.2.1 hd) rfl (tlt hc).1 ho hp st
theorem w_icmp_lt_f (C : Cx p s m meth c Z own bytes maxL ret nm) {o : Int} {x y : Int32} (hd : decode bytes pc = .ok (.if_icmp .lt o, 3)) (hq : pc + 3 = q) (hc : ¬ x < y) (K : AtW p l e R s m args below meth c n0 Q h cells slots (mkF m q L S)) : AtW p l e R s m args below meth c n0 Q h cells slots (mkF m pc L (.int y :: .int x :: S)) := by
  subst hq
  exact K.go fun T hA t st => XS.icmpNo hA C.1 rfl (hb C.2.1 hd) rfl (flt hc).1 st
theorem w_if_lt_t (C : Cx p s m meth c Z own bytes maxL ret nm) {o : Int} {x : Int32} (hd : decode bytes pc = .ok (.ifCond .lt o, 3)) (ho : 0 ≤ (pc : Int) + o) (hp : ((pc : Int) + o).toNat = q) (hc : x < 0) (K : AtW p l e R s m args below meth c n0 Q h cells slots (mkF m q L S)) : AtW p l e R s m args below meth c n0 Q h cells slots (mkF m pc L (.int x :: S)) :=
  K.go fun T hA t st => XS.ifYes hA C.1 rfl (pc0 := pc) (pc' := q) rfl (hb C.2.1 hd) rfl ((if0 _ _).trans (tlt hc).1) ho hp st
theorem w_if_lt_f (C : Cx p s m meth c Z own bytes maxL ret nm) {o : Int} {x : Int32} (hd : decode bytes pc = .ok (.ifCond .lt o, 3)) (hq : pc + 3 = q) (hc : ¬ x < 0) (K : AtW p l e R s m args below meth c n0 Q h cells slots (mkF m q L S)) : AtW p l e R s m args below meth c n0 Q h cells slots (mkF m pc L (.int x :: S)) := by
  subst hq
  exact K.go fun T hA t st => XS.ifNo hA C.1 rfl (hb C.2.1 hd) rfl ((if0 _ _).trans (flt hc).1) st
theorem w_icmp_ge_t (C : Cx p s m meth c Z own bytes maxL ret nm) {o : Int} {x y : Int32} (hd : decode bytes pc = .ok (.if_icmp .ge o, 3)) (ho : 0 ≤ (pc : Int) + o) (hp : ((pc : Int) + o).toNat = q) (hc : ¬ x < y) (K : AtW p l e R s m args below meth c n0 Q h cells slots (mkF m q L S)) : AtW p l e R s m args below meth c n0 Q h cells slots (mkF m pc L (.int y :: .int x :: S)) :=
  K.go fun T hA t st => XS.icmpYes hA C.1 rfl (pc0 := pc) (pc' := q) rfl (hb C.2.1 hd) rfl (flt hc).2.1 ho hp st
theorem w_icmp_ge_f (C : Cx p s m meth c Z own bytes maxL ret nm) {o : Int} {x y : Int32} (hd : decode bytes pc = .ok (.if_icmp .ge o, 3)) (hq : pc + 3 = q) (hc : x < y) (K : AtW p l e R s m args below meth c n0 Q h cells slots (mkF m q L S)) : AtW p l e R s m args below meth c n0 Q h cells slots (mkF m pc L (.int y :: .int x :: S)) := by
  subst hq
  exact K.go fun T hA t st => XS.icmpNo hA C.1 rfl (hb C.2.1 hd) rfl (tlt hc).2.1 st
theorem w_if_ge_t (C : Cx p s m meth c Z own bytes maxL ret nm) {o : Int} {x : Int32} (hd : decode bytes pc = .ok (.ifCond .ge o, 3)) (ho : 0 ≤ (pc : Int) + o) (hp : ((pc : Int) + o).toNat = q) (hc : ¬ x < 0) (K : AtW p l e R s m args below meth c n0 Q h cells slots (mkF m q L S)) : AtW p l e R s m args below meth c n0 Q h cells slots (mkF m pc L (.int x :: S)) :=
  K.go fun T hA t st => XS.ifYes hA C.1 rfl (pc0 := pc) (pc' := q) rfl (hb C.2.1 hd) rfl ((if0 _ _).trans (flt hc).2.1) ho hp st
theorem w_if_ge_f (C : Cx p s m meth c Z own bytes maxL ret nm) {o : Int} {x : Int32} (hd : decode bytes pc = .ok (.ifCond .ge o, 3)) (hq : pc + 3 = q) (hc : x < 0) (K : AtW p l e R s m args below meth c n0 Q h cells slots (mkF m q L S)) : AtW p l e R s m args below meth c n0 Q h cells slots (mkF m pc L (.int x :: S)) := by
  subst hq
  exact K.go fun T hA t st => XS.ifNo hA C.1 rfl (hb C.2.1 hd) rfl ((if0 _ _).trans (tlt hc).2.1) st
theorem w_icmp_gt_t (C : Cx p s m meth c Z own bytes maxL ret nm) {o : Int} {x y : Int32} (hd : decode bytes pc = .ok (.if_icmp .gt o, 3)) (ho : 0 ≤ (pc : Int) + o) (hp : ((pc : Int) + o).toNat = q) (hc : y < x) (K : AtW p l e R s m args below meth c n0 Q h cells slots (mkF m q L S)) : AtW p l e R s m args below meth c n0 Q h cells slots (mkF m pc L (.int y :: .int x :: S)) :=
  K.go fun T hA t st => XS.icmpYes hA C.1 rfl (pc0 := pc) (pc' := q) rfl (hb C.2.1 hd) rfl (tlt hc).2.2.1 ho hp st
theorem w_icmp_gt_f (C : Cx p s m meth c Z own bytes maxL ret nm) {o : Int} {x y : Int32} (hd : decode bytes pc = .ok (.if_icmp .gt o, 3)) (hq : pc + 3 = q) (hc : ¬ y < x) (K : AtW p l e R s m args below meth c n0 Q h cells slots (mkF m q L S)) : AtW p l e R s m args below meth c n0 Q h cells slots (mkF m pc L (.int y :: .int x :: S)) := by
  subst hq
  exact K.go fun T hA t st => XS.icmpNo hA C.1 rfl (hb C.2.1 hd) rfl (flt hc).2.2.1 st
theorem w_if_gt_t (C : Cx p s m meth c Z own bytes maxL ret nm) {o : Int} {x : Int32} (hd : decode bytes pc = .ok (.ifCond .gt o, 3)) (ho : 0 ≤ (pc : Int) + o) (hp : ((pc : Int) + o).toNat = q) (hc : 0 < x) (K : AtW p l e R s m args below meth c n0 Q h cells slots (mkF m q L S)) : AtW p l e R s m args below meth c n0 Q h cells slots (mkF m pc L (.int x :: S)) :=
  K.go fun T hA t st => XS.ifYes hA C.1 rfl (pc0 := pc) (pc' := q) rfl (hb C.2.1 hd) rfl ((if0 _ _).trans (tlt hc).2.2.1) ho hp st
theorem w_if_gt_f (C : Cx p s m meth c Z own bytes maxL ret nm) {o : Int} {x : Int32} (hd : decode bytes pc = .ok (.ifCond .gt o, 3)) (hq : pc + 3 = q) (hc : ¬ 0 < x) (K : AtW p l e R s m args below meth c n0 Q h cells slots (mkF m q L S)) : AtW p l e R s m args below meth c n0 Q h cells slots (mkF m pc L (.int x :: S)) := by
  subst hq
  exact K.go fun T hA t st => XS.ifNo hA C.1 rfl (hb C.2.1 hd) rfl ((if0 _ _).trans (flt hc).2.2.1) st
theorem w_icmp_le_t (C : Cx p s m meth c Z own bytes maxL ret nm) {o : Int} {x y : Int32} (hd : decode bytes pc = .ok (.if_icmp .le o, 3)) (ho : 0 ≤ (pc : Int) + o) (hp : ((pc : Int) + o).toNat = q) (hc : ¬ y < x) (K : AtW p l e R s m args below meth c n0 Q h cells slots (mkF m q L S)) : AtW p l e R s m args below meth c n0 Q h cells slots (mkF m pc L (.int y :: .int x :: S)) :=
  K.go fun T hA t st => XS.icmpYes hA C.1 rfl (pc0 := pc) (pc' := q) rfl (hb C.2.1 hd) rfl (flt hc).2.2.2 ho hp st
theorem w_icmp_le_f (C : Cx p s m meth c Z own bytes maxL ret nm) {o : Int} {x y : Int32} (hd : decode bytes pc = .ok (.if_icmp .le o, 3)) (hq : pc + 3 = q) (hc : y < x) (K : AtW p l e R s m args below meth c n0 Q h cells slots (mkF m q L S)) : AtW p l e R s m args below meth c n0 Q h cells slots (mkF m pc L (.int y :: .int x :: S)) := by
  subst hq
  exact K.go fun T hA t st => XS.icmpNo hA C.1 rfl (hb C.2.1 hd) rfl (tlt hc).2.2.2 st
theorem w_if_le_t (C : Cx p s m meth c Z own bytes maxL ret nm) {o : Int} {x : Int32} (hd : decode bytes pc = .ok (.ifCond .le o, 3)) (ho : 0 ≤ (pc : Int) + o) (hp : ((pc : Int) + o).toNat = q) (hc : ¬ 0 < x) (K : AtW p l e R s m args below meth c n0 Q h cells slots (mkF m q L S)) : AtW p l e R s m args below meth c n0 Q h cells slots (mkF m pc L (.int x :: S)) :=
  K.go fun T hA t st => XS.ifYes hA C.1 rfl (pc0 := pc) (pc' := q) rfl (hb C.2.1 hd) rfl ((if0 _ _).trans (flt hc).2.2.2) ho hp st
theorem w_if_le_f (C : Cx p s m meth c Z own bytes maxL ret nm) {o : Int} {x : Int32} (hd : decode bytes pc = .ok (.ifCond .le o, 3)) (hq : pc + 3 = q) (hc : 0 < x) (K : AtW p l e R s m args below meth c n0 Q h cells slots (mkF m q L S)) : AtW p l e R s m args below meth c n0 Q h cells slots (mkF m pc L (.int x :: S)) := by
  subst hq
  exact K.go fun T hA t st => XS.ifNo hA C.1 rfl (hb C.2.1 hd) rfl ((if0 _ _).trans (tlt hc).2.2.2) st
theorem w_icmp_eq_t (C : Cx p s m meth c Z own bytes maxL ret nm) {o : Int} {x y : Int32} (hd : decode bytes pc = .ok (.if_icmp .eq o, 3)) (ho : 0 ≤ (pc : Int) + o) (hp : ((pc : Int) + o).toNat = q) (hc : x = y) (K : AtW p l e R s m args below meth c n0 Q h cells slots (mkF m q L S)) : AtW p l e R s m args below meth c n0 Q h cells slots (mkF m pc L (.int y :: .int x :: S)) :=
  K.go fun T hA t st => XS.icmpYes hA C.1 rfl (pc0 := pc) (pc' := q) rfl (hb C.2.1 hd) rfl (teq hc).1 ho hp st
theorem w_icmp_eq_f (C : Cx p s m meth c Z own bytes maxL ret nm) {o : Int} {x y : Int32} (hd : decode bytes pc = .ok (.if_icmp .eq o, 3)) (hq : pc + 3 = q) (hc : ¬ x = y) (K : AtW p l e R s m args below meth c n0 Q h cells slots (mkF m q L S)) : AtW p l e R s m args below meth c n0 Q h cells slots (mkF m pc L (.int y :: .int x :: S)) := by
  subst hq
  exact K.go fun T hA t st => XS.icmpNo hA C.1 rfl (hb C.2.1 hd) rfl (feq hc).1 st
theorem w_if_eq_t (C : Cx p s m meth c Z own bytes maxL ret nm) {o : Int} {x : Int32} (hd : decode bytes pc = .ok (.ifCond .eq o, 3)) (ho : 0 ≤ (pc : Int) + o) (hp : ((pc : Int) + o).toNat = q) (hc : x = 0) (K : AtW p l e R s m args below meth c n0 Q h cells slots (mkF m q L S)) : AtW p l e R s m args below meth c n0 Q h cells slots (mkF m pc L (.int x :: S)) :=
  K.go fun T hA t st => XS.ifYes hA C.1 rfl (pc0 := pc) (pc' := q) rfl (hb C.2.1 hd) rfl ((if0 _ _).trans (teq hc).1) ho hp st
theorem w_if_eq_f (C : Cx p s m meth c Z own bytes maxL ret nm) {o : Int} {x : Int32} (hd : decode bytes pc = .ok (.ifCond .eq o, 3)) (hq : pc + 3 = q) (hc : ¬ x = 0) (K : AtW p l e R s m args below meth c n0 Q h cells slots (mkF m q L S)) : AtW p l e R s m args below meth c n0 Q h cells slots (mkF m pc L (.int x :: S)) := by
  subst hq
  exact K.go fun T hA t st => XS.ifNo hA C.1 rfl (hb C.2.1 hd) rfl ((if0 _ _).trans (feq hc).1) st
theorem w_icmp_ne_t (C : Cx p s m meth c Z own bytes maxL ret nm) {o : Int} {x y : Int32} (hd : decode bytes pc = .ok (.if_icmp .ne o, 3)) (ho : 0 ≤ (pc : Int) + o) (hp : ((pc : Int) + o).toNat = q) (hc : ¬ x = y) (K : AtW p l e R s m args below meth c n0 Q h cells slots (mkF m q L S)) : AtW p l e R s m args below meth c n0 Q h cells slots (mkF m pc L (.int y :: .int x :: S)) :=
  K.go fun T hA t st => XS.icmpYes hA C.1 rfl (pc0 := pc) (pc' := q) rfl (hb C.2.1 hd) rfl (feq hc).2 ho hp st
theorem w_icmp_ne_f (C : Cx p s m meth c Z own bytes maxL ret nm) {o : Int} {x y : Int32} (hd : decode bytes pc = .ok (.if_icmp .ne o, 3)) (hq : pc + 3 = q) (hc : x = y) (K : AtW p l e R s m args below meth c n0 Q h cells slots (mkF m q L S)) : AtW p l e R s m args below meth c n0 Q h cells slots (mkF m pc L (.int y :: .int x :: S)) := by
  subst hq
  exact K.go fun T hA t st => XS.icmpNo hA C.1 rfl (hb C.2.1 hd) rfl (teq hc).2 st
theorem w_if_ne_t (C : Cx p s m meth c Z own bytes maxL ret nm) {o : Int} {x : Int32} (hd : decode bytes pc = .ok (.ifCond .ne o, 3)) (ho : 0 ≤ (pc : Int) + o) (hp : ((pc : Int) + o).toNat = q) (hc : ¬ x = 0) (K : AtW p l e R s m args below meth c n0 Q h cells slots (mkF m q L S)) : AtW p l e R s m args below meth c n0 Q h cells slots (mkF m pc L (.int x :: S)) :=
  K.go fun T hA t st => XS.ifYes hA C.1 rfl (pc0 := pc) (pc' := q) rfl (hb C.2.1 hd) rfl ((if0 _ _).trans (feq hc).2) ho hp st
theorem w_if_ne_f (C : Cx p s m meth c Z own bytes maxL ret nm) {o : Int} {x : Int32} (hd : decode bytes pc = .ok (.ifCond .ne o, 3)) (hq : pc + 3 = q) (hc : x = 0) (K : AtW p l e R s m args below meth c n0 Q h cells slots (mkF m q L S)) : AtW p l e R s m args below meth c n0 Q h cells slots (mkF m pc L (.int x :: S)) := by
  subst hq
  exact K.go fun T hA t st => XS.ifNo hA C.1 rfl (hb C.2.1 hd) rfl ((if0 _ _).trans (teq hc).2) st
theorem w_ifnull_t (C : Cx p s m meth c Z own bytes maxL ret nm) {o : Int} (hd : decode bytes pc = .ok (.ifnull o, 3)) (ho : 0 ≤ (pc : Int) + o) (hp : ((pc : Int) + o).toNat = q) (K : AtW p l e R s m args below meth c n0 Q h cells slots (mkF m q L S)) : AtW p l e R s m args below meth c n0 Q h cells slots (mkF m pc L (.null :: S)) :=
  K.go fun T hA t st => XS.ifnullYes hA C.1 rfl (pc0 := pc) (pc' := q) rfl (hb C.2.1 hd) rfl ho hp st
theorem w_ifnull_f (C : Cx p s m meth c Z own bytes maxL ret nm) {o : Int} {b : Addr} (hd : decode bytes pc = .ok (.ifnull o, 3)) (hq : pc + 3 = q) (K : AtW p l e R s m args below meth c n0 Q h cells slots (mkF m q L S)) : AtW p l e R s m args below meth c n0 Q h cells slots (mkF m pc L ((.ref b) :: S)) := by
  subst hq
  exact K.go fun T hA t st => XS.ifnullNo hA C.1 rfl (hb C.2.1 hd) rfl st
theorem w_ifnonnull_t (C : Cx p s m meth c Z own bytes maxL ret nm) {o : Int} {b : Addr} (hd : decode bytes pc = .ok (.ifnonnull o, 3)) (ho : 0 ≤ (pc : Int) + o) (hp : ((pc : Int) + o).toNat = q) (K : AtW p l e R s m args below meth c n0 Q h cells slots (mkF m q L S)) : AtW p l e R s m args below meth c n0 Q h cells slots (mkF m pc L ((.ref b) :: S)) :=
  K.go fun T hA t st => XS.ifnonnullYes hA C.1 rfl (pc0 := pc) (pc' := q) rfl (hb C.2.1 hd) rfl ho hp st
theorem w_ifnonnull_f (C : Cx p s m meth c Z own bytes maxL ret nm) {o : Int} (hd : decode bytes pc = .ok (.ifnonnull o, 3)) (hq : pc + 3 = q) (K : AtW p l e R s m args below meth c n0 Q h cells slots (mkF m q L S)) : AtW p l e R s m args below meth c n0 Q h cells slots (mkF m pc L (.null :: S)) := by
  subst hq
  exact K.go fun T hA t st => XS.ifnonnullNo hA C.1 rfl (hb C.2.1 hd) rfl st
theorem w_acmp_t (C : Cx p s m meth c Z own bytes maxL ret nm) {cd : ACond} {o : Int} {x y : Value} (hd : decode bytes pc = .ok (.if_acmp cd o, 3)) (h1 : x.isRef = true) (h2 : y.isRef = true) {same : Bool} (hs : decide (x = y) = same) (hcd : acV cd same = true) (ho : 0 ≤ (pc : Int) + o) (hp : ((pc : Int) + o).toNat = q) (K : AtW p l e R s m args below meth c n0 Q h cells slots (mkF m q L S)) : AtW p l e R s m args below meth c n0 Q h cells slots (mkF m pc L (y :: x :: S)) :=
  K.goX fun T locs k n X eT t st => Jvm.RoadKit.acmp (g := mkF m pc L (y :: x :: S)) X C.1 rfl h1 h2 (pc0 := pc) (pc' := q) (same := same) rfl (hb C.2.1 hd) rfl hs ho (by rw [if_pos hcd]; exact hp.symm) st
theorem w_acmp_f (C : Cx p s m meth c Z own bytes maxL ret nm) {cd : ACond} {o : Int} {x y : Value} (hd : decode bytes pc = .ok (.if_acmp cd o, 3)) (h1 : x.isRef = true) (h2 : y.isRef = true) {same : Bool} (hs : decide (x = y) = same) (hcd : acV cd same = false) (ho : 0 ≤ (pc : Int) + o) (hq : pc + 3 = q) (K : AtW p l e R s m args below meth c n0 Q h cells slots (mkF m q L S)) : AtW p l e R s m args below meth c n0 Q h cells slots (mkF m pc L (y :: x :: S)) :=
  K.goX fun T locs k n X eT t st => Jvm.RoadKit.acmp (g := mkF m pc L (y :: x :: S)) X C.1 rfl h1 h2 (pc0 := pc) (pc' := q) (same := same) rfl (hb C.2.1 hd) rfl hs ho (by rw [if_neg (by rw [hcd]; exact Bool.false_ne_true)]; exact hq.symm) st
theorem w_ldcI (C : Cx p s m meth c Z own bytes maxL ret nm) {i : Nat} {v : Int32} (w : (Jvm.Cond.constant own i v).before a0 Z = true) (hd : decode bytes pc = .ok (.ldc i, 2)) (hq : pc + 2 = q) (K : AtW p l e R s m args below meth c n0 Q h cells slots (mkF m q L (.int v :: S))) : AtW p l e R s m args below meth c n0 Q h cells slots (mkF m pc L S) := by
  subst hq
  exact K.goX fun T locs k n X eT t st => X.ldcInt C.1 C.2.2.2.2.1 (mvT C.2.2.2.1 w) (g := mkF m pc L S) rfl (hb C.2.1 hd) t st
theorem w_ldcwI (C : Cx p s m meth c Z own bytes maxL ret nm) {i : Nat} {v : Int32} (w : (Jvm.Cond.constant own i v).before a0 Z = true) (hd : decode bytes pc = .ok (.ldc_w i, 3)) (hq : pc + 3 = q) (K : AtW p l e R s m args below meth c n0 Q h cells slots (mkF m q L (.int v :: S))) : AtW p l e R s m args below meth c n0 Q h cells slots (mkF m pc L S) := by
  subst hq
  exact K.goX fun T locs k n X eT t st => X.ldcwInt C.1 C.2.2.2.2.1 (mvT C.2.2.2.1 w) (g := mkF m pc L S) rfl (hb C.2.1 hd) t st
theorem w_ldc2J (C : Cx p s m meth c Z own bytes maxL ret nm) {i : Nat} {v : Int64} (w : (Jvm.Cond.constantLong own i v).before a0 Z = true) (hd : decode bytes pc = .ok (.ldc2_w i, 3)) (hq : pc + 3 = q) (K : AtW p l e R s m args below meth c n0 Q h cells slots (mkF m q L (.long v :: S))) : AtW p l e R s m args below meth c n0 Q h cells slots (mkF m pc L S) := by
  subst hq
  exact K.goX fun T locs k n X eT t st => X.ldc2Long C.1 C.2.2.2.2.1 (mvT C.2.2.2.1 w) (g := mkF m pc L S) rfl (hb C.2.1 hd) t st

theorem w_getF (C : Cx p s m meth c Z own bytes maxL ret nm) {R0 O n d host : String} {i : Nat} {a : Addr} {v : Value} (w : (Jvm.Cond.fieldLink own i R0 n d).before a0 Z = true ∨ (Jvm.Cond.fieldLinkNest own i R0 n d host).before a0 Z = true) (via : Via Z R0 O n d) (F : Fld Z h a O n d v) (hd : decode bytes pc = .ok (.getfield i, 3)) (hq : pc + 3 = q) (K : AtW p l e R s m args below meth c n0 Q h cells slots (mkF m q L (v :: S))) : AtW p l e R s m args below meth c n0 Q h cells slots (mkF m pc L (.ref a :: S)) := by
  subst hq
  intro T locs k n X hk hn eT N
  obtain ⟨T', X', e', st⟩ := getF X C.1 C.2.2.2.1 (host := host) C.2.2.2.2.1 w via eT F (g := mkF m pc L (.ref a :: S)) rfl rfl (hb C.2.1 hd)
  obtain ⟨t, o, r1, r⟩ := K T' locs k n X' hk hn e' N
  exact ⟨t, o, st _ r1, r⟩
theorem w_getS (C : Cx p s m meth c Z own bytes maxL ret nm) {R0 O n d host : String} {i : Nat} {v : Value} (w : (Jvm.Cond.fieldLink own i R0 n d).before a0 Z = true ∨ (Jvm.Cond.fieldLinkNest own i R0 n d host).before a0 Z = true) (via : Via Z R0 O n d) (F : Sta Z h O n d v) (hd : decode bytes pc = .ok (.getstatic i, 3)) (hq : pc + 3 = q) (K : AtW p l e R s m args below meth c n0 Q h cells slots (mkF m q L (v :: S))) : AtW p l e R s m args below meth c n0 Q h cells slots (mkF m pc L S) := by
  subst hq
  intro T locs k n X hk hn eT N
  obtain ⟨T', X', e', st⟩ := getS2 X C.1 C.2.2.2.1 (host := host) C.2.2.2.2.1 w via eT F (g := mkF m pc L S) rfl (hb C.2.1 hd)
  obtain ⟨t, o, r1, r⟩ := K T' locs k n X' hk hn e' N
  exact ⟨t, o, st _ r1, r⟩
theorem w_cast (C : Cx p s m meth c Z own bytes maxL ret nm) {K : String} {i : Nat} {a : Addr} (w : (Jvm.Cond.classLink own i K).before a0 Z = true) (F : Ins Z h a K true) (hd : decode bytes pc = .ok (.checkcast i, 3)) (hq : pc + 3 = q) (K : AtW p l e R s m args below meth c n0 Q h cells slots (mkF m q L (.ref a :: S))) : AtW p l e R s m args below meth c n0 Q h cells slots (mkF m pc L (.ref a :: S)) := by
  subst hq
  intro T locs k n X hk hn eT N
  obtain ⟨T', X', e', st⟩ := castY X C.1 C.2.2.2.1 C.2.2.2.2.1 w eT F (g := mkF m pc L (.ref a :: S)) rfl rfl (hb C.2.1 hd)
  obtain ⟨t, o, r1, r⟩ := K T' locs k n X' hk hn e' N
  exact ⟨t, o, st _ r1, r⟩
theorem w_inst (C : Cx p s m meth c Z own bytes maxL ret nm) {K : String} {i : Nat} {a : Addr} (w : (Jvm.Cond.classLink own i K).before a0 Z = true) (F : Ins Z h a K true) (hd : decode bytes pc = .ok (.instanceof i, 3)) (hq : pc + 3 = q) (K : AtW p l e R s m args below meth c n0 Q h cells slots (mkF m q L (.int 1 :: S))) : AtW p l e R s m args below meth c n0 Q h cells slots (mkF m pc L (.ref a :: S)) := by
  subst hq
  intro T locs k n X hk hn eT N
  obtain ⟨T', X', e', st⟩ := instY X C.1 C.2.2.2.1 C.2.2.2.2.1 w eT F (g := mkF m pc L (.ref a :: S)) rfl rfl (hb C.2.1 hd)
  obtain ⟨t, o, r1, r⟩ := K T' locs k n X' hk hn e' N
  exact ⟨t, o, st _ r1, r⟩
theorem w_initO (C : Cx p s m meth c Z own bytes maxL ret nm) {i : Nat} {a : Addr} (w1 : (Jvm.Cond.methodLink own i Lib.objectInit).before a0 Z = true) (w2 : (Jvm.Cond.instanceMethod Lib.objectInit).before a0 Z = true) (w3 : (Jvm.Cond.code Lib.objectInit object_method_1_code 1 none).before a0 Z = true) (hL : L.size = maxL) (hf : 1 ≤ R.frames) {W : Nat} (hW : (S.map fun v => v.category).sum ≤ W) (hlo : W + 12 ≤ R.locals) (hd : decode bytes pc = .ok (.invokespecial i, 3)) (hq : pc + 3 = q) (K : AtW p l e R s m args below meth c n0 Q h cells slots (mkF m q L S)) : AtW p l e R s m args below meth c n0 Q h cells slots (mkF m pc L (.ref a :: S)) := by
  subst hq
  intro T locs k n X hk hn eT N
  obtain ⟨T', X', e', st⟩ := initO X C.1 C.2.2.2.1 C.2.2.2.2.1 w1 w2 w3 eT (g := mkF m pc L (.ref a :: S)) rfl (hL.trans C.2.2.1.symm) rfl (hb C.2.1 hd) hf (W := W) (by show 2 * 0 + _ ≤ _; omega) hlo
  obtain ⟨t, o, r1, r⟩ := K T' locs k n X' hk hn e' N
  exact ⟨t, o, st _ r1, r⟩
theorem w_putF (C : Cx p s m meth c Z own bytes maxL ret nm) {R0 O n d host Cl : String} {i kk : Nat} {ty : FieldType} {a : Addr} {v v' old : Value} (w : (Jvm.Cond.fieldLink own i R0 n d).before a0 Z = true) (via : Via Z R0 O n d) (F : Fld Z h a O n d old) (E : Exa Z h a Cl)
    (hL : (Jvm.Cond.lays Cl O n d).before a0 Z = true ∨ ((Jvm.Cond.laysFinal Cl O n d).before a0 Z = true ∧ own = O ∧ nm = "<init>")) (wi : (Jvm.Cond.instantiable Cl kk).before a0 Z = true) (hty : parseFieldDescriptor d = some ty) (hn : narrow ty v = v') (hf : fits ty v' = true) (hge : n0 ≤ a)
    (hd : decode bytes pc = .ok (.putfield i, 3)) (hq : pc + 3 = q) (K : ∀ h', Wr h h' a (Jvm.RoadKit.slotOf Z O n d) v' → AtW p l e R s m args below meth c n0 Q h' cells slots (mkF m q L S)) : AtW p l e R s m args below meth c n0 Q h cells slots (mkF m pc L (v :: .ref a :: S)) := by
  subst hq
  intro T locs k n' X hk hn' eT N
  have hL' : (Jvm.Cond.lays Cl O n d).before a0 Z = true ∨ ((Jvm.Cond.laysFinal Cl O n d).before a0 Z = true ∧ own = O ∧ meth.name = "<init>") := hL.imp id fun x => ⟨x.1, x.2.1, C.2.2.2.2.2.2.2.trans x.2.2⟩
  obtain ⟨T', h', X', e', W, st⟩ := putFN X C.1 C.2.2.2.1 C.2.2.2.2.1 w via eT F E hL' wi hty hn hf (g := mkF m pc L (v :: .ref a :: S)) rfl rfl (hb C.2.1 hd)
  obtain ⟨t, o, r1, r⟩ := K h' W T' _ k n' X' hk hn' e' (Fr.snoc X' N hge)
  exact ⟨t, o, st _ r1, r⟩
theorem w_new (C : Cx p s m meth c Z own bytes maxL ret nm) {Cl : String} {i n : Nat} (w : (Jvm.Cond.classLink own i Cl).before a0 Z = true) (wi : (Jvm.Cond.instantiable Cl n).before a0 Z = true) (wz : (Jvm.Cond.initialized Cl).before a0 Z = true) {cells' slots' : Nat} (hc1 : cells + 1 = cells') (hs1 : slots + n = slots') (hc : cells' ≤ R.cells) (hl : slots' ≤ R.slots)
    (hd : decode bytes pc = .ok (.new i, 3)) (hq : pc + 3 = q) (K : ∀ h' a, a = h.size → Ext h h' → Exa Z h' a Cl → (∀ {O nm d : String} {ty : FieldType}, RoadKit.Laid Z a0 Cl O nm d → parseFieldDescriptor d = some ty → Fld Z h' a O nm d (defaultValue ty)) → AtW p l e R s m args below meth c n0 Q h' cells' slots' (mkF m q L (.ref a :: S))) : AtW p l e R s m args below meth c n0 Q h cells slots (mkF m pc L S) := by
  subst hq hc1 hs1
  intro T locs k n' X hk hn' eT N
  obtain ⟨T', h', X', e', E, A, D, -, st⟩ := newO X C.1 C.2.2.2.1 C.2.2.2.2.1 w wi wz eT (g := mkF m pc L S) rfl (hb C.2.1 hd) (by omega) (by omega)
  obtain ⟨t, o, r1, r⟩ := K h' h.size rfl E A D T' _ (k + 1) (n' + n) X' (by omega) (by omega) e' N
  exact ⟨t, o, st _ r1, r⟩
/-- an array that holds just vs -/
def Ar (Z : State) (h : Heap) (a : Addr) (ty : FieldType) (vs : List Value) : Prop := vs.length < 2 ^ 31 ∧ ∃ k, Arv Z h a k ty (Int32.ofNat vs.length) vs (defaultValue ty)
theorem ofNat_neg {n : Nat} (h : n < 2 ^ 31) : ¬ Int32.ofNat n < 0 := by
  intro q
  have := Int32.lt_iff_toInt_lt.mp q
  rw [Int32.toInt_ofNat_small h] at this
  simp at this
  omega
theorem ofNat_nat {n : Nat} (h : n < 2 ^ 31) : (Int32.ofNat n).toNatClampNeg = n := by
  simp only [Int32.toNatClampNeg, Int32.toInt_ofNat_small h]; rfl
theorem nat_of_nonneg {x : Int32} (h : ¬ x < 0) : Int32.ofNat x.toNatClampNeg = x ∧ x.toNatClampNeg < 2 ^ 31 := by
  obtain ⟨h1, h2⟩ := back32 h
  exact ⟨h1, h2⟩
theorem Ar.keep {a : Addr} {ty : FieldType} {vs : List Value} {h' : Heap} {ws : List Addr} (F : Ar Z h a ty vs) (K : Keep h h' ws) (q : a ∉ ws) : Ar Z h' a ty vs := ⟨F.1, F.2.imp fun k V => V.keep K q⟩
theorem Ar.ext {a : Addr} {ty : FieldType} {vs : List Value} {h' : Heap} (F : Ar Z h a ty vs) (E : Ext h h') : Ar Z h' a ty vs := ⟨F.1, F.2.imp fun k V => V.ext E⟩
theorem Ar.other {a b : Addr} {ty : FieldType} {vs : List Value} {h' : Heap} {sl : Nat} {v : Value} (F : Ar Z h b ty vs) (W : Wr h h' a sl v) (q : b ≠ a) : Ar Z h' b ty vs := ⟨F.1, F.2.imp fun k V => V.other W q⟩
theorem Ar.lt {a : Addr} {ty : FieldType} {vs : List Value} (F : Ar Z h a ty vs) : a < h.size := F.2.elim fun k V => V.lt
theorem Ar.eq {a : Addr} {ty : FieldType} {vs vs' : List Value} (F : Ar Z h a ty vs) (q : vs = vs') : Ar Z h a ty vs' := q ▸ F
theorem Keep.of_ext {h' : Heap} (E : Ext h h') : Keep h h' [] := (Keep.refl h []).ext E
theorem Keep.to_ext {h' : Heap} (K : Keep h h' []) : Ext h h' := ⟨K.1, fun a c q => K.2.1 a c q (by simp)⟩
theorem w_newArr (C : Cx p s m meth c Z own bytes maxL ret nm) {aty : ArrayType} {ty : FieldType} {n : Int32} (w : (Jvm.Cond.arrayClass ty).before a0 Z = true) (hty : newarray.typeOf aty = ty) (hn : ¬ n < 0) {cap : Nat} (hcap : n.toNatClampNeg ≤ cap) (hb' : cap * 8 ≤ 536870912) {cells' slots' : Nat} (hc1 : cells + 1 = cells') (hs1 : slots + cap = slots') (hc : cells' ≤ R.cells) (hl : slots' ≤ R.slots)
    (hd : decode bytes pc = .ok (.newarray aty, 2)) (hq : pc + 2 = q) (K : ∀ h' a, a = h.size → Ext h h' → Ar Z h' a ty (List.replicate n.toNatClampNeg (defaultValue ty)) → AtW p l e R s m args below meth c n0 Q h' cells' slots' (mkF m q L (.ref a :: S))) : AtW p l e R s m args below meth c n0 Q h cells slots (mkF m pc L (.int n :: S)) := by
  subst hq hc1 hs1 hty
  intro T locs k n' X hk hn' eT N
  obtain ⟨T', h', cA, X', e', E, A, st⟩ := newP X C.1 C.2.2.2.1 w eT (g := mkF m pc L (.int n :: S)) rfl (hb C.2.1 hd) rfl hn hcap hb' (by omega) (by omega)
  have q := nat_of_nonneg hn
  have V := (Arv.new A hn).pad (pad_rep [] (defaultValue (newarray.typeOf aty)) n.toNatClampNeg)
  obtain ⟨t, o, r1, r⟩ := K h' h.size rfl E ⟨by simpa using q.2, cA, by simpa [q.1] using V⟩ T' _ (k + 1) (n' + cap) X' (by omega) (by omega) e' N
  exact ⟨t, o, st _ r1, r⟩
theorem w_len (C : Cx p s m meth c Z own bytes maxL ret nm) {a : Addr} {ty : FieldType} {vs : List Value} {z : Int32} (A : Ar Z h a ty vs) (hz : Int32.ofNat vs.length = z) (hd : decode bytes pc = .ok (.arraylength, 1)) (hq : pc + 1 = q) (K : AtW p l e R s m args below meth c n0 Q h cells slots (mkF m q L (.int z :: S))) : AtW p l e R s m args below meth c n0 Q h cells slots (mkF m pc L (.ref a :: S)) := by
  subst hq hz
  obtain ⟨hlt, k, cl, Ar, -, hS, hM, -, -⟩ := A
  refine K.goX fun T locs k n X eT t st => X.arraylength C.1 (by rw [eT]; exact Ar.1) (State.isArrayOf_alike C.2.2.2.1.alike Ar.2.1) (g := mkF m pc L (.ref a :: S)) rfl rfl (hb C.2.1 hd) t ?_
  rw [len_of hS hM]; exact st

theorem w_iaload (C : Cx p s m meth c Z own bytes maxL ret nm) {a : Addr} {vs : List Value} {j : Int32} {i : Nat} {v : Value} (A : Ar Z h a .int vs) (hj : j = Int32.ofNat i) (hv : vs[i]? = some v) (hd : decode bytes pc = .ok (.iaload, 1)) (hq : pc + 1 = q) (K : AtW p l e R s m args below meth c n0 Q h cells slots (mkF m q L (v :: S))) : AtW p l e R s m args below meth c n0 Q h cells slots (mkF m pc L (.int j :: .ref a :: S)) := by
  subst hq hj
  obtain ⟨hlt, k, cl, Ar, -, hS, hM, H, -⟩ := A
  obtain ⟨hi, hg⟩ := List.getElem?_eq_some_iff.mp hv
  have e1 := ofNat_nat (n := i) (by omega)
  have e2 := ofNat_nat hlt
  have hin : ¬ (Int32.ofNat i < 0 ∨ cl.slots.size ≤ (Int32.ofNat i).toNatClampNeg) := by
    rw [e1, hS, e2]; exact fun q => q.elim (ofNat_neg (by omega)) (by omega)
  refine K.goX fun T locs k n X eT t st => X.iaload C.1 (j := Int32.ofNat i) (v := v) (by rw [eT]; exact Ar.1) (State.isArrayOf_alike C.2.2.2.1.alike Ar.2.1) Ar.2.2 hin (by rw [e1, H i (by rw [hS, e2]; exact hi)]; simp [List.getD, hv]) (g := mkF m pc L (.int (Int32.ofNat i) :: .ref a :: S)) rfl rfl (hb C.2.1 hd) t st
theorem w_caload (C : Cx p s m meth c Z own bytes maxL ret nm) {a : Addr} {vs : List Value} {j : Int32} {i : Nat} {v : Value} (A : Ar Z h a .char vs) (hj : j = Int32.ofNat i) (hv : vs[i]? = some v) (hd : decode bytes pc = .ok (.caload, 1)) (hq : pc + 1 = q) (K : AtW p l e R s m args below meth c n0 Q h cells slots (mkF m q L (v :: S))) : AtW p l e R s m args below meth c n0 Q h cells slots (mkF m pc L (.int j :: .ref a :: S)) := by
  subst hq hj
  obtain ⟨hlt, k, cl, Ar, -, hS, hM, H, -⟩ := A
  obtain ⟨hi, hg⟩ := List.getElem?_eq_some_iff.mp hv
  have e1 := ofNat_nat (n := i) (by omega)
  have e2 := ofNat_nat hlt
  have hin : ¬ (Int32.ofNat i < 0 ∨ cl.slots.size ≤ (Int32.ofNat i).toNatClampNeg) := by
    rw [e1, hS, e2]; exact fun q => q.elim (ofNat_neg (by omega)) (by omega)
  refine K.goX fun T locs k n X eT t st => X.caload C.1 (j := Int32.ofNat i) (v := v) (by rw [eT]; exact Ar.1) (State.isArrayOf_alike C.2.2.2.1.alike Ar.2.1) Ar.2.2 hin (by rw [e1, H i (by rw [hS, e2]; exact hi)]; simp [List.getD, hv]) (g := mkF m pc L (.int (Int32.ofNat i) :: .ref a :: S)) rfl rfl (hb C.2.1 hd) t st
theorem w_baload (C : Cx p s m meth c Z own bytes maxL ret nm) {a : Addr} {vs : List Value} {j : Int32} {i : Nat} {v : Value} (A : Ar Z h a .byte vs) (hj : j = Int32.ofNat i) (hv : vs[i]? = some v) (hd : decode bytes pc = .ok (.baload, 1)) (hq : pc + 1 = q) (K : AtW p l e R s m args below meth c n0 Q h cells slots (mkF m q L (v :: S))) : AtW p l e R s m args below meth c n0 Q h cells slots (mkF m pc L (.int j :: .ref a :: S)) := by
  subst hq hj
  obtain ⟨hlt, k, cl, Ar, -, hS, hM, H, -⟩ := A
  obtain ⟨hi, hg⟩ := List.getElem?_eq_some_iff.mp hv
  have e1 := ofNat_nat (n := i) (by omega)
  have e2 := ofNat_nat hlt
  have hin : ¬ (Int32.ofNat i < 0 ∨ cl.slots.size ≤ (Int32.ofNat i).toNatClampNeg) := by
    rw [e1, hS, e2]; exact fun q => q.elim (ofNat_neg (by omega)) (by omega)
  refine K.goX fun T locs k n X eT t st => X.baloadBytes C.1 (j := Int32.ofNat i) (v := v) (by rw [eT]; exact Ar.1) (State.isArrayOf_alike C.2.2.2.1.alike Ar.2.1) Ar.2.2 hin (by rw [e1, H i (by rw [hS, e2]; exact hi)]; simp [List.getD, hv]) (g := mkF m pc L (.int (Int32.ofNat i) :: .ref a :: S)) rfl rfl (hb C.2.1 hd) t st
theorem w_laload (C : Cx p s m meth c Z own bytes maxL ret nm) {a : Addr} {vs : List Value} {j : Int32} {i : Nat} {v : Value} (A : Ar Z h a .long vs) (hj : j = Int32.ofNat i) (hv : vs[i]? = some v) (hd : decode bytes pc = .ok (.laload, 1)) (hq : pc + 1 = q) (K : AtW p l e R s m args below meth c n0 Q h cells slots (mkF m q L (v :: S))) : AtW p l e R s m args below meth c n0 Q h cells slots (mkF m pc L (.int j :: .ref a :: S)) := by
  subst hq hj
  obtain ⟨hlt, k, cl, Ar, -, hS, hM, H, -⟩ := A
  obtain ⟨hi, hg⟩ := List.getElem?_eq_some_iff.mp hv
  have e1 := ofNat_nat (n := i) (by omega)
  have e2 := ofNat_nat hlt
  have hin : ¬ (Int32.ofNat i < 0 ∨ cl.slots.size ≤ (Int32.ofNat i).toNatClampNeg) := by
    rw [e1, hS, e2]; exact fun q => q.elim (ofNat_neg (by omega)) (by omega)
  refine K.goX fun T locs k n X eT t st => X.laload C.1 (j := Int32.ofNat i) (v := v) (by rw [eT]; exact Ar.1) (State.isArrayOf_alike C.2.2.2.1.alike Ar.2.1) Ar.2.2 hin (by rw [e1, H i (by rw [hS, e2]; exact hi)]; simp [List.getD, hv]) (g := mkF m pc L (.int (Int32.ofNat i) :: .ref a :: S)) rfl rfl (hb C.2.1 hd) t st
theorem w_aaload (C : Cx p s m meth c Z own bytes maxL ret nm) {a : Addr} {ty : FieldType} {vs : List Value} {j : Int32} {i : Nat} {v : Value} (A : Ar Z h a ty vs) (hj : j = Int32.ofNat i) (hv : vs[i]? = some v) (hr : ty.isReference = true) (hd : decode bytes pc = .ok (.aaload, 1)) (hq : pc + 1 = q) (K : AtW p l e R s m args below meth c n0 Q h cells slots (mkF m q L (v :: S))) : AtW p l e R s m args below meth c n0 Q h cells slots (mkF m pc L (.int j :: .ref a :: S)) := by
  subst hq hj
  obtain ⟨hlt, k, cl, Ar, -, hS, hM, H, -⟩ := A
  obtain ⟨hi, hg⟩ := List.getElem?_eq_some_iff.mp hv
  have e1 := ofNat_nat (n := i) (by omega)
  have e2 := ofNat_nat hlt
  have hin : ¬ (Int32.ofNat i < 0 ∨ cl.slots.size ≤ (Int32.ofNat i).toNatClampNeg) := by
    rw [e1, hS, e2]; exact fun q => q.elim (ofNat_neg (by omega)) (by omega)
  refine K.goX fun T locs k n X eT t st => X.aaload C.1 (j := Int32.ofNat i) (v := v) (by rw [eT]; exact Ar.1) (State.isArrayOf_alike C.2.2.2.1.alike Ar.2.1) hr Ar.2.2 hin (by rw [e1, H i (by rw [hS, e2]; exact hi)]; simp [List.getD, hv]) (g := mkF m pc L (.int (Int32.ofNat i) :: .ref a :: S)) rfl rfl (hb C.2.1 hd) t st
theorem w_iastore (C : Cx p s m meth c Z own bytes maxL ret nm) {a : Addr} {vs : List Value} {j : Int32} {i : Nat} {x : Int32} (A : Ar Z h a .int vs) (hj : j = Int32.ofNat i) (hi : i < vs.length) (hge : n0 ≤ a) (hd : decode bytes pc = .ok (.iastore, 1)) (hq : pc + 1 = q)
    (K : ∀ h', Wr h h' a i (.int x) → Ar Z h' a .int (vs.set i (.int x)) → AtW p l e R s m args below meth c n0 Q h' cells slots (mkF m q L S)) : AtW p l e R s m args below meth c n0 Q h cells slots (mkF m pc L (.int x :: .int j :: .ref a :: S)) := by
  subst hq hj
  intro T locs k n' X hk hn' eT N
  obtain ⟨hlt, k', cl, Ar, q1, hS, hM, H, G⟩ := A
  have e1 := ofNat_nat (n := i) (by omega)
  have e2 := ofNat_nat hlt
  have hin : ¬ (Int32.ofNat i < 0 ∨ cl.slots.size ≤ (Int32.ofNat i).toNatClampNeg) := by
    rw [e1, hS, e2]; exact fun q => q.elim (ofNat_neg (by omega)) (by omega)
  obtain ⟨T', h', X', e', W, st⟩ := stI X C.1 C.2.2.2.1 eT Ar (j := Int32.ofNat i) (x := x) hin (g := mkF m pc L (.int x :: .int (Int32.ofNat i) :: .ref a :: S)) rfl rfl (hb C.2.1 hd)
  have V := Arv.set Ar q1 hS hM H G (rfl) W i e1 hi
  obtain ⟨t, o, r1, r⟩ := K h' (by rw [e1] at W; exact W) ⟨by simpa using hlt, k', by rw [List.length_set]; exact V⟩ T' _ k n' X' hk hn' e' (Fr.snoc X' N hge)
  exact ⟨t, o, st _ r1, r⟩
theorem w_castore (C : Cx p s m meth c Z own bytes maxL ret nm) {a : Addr} {vs : List Value} {j : Int32} {i : Nat} {x : Int32} {z : Int32} (hz : nar .char x = z) (A : Ar Z h a .char vs) (hj : j = Int32.ofNat i) (hi : i < vs.length) (hge : n0 ≤ a) (hd : decode bytes pc = .ok (.castore, 1)) (hq : pc + 1 = q)
    (K : ∀ h', Wr h h' a i (.int z) → Ar Z h' a .char (vs.set i (.int z)) → AtW p l e R s m args below meth c n0 Q h' cells slots (mkF m q L S)) : AtW p l e R s m args below meth c n0 Q h cells slots (mkF m pc L (.int x :: .int j :: .ref a :: S)) := by
  subst hq hj hz
  intro T locs k n' X hk hn' eT N
  obtain ⟨hlt, k', cl, Ar, q1, hS, hM, H, G⟩ := A
  have e1 := ofNat_nat (n := i) (by omega)
  have e2 := ofNat_nat hlt
  have hin : ¬ (Int32.ofNat i < 0 ∨ cl.slots.size ≤ (Int32.ofNat i).toNatClampNeg) := by
    rw [e1, hS, e2]; exact fun q => q.elim (ofNat_neg (by omega)) (by omega)
  obtain ⟨T', h', X', e', W, st⟩ := stC X C.1 C.2.2.2.1 eT Ar (j := Int32.ofNat i) (x := x) hin (g := mkF m pc L (.int x :: .int (Int32.ofNat i) :: .ref a :: S)) rfl rfl (hb C.2.1 hd)
  have V := Arv.set Ar q1 hS hM H G (fits_nar_char _) W i e1 hi
  obtain ⟨t, o, r1, r⟩ := K h' (by rw [e1] at W; exact W) ⟨by simpa using hlt, k', by rw [List.length_set]; exact V⟩ T' _ k n' X' hk hn' e' (Fr.snoc X' N hge)
  exact ⟨t, o, st _ r1, r⟩
theorem w_bastore (C : Cx p s m meth c Z own bytes maxL ret nm) {a : Addr} {vs : List Value} {j : Int32} {i : Nat} {x : Int32} {z : Int32} (hz : nar .byte x = z) (A : Ar Z h a .byte vs) (hj : j = Int32.ofNat i) (hi : i < vs.length) (hge : n0 ≤ a) (hd : decode bytes pc = .ok (.bastore, 1)) (hq : pc + 1 = q)
    (K : ∀ h', Wr h h' a i (.int z) → Ar Z h' a .byte (vs.set i (.int z)) → AtW p l e R s m args below meth c n0 Q h' cells slots (mkF m q L S)) : AtW p l e R s m args below meth c n0 Q h cells slots (mkF m pc L (.int x :: .int j :: .ref a :: S)) := by
  subst hq hj hz
  intro T locs k n' X hk hn' eT N
  obtain ⟨hlt, k', cl, Ar, q1, hS, hM, H, G⟩ := A
  have e1 := ofNat_nat (n := i) (by omega)
  have e2 := ofNat_nat hlt
  have hin : ¬ (Int32.ofNat i < 0 ∨ cl.slots.size ≤ (Int32.ofNat i).toNatClampNeg) := by
    rw [e1, hS, e2]; exact fun q => q.elim (ofNat_neg (by omega)) (by omega)
  obtain ⟨T', h', X', e', W, st⟩ := stB X C.1 C.2.2.2.1 eT Ar (j := Int32.ofNat i) (x := x) hin (g := mkF m pc L (.int x :: .int (Int32.ofNat i) :: .ref a :: S)) rfl rfl (hb C.2.1 hd)
  have V := Arv.set Ar q1 hS hM H G (fits_nar_byte _) W i e1 hi
  obtain ⟨t, o, r1, r⟩ := K h' (by rw [e1] at W; exact W) ⟨by simpa using hlt, k', by rw [List.length_set]; exact V⟩ T' _ k n' X' hk hn' e' (Fr.snoc X' N hge)
  exact ⟨t, o, st _ r1, r⟩
theorem w_lastore (C : Cx p s m meth c Z own bytes maxL ret nm) {a : Addr} {vs : List Value} {j : Int32} {i : Nat} {x : Int64} (A : Ar Z h a .long vs) (hj : j = Int32.ofNat i) (hi : i < vs.length) (hge : n0 ≤ a) (hd : decode bytes pc = .ok (.lastore, 1)) (hq : pc + 1 = q)
    (K : ∀ h', Wr h h' a i (.long x) → Ar Z h' a .long (vs.set i (.long x)) → AtW p l e R s m args below meth c n0 Q h' cells slots (mkF m q L S)) : AtW p l e R s m args below meth c n0 Q h cells slots (mkF m pc L (.long x :: .int j :: .ref a :: S)) := by
  subst hq hj
  intro T locs k n' X hk hn' eT N
  obtain ⟨hlt, k', cl, Ar, q1, hS, hM, H, G⟩ := A
  have e1 := ofNat_nat (n := i) (by omega)
  have e2 := ofNat_nat hlt
  have hin : ¬ (Int32.ofNat i < 0 ∨ cl.slots.size ≤ (Int32.ofNat i).toNatClampNeg) := by
    rw [e1, hS, e2]; exact fun q => q.elim (ofNat_neg (by omega)) (by omega)
  obtain ⟨T', h', X', e', W, st⟩ := stJ X C.1 C.2.2.2.1 eT Ar (j := Int32.ofNat i) (x := x) hin (g := mkF m pc L (.long x :: .int (Int32.ofNat i) :: .ref a :: S)) rfl rfl (hb C.2.1 hd)
  have V := Arv.set Ar q1 hS hM H G (rfl) W i e1 hi
  obtain ⟨t, o, r1, r⟩ := K h' (by rw [e1] at W; exact W) ⟨by simpa using hlt, k', by rw [List.length_set]; exact V⟩ T' _ k n' X' hk hn' e' (Fr.snoc X' N hge)
  exact ⟨t, o, st _ r1, r⟩
theorem w_retZ (C : Cx p s m meth c Z own bytes maxL ret nm) {t : FieldType} {x z : Int32} (hret : ret = some t) (ht : t = .boolean ∨ t = .byte ∨ t = .char ∨ t = .short) (hz : nar t x = z) (hd : decode bytes pc = .ok (.ireturn, 1)) (hc : cells ≤ R.cells) (hs : slots ≤ R.slots) (hQ : Q (some (.int z)) h) : AtW p l e R s m args below meth c n0 Q h cells slots (mkF m pc L (.int x :: S)) := by
  subst hz
  intro T locs k n X hk hn eT N
  obtain ⟨fs, hr, hrun, hended, hW, hsame⟩ := X.leave (v := some (.int (nar t x))) (fun h => by rw [C.2.2.2.2.2.1, hret] at h; cases h) C.2.2.2.2.2.2.1
  refine ⟨_, _, retN X C.1 (t := t) (C.2.2.2.2.2.1.trans hret) ht (hb C.2.1 hd) hr, hrun, hended, _, _, rfl, ⟨N, ?_⟩, ⟨_, rfl⟩, hW, hsame.mono (Nat.le_trans hk hc) (Nat.le_trans hn hs)⟩
  show Q _ T.heap
  rw [eT]; exact hQ
theorem w_ret (C : Cx p s m meth c Z own bytes maxL ret nm) {t : FieldType} {v : Value} {i : Instr} (hret : ret = some t) (hn' : narrow t v = v)
    (hi : (i = .ireturn ∧ (t = .int ∨ t = .boolean ∨ t = .byte ∨ t = .char ∨ t = .short) ∧ ∃ z, v = .int z) ∨ (i = .lreturn ∧ t = .long ∧ ∃ z, v = .long z) ∨ (i = .dreturn ∧ t = .double ∧ ∃ z, v = .double z) ∨ (i = .freturn ∧ t = .float ∧ ∃ z, v = .float z) ∨ (i = .areturn ∧ t.isReference = true ∧ v.isRef = true))
    (hd : decode bytes pc = .ok (i, 1)) (hc : cells ≤ R.cells) (hs : slots ≤ R.slots) (hQ : Q (some v) h) : AtW p l e R s m args below meth c n0 Q h cells slots (mkF m pc L (v :: S)) := by
  intro T locs k n X hk hn eT N
  obtain ⟨fs, hr, hrun, hended, hW, hsame⟩ := X.leave (v := some v) (fun h => by rw [C.2.2.2.2.2.1, hret] at h; cases h) C.2.2.2.2.2.2.1
  refine ⟨_, _, retOut X C.1 (t := t) (C.2.2.2.2.2.1.trans hret) hn' hi (hb C.2.1 hd) hr, hrun, hended, _, _, rfl, ⟨N, ?_⟩, ⟨_, rfl⟩, hW, hsame.mono (Nat.le_trans hk hc) (Nat.le_trans hn hs)⟩
  show Q _ T.heap
  rw [eT]; exact hQ
theorem w_retI (C : Cx p s m meth c Z own bytes maxL ret nm) {x : Int32} (hret : ret = some .int) (hd : decode bytes pc = .ok (.ireturn, 1)) (hc : cells ≤ R.cells) (hs : slots ≤ R.slots) (hQ : Q (some (.int x)) h) : AtW p l e R s m args below meth c n0 Q h cells slots (mkF m pc L (.int x :: S)) :=
  w_ret C hret rfl (Or.inl ⟨rfl, Or.inl rfl, _, rfl⟩) hd hc hs hQ
theorem w_retJ (C : Cx p s m meth c Z own bytes maxL ret nm) {x : Int64} (hret : ret = some .long) (hd : decode bytes pc = .ok (.lreturn, 1)) (hc : cells ≤ R.cells) (hs : slots ≤ R.slots) (hQ : Q (some (.long x)) h) : AtW p l e R s m args below meth c n0 Q h cells slots (mkF m pc L (.long x :: S)) :=
  w_ret C hret rfl (Or.inr (Or.inl ⟨rfl, rfl, _, rfl⟩)) hd hc hs hQ
theorem w_retA (C : Cx p s m meth c Z own bytes maxL ret nm) {t : FieldType} {v : Value} (hret : ret = some t) (ht : t.isReference = true) (hv : v.isRef = true) (hd : decode bytes pc = .ok (.areturn, 1)) (hc : cells ≤ R.cells) (hs : slots ≤ R.slots) (hQ : Q (some v) h) : AtW p l e R s m args below meth c n0 Q h cells slots (mkF m pc L (v :: S)) :=
  w_ret C hret (by rcases ref_cases hv with rfl | ⟨a, rfl⟩ <;> cases t <;> first | rfl | cases ht) (Or.inr (Or.inr (Or.inr (Or.inr ⟨rfl, ht, hv⟩)))) hd hc hs hQ
theorem w_retV (C : Cx p s m meth c Z own bytes maxL ret nm) (hret : ret = none) (hd : decode bytes pc = .ok (.return_, 1)) (hc : cells ≤ R.cells) (hs : slots ≤ R.slots) (hQ : Q none h) : AtW p l e R s m args below meth c n0 Q h cells slots (mkF m pc L []) := by
  intro T locs k n X hk hn eT N
  obtain ⟨fs, hr, hrun, hended, hW, hsame⟩ := X.leave (v := none) (fun _ => rfl) C.2.2.2.2.2.2.1
  refine ⟨_, _, X.returnOut C.1 (C.2.2.2.2.2.1.trans hret) (hb C.2.1 hd) hr, hrun, hended, _, _, rfl, ⟨N, ?_⟩, ⟨_, rfl⟩, hW, hsame.mono (Nat.le_trans hk hc) (Nat.le_trans hn hs)⟩
  show Q _ T.heap
  rw [eT]; exact hQ

theorem w_callS (C : Cx p s m meth c Z own bytes maxL ret nm) {y : MethodName} {i : Nat} {argsL : List Value} {bytesY : ByteArray} {maxY : Nat} {retY : Option FieldType} {rm : Room} {Qy : Option Value → Heap → Prop} (w1 : (Jvm.Cond.methodLink own i y).before a0 Z = true) (w2 : (Jvm.Cond.static y).before a0 Z = true) (wz : (Jvm.Cond.initialized y.cls).before a0 Z = true) (wc : (Jvm.Cond.code y bytesY maxY retY).before a0 Z = true)
    (hy : y.cls ≠ "java/lang/invoke/MethodHandle" ∧ y.cls ≠ "java/lang/invoke/VarHandle") (ct : Ct [] l Z n0 y bytesY maxY retY rm argsL.toArray h Qy) {S' : List Value} (hS : S' = argsL.reverse ++ S) (hlen : ∀ sig, parseMethodDescriptor y.desc = some sig → argsL.length = sig.parameters.length) (hL : L.size = maxL) (hf : rm.frames + 1 ≤ R.frames) {W : Nat} (hW : (S.map fun v => v.category).sum ≤ W) (hlo : W + (maxY + 11) + rm.locals ≤ R.locals) {cells' slots' : Nat} (hc1 : cells + rm.cells = cells') (hs1 : slots + rm.slots = slots') (hc : cells' ≤ R.cells) (hl : slots' ≤ R.slots)
    (hd : decode bytes pc = .ok (.invokestatic i, 3)) (hq : pc + 3 = q) (K : ∀ v h', Qy v h' → AtW p l e R s m args below meth c n0 Q h' cells' slots' (mkF m q L (v.toList ++ S))) : AtW p l e R s m args below meth c n0 Q h cells slots (mkF m pc L S') := by
  subst hq hc1 hs1
  intro T locs k n' X hk hn' eT N
  obtain ⟨v, _, ⟨T', L', k', n''⟩, -, X', ⟨Lc, hQ, hl', hc', hs'⟩, st⟩ := Jvm.LawKit.callS X C.1 (y := y) C.2.2.2.2.1 (mvT C.2.2.2.1 w1) (mvT C.2.2.2.1 w2) (mvT C.2.2.2.1 wz) (mvT C.2.2.2.1 wc) hy (backOf (W := W) (Q := fun v h L => Fr n0 L ∧ Qy v h) ct C.2.2.2.1 wc wz hf hlo) (g := mkF m pc L S') rfl (hL.trans C.2.2.1.symm) (argsL := argsL) (rest := S) hlen hS (by show 2 * 0 + _ ≤ _; omega) (hb C.2.1 hd) (fun _ _ => ⟨rfl, eT, (by show k + _ ≤ _; omega), (by show n' + _ ≤ _; omega)⟩)
  dsimp only [Pt.U, Pt.locs, Pt.cells, Pt.slots] at X' hl' hc' hs' st hQ
  subst hl' hc' hs'
  obtain ⟨t, o, r1, r⟩ := K v T'.heap hQ.2 T' _ _ _ X' (by omega) (by omega) rfl (Fr.app N hQ.1)
  exact ⟨t, o, st _ r1, r⟩
theorem w_callI (C : Cx p s m meth c Z own bytes maxL ret nm) {y : MethodName} {i : Nat} {a : Addr} {argsL : List Value} {bytesY : ByteArray} {maxY : Nat} {rm : Room} {Qy : Option Value → Heap → Prop} (hnm : y.name = "<init>") (w1 : (Jvm.Cond.methodLink own i y).before a0 Z = true) (w2 : (Jvm.Cond.instanceMethod y).before a0 Z = true) (wz : (Jvm.Cond.initialized y.cls).before a0 Z = true) (wc : (Jvm.Cond.code y bytesY maxY none).before a0 Z = true)
    (hy : y.cls ≠ "java/lang/invoke/MethodHandle" ∧ y.cls ≠ "java/lang/invoke/VarHandle") (ct : Ct [] l Z n0 y bytesY maxY none rm (.ref a :: argsL).toArray h Qy) {S' : List Value} (hS : S' = argsL.reverse ++ .ref a :: S) (hlen : ∀ sig, parseMethodDescriptor y.desc = some sig → argsL.length = sig.parameters.length) (hL : L.size = maxL) (hf : rm.frames + 1 ≤ R.frames) {W : Nat} (hW : (S.map fun v => v.category).sum ≤ W) (hlo : W + (maxY + 11) + rm.locals ≤ R.locals) {cells' slots' : Nat} (hc1 : cells + rm.cells = cells') (hs1 : slots + rm.slots = slots') (hc : cells' ≤ R.cells) (hl : slots' ≤ R.slots)
    (hd : decode bytes pc = .ok (.invokespecial i, 3)) (hq : pc + 3 = q) (K : ∀ v h', Qy v h' → AtW p l e R s m args below meth c n0 Q h' cells' slots' (mkF m q L (v.toList ++ S))) : AtW p l e R s m args below meth c n0 Q h cells slots (mkF m pc L S') := by
  subst hq hc1 hs1
  intro T locs k n' X hk hn' eT N
  obtain ⟨v, _, ⟨T', L', k', n''⟩, -, X', ⟨Lc, hQ, hl', hc', hs'⟩, st⟩ := X.specialBack C.1 (y := y) hnm C.2.2.2.2.1 (mvT C.2.2.2.1 w1) (mvT C.2.2.2.1 w2) (mvT C.2.2.2.1 wc) hy (backOf (W := W) (Q := fun v h L => Fr n0 L ∧ Qy v h) ct C.2.2.2.1 wc wz hf hlo) (g := mkF m pc L S') rfl (hL.trans C.2.2.1.symm) (Steps.refl _) (a := a) (argsL := argsL) (rest := S) hlen hS (by show 2 * 0 + _ ≤ _; omega) (hb C.2.1 hd) (fun _ _ => ⟨rfl, eT, (by show k + _ ≤ _; omega), (by show n' + _ ≤ _; omega)⟩)
  dsimp only [Pt.U, Pt.locs, Pt.cells, Pt.slots] at X' hl' hc' hs' st hQ
  subst hl' hc' hs'
  obtain ⟨t, o, r1, r⟩ := K v T'.heap hQ.2 T' _ _ _ X' (by omega) (by omega) rfl (Fr.app N hQ.1)
  exact ⟨t, o, st.trans r1, r⟩
theorem w_callV (C : Cx p s m meth c Z own bytes maxL ret nm) {y z : MethodName} {Cl : String} {i : Nat} {a : Addr} {argsL : List Value} {bytesY : ByteArray} {maxY : Nat} {retY : Option FieldType} {rm : Room} {Qy : Option Value → Heap → Prop} (E : Exa Z h a Cl) (w1 : (Jvm.Cond.methodLink own i y).before a0 Z = true) (w2 : (Jvm.Cond.declares y).before a0 Z = true) (hnf : NotFace s y) (w3 : (Jvm.Cond.selects Cl y z).before a0 Z = true) (w4 : (Jvm.Cond.instanceMethod z).before a0 Z = true) (wz : (Jvm.Cond.initialized z.cls).before a0 Z = true) (wc : (Jvm.Cond.code z bytesY maxY retY).before a0 Z = true)
    (hy : y.cls ≠ "java/lang/invoke/MethodHandle" ∧ y.cls ≠ "java/lang/invoke/VarHandle") (ct : Ct [] l Z n0 z bytesY maxY retY rm (.ref a :: argsL).toArray h Qy) {S' : List Value} (hS : S' = argsL.reverse ++ .ref a :: S) (hlen : ∀ sig, parseMethodDescriptor y.desc = some sig → argsL.length = sig.parameters.length) (hL : L.size = maxL) (hf : rm.frames + 1 ≤ R.frames) {W : Nat} (hW : (S.map fun v => v.category).sum ≤ W) (hlo : W + (maxY + 11) + rm.locals ≤ R.locals) {cells' slots' : Nat} (hc1 : cells + rm.cells = cells') (hs1 : slots + rm.slots = slots') (hc : cells' ≤ R.cells) (hl : slots' ≤ R.slots)
    (hd : decode bytes pc = .ok (.invokevirtual i, 3)) (hq : pc + 3 = q) (K : ∀ v h', Qy v h' → AtW p l e R s m args below meth c n0 Q h' cells' slots' (mkF m q L (v.toList ++ S))) : AtW p l e R s m args below meth c n0 Q h cells slots (mkF m pc L S') := by
  subst hq hc1 hs1
  intro T locs k n' X hk hn' eT N
  obtain ⟨cB, kB, q1, q2, q3⟩ := isOf C.2.2.2.1 eT E
  obtain ⟨v, _, ⟨T', L', k', n''⟩, -, X', ⟨Lc, hQ, hl', hc', hs'⟩, st⟩ := X.virtualBack C.1 (y := y) (z := z) C.2.2.2.2.1 (mvT C.2.2.2.1 w1) (mvT C.2.2.2.1 w2) hnf (mvT C.2.2.2.1 w3) (mvT C.2.2.2.1 w4) hy (backOf (W := W) (Q := fun v h L => Fr n0 L ∧ Qy v h) ct C.2.2.2.1 wc wz hf hlo) q1 q3 (g := mkF m pc L S') rfl (hL.trans C.2.2.1.symm) (Steps.refl _) (argsL := argsL) (rest := S) hlen hS (by show 2 * 0 + _ ≤ _; omega) (hb C.2.1 hd) (fun _ _ => ⟨rfl, eT, (by show k + _ ≤ _; omega), (by show n' + _ ≤ _; omega)⟩)
  dsimp only [Pt.U, Pt.locs, Pt.cells, Pt.slots] at X' hl' hc' hs' st hQ
  subst hl' hc' hs'
  obtain ⟨t, o, r1, r⟩ := K v T'.heap hQ.2 T' _ _ _ X' (by omega) (by omega) rfl (Fr.app N hQ.1)
  exact ⟨t, o, st.trans r1, r⟩
theorem w_nf (C : Cx p s m meth c Z own bytes maxL ret nm) {y : MethodName} {Cl : String} (w3 : (Jvm.Cond.selects Cl y y).before a0 Z = true) : NotFace s y := notFace_of_selects (args := #[]) (mvT C.2.2.2.1 w3)
theorem w_callP (C : Cx p s m meth c Z own bytes maxL ret nm) {y : MethodName} {Cl : String} {i : Nat} {a : Addr} {argsL : List Value} {bytesY : ByteArray} {maxY : Nat} {retY : Option FieldType} {rm : Room} {Qy : Option Value → Heap → Prop} (E : Exa Z h a Cl) (w1 : (Jvm.Cond.methodLink own i y).before a0 Z = true) (w4 : (Jvm.Cond.instanceMethod y).before a0 Z = true) (hni : NI s y.cls) (w5 : (Jvm.Cond.privateMethod y).before a0 Z = true) (wz : (Jvm.Cond.initialized y.cls).before a0 Z = true) (wc : (Jvm.Cond.code y bytesY maxY retY).before a0 Z = true)
    (hy : y.cls ≠ "java/lang/invoke/MethodHandle" ∧ y.cls ≠ "java/lang/invoke/VarHandle") (ct : Ct [] l Z n0 y bytesY maxY retY rm (.ref a :: argsL).toArray h Qy) {S' : List Value} (hS : S' = argsL.reverse ++ .ref a :: S) (hlen : ∀ sig, parseMethodDescriptor y.desc = some sig → argsL.length = sig.parameters.length) (hL : L.size = maxL) (hf : rm.frames + 1 ≤ R.frames) {W : Nat} (hW : (S.map fun v => v.category).sum ≤ W) (hlo : W + (maxY + 11) + rm.locals ≤ R.locals) {cells' slots' : Nat} (hc1 : cells + rm.cells = cells') (hs1 : slots + rm.slots = slots') (hc : cells' ≤ R.cells) (hl : slots' ≤ R.slots)
    (hd : decode bytes pc = .ok (.invokevirtual i, 3)) (hq : pc + 3 = q) (K : ∀ v h', Qy v h' → AtW p l e R s m args below meth c n0 Q h' cells' slots' (mkF m q L (v.toList ++ S))) : AtW p l e R s m args below meth c n0 Q h cells slots (mkF m pc L S') := by
  subst hq hc1 hs1
  intro T locs k n' X hk hn' eT N
  obtain ⟨cq, q1, q2⟩ := E.cell
  obtain ⟨cN, kN, n1, n2, n3⟩ := hni
  have hpv := Cond.privateMethod_at (mvP C.2.2.2.1 w5 (args := #[]))
  obtain ⟨v, _, ⟨T', L', k', n''⟩, -, X', ⟨Lc, hQ, hl', hc', hs'⟩, st⟩ := X.privateBack C.1 (y := y) C.2.2.2.2.1 (mvT C.2.2.2.1 w1) (mvT C.2.2.2.1 w4) (selects_self_of_private n1 n2 n3 hpv (mvT C.2.2.2.1 w4) hy) hpv (mvT C.2.2.2.1 wc) hy (backOf (W := W) (Q := fun v h L => Fr n0 L ∧ Qy v h) ct C.2.2.2.1 wc wz hf hlo) (g := mkF m pc L S') rfl (hL.trans C.2.2.1.symm) (Steps.refl _) (a := a) (by rw [eT]; exact q1) q2 (argsL := argsL) (rest := S) hlen hS (by show 2 * 0 + _ ≤ _; omega) (hb C.2.1 hd) (fun _ _ => ⟨rfl, eT, (by show k + _ ≤ _; omega), (by show n' + _ ≤ _; omega)⟩)
  dsimp only [Pt.U, Pt.locs, Pt.cells, Pt.slots] at X' hl' hc' hs' st hQ
  subst hl' hc' hs'
  obtain ⟨t, o, r1, r⟩ := K v T'.heap hQ.2 T' _ _ _ X' (by omega) (by omega) rfl (Fr.app N hQ.1)
  exact ⟨t, o, st.trans r1, r⟩
theorem w_callB (C : Cx p s m meth c Z own bytes maxL ret nm) {y : MethodName} {i : Nat} {a : Addr} {argsL : List Value} {bytesY : ByteArray} {maxY : Nat} {W : Nat} {dc ds : Nat} {P : Pt → Array Value → Prop} {Qy : Option Value → Heap → List Loc → Prop} (hnm : y.name = "<init>") (w1 : (Jvm.Cond.methodLink own i y).before a0 Z = true) (w2 : (Jvm.Cond.instanceMethod y).before a0 Z = true) (wc : (Jvm.Cond.code y bytesY maxY none).before a0 Z = true)
    (hy : y.cls ≠ "java/lang/invoke/MethodHandle" ∧ y.cls ≠ "java/lang/invoke/VarHandle") (bk : Back l R p e below s args y 3 W (fun A a' => a' = (Value.ref a :: argsL).toArray ∧ A.U.heap = h ∧ A.cells + dc ≤ R.cells ∧ A.slots + ds ≤ R.slots) (fun A _ v B => ∃ L, Qy v B.U.heap L ∧ B.locs = A.locs ++ L ∧ B.cells = A.cells + dc ∧ B.slots = A.slots + ds))
    {S' : List Value} (hS : S' = argsL.reverse ++ .ref a :: S) (hlen : ∀ sig, parseMethodDescriptor y.desc = some sig → argsL.length = sig.parameters.length) (hL : L.size = maxL) (hW : (S.map fun v => v.category).sum ≤ W) {cells' slots' : Nat} (hc1 : cells + dc = cells') (hs1 : slots + ds = slots') (hc : cells' ≤ R.cells) (hl : slots' ≤ R.slots)
    (hd : decode bytes pc = .ok (.invokespecial i, 3)) (hq : pc + 3 = q) (K : ∀ v h' Lc, Qy v h' Lc → Fr n0 Lc ∧ AtW p l e R s m args below meth c n0 Q h' cells' slots' (mkF m q L (v.toList ++ S))) : AtW p l e R s m args below meth c n0 Q h cells slots (mkF m pc L S') := by
  subst hq hc1 hs1
  intro T locs k n' X hk hn' eT N
  obtain ⟨v, _, ⟨T', L', k', n''⟩, -, X', ⟨Lc, hQ, hl', hc', hs'⟩, st⟩ := X.specialBack C.1 (y := y) hnm C.2.2.2.2.1 (mvT C.2.2.2.1 w1) (mvT C.2.2.2.1 w2) (mvT C.2.2.2.1 wc) hy bk (g := mkF m pc L S') rfl (hL.trans C.2.2.1.symm) (Steps.refl _) (a := a) (argsL := argsL) (rest := S) hlen hS (by show 2 * 0 + _ ≤ _; omega) (hb C.2.1 hd) (fun _ _ => ⟨rfl, eT, (by show k + _ ≤ _; omega), (by show n' + _ ≤ _; omega)⟩)
  dsimp only [Pt.U, Pt.locs, Pt.cells, Pt.slots] at X' hl' hc' hs' st hQ
  subst hl' hc' hs'
  obtain ⟨N2, K2⟩ := K v T'.heap Lc hQ
  obtain ⟨t, o, r1, r⟩ := K2 T' _ _ _ X' (by omega) (by omega) rfl (Fr.app N N2)
  exact ⟨t, o, st.trans r1, r⟩

end Wk
-- CUT
theorem own_lt {x y : Int32} : x < y ↔ x.toInt < y.toInt := Int32.lt_iff_toInt_lt
theorem own_eq {x y : Int32} : x = y ↔ x.toInt = y.toInt := Int32.toInt_inj.symm
theorem own_nat {n : Nat} (h : n < 2 ^ 31) : (Int32.ofNat n).toInt = n := Int32.toInt_ofNat_small h
theorem own_nlt {i n : Nat} (hi : i < 2 ^ 31) (hn : n < 2 ^ 31) : Int32.ofNat i < Int32.ofNat n ↔ i < n := by rw [own_lt, own_nat hi, own_nat hn]; omega
theorem own_neq {i n : Nat} (hi : i < 2 ^ 31) (hn : n < 2 ^ 31) : Int32.ofNat i = Int32.ofNat n ↔ i = n := by rw [own_eq, own_nat hi, own_nat hn]; omega
theorem own_one (i : Nat) : Int32.ofNat i + (1 : Int32) = Int32.ofNat (i + 1) := (Int32.ofNat_add i 1).symm
theorem own_shr0 (x : Int32) : x >>> ((0 : Int32) &&& 31) = x := by
  rw [own_eq, c_ishr x 0 0 (by decide)]; simp
theorem own_b8 {P : Int32 → Prop} (h : ∀ k : Fin 256, P (Int32.ofNat k.val)) {x : Int32} (h0 : ¬ x < 0) (h1 : ¬ 255 < x) : P x := by
  rw [own_lt] at h0 h1
  have e0 : (0 : Int32).toInt = 0 := rfl
  have e1 : (255 : Int32).toInt = 255 := rfl
  obtain ⟨k, hk⟩ : ∃ k : Nat, x.toInt = k := ⟨x.toInt.toNat, by omega⟩
  have hx : x = Int32.ofNat k := own_eq.mpr (by rw [hk, own_nat (by omega)])
  rw [hx]
  exact h ⟨k, by omega⟩
theorem own_lo8 {x : Int32} (h0 : ¬ x < 0) (h1 : ¬ 255 < x) : (x.toInt8.toInt32 &&& 255).toUInt32.toUInt16.toUInt32.toInt32 = x := own_b8 (P := fun x => (x.toInt8.toInt32 &&& 255).toUInt32.toUInt16.toUInt32.toInt32 = x) (by decide +kernel) h0 h1
theorem own_nar {x : Int32} (h0 : ¬ x < 0) (h1 : ¬ 255 < x) : nar .char x = x := own_b8 (P := fun x => nar .char x = x) (by decide +kernel) h0 h1
theorem own_nar8 (x : Int32) : nar .byte x.toInt8.toInt32 = x.toInt8.toInt32 := by show x.toInt8.toInt32.toInt8.toInt32 = x.toInt8.toInt32; simp
/-- chars as a Latin-1 String's bytes -/
def own_bs (cs : List Int32) : List Value := cs.map fun c => .int c.toInt8.toInt32
theorem own_bs_len (cs : List Int32) : (own_bs cs).length = cs.length := by simp [own_bs]
theorem own_bs_get {cs : List Int32} {i : Nat} {c : Int32} (h : cs[i]? = some c) : (own_bs cs)[i]? = some (.int c.toInt8.toInt32) := by simp [own_bs, h]
/-- each is a Latin-1 char -/
def L1 (cs : List Int32) : Prop := ∀ c ∈ cs, ¬ c < 0 ∧ ¬ 255 < c
theorem L1.get {cs : List Int32} (h : L1 cs) {i : Nat} {c : Int32} (q : cs[i]? = some c) : ¬ c < 0 ∧ ¬ 255 < c := h c (List.mem_of_getElem? q)
/-- a String of Latin-1 chars -/
def Str (Z : State) (h : Heap) (a : Addr) (cs : List Int32) : Prop := Exa Z h a "java/lang/String" ∧ L1 cs ∧ ∃ t, Fld Z h a "java/lang/String" "coder" "B" (.int 0) ∧ Fld Z h a "java/lang/String" "value" "[B" (.ref t) ∧ Ar Z h t .byte (own_bs cs)
section K0
variable {Z : State} {h h' : Heap} {a : Addr} {n0 : Nat}
theorem Str_k0 {cs : List Int32} (F : Str Z h a cs) (K : Keep h h' []) : Str Z h' a cs := by
  obtain ⟨E, L, t, f1, f2, A⟩ := F
  exact ⟨E.keep K, L, t, f1.keep K nin0, f2.keep K nin0, A.keep K nin0⟩
theorem Ar_k0 {ty : FieldType} {vs : List Value} (F : Ar Z h a ty vs) (K : Keep h h' []) : Ar Z h' a ty vs := F.keep K nin0
theorem Fld_k0 {C n d : String} {v : Value} (F : Fld Z h a C n d v) (K : Keep h h' []) : Fld Z h' a C n d v := F.keep K nin0
theorem Exa_k0 {C : String} (F : Exa Z h a C) (K : Keep h h' []) : Exa Z h' a C := F.keep K
theorem Old_k0 (O : Old Z n0 h) (K : Keep h h' []) : Old Z n0 h' := O.keep K all0
theorem Old_le (O : Old Z n0 h) : n0 ≤ h.size := by rw [← O.1]; exact O.2.1
theorem Str.lt {cs : List Int32} (F : Str Z h a cs) : a < h.size := F.1.lt
theorem Str.len {cs : List Int32} (F : Str Z h a cs) : cs.length < 2 ^ 31 := by
  obtain ⟨-, -, t, -, -, A⟩ := F
  have := A.1; rw [own_bs_len] at this; exact this
end K0
theorem own_L1c {c : Int32} {cs : List Int32} (h : ¬ c < 0 ∧ ¬ 255 < c) (r : L1 cs) : L1 (c :: cs) := fun x hx => by
  rcases List.mem_cons.mp hx with rfl | hx
  · exact h
  · exact r x hx
theorem own_255 (x : Int32) : ¬ (x &&& 255) < 0 ∧ ¬ 255 < (x &&& 255) := by
  have h := c_mask x 255 8 (by decide) (by decide)
  rw [own_lt, own_lt, h]
  constructor <;> (have e0 : (0 : Int32).toInt = 0 := rfl; have e1 : (255 : Int32).toInt = 255 := rfl; omega)
theorem own_i2c {x : Int32} (h : ¬ x < 0 ∧ ¬ 255 < x) : x.toUInt32.toUInt16.toUInt32.toInt32 = x := own_nar h.1 h.2
theorem own_maskN (x m : Int32) (k : Nat) (hk : k ≤ 30) (hm : m.toBitVec.toNat = 2 ^ k - 1) : ∃ j : Nat, j < 2 ^ k ∧ x &&& m = Int32.ofNat j := by
  have h := c_mask x m k (by omega) hm
  have hp : (2 ^ k : Nat) ≤ 2 ^ 30 := Nat.pow_le_pow_right (by decide) hk
  have h0 : (0 : Int) < ((2 ^ k : Nat) : Int) := by have := Nat.two_pow_pos k; omega
  have h1 : 0 ≤ x.toInt % ((2 ^ k : Nat) : Int) := Int.emod_nonneg _ (by omega)
  have h2 : x.toInt % ((2 ^ k : Nat) : Int) < ((2 ^ k : Nat) : Int) := Int.emod_lt_of_pos _ h0
  refine ⟨(x &&& m).toInt.toNat, by rw [h]; omega, ?_⟩
  rw [own_eq, own_nat (by rw [h]; omega), h]
  omega
theorem own_and3 (x : Int32) : x &&& 3 = 0 ∨ x &&& 3 = 1 ∨ x &&& 3 = 2 ∨ x &&& 3 = 3 := by
  have h := c_mask x 3 2 (by decide) (by decide)
  have h2 : 0 ≤ (x &&& 3).toInt ∧ (x &&& 3).toInt < 4 := by rw [h]; constructor <;> omega
  simp only [own_eq]
  show _ = 0 ∨ _ = 1 ∨ _ = 2 ∨ _ = 3
  omega

-- CUT
/-! ## the same for walks that may load String constants -/
/-- from every state that stands (over the tables vm0 so far) at heap h with frame g; mk: every booked constant lies below it; sf: addresses that no booked constant has -/
def AtS (p : Program) (l : Launch) (e : Env) (R : Room) (s : State) (m : MethodId) (args : Array Value) (below : List Frame) (meth : Method) (c : Code) (Z : State) (EL : List (String × Nat)) (own : String) (n0 : Nat) (Q : Option Value → Heap → Prop) (mk : Nat) (sf : List Addr) (h : Heap) (cells slots : Nat) (g : JFrame) : Prop :=
  ∀ (T : State) (locs : List Loc) (k n : Nat) (vm0 : Vm) (k0 : Nat), Stand p l e R (s.setVm vm0) m args below meth c T locs k n → k ≤ cells → n ≤ slots → T.heap = h → Fr n0 locs →
    Z.Warmed39 vm0 → vm0.findClass own = some m.cls → s.Since vm0 k0 → k0 ≤ h.size → CHr Z EL s.vm s.heap vm0 h → (∀ y, Bk Z EL vm0 h y → y < mk) → (∀ x ∈ sf, x < h.size ∧ Safe Z EL vm0 h x) →
    ∃ t o, Steps p.tables e below (T.setTop g) t ∧ t.status = .running ∧ Ended t below o ∧ ∃ v L, o = .returned v ∧ (Fr n0 L ∧ Q v t.heap) ∧ CHr Z EL s.vm s.heap t.vm t.heap ∧ ReturnedEndW s o t L R.cells R.slots
def Cs (ws : List Jvm.Cond) (l : Launch) (Z : State) (EL : List (String × Nat)) (n0 : Nat) (y : MethodName) (bytes : ByteArray) (maxL : Nat) (ret : Option FieldType) (rm : Room) (as : Array Value) (h0 : Heap) (Q : Option Value → Heap → Prop) : Prop :=
  MetFree l y (head1 (Jvm.Cond.code y bytes maxL ret :: ws) rm) (fun a U => a = as ∧ Z.Warmed39 U.vm ∧ U.heap = h0 ∧ CHv Z EL U.vm h0) (fun _ _ _ _ _ => True)
    (fun _ U o U' => ∃ v L, o = .returned v ∧ (Fr n0 L ∧ Q v U'.heap) ∧ CHr Z EL U.vm U.heap U'.vm U'.heap ∧ ReturnedEndW U o U' L rm.cells rm.slots)
section WkS
variable {p : Program} {l : Launch} {e : Env} {R : Room} {s : State} {m : MethodId} {args : Array Value} {below : List Frame} {meth : Method} {c : Code} {n0 : Nat} {Q : Option Value → Heap → Prop} {h : Heap} {cells slots : Nat} {Z : State} {own : String} {bytes : ByteArray} {maxL : Nat} {ret : Option FieldType} {nm : String} {a0 : Array Value} {pc q : Nat} {L L' : Array Slot} {S : List Value} {EL : List (String × Nat)} {mk : Nat} {sf : List Addr}
theorem bk_lt {vm : Vm} {y : Addr} (B : Bk Z EL vm h y) : y < h.size := by
  obtain ⟨cell, hc⟩ := B.there
  exact (Array.getElem?_eq_some_iff.mp hc).1
theorem Cs.intro {ws : List Jvm.Cond} {y : MethodName} {rm : Room} {as : Array Value} (hp : plainFor y = true)
    (k : ∀ p e s m below meth c, Cx p s m meth c Z y.cls bytes maxL ret y.name → AtS p l e rm s m as below meth c Z EL y.cls n0 Q h.size [] h 0 0 (entryFrame m as maxL)) : Cs ws l Z EL n0 y bytes maxL ret rm as h Q := by
  refine MetFree.of_bodySF hp hisR ?_
  intro p e s m args below meth c s₁ Bd hml0 hP hK
  obtain ⟨rfl, hZ, hh, hC⟩ := hP
  have X0 := Stand.of_body Bd
  have hown := findClass_of_methodNamed Bd.named
  refine k p e s m below meth c ⟨Bd.exec, Bd.bytes, hml0, hZ, hown, Bd.returns, Bd.notSynchronized, (name_of_methodNamed Bd.named Bd.method).1⟩ s₁ [] 0 0 s.vm s.heap.size X0 (Nat.le_refl _) (Nat.le_refl _) ?_ (Fr.nil n0) hZ hown ?_ ?_ ?_ ?_ ?_
  · rw [← hh, Bd.state]; rfl
  · exact ⟨State.Warmed39.refl s, fun j q hj hq => absurd (Array.getElem?_eq_some_iff.mp hq).1 (Nat.not_lt.mpr hj)⟩
  · rw [hh]; exact Nat.le_refl _
  · subst hh; exact CHr.refl hC
  · intro y hy; exact bk_lt hy
  · intro x hx; exact absurd hx (List.not_mem_nil)
theorem AtS.mono {g : JFrame} {cells' slots' : Nat} (K : AtS p l e R s m args below meth c Z EL own n0 Q mk sf h cells' slots' g) (h1 : cells ≤ cells') (h2 : slots ≤ slots') : AtS p l e R s m args below meth c Z EL own n0 Q mk sf h cells slots g :=
  fun T locs k n vm0 k0 X hk hn => K T locs k n vm0 k0 X (Nat.le_trans hk h1) (Nat.le_trans hn h2)
theorem AtS.weak {g : JFrame} {mk' : Nat} {sf' : List Addr} (K : AtS p l e R s m args below meth c Z EL own n0 Q mk' sf' h cells slots g) (h1 : mk ≤ mk') (h2 : ∀ x ∈ sf', x ∈ sf) : AtS p l e R s m args below meth c Z EL own n0 Q mk sf h cells slots g :=
  fun T locs k n vm0 k0 X hk hn eT N hZ hown hS hk0 hC hB hF => K T locs k n vm0 k0 X hk hn eT N hZ hown hS hk0 hC (fun y hy => Nat.lt_of_lt_of_le (hB y hy) h1) (fun x hx => hF x (h2 x hx))
/-- every booked constant lies below the heap's size -/
theorem AtS.mark {g : JFrame} (K : AtS p l e R s m args below meth c Z EL own n0 Q h.size sf h cells slots g) : AtS p l e R s m args below meth c Z EL own n0 Q mk sf h cells slots g :=
  fun T locs k n vm0 k0 X hk hn eT N hZ hown hS hk0 hC hB hF => K T locs k n vm0 k0 X hk hn eT N hZ hown hS hk0 hC (fun y hy => bk_lt hy) hF
theorem AtS.add {g : JFrame} {x : Addr} (h1 : mk ≤ x) (h2 : x < h.size) (K : AtS p l e R s m args below meth c Z EL own n0 Q mk (x :: sf) h cells slots g) : AtS p l e R s m args below meth c Z EL own n0 Q mk sf h cells slots g :=
  fun T locs k n vm0 k0 X hk hn eT N hZ hown hS hk0 hC hB hF => K T locs k n vm0 k0 X hk hn eT N hZ hown hS hk0 hC hB (fun y hy => by
    rcases List.mem_cons.mp hy with rfl | hy
    · exact ⟨h2, fun b => Nat.not_lt.mpr h1 (hB _ b)⟩
    · exact hF y hy)
theorem AtS.go {g g' : JFrame} (K : AtS p l e R s m args below meth c Z EL own n0 Q mk sf h cells slots g') (st : ∀ T, At T m c below → ∀ t, Steps p.tables e below (T.setTop g') t → Steps p.tables e below (T.setTop g) t) : AtS p l e R s m args below meth c Z EL own n0 Q mk sf h cells slots g :=
  fun T locs k n vm0 k0 X hk hn eT N hZ hown hS hk0 hC hB hF => by
    obtain ⟨t, o, r1, r⟩ := K T locs k n vm0 k0 X hk hn eT N hZ hown hS hk0 hC hB hF
    exact ⟨t, o, st T X.here t r1, r⟩
theorem AtS.goX {g g' : JFrame} (K : AtS p l e R s m args below meth c Z EL own n0 Q mk sf h cells slots g') (st : ∀ T locs k n vm0, Stand p l e R (s.setVm vm0) m args below meth c T locs k n → T.heap = h → Z.Warmed39 vm0 → vm0.findClass own = some m.cls → ∀ t, Steps p.tables e below (T.setTop g') t → Steps p.tables e below (T.setTop g) t) : AtS p l e R s m args below meth c Z EL own n0 Q mk sf h cells slots g :=
  fun T locs k n vm0 k0 X hk hn eT N hZ hown hS hk0 hC hB hF => by
    obtain ⟨t, o, r1, r⟩ := K T locs k n vm0 k0 X hk hn eT N hZ hown hS hk0 hC hB hF
    exact ⟨t, o, st T locs k n vm0 X eT hZ hown t r1, r⟩
theorem AtS.cast {g g' : JFrame} (K : AtS p l e R s m args below meth c Z EL own n0 Q mk sf h cells slots g') (q : g = g') : AtS p l e R s m args below meth c Z EL own n0 Q mk sf h cells slots g := by rw [q]; exact K

theorem s_iload (C : Cx p s m meth c Z own bytes maxL ret nm) {k : Nat} {v : Int32} (hl : L[k]? = some (.val (.int v))) (hd : decode bytes pc = .ok (.iload k, 2)) (hq : pc + 2 = q) (K : AtS p l e R s m args below meth c Z EL own n0 Q mk sf h cells slots (mkF m q L (.int v :: S))) : AtS p l e R s m args below meth c Z EL own n0 Q mk sf h cells slots (mkF m pc L S) := by
  subst hq
  exact K.go fun T hA t st => XS.iload hA C.1 rfl (hb C.2.1 hd) hl st
theorem s_iloadN (C : Cx p s m meth c Z own bytes maxL ret nm) {k : Fin 4} {v : Int32} (hl : L[k.val]? = some (.val (.int v))) (hd : decode bytes pc = .ok (.iload_n k, 1)) (hq : pc + 1 = q) (K : AtS p l e R s m args below meth c Z EL own n0 Q mk sf h cells slots (mkF m q L (.int v :: S))) : AtS p l e R s m args below meth c Z EL own n0 Q mk sf h cells slots (mkF m pc L S) := by
  subst hq
  exact K.go fun T hA t st => XS.iloadN hA C.1 rfl (hb C.2.1 hd) hl st
theorem s_istore (C : Cx p s m meth c Z own bytes maxL ret nm) {k : Nat} {v : Int32} (hl : storeLocals L k (.int v) = some L') (hd : decode bytes pc = .ok (.istore k, 2)) (hq : pc + 2 = q) (K : AtS p l e R s m args below meth c Z EL own n0 Q mk sf h cells slots (mkF m q L' S)) : AtS p l e R s m args below meth c Z EL own n0 Q mk sf h cells slots (mkF m pc L (.int v :: S)) := by
  subst hq
  exact K.go fun T hA t st => XS.istore hA C.1 rfl (hb C.2.1 hd) rfl hl st
theorem s_istoreN (C : Cx p s m meth c Z own bytes maxL ret nm) {k : Fin 4} {v : Int32} (hl : storeLocals L k.val (.int v) = some L') (hd : decode bytes pc = .ok (.istore_n k, 1)) (hq : pc + 1 = q) (K : AtS p l e R s m args below meth c Z EL own n0 Q mk sf h cells slots (mkF m q L' S)) : AtS p l e R s m args below meth c Z EL own n0 Q mk sf h cells slots (mkF m pc L (.int v :: S)) := by
  subst hq
  exact K.go fun T hA t st => XS.istoreN hA C.1 rfl (hb C.2.1 hd) rfl hl st
theorem s_lload (C : Cx p s m meth c Z own bytes maxL ret nm) {k : Nat} {v : Int64} (hl : L[k]? = some (.val (.long v))) (hd : decode bytes pc = .ok (.lload k, 2)) (hq : pc + 2 = q) (K : AtS p l e R s m args below meth c Z EL own n0 Q mk sf h cells slots (mkF m q L (.long v :: S))) : AtS p l e R s m args below meth c Z EL own n0 Q mk sf h cells slots (mkF m pc L S) := by
  subst hq
  exact K.go fun T hA t st => XS.lload hA C.1 rfl (hb C.2.1 hd) hl st
theorem s_lloadN (C : Cx p s m meth c Z own bytes maxL ret nm) {k : Fin 4} {v : Int64} (hl : L[k.val]? = some (.val (.long v))) (hd : decode bytes pc = .ok (.lload_n k, 1)) (hq : pc + 1 = q) (K : AtS p l e R s m args below meth c Z EL own n0 Q mk sf h cells slots (mkF m q L (.long v :: S))) : AtS p l e R s m args below meth c Z EL own n0 Q mk sf h cells slots (mkF m pc L S) := by
  subst hq
  exact K.go fun T hA t st => XS.lloadN hA C.1 rfl (hb C.2.1 hd) hl st
theorem s_lstore (C : Cx p s m meth c Z own bytes maxL ret nm) {k : Nat} {v : Int64} (hl : storeLocals L k (.long v) = some L') (hd : decode bytes pc = .ok (.lstore k, 2)) (hq : pc + 2 = q) (K : AtS p l e R s m args below meth c Z EL own n0 Q mk sf h cells slots (mkF m q L' S)) : AtS p l e R s m args below meth c Z EL own n0 Q mk sf h cells slots (mkF m pc L (.long v :: S)) := by
  subst hq
  exact K.go fun T hA t st => XS.lstore hA C.1 rfl (hb C.2.1 hd) rfl hl st
theorem s_lstoreN (C : Cx p s m meth c Z own bytes maxL ret nm) {k : Fin 4} {v : Int64} (hl : storeLocals L k.val (.long v) = some L') (hd : decode bytes pc = .ok (.lstore_n k, 1)) (hq : pc + 1 = q) (K : AtS p l e R s m args below meth c Z EL own n0 Q mk sf h cells slots (mkF m q L' S)) : AtS p l e R s m args below meth c Z EL own n0 Q mk sf h cells slots (mkF m pc L (.long v :: S)) := by
  subst hq
  exact K.go fun T hA t st => XS.lstoreN hA C.1 rfl (hb C.2.1 hd) rfl hl st
theorem s_aload (C : Cx p s m meth c Z own bytes maxL ret nm) {k : Nat} {v : Value} (hl : L[k]? = some (.val v)) (hv : v.isRef = true) (hd : decode bytes pc = .ok (.aload k, 2)) (hq : pc + 2 = q) (K : AtS p l e R s m args below meth c Z EL own n0 Q mk sf h cells slots (mkF m q L (v :: S))) : AtS p l e R s m args below meth c Z EL own n0 Q mk sf h cells slots (mkF m pc L S) := by
  subst hq
  exact K.go fun T hA t st => XS.aload hA C.1 rfl (hb C.2.1 hd) hl hv st
theorem s_aloadN (C : Cx p s m meth c Z own bytes maxL ret nm) {k : Fin 4} {v : Value} (hl : L[k.val]? = some (.val v)) (hv : v.isRef = true) (hd : decode bytes pc = .ok (.aload_n k, 1)) (hq : pc + 1 = q) (K : AtS p l e R s m args below meth c Z EL own n0 Q mk sf h cells slots (mkF m q L (v :: S))) : AtS p l e R s m args below meth c Z EL own n0 Q mk sf h cells slots (mkF m pc L S) := by
  subst hq
  exact K.go fun T hA t st => XS.aloadN hA C.1 rfl (hb C.2.1 hd) hl hv st
theorem s_astore (C : Cx p s m meth c Z own bytes maxL ret nm) {k : Nat} {v : Value} (hv : v.isRef = true) (hl : storeLocals L k v = some L') (hd : decode bytes pc = .ok (.astore k, 2)) (hq : pc + 2 = q) (K : AtS p l e R s m args below meth c Z EL own n0 Q mk sf h cells slots (mkF m q L' S)) : AtS p l e R s m args below meth c Z EL own n0 Q mk sf h cells slots (mkF m pc L (v :: S)) := by
  subst hq
  exact K.go fun T hA t st => XS.astore hA C.1 rfl (hb C.2.1 hd) rfl hv hl st
theorem s_astoreN (C : Cx p s m meth c Z own bytes maxL ret nm) {k : Fin 4} {v : Value} (hv : v.isRef = true) (hl : storeLocals L k.val v = some L') (hd : decode bytes pc = .ok (.astore_n k, 1)) (hq : pc + 1 = q) (K : AtS p l e R s m args below meth c Z EL own n0 Q mk sf h cells slots (mkF m q L' S)) : AtS p l e R s m args below meth c Z EL own n0 Q mk sf h cells slots (mkF m pc L (v :: S)) := by
  subst hq
  exact K.go fun T hA t st => XS.astoreN hA C.1 rfl (hb C.2.1 hd) rfl hv hl st
theorem s_iconst (C : Cx p s m meth c Z own bytes maxL ret nm) {i : Int} {v : Int32} (hv : Int32.ofInt i = v) (hd : decode bytes pc = .ok (.iconst i, 1)) (hq : pc + 1 = q) (K : AtS p l e R s m args below meth c Z EL own n0 Q mk sf h cells slots (mkF m q L (.int v :: S))) : AtS p l e R s m args below meth c Z EL own n0 Q mk sf h cells slots (mkF m pc L S) := by
  subst hq
  exact K.go fun T hA t st => by subst hv; exact XS.iconst hA C.1 rfl (hb C.2.1 hd) st
theorem s_bipush (C : Cx p s m meth c Z own bytes maxL ret nm) {i : Int} {v : Int32} (hv : (Int8.ofInt i).toInt32 = v) (hd : decode bytes pc = .ok (.bipush i, 2)) (hq : pc + 2 = q) (K : AtS p l e R s m args below meth c Z EL own n0 Q mk sf h cells slots (mkF m q L (.int v :: S))) : AtS p l e R s m args below meth c Z EL own n0 Q mk sf h cells slots (mkF m pc L S) := by
  subst hq
  exact K.go fun T hA t st => by subst hv; exact XS.bipush hA C.1 rfl (hb C.2.1 hd) st
theorem s_sipush (C : Cx p s m meth c Z own bytes maxL ret nm) {i : Int} {v : Int32} (hv : (Int16.ofInt i).toInt32 = v) (hd : decode bytes pc = .ok (.sipush i, 3)) (hq : pc + 3 = q) (K : AtS p l e R s m args below meth c Z EL own n0 Q mk sf h cells slots (mkF m q L (.int v :: S))) : AtS p l e R s m args below meth c Z EL own n0 Q mk sf h cells slots (mkF m pc L S) := by
  subst hq
  exact K.go fun T hA t st => by subst hv; exact XS.sipush hA C.1 rfl (hb C.2.1 hd) st
theorem s_lconst (C : Cx p s m meth c Z own bytes maxL ret nm) {k : Fin 2} {v : Int64} (hv : Int64.ofNat k = v) (hd : decode bytes pc = .ok (.lconst k, 1)) (hq : pc + 1 = q) (K : AtS p l e R s m args below meth c Z EL own n0 Q mk sf h cells slots (mkF m q L (.long v :: S))) : AtS p l e R s m args below meth c Z EL own n0 Q mk sf h cells slots (mkF m pc L S) := by
  subst hq
  exact K.go fun T hA t st => by subst hv; exact XS.lconst hA C.1 rfl (hb C.2.1 hd) st
theorem s_aconst_null (C : Cx p s m meth c Z own bytes maxL ret nm)  (hd : decode bytes pc = .ok (.aconst_null, 1)) (hq : pc + 1 = q) (K : AtS p l e R s m args below meth c Z EL own n0 Q mk sf h cells slots (mkF m q L (.null :: S))) : AtS p l e R s m args below meth c Z EL own n0 Q mk sf h cells slots (mkF m pc L S) := by
  subst hq
  exact K.go fun T hA t st => XS.aconstNull hA C.1 rfl (hb C.2.1 hd) st
theorem s_iadd (C : Cx p s m meth c Z own bytes maxL ret nm) {x y z : Int32} (hz : x + y = z) (hd : decode bytes pc = .ok (.iadd, 1)) (hq : pc + 1 = q) (K : AtS p l e R s m args below meth c Z EL own n0 Q mk sf h cells slots (mkF m q L (.int z :: S))) : AtS p l e R s m args below meth c Z EL own n0 Q mk sf h cells slots (mkF m pc L (.int y :: .int x :: S)) := by
  subst hq
  exact K.go fun T hA t st => by subst hz; exact XS.iadd hA C.1 rfl (hb C.2.1 hd) rfl st
theorem s_isub (C : Cx p s m meth c Z own bytes maxL ret nm) {x y z : Int32} (hz : x - y = z) (hd : decode bytes pc = .ok (.isub, 1)) (hq : pc + 1 = q) (K : AtS p l e R s m args below meth c Z EL own n0 Q mk sf h cells slots (mkF m q L (.int z :: S))) : AtS p l e R s m args below meth c Z EL own n0 Q mk sf h cells slots (mkF m pc L (.int y :: .int x :: S)) := by
  subst hq
  exact K.go fun T hA t st => by subst hz; exact XS.isub hA C.1 rfl (hb C.2.1 hd) rfl st
theorem s_imul (C : Cx p s m meth c Z own bytes maxL ret nm) {x y z : Int32} (hz : x * y = z) (hd : decode bytes pc = .ok (.imul, 1)) (hq : pc + 1 = q) (K : AtS p l e R s m args below meth c Z EL own n0 Q mk sf h cells slots (mkF m q L (.int z :: S))) : AtS p l e R s m args below meth c Z EL own n0 Q mk sf h cells slots (mkF m pc L (.int y :: .int x :: S)) := by
  subst hq
  exact K.go fun T hA t st => by subst hz; exact XS.imul hA C.1 rfl (hb C.2.1 hd) rfl st
theorem s_iand (C : Cx p s m meth c Z own bytes maxL ret nm) {x y z : Int32} (hz : x &&& y = z) (hd : decode bytes pc = .ok (.iand, 1)) (hq : pc + 1 = q) (K : AtS p l e R s m args below meth c Z EL own n0 Q mk sf h cells slots (mkF m q L (.int z :: S))) : AtS p l e R s m args below meth c Z EL own n0 Q mk sf h cells slots (mkF m pc L (.int y :: .int x :: S)) := by
  subst hq
  exact K.go fun T hA t st => by subst hz; exact XS.iand hA C.1 rfl (hb C.2.1 hd) rfl st
theorem s_ior (C : Cx p s m meth c Z own bytes maxL ret nm) {x y z : Int32} (hz : x ||| y = z) (hd : decode bytes pc = .ok (.ior, 1)) (hq : pc + 1 = q) (K : AtS p l e R s m args below meth c Z EL own n0 Q mk sf h cells slots (mkF m q L (.int z :: S))) : AtS p l e R s m args below meth c Z EL own n0 Q mk sf h cells slots (mkF m pc L (.int y :: .int x :: S)) := by
  subst hq
  exact K.go fun T hA t st => by subst hz; exact XS.ior hA C.1 rfl (hb C.2.1 hd) rfl st
theorem s_ixor (C : Cx p s m meth c Z own bytes maxL ret nm) {x y z : Int32} (hz : x ^^^ y = z) (hd : decode bytes pc = .ok (.ixor, 1)) (hq : pc + 1 = q) (K : AtS p l e R s m args below meth c Z EL own n0 Q mk sf h cells slots (mkF m q L (.int z :: S))) : AtS p l e R s m args below meth c Z EL own n0 Q mk sf h cells slots (mkF m pc L (.int y :: .int x :: S)) := by
  subst hq
  exact K.go fun T hA t st => by subst hz; exact XS.ixor hA C.1 rfl (hb C.2.1 hd) rfl st
theorem s_ladd (C : Cx p s m meth c Z own bytes maxL ret nm) {x y z : Int64} (hz : x + y = z) (hd : decode bytes pc = .ok (.ladd, 1)) (hq : pc + 1 = q) (K : AtS p l e R s m args below meth c Z EL own n0 Q mk sf h cells slots (mkF m q L (.long z :: S))) : AtS p l e R s m args below meth c Z EL own n0 Q mk sf h cells slots (mkF m pc L (.long y :: .long x :: S)) := by
  subst hq
  exact K.go fun T hA t st => by subst hz; exact XS.ladd hA C.1 rfl (hb C.2.1 hd) rfl st
theorem s_lsub (C : Cx p s m meth c Z own bytes maxL ret nm) {x y z : Int64} (hz : x - y = z) (hd : decode bytes pc = .ok (.lsub, 1)) (hq : pc + 1 = q) (K : AtS p l e R s m args below meth c Z EL own n0 Q mk sf h cells slots (mkF m q L (.long z :: S))) : AtS p l e R s m args below meth c Z EL own n0 Q mk sf h cells slots (mkF m pc L (.long y :: .long x :: S)) := by
  subst hq
  exact K.go fun T hA t st => by subst hz; exact XS.lsub hA C.1 rfl (hb C.2.1 hd) rfl st
theorem s_lmul (C : Cx p s m meth c Z own bytes maxL ret nm) {x y z : Int64} (hz : x * y = z) (hd : decode bytes pc = .ok (.lmul, 1)) (hq : pc + 1 = q) (K : AtS p l e R s m args below meth c Z EL own n0 Q mk sf h cells slots (mkF m q L (.long z :: S))) : AtS p l e R s m args below meth c Z EL own n0 Q mk sf h cells slots (mkF m pc L (.long y :: .long x :: S)) := by
  subst hq
  exact K.go fun T hA t st => by subst hz; exact XS.lmul hA C.1 rfl (hb C.2.1 hd) rfl st
theorem s_land (C : Cx p s m meth c Z own bytes maxL ret nm) {x y z : Int64} (hz : x &&& y = z) (hd : decode bytes pc = .ok (.land, 1)) (hq : pc + 1 = q) (K : AtS p l e R s m args below meth c Z EL own n0 Q mk sf h cells slots (mkF m q L (.long z :: S))) : AtS p l e R s m args below meth c Z EL own n0 Q mk sf h cells slots (mkF m pc L (.long y :: .long x :: S)) := by
  subst hq
  exact K.go fun T hA t st => by subst hz; exact XS.land hA C.1 rfl (hb C.2.1 hd) rfl st
theorem s_lor (C : Cx p s m meth c Z own bytes maxL ret nm) {x y z : Int64} (hz : x ||| y = z) (hd : decode bytes pc = .ok (.lor, 1)) (hq : pc + 1 = q) (K : AtS p l e R s m args below meth c Z EL own n0 Q mk sf h cells slots (mkF m q L (.long z :: S))) : AtS p l e R s m args below meth c Z EL own n0 Q mk sf h cells slots (mkF m pc L (.long y :: .long x :: S)) := by
  subst hq
  exact K.go fun T hA t st => by subst hz; exact XS.lor hA C.1 rfl (hb C.2.1 hd) rfl st
theorem s_lxor (C : Cx p s m meth c Z own bytes maxL ret nm) {x y z : Int64} (hz : x ^^^ y = z) (hd : decode bytes pc = .ok (.lxor, 1)) (hq : pc + 1 = q) (K : AtS p l e R s m args below meth c Z EL own n0 Q mk sf h cells slots (mkF m q L (.long z :: S))) : AtS p l e R s m args below meth c Z EL own n0 Q mk sf h cells slots (mkF m pc L (.long y :: .long x :: S)) := by
  subst hq
  exact K.go fun T hA t st => by subst hz; exact XS.lxor hA C.1 rfl (hb C.2.1 hd) rfl st
theorem s_ishl (C : Cx p s m meth c Z own bytes maxL ret nm) {x y z : Int32} (hz : x <<< (y &&& 31) = z) (hd : decode bytes pc = .ok (.ishl, 1)) (hq : pc + 1 = q) (K : AtS p l e R s m args below meth c Z EL own n0 Q mk sf h cells slots (mkF m q L (.int z :: S))) : AtS p l e R s m args below meth c Z EL own n0 Q mk sf h cells slots (mkF m pc L (.int y :: .int x :: S)) := by
  subst hq
  exact K.go fun T hA t st => by subst hz; exact XS.ishl hA C.1 rfl (hb C.2.1 hd) rfl st
theorem s_ishr (C : Cx p s m meth c Z own bytes maxL ret nm) {x y z : Int32} (hz : x >>> (y &&& 31) = z) (hd : decode bytes pc = .ok (.ishr, 1)) (hq : pc + 1 = q) (K : AtS p l e R s m args below meth c Z EL own n0 Q mk sf h cells slots (mkF m q L (.int z :: S))) : AtS p l e R s m args below meth c Z EL own n0 Q mk sf h cells slots (mkF m pc L (.int y :: .int x :: S)) := by
  subst hq
  exact K.go fun T hA t st => by subst hz; exact XS.ishr hA C.1 rfl (hb C.2.1 hd) rfl st
theorem s_iushr (C : Cx p s m meth c Z own bytes maxL ret nm) {x y z : Int32} (hz : (x.toUInt32 >>> (y &&& 31).toUInt32).toInt32 = z) (hd : decode bytes pc = .ok (.iushr, 1)) (hq : pc + 1 = q) (K : AtS p l e R s m args below meth c Z EL own n0 Q mk sf h cells slots (mkF m q L (.int z :: S))) : AtS p l e R s m args below meth c Z EL own n0 Q mk sf h cells slots (mkF m pc L (.int y :: .int x :: S)) := by
  subst hq
  exact K.go fun T hA t st => by subst hz; exact XS.iushr hA C.1 rfl (hb C.2.1 hd) rfl st
theorem s_lshl (C : Cx p s m meth c Z own bytes maxL ret nm) {x z : Int64} {y : Int32} (hz : x <<< (y &&& 0x3f).toInt64 = z) (hd : decode bytes pc = .ok (.lshl, 1)) (hq : pc + 1 = q) (K : AtS p l e R s m args below meth c Z EL own n0 Q mk sf h cells slots (mkF m q L (.long z :: S))) : AtS p l e R s m args below meth c Z EL own n0 Q mk sf h cells slots (mkF m pc L (.int y :: .long x :: S)) := by
  subst hq
  exact K.go fun T hA t st => by subst hz; exact XS.lshl hA C.1 rfl (hb C.2.1 hd) rfl st
theorem s_lshr (C : Cx p s m meth c Z own bytes maxL ret nm) {x z : Int64} {y : Int32} (hz : x >>> (y &&& 0x3f).toInt64 = z) (hd : decode bytes pc = .ok (.lshr, 1)) (hq : pc + 1 = q) (K : AtS p l e R s m args below meth c Z EL own n0 Q mk sf h cells slots (mkF m q L (.long z :: S))) : AtS p l e R s m args below meth c Z EL own n0 Q mk sf h cells slots (mkF m pc L (.int y :: .long x :: S)) := by
  subst hq
  exact K.go fun T hA t st => by subst hz; exact XS.lshr hA C.1 rfl (hb C.2.1 hd) rfl st
theorem s_lushr (C : Cx p s m meth c Z own bytes maxL ret nm) {x z : Int64} {y : Int32} (hz : (x.toUInt64 >>> (y &&& 0x3f).toInt64.toUInt64).toInt64 = z) (hd : decode bytes pc = .ok (.lushr, 1)) (hq : pc + 1 = q) (K : AtS p l e R s m args below meth c Z EL own n0 Q mk sf h cells slots (mkF m q L (.long z :: S))) : AtS p l e R s m args below meth c Z EL own n0 Q mk sf h cells slots (mkF m pc L (.int y :: .long x :: S)) := by
  subst hq
  exact K.go fun T hA t st => by subst hz; exact XS.lushr hA C.1 rfl (hb C.2.1 hd) rfl st
theorem s_idiv (C : Cx p s m meth c Z own bytes maxL ret nm) {x y z : Int32} (hy : y ≠ 0) (hz : x / y = z) (hd : decode bytes pc = .ok (.idiv, 1)) (hq : pc + 1 = q) (K : AtS p l e R s m args below meth c Z EL own n0 Q mk sf h cells slots (mkF m q L (.int z :: S))) : AtS p l e R s m args below meth c Z EL own n0 Q mk sf h cells slots (mkF m pc L (.int y :: .int x :: S)) := by
  subst hq
  exact K.go fun T hA t st => by subst hz; exact XS.idiv hA C.1 rfl (hb C.2.1 hd) rfl hy st
theorem s_ldiv (C : Cx p s m meth c Z own bytes maxL ret nm) {x y z : Int64} (hy : y ≠ 0) (hz : x / y = z) (hd : decode bytes pc = .ok (.ldiv, 1)) (hq : pc + 1 = q) (K : AtS p l e R s m args below meth c Z EL own n0 Q mk sf h cells slots (mkF m q L (.long z :: S))) : AtS p l e R s m args below meth c Z EL own n0 Q mk sf h cells slots (mkF m pc L (.long y :: .long x :: S)) := by
  subst hq
  exact K.go fun T hA t st => by subst hz; exact XS.ldiv hA C.1 rfl (hb C.2.1 hd) rfl hy st
theorem s_irem (C : Cx p s m meth c Z own bytes maxL ret nm) {x y z : Int32} (hy : y ≠ 0) (hz : x % y = z) (hd : decode bytes pc = .ok (.irem, 1)) (hq : pc + 1 = q) (K : AtS p l e R s m args below meth c Z EL own n0 Q mk sf h cells slots (mkF m q L (.int z :: S))) : AtS p l e R s m args below meth c Z EL own n0 Q mk sf h cells slots (mkF m pc L (.int y :: .int x :: S)) := by
  subst hq
  exact K.go fun T hA t st => by subst hz; rw [← irem_eq_mod x y] at st; exact XS.irem hA C.1 rfl (hb C.2.1 hd) rfl hy st
theorem s_lrem (C : Cx p s m meth c Z own bytes maxL ret nm) {x y z : Int64} (hy : y ≠ 0) (hz : x % y = z) (hd : decode bytes pc = .ok (.lrem, 1)) (hq : pc + 1 = q) (K : AtS p l e R s m args below meth c Z EL own n0 Q mk sf h cells slots (mkF m q L (.long z :: S))) : AtS p l e R s m args below meth c Z EL own n0 Q mk sf h cells slots (mkF m pc L (.long y :: .long x :: S)) := by
  subst hq
  exact K.go fun T hA t st => by subst hz; rw [← lrem_mod x y] at st; exact XS.lrem hA C.1 rfl (hb C.2.1 hd) rfl hy st
theorem s_ineg (C : Cx p s m meth c Z own bytes maxL ret nm) {x : Int32} {z : Int32} (hz : -x = z) (hd : decode bytes pc = .ok (.ineg, 1)) (hq : pc + 1 = q) (K : AtS p l e R s m args below meth c Z EL own n0 Q mk sf h cells slots (mkF m q L (.int z :: S))) : AtS p l e R s m args below meth c Z EL own n0 Q mk sf h cells slots (mkF m pc L (.int x :: S)) := by
  subst hq
  exact K.go fun T hA t st => by subst hz; exact XS.ineg hA C.1 rfl (hb C.2.1 hd) rfl st
theorem s_lneg (C : Cx p s m meth c Z own bytes maxL ret nm) {x : Int64} {z : Int64} (hz : -x = z) (hd : decode bytes pc = .ok (.lneg, 1)) (hq : pc + 1 = q) (K : AtS p l e R s m args below meth c Z EL own n0 Q mk sf h cells slots (mkF m q L (.long z :: S))) : AtS p l e R s m args below meth c Z EL own n0 Q mk sf h cells slots (mkF m pc L (.long x :: S)) := by
  subst hq
  exact K.go fun T hA t st => by subst hz; exact XS.lneg hA C.1 rfl (hb C.2.1 hd) rfl st
theorem s_i2l (C : Cx p s m meth c Z own bytes maxL ret nm) {x : Int32} {z : Int64} (hz : x.toInt64 = z) (hd : decode bytes pc = .ok (.i2l, 1)) (hq : pc + 1 = q) (K : AtS p l e R s m args below meth c Z EL own n0 Q mk sf h cells slots (mkF m q L (.long z :: S))) : AtS p l e R s m args below meth c Z EL own n0 Q mk sf h cells slots (mkF m pc L (.int x :: S)) := by
  subst hq
  exact K.go fun T hA t st => by subst hz; exact XS.i2l hA C.1 rfl (hb C.2.1 hd) rfl st
theorem s_l2i (C : Cx p s m meth c Z own bytes maxL ret nm) {x : Int64} {z : Int32} (hz : x.toInt32 = z) (hd : decode bytes pc = .ok (.l2i, 1)) (hq : pc + 1 = q) (K : AtS p l e R s m args below meth c Z EL own n0 Q mk sf h cells slots (mkF m q L (.int z :: S))) : AtS p l e R s m args below meth c Z EL own n0 Q mk sf h cells slots (mkF m pc L (.long x :: S)) := by
  subst hq
  exact K.go fun T hA t st => by subst hz; exact XS.l2i hA C.1 rfl (hb C.2.1 hd) rfl st
theorem s_i2b (C : Cx p s m meth c Z own bytes maxL ret nm) {x : Int32} {z : Int32} (hz : x.toInt8.toInt32 = z) (hd : decode bytes pc = .ok (.i2b, 1)) (hq : pc + 1 = q) (K : AtS p l e R s m args below meth c Z EL own n0 Q mk sf h cells slots (mkF m q L (.int z :: S))) : AtS p l e R s m args below meth c Z EL own n0 Q mk sf h cells slots (mkF m pc L (.int x :: S)) := by
  subst hq
  exact K.go fun T hA t st => by subst hz; exact XS.i2b hA C.1 rfl (hb C.2.1 hd) rfl st
theorem s_i2s (C : Cx p s m meth c Z own bytes maxL ret nm) {x : Int32} {z : Int32} (hz : x.toInt16.toInt32 = z) (hd : decode bytes pc = .ok (.i2s, 1)) (hq : pc + 1 = q) (K : AtS p l e R s m args below meth c Z EL own n0 Q mk sf h cells slots (mkF m q L (.int z :: S))) : AtS p l e R s m args below meth c Z EL own n0 Q mk sf h cells slots (mkF m pc L (.int x :: S)) := by
  subst hq
  exact K.go fun T hA t st => by subst hz; exact XS.i2s hA C.1 rfl (hb C.2.1 hd) rfl st
theorem s_i2c (C : Cx p s m meth c Z own bytes maxL ret nm) {x : Int32} {z : Int32} (hz : x.toUInt32.toUInt16.toUInt32.toInt32 = z) (hd : decode bytes pc = .ok (.i2c, 1)) (hq : pc + 1 = q) (K : AtS p l e R s m args below meth c Z EL own n0 Q mk sf h cells slots (mkF m q L (.int z :: S))) : AtS p l e R s m args below meth c Z EL own n0 Q mk sf h cells slots (mkF m pc L (.int x :: S)) := by
  subst hq
  exact K.go fun T hA t st => by subst hz; exact XS.i2c hA C.1 rfl (hb C.2.1 hd) rfl st
theorem s_lcmp (C : Cx p s m meth c Z own bytes maxL ret nm) {x y : Int64} {z : Int32} (hz : lcmpW x y = z) (hd : decode bytes pc = .ok (.lcmp, 1)) (hq : pc + 1 = q) (K : AtS p l e R s m args below meth c Z EL own n0 Q mk sf h cells slots (mkF m q L (.int z :: S))) : AtS p l e R s m args below meth c Z EL own n0 Q mk sf h cells slots (mkF m pc L (.long y :: .long x :: S)) := by
  subst hq
  exact K.go fun T hA t st => by subst hz; exact XS.lcmp hA C.1 rfl (hb C.2.1 hd) rfl st
theorem s_dup (C : Cx p s m meth c Z own bytes maxL ret nm) {x : Value} (hc : x.category = 1) (hd : decode bytes pc = .ok (.dup, 1)) (hq : pc + 1 = q) (K : AtS p l e R s m args below meth c Z EL own n0 Q mk sf h cells slots (mkF m q L (x :: x :: S))) : AtS p l e R s m args below meth c Z EL own n0 Q mk sf h cells slots (mkF m pc L (x :: S)) := by
  subst hq
  exact K.go fun T hA t st => XS.dup hA C.1 rfl (hb C.2.1 hd) rfl hc st
theorem s_pop (C : Cx p s m meth c Z own bytes maxL ret nm) {x : Value} (hc : x.category = 1) (hd : decode bytes pc = .ok (.pop, 1)) (hq : pc + 1 = q) (K : AtS p l e R s m args below meth c Z EL own n0 Q mk sf h cells slots (mkF m q L S)) : AtS p l e R s m args below meth c Z EL own n0 Q mk sf h cells slots (mkF m pc L (x :: S)) := by
  subst hq
  exact K.go fun T hA t st => XS.pop hA C.1 rfl (hb C.2.1 hd) rfl hc st
theorem s_dup_x1 (C : Cx p s m meth c Z own bytes maxL ret nm) {x y : Value} (hc : x.category = 1) (hc' : y.category = 1) (hd : decode bytes pc = .ok (.dup_x1, 1)) (hq : pc + 1 = q) (K : AtS p l e R s m args below meth c Z EL own n0 Q mk sf h cells slots (mkF m q L (x :: y :: x :: S))) : AtS p l e R s m args below meth c Z EL own n0 Q mk sf h cells slots (mkF m pc L (x :: y :: S)) := by
  subst hq
  exact K.go fun T hA t st => XS.dupX1 hA C.1 rfl (hb C.2.1 hd) rfl hc hc' st
theorem s_iinc (C : Cx p s m meth c Z own bytes maxL ret nm) {k : Nat} {cst : Int} {x z : Int32} (hl : L[k]? = some (.val (.int x))) (hz : x + Int32.ofInt cst = z) (hl' : storeLocals L k (.int z) = some L') (hd : decode bytes pc = .ok (.iinc k cst, 3)) (hq : pc + 3 = q) (K : AtS p l e R s m args below meth c Z EL own n0 Q mk sf h cells slots (mkF m q L' S)) : AtS p l e R s m args below meth c Z EL own n0 Q mk sf h cells slots (mkF m pc L S) := by
  subst hq
  exact K.go fun T hA t st => by subst hz; exact XS.iinc hA C.1 rfl (hb C.2.1 hd) hl hl' st
theorem s_goto (C : Cx p s m meth c Z own bytes maxL ret nm) {o : Int} (hd : decode bytes pc = .ok (.goto o, 3)) (ho : 0 ≤ (pc : Int) + o) (hp : ((pc : Int) + o).toNat = q) (K : AtS p l e R s m args below meth c Z EL own n0 Q mk sf h cells slots (mkF m q L S)) : AtS p l e R s m args below meth c Z EL own n0 Q mk sf h cells slots (mkF m pc L S) :=
  K.go fun T hA t st => XS.goto hA C.1 rfl (pc0 := pc) (pc' := q) rfl (hb C.2.1 hd) ho hp st
theorem s_icmp_lt_t (C : Cx p s m meth c Z own bytes maxL ret nm) {o : Int} {x y : Int32} (hd : decode bytes pc = .ok (.if_icmp .lt o, 3)) (ho : 0 ≤ (pc : Int) + o) (hp : ((pc : Int) + o).toNat = q) (hc : x < y) (K : AtS p l e R s m args below meth c Z EL own n0 Q mk sf h cells slots (mkF m q L S)) : AtS p l e R s m args below meth c Z EL own n0 Q mk sf h cells slots (mkF m pc L (.int y :: .int x :: S)) :=
  K.go fun T hA t st => XS.icmpYes hA C.1 rfl (pc0 := pc) (pc' := q) rfl (hb C.2.1 hd) rfl (tlt hc).1 ho hp st
theorem s_icmp_lt_f (C : Cx p s m meth c Z own bytes maxL ret nm) {o : Int} {x y : Int32} (hd : decode bytes pc = .ok (.if_icmp .lt o, 3)) (hq : pc + 3 = q) (hc : ¬ x < y) (K : AtS p l e R s m args below meth c Z EL own n0 Q mk sf h cells slots (mkF m q L S)) : AtS p l e R s m args below meth c Z EL own n0 Q mk sf h cells slots (mkF m pc L (.int y :: .int x :: S)) := by
  subst hq
  exact K.go fun T hA t st => XS.icmpNo hA C.1 rfl (hb C.2.1 hd) rfl (flt hc).1 st
theorem s_if_lt_t (C : Cx p s m meth c Z own bytes maxL ret nm) {o : Int} {x : Int32} (hd : decode bytes pc = .ok (.ifCond .lt o, 3)) (ho : 0 ≤ (pc : Int) + o) (hp : ((pc : Int) + o).toNat = q) (hc : x < 0) (K : AtS p l e R s m args below meth c Z EL own n0 Q mk sf h cells slots (mkF m q L S)) : AtS p l e R s m args below meth c Z EL own n0 Q mk sf h cells slots (mkF m pc L (.int x :: S)) :=
  K.go fun T hA t st => XS.ifYes hA C.1 rfl (pc0 := pc) (pc' := q) rfl (hb C.2.1 hd) rfl ((if0 _ _).trans (tlt hc).1) ho hp st
theorem s_if_lt_f (C : Cx p s m meth c Z own bytes maxL ret nm) {o : Int} {x : Int32} (hd : decode bytes pc = .ok (.ifCond .lt o, 3)) (hq : pc + 3 = q) (hc : ¬ x < 0) (K : AtS p l e R s m args below meth c Z EL own n0 Q mk sf h cells slots (mkF m q L S)) : AtS p l e R s m args below meth c Z EL own n0 Q mk sf h cells slots (mkF m pc L (.int x :: S)) := by
  subst hq
  exact K.go fun T hA t st => XS.ifNo hA C.1 rfl (hb C.2.1 hd) rfl ((if0 _ _).trans (flt hc).1) st
theorem s_icmp_ge_t (C : Cx p s m meth c Z own bytes maxL ret nm) {o : Int} {x y : Int32} (hd : decode bytes pc = .ok (.if_icmp .ge o, 3)) (ho : 0 ≤ (pc : Int) + o) (hp : ((pc : Int) + o).toNat = q) (hc : ¬ x < y) (K : AtS p l e R s m args below meth c Z EL own n0 Q mk sf h cells slots (mkF m q L S)) : AtS p l e R s m args below meth c Z EL own n0 Q mk sf h cells slots (mkF m pc L (.int y :: .int x :: S)) :=
  K.go fun T hA t st => XS.icmpYes hA C.1 rfl (pc0 := pc) (pc' := q) rfl (hb C.2.1 hd) rfl (flt hc).2.1 ho hp st
theorem s_icmp_ge_f (C : Cx p s m meth c Z own bytes maxL ret nm) {o : Int} {x y : Int32} (hd : decode bytes pc = .ok (.if_icmp .ge o, 3)) (hq : pc + 3 = q) (hc : x < y) (K : AtS p l e R s m args below meth c Z EL own n0 Q mk sf h cells slots (mkF m q L S)) : AtS p l e R s m args below meth c Z EL own n0 Q mk sf h cells slots (mkF m pc L (.int y :: .int x :: S)) := by
  subst hq
  exact K.go fun T hA t st => XS.icmpNo hA C.1 rfl (hb C.2.1 hd) rfl (tlt hc).2.1 st
theorem s_if_ge_t (C : Cx p s m meth c Z own bytes maxL ret nm) {o : Int} {x : Int32} (hd : decode bytes pc = .ok (.ifCond .ge o, 3)) (ho : 0 ≤ (pc : Int) + o) (hp : ((pc : Int) + o).toNat = q) (hc : ¬ x < 0) (K : AtS p l e R s m args below meth c Z EL own n0 Q mk sf h cells slots (mkF m q L S)) : AtS p l e R s m args below meth c Z EL own n0 Q mk sf h cells slots (mkF m pc L (.int x :: S)) :=
  K.go fun T hA t st => XS.ifYes hA C.1 rfl (pc0 := pc) (pc' := q) rfl (hb C.2.1 hd) rfl ((if0 _ _).trans (flt hc).2.1) ho hp st
theorem s_if_ge_f (C : Cx p s m meth c Z own bytes maxL ret nm) {o : Int} {x : Int32} (hd : decode bytes pc = .ok (.ifCond .ge o, 3)) (hq : pc + 3 = q) (hc : x < 0) (K : AtS p l e R s m args below meth c Z EL own n0 Q mk sf h cells slots (mkF m q L S)) : AtS p l e R s m args below meth c Z EL own n0 Q mk sf h cells slots (mkF m pc L (.int x :: S)) := by
  subst hq
  exact K.go fun T hA t st => XS.ifNo hA C.1 rfl (hb C.2.1 hd) rfl ((if0 _ _).trans (tlt hc).2.1) st
theorem s_icmp_gt_t (C : Cx p s m meth c Z own bytes maxL ret nm) {o : Int} {x y : Int32} (hd : decode bytes pc = .ok (.if_icmp .gt o, 3)) (ho : 0 ≤ (pc : Int) + o) (hp : ((pc : Int) + o).toNat = q) (hc : y < x) (K : AtS p l e R s m args below meth c Z EL own n0 Q mk sf h cells slots (mkF m q L S)) : AtS p l e R s m args below meth c Z EL own n0 Q mk sf h cells slots (mkF m pc L (.int y :: .int x :: S)) :=
  K.go fun T hA t st => XS.icmpYes hA C.1 rfl (pc0 := pc) (pc' := q) rfl (hb C.2.1 hd) rfl (tlt hc).2.2.1 ho hp st
theorem s_icmp_gt_f (C : Cx p s m meth c Z own bytes maxL ret nm) {o : Int} {x y : Int32} (hd : decode bytes pc = .ok (.if_icmp .gt o, 3)) (hq : pc + 3 = q) (hc : ¬ y < x) (K : AtS p l e R s m args below meth c Z EL own n0 Q mk sf h cells slots (mkF m q L S)) : AtS p l e R s m args below meth c Z EL own n0 Q mk sf h cells slots (mkF m pc L (.int y :: .int x :: S)) := by
  subst hq
  exact K.go fun T hA t st => XS.icmpNo hA C.1 rfl (hb C.2.1 hd) rfl (flt hc).2.2.1 st
theorem s_if_gt_t (C : Cx p s m meth c Z own bytes maxL ret nm) {o : Int} {x : Int32} (hd : decode bytes pc = .ok (.ifCond .gt o, 3)) (ho : 0 ≤ (pc : Int) + o) (hp : ((pc : Int) + o).toNat = q) (hc : 0 < x) (K : AtS p l e R s m args below meth c Z EL own n0 Q mk sf h cells slots (mkF m q L S)) : AtS p l e R s m args below meth c Z EL own n0 Q mk sf h cells slots (mkF m pc L (.int x :: S)) :=
  K.go fun T hA t st => XS.ifYes hA C.1 rfl (pc0 := pc) (pc' := q) rfl (hb C.2.1 hd) rfl ((if0 _ _).trans (tlt hc).2.2.1) ho hp st
theorem s_if_gt_f (C : Cx p s m meth c Z own bytes maxL ret nm) {o : Int} {x : Int32} (hd : decode bytes pc = .ok (.ifCond .gt o, 3)) (hq : pc + 3 = q) (hc : ¬ 0 < x) (K : AtS p l e R s m args below meth c Z EL own n0 Q mk sf h cells slots (mkF m q L S)) : AtS p l e R s m args below meth c Z EL own n0 Q mk sf h cells slots (mkF m pc L (.int x :: S)) := by
  subst hq
  exact K.go fun T hA t st => XS.ifNo hA C.1 rfl (hb C.2.1 hd) rfl ((if0 _ _).trans (flt hc).2.2.1) st
theorem s_icmp_le_t (C : Cx p s m meth c Z own bytes maxL ret nm) {o : Int} {x y : Int32} (hd : decode bytes pc = .ok (.if_icmp .le o, 3)) (ho : 0 ≤ (pc : Int) + o) (hp : ((pc : Int) + o).toNat = q) (hc : ¬ y < x) (K : AtS p l e R s m args below meth c Z EL own n0 Q mk sf h cells slots (mkF m q L S)) : AtS p l e R s m args below meth c Z EL own n0 Q mk sf h cells slots (mkF m pc L (.int y :: .int x :: S)) :=
  K.go fun T hA t st => XS.icmpYes hA C.1 rfl (pc0 := pc) (pc' := q) rfl (hb C.2.1 hd) rfl (flt hc).2.2.2 ho hp st
theorem s_icmp_le_f (C : Cx p s m meth c Z own bytes maxL ret nm) {o : Int} {x y : Int32} (hd : decode bytes pc = .ok (.if_icmp .le o, 3)) (hq : pc + 3 = q) (hc : y < x) (K : AtS p l e R s m args below meth c Z EL own n0 Q mk sf h cells slots (mkF m q L S)) : AtS p l e R s m args below meth c Z EL own n0 Q mk sf h cells slots (mkF m pc L (.int y :: .int x :: S)) := by
  subst hq
  exact K.go fun T hA t st => XS.icmpNo hA C.1 rfl (hb C.2.1 hd) rfl (tlt hc).2.2.2 st
theorem s_if_le_t (C : Cx p s m meth c Z own bytes maxL ret nm) {o : Int} {x : Int32} (hd : decode bytes pc = .ok (.ifCond .le o, 3)) (ho : 0 ≤ (pc : Int) + o) (hp : ((pc : Int) + o).toNat = q) (hc : ¬ 0 < x) (K : AtS p l e R s m args below meth c Z EL own n0 Q mk sf h cells slots (mkF m q L S)) : AtS p l e R s m args below meth c Z EL own n0 Q mk sf h cells slots (mkF m pc L (.int x :: S)) :=
  K.go fun T hA t st => XS.ifYes hA C.1 rfl (pc0 := pc) (pc' := q) rfl (hb C.2.1 hd) rfl ((if0 _ _).trans (flt hc).2.2.2) ho hp st
theorem s_if_le_f (C : Cx p s m meth c Z own bytes maxL ret nm) {o : Int} {x : Int32} (hd : decode bytes pc = .ok (.ifCond .le o, 3)) (hq : pc + 3 = q) (hc : 0 < x) (K : AtS p l e R s m args below meth c Z EL own n0 Q mk sf h cells slots (mkF m q L S)) : AtS p l e R s m args below meth c Z EL own n0 Q mk sf h cells slots (mkF m pc L (.int x :: S)) := by
  subst hq
  exact K.go fun T hA t st => XS.ifNo hA C.1 rfl (hb C.2.1 hd) rfl ((if0 _ _).trans (tlt hc).2.2.2) st
theorem s_icmp_eq_t (C : Cx p s m meth c Z own bytes maxL ret nm) {o : Int} {x y : Int32} (hd : decode bytes pc = .ok (.if_icmp .eq o, 3)) (ho : 0 ≤ (pc : Int) + o) (hp : ((pc : Int) + o).toNat = q) (hc : x = y) (K : AtS p l e R s m args below meth c Z EL own n0 Q mk sf h cells slots (mkF m q L S)) : AtS p l e R s m args below meth c Z EL own n0 Q mk sf h cells slots (mkF m pc L (.int y :: .int x :: S)) :=
  K.go fun T hA t st => XS.icmpYes hA C.1 rfl (pc0 := pc) (pc' := q) rfl (hb C.2.1 hd) rfl (teq hc).1 ho hp st
theorem s_icmp_eq_f (C : Cx p s m meth c Z own bytes maxL ret nm) {o : Int} {x y : Int32} (hd : decode bytes pc = .ok (.if_icmp .eq o, 3)) (hq : pc + 3 = q) (hc : ¬ x = y) (K : AtS p l e R s m args below meth c Z EL own n0 Q mk sf h cells slots (mkF m q L S)) : AtS p l e R s m args below meth c Z EL own n0 Q mk sf h cells slots (mkF m pc L (.int y :: .int x :: S)) := by
  subst hq
  exact K.go fun T hA t st => XS.icmpNo hA C.1 rfl (hb C.2.1 hd) rfl (feq hc).1 st
theorem s_if_eq_t (C : Cx p s m meth c Z own bytes maxL ret nm) {o : Int} {x : Int32} (hd : decode bytes pc = .ok (.ifCond .eq o, 3)) (ho : 0 ≤ (pc : Int) + o) (hp : ((pc : Int) + o).toNat = q) (hc : x = 0) (K : AtS p l e R s m args below meth c Z EL own n0 Q mk sf h cells slots (mkF m q L S)) : AtS p l e R s m args below meth c Z EL own n0 Q mk sf h cells slots (mkF m pc L (.int x :: S)) :=
  K.go fun T hA t st => XS.ifYes hA C.1 rfl (pc0 := pc) (pc' := q) rfl (hb C.2.1 hd) rfl ((if0 _ _).trans (teq hc).1) ho hp st
theorem s_if_eq_f (C : Cx p s m meth c Z own bytes maxL ret nm) {o : Int} {x : Int32} (hd : decode bytes pc = .ok (.ifCond .eq o, 3)) (hq : pc + 3 = q) (hc : ¬ x = 0) (K : AtS p l e R s m args below meth c Z EL own n0 Q mk sf h cells slots (mkF m q L S)) : AtS p l e R s m args below meth c Z EL own n0 Q mk sf h cells slots (mkF m pc L (.int x :: S)) := by
  subst hq
  exact K.go fun T hA t st => XS.ifNo hA C.1 rfl (hb C.2.1 hd) rfl ((if0 _ _).trans (feq hc).1) st
theorem s_icmp_ne_t (C : Cx p s m meth c Z own bytes maxL ret nm) {o : Int} {x y : Int32} (hd : decode bytes pc = .ok (.if_icmp .ne o, 3)) (ho : 0 ≤ (pc : Int) + o) (hp : ((pc : Int) + o).toNat = q) (hc : ¬ x = y) (K : AtS p l e R s m args below meth c Z EL own n0 Q mk sf h cells slots (mkF m q L S)) : AtS p l e R s m args below meth c Z EL own n0 Q mk sf h cells slots (mkF m pc L (.int y :: .int x :: S)) :=
  K.go fun T hA t st => XS.icmpYes hA C.1 rfl (pc0 := pc) (pc' := q) rfl (hb C.2.1 hd) rfl (feq hc).2 ho hp st
theorem s_icmp_ne_f (C : Cx p s m meth c Z own bytes maxL ret nm) {o : Int} {x y : Int32} (hd : decode bytes pc = .ok (.if_icmp .ne o, 3)) (hq : pc + 3 = q) (hc : x = y) (K : AtS p l e R s m args below meth c Z EL own n0 Q mk sf h cells slots (mkF m q L S)) : AtS p l e R s m args below meth c Z EL own n0 Q mk sf h cells slots (mkF m pc L (.int y :: .int x :: S)) := by
  subst hq
  exact K.go fun T hA t st => XS.icmpNo hA C.1 rfl (hb C.2.1 hd) rfl (teq hc).2 st
theorem s_if_ne_t (C : Cx p s m meth c Z own bytes maxL ret nm) {o : Int} {x : Int32} (hd : decode bytes pc = .ok (.ifCond .ne o, 3)) (ho : 0 ≤ (pc : Int) + o) (hp : ((pc : Int) + o).toNat = q) (hc : ¬ x = 0) (K : AtS p l e R s m args below meth c Z EL own n0 Q mk sf h cells slots (mkF m q L S)) : AtS p l e R s m args below meth c Z EL own n0 Q mk sf h cells slots (mkF m pc L (.int x :: S)) :=
  K.go fun T hA t st => XS.ifYes hA C.1 rfl (pc0 := pc) (pc' := q) rfl (hb C.2.1 hd) rfl ((if0 _ _).trans (feq hc).2) ho hp st
theorem s_if_ne_f (C : Cx p s m meth c Z own bytes maxL ret nm) {o : Int} {x : Int32} (hd : decode bytes pc = .ok (.ifCond .ne o, 3)) (hq : pc + 3 = q) (hc : x = 0) (K : AtS p l e R s m args below meth c Z EL own n0 Q mk sf h cells slots (mkF m q L S)) : AtS p l e R s m args below meth c Z EL own n0 Q mk sf h cells slots (mkF m pc L (.int x :: S)) := by
  subst hq
  exact K.go fun T hA t st => XS.ifNo hA C.1 rfl (hb C.2.1 hd) rfl ((if0 _ _).trans (teq hc).2) st
theorem s_ifnull_t (C : Cx p s m meth c Z own bytes maxL ret nm) {o : Int} (hd : decode bytes pc = .ok (.ifnull o, 3)) (ho : 0 ≤ (pc : Int) + o) (hp : ((pc : Int) + o).toNat = q) (K : AtS p l e R s m args below meth c Z EL own n0 Q mk sf h cells slots (mkF m q L S)) : AtS p l e R s m args below meth c Z EL own n0 Q mk sf h cells slots (mkF m pc L (.null :: S)) :=
  K.go fun T hA t st => XS.ifnullYes hA C.1 rfl (pc0 := pc) (pc' := q) rfl (hb C.2.1 hd) rfl ho hp st
theorem s_ifnull_f (C : Cx p s m meth c Z own bytes maxL ret nm) {o : Int} {b : Addr} (hd : decode bytes pc = .ok (.ifnull o, 3)) (hq : pc + 3 = q) (K : AtS p l e R s m args below meth c Z EL own n0 Q mk sf h cells slots (mkF m q L S)) : AtS p l e R s m args below meth c Z EL own n0 Q mk sf h cells slots (mkF m pc L ((.ref b) :: S)) := by
  subst hq
  exact K.go fun T hA t st => XS.ifnullNo hA C.1 rfl (hb C.2.1 hd) rfl st
theorem s_ifnonnull_t (C : Cx p s m meth c Z own bytes maxL ret nm) {o : Int} {b : Addr} (hd : decode bytes pc = .ok (.ifnonnull o, 3)) (ho : 0 ≤ (pc : Int) + o) (hp : ((pc : Int) + o).toNat = q) (K : AtS p l e R s m args below meth c Z EL own n0 Q mk sf h cells slots (mkF m q L S)) : AtS p l e R s m args below meth c Z EL own n0 Q mk sf h cells slots (mkF m pc L ((.ref b) :: S)) :=
  K.go fun T hA t st => XS.ifnonnullYes hA C.1 rfl (pc0 := pc) (pc' := q) rfl (hb C.2.1 hd) rfl ho hp st
theorem s_ifnonnull_f (C : Cx p s m meth c Z own bytes maxL ret nm) {o : Int} (hd : decode bytes pc = .ok (.ifnonnull o, 3)) (hq : pc + 3 = q) (K : AtS p l e R s m args below meth c Z EL own n0 Q mk sf h cells slots (mkF m q L S)) : AtS p l e R s m args below meth c Z EL own n0 Q mk sf h cells slots (mkF m pc L (.null :: S)) := by
  subst hq
  exact K.go fun T hA t st => XS.ifnonnullNo hA C.1 rfl (hb C.2.1 hd) rfl st
theorem s_acmp_t (C : Cx p s m meth c Z own bytes maxL ret nm) {cd : ACond} {o : Int} {x y : Value} (hd : decode bytes pc = .ok (.if_acmp cd o, 3)) (h1 : x.isRef = true) (h2 : y.isRef = true) {same : Bool} (hs : decide (x = y) = same) (hcd : acV cd same = true) (ho : 0 ≤ (pc : Int) + o) (hp : ((pc : Int) + o).toNat = q) (K : AtS p l e R s m args below meth c Z EL own n0 Q mk sf h cells slots (mkF m q L S)) : AtS p l e R s m args below meth c Z EL own n0 Q mk sf h cells slots (mkF m pc L (y :: x :: S)) :=
  K.goX fun T locs k n vm0 X eT hZ hown t st => Jvm.RoadKit.acmp (g := mkF m pc L (y :: x :: S)) X C.1 rfl h1 h2 (pc0 := pc) (pc' := q) (same := same) rfl (hb C.2.1 hd) rfl hs ho (by rw [if_pos hcd]; exact hp.symm) st
theorem s_acmp_f (C : Cx p s m meth c Z own bytes maxL ret nm) {cd : ACond} {o : Int} {x y : Value} (hd : decode bytes pc = .ok (.if_acmp cd o, 3)) (h1 : x.isRef = true) (h2 : y.isRef = true) {same : Bool} (hs : decide (x = y) = same) (hcd : acV cd same = false) (ho : 0 ≤ (pc : Int) + o) (hq : pc + 3 = q) (K : AtS p l e R s m args below meth c Z EL own n0 Q mk sf h cells slots (mkF m q L S)) : AtS p l e R s m args below meth c Z EL own n0 Q mk sf h cells slots (mkF m pc L (y :: x :: S)) :=
  K.goX fun T locs k n vm0 X eT hZ hown t st => Jvm.RoadKit.acmp (g := mkF m pc L (y :: x :: S)) X C.1 rfl h1 h2 (pc0 := pc) (pc' := q) (same := same) rfl (hb C.2.1 hd) rfl hs ho (by rw [if_neg (by rw [hcd]; exact Bool.false_ne_true)]; exact hq.symm) st
theorem s_ldcI (C : Cx p s m meth c Z own bytes maxL ret nm) {i : Nat} {v : Int32} (w : (Jvm.Cond.constant own i v).before a0 Z = true) (hd : decode bytes pc = .ok (.ldc i, 2)) (hq : pc + 2 = q) (K : AtS p l e R s m args below meth c Z EL own n0 Q mk sf h cells slots (mkF m q L (.int v :: S))) : AtS p l e R s m args below meth c Z EL own n0 Q mk sf h cells slots (mkF m pc L S) := by
  subst hq
  exact K.goX fun T locs k n vm0 X eT hZ hown t st => X.ldcInt C.1 hown (mvT (s := s.setVm vm0) hZ w) (g := mkF m pc L S) rfl (hb C.2.1 hd) t st
theorem s_ldcwI (C : Cx p s m meth c Z own bytes maxL ret nm) {i : Nat} {v : Int32} (w : (Jvm.Cond.constant own i v).before a0 Z = true) (hd : decode bytes pc = .ok (.ldc_w i, 3)) (hq : pc + 3 = q) (K : AtS p l e R s m args below meth c Z EL own n0 Q mk sf h cells slots (mkF m q L (.int v :: S))) : AtS p l e R s m args below meth c Z EL own n0 Q mk sf h cells slots (mkF m pc L S) := by
  subst hq
  exact K.goX fun T locs k n vm0 X eT hZ hown t st => X.ldcwInt C.1 hown (mvT (s := s.setVm vm0) hZ w) (g := mkF m pc L S) rfl (hb C.2.1 hd) t st
theorem s_ldc2J (C : Cx p s m meth c Z own bytes maxL ret nm) {i : Nat} {v : Int64} (w : (Jvm.Cond.constantLong own i v).before a0 Z = true) (hd : decode bytes pc = .ok (.ldc2_w i, 3)) (hq : pc + 3 = q) (K : AtS p l e R s m args below meth c Z EL own n0 Q mk sf h cells slots (mkF m q L (.long v :: S))) : AtS p l e R s m args below meth c Z EL own n0 Q mk sf h cells slots (mkF m pc L S) := by
  subst hq
  exact K.goX fun T locs k n vm0 X eT hZ hown t st => X.ldc2Long C.1 hown (mvT (s := s.setVm vm0) hZ w) (g := mkF m pc L S) rfl (hb C.2.1 hd) t st

theorem s_getF (C : Cx p s m meth c Z own bytes maxL ret nm) {R0 O n d host : String} {i : Nat} {a : Addr} {v : Value} (w : (Jvm.Cond.fieldLink own i R0 n d).before a0 Z = true ∨ (Jvm.Cond.fieldLinkNest own i R0 n d host).before a0 Z = true) (via : Via Z R0 O n d) (F : Fld Z h a O n d v) (hd : decode bytes pc = .ok (.getfield i, 3)) (hq : pc + 3 = q) (K : AtS p l e R s m args below meth c Z EL own n0 Q mk sf h cells slots (mkF m q L (v :: S))) : AtS p l e R s m args below meth c Z EL own n0 Q mk sf h cells slots (mkF m pc L (.ref a :: S)) := by
  subst hq
  intro T locs k n vm0 k0 X hk hn eT N hZ hown hS hk0 hC hB hF
  obtain ⟨T', X', e', st⟩ := getF X C.1 (show Z.Warmed39 (s.setVm vm0).vm from hZ) (host := host) hown w via eT F (g := mkF m pc L (.ref a :: S)) rfl rfl (hb C.2.1 hd)
  obtain ⟨t, o, r1, r⟩ := K T' locs k n vm0 k0 X' hk hn e' N hZ hown hS hk0 hC hB hF
  exact ⟨t, o, st _ r1, r⟩
theorem s_getS (C : Cx p s m meth c Z own bytes maxL ret nm) {R0 O n d host : String} {i : Nat} {v : Value} (w : (Jvm.Cond.fieldLink own i R0 n d).before a0 Z = true ∨ (Jvm.Cond.fieldLinkNest own i R0 n d host).before a0 Z = true) (via : Via Z R0 O n d) (F : Sta Z h O n d v) (hd : decode bytes pc = .ok (.getstatic i, 3)) (hq : pc + 3 = q) (K : AtS p l e R s m args below meth c Z EL own n0 Q mk sf h cells slots (mkF m q L (v :: S))) : AtS p l e R s m args below meth c Z EL own n0 Q mk sf h cells slots (mkF m pc L S) := by
  subst hq
  intro T locs k n vm0 k0 X hk hn eT N hZ hown hS hk0 hC hB hF
  obtain ⟨T', X', e', st⟩ := getS2 X C.1 (show Z.Warmed39 (s.setVm vm0).vm from hZ) (host := host) hown w via eT F (g := mkF m pc L S) rfl (hb C.2.1 hd)
  obtain ⟨t, o, r1, r⟩ := K T' locs k n vm0 k0 X' hk hn e' N hZ hown hS hk0 hC hB hF
  exact ⟨t, o, st _ r1, r⟩
theorem s_cast (C : Cx p s m meth c Z own bytes maxL ret nm) {K : String} {i : Nat} {a : Addr} (w : (Jvm.Cond.classLink own i K).before a0 Z = true) (F : Ins Z h a K true) (hd : decode bytes pc = .ok (.checkcast i, 3)) (hq : pc + 3 = q) (K : AtS p l e R s m args below meth c Z EL own n0 Q mk sf h cells slots (mkF m q L (.ref a :: S))) : AtS p l e R s m args below meth c Z EL own n0 Q mk sf h cells slots (mkF m pc L (.ref a :: S)) := by
  subst hq
  intro T locs k n vm0 k0 X hk hn eT N hZ hown hS hk0 hC hB hF
  obtain ⟨T', X', e', st⟩ := castY X C.1 (show Z.Warmed39 (s.setVm vm0).vm from hZ) hown w eT F (g := mkF m pc L (.ref a :: S)) rfl rfl (hb C.2.1 hd)
  obtain ⟨t, o, r1, r⟩ := K T' locs k n vm0 k0 X' hk hn e' N hZ hown hS hk0 hC hB hF
  exact ⟨t, o, st _ r1, r⟩
theorem s_inst (C : Cx p s m meth c Z own bytes maxL ret nm) {K : String} {i : Nat} {a : Addr} (w : (Jvm.Cond.classLink own i K).before a0 Z = true) (F : Ins Z h a K true) (hd : decode bytes pc = .ok (.instanceof i, 3)) (hq : pc + 3 = q) (K : AtS p l e R s m args below meth c Z EL own n0 Q mk sf h cells slots (mkF m q L (.int 1 :: S))) : AtS p l e R s m args below meth c Z EL own n0 Q mk sf h cells slots (mkF m pc L (.ref a :: S)) := by
  subst hq
  intro T locs k n vm0 k0 X hk hn eT N hZ hown hS hk0 hC hB hF
  obtain ⟨T', X', e', st⟩ := instY X C.1 (show Z.Warmed39 (s.setVm vm0).vm from hZ) hown w eT F (g := mkF m pc L (.ref a :: S)) rfl rfl (hb C.2.1 hd)
  obtain ⟨t, o, r1, r⟩ := K T' locs k n vm0 k0 X' hk hn e' N hZ hown hS hk0 hC hB hF
  exact ⟨t, o, st _ r1, r⟩
theorem s_initO (C : Cx p s m meth c Z own bytes maxL ret nm) {i : Nat} {a : Addr} (w1 : (Jvm.Cond.methodLink own i Lib.objectInit).before a0 Z = true) (w2 : (Jvm.Cond.instanceMethod Lib.objectInit).before a0 Z = true) (w3 : (Jvm.Cond.code Lib.objectInit object_method_1_code 1 none).before a0 Z = true) (hL : L.size = maxL) (hf : 1 ≤ R.frames) {W : Nat} (hW : (S.map fun v => v.category).sum ≤ W) (hlo : W + 12 ≤ R.locals) (hd : decode bytes pc = .ok (.invokespecial i, 3)) (hq : pc + 3 = q) (K : AtS p l e R s m args below meth c Z EL own n0 Q mk sf h cells slots (mkF m q L S)) : AtS p l e R s m args below meth c Z EL own n0 Q mk sf h cells slots (mkF m pc L (.ref a :: S)) := by
  subst hq
  intro T locs k n vm0 k0 X hk hn eT N hZ hown hS hk0 hC hB hF
  obtain ⟨T', X', e', st⟩ := initO X C.1 (show Z.Warmed39 (s.setVm vm0).vm from hZ) hown w1 w2 w3 eT (g := mkF m pc L (.ref a :: S)) rfl (hL.trans C.2.2.1.symm) rfl (hb C.2.1 hd) hf (W := W) (by show 2 * 0 + _ ≤ _; omega) hlo
  obtain ⟨t, o, r1, r⟩ := K T' locs k n vm0 k0 X' hk hn e' N hZ hown hS hk0 hC hB hF
  exact ⟨t, o, st _ r1, r⟩
/-- an address that no booked constant has -/
def SfOk (Z : State) (h : Heap) (mk : Nat) (sf : List Addr) (x : Addr) : Prop := x ∈ sf ∨ mk ≤ x ∨ (∃ C, Exa Z h x C ∧ C ≠ "java/lang/String" ∧ C ≠ "[B") ∨ ∃ ty vs, Ar Z h x ty vs ∧ ty ≠ .byte
theorem SfOk.exa {x : Addr} {C : String} (E : Exa Z h x C) (h1 : C ≠ "java/lang/String" ∧ C ≠ "[B") : SfOk Z h mk sf x := Or.inr (Or.inr (Or.inl ⟨C, E, h1⟩))
theorem SfOk.arr {x : Addr} {ty : FieldType} {vs : List Value} (E : Ar Z h x ty vs) (h1 : ty ≠ .byte) : SfOk Z h mk sf x := Or.inr (Or.inr (Or.inr ⟨ty, vs, E, h1⟩))
theorem SfOk.mem {x : Addr} (q : x ∈ sf) : SfOk Z h mk sf x := Or.inl q
theorem SfOk.new {x : Addr} (q : mk ≤ x) : SfOk Z h mk sf x := Or.inr (Or.inl q)
theorem SfOk.safe {vm0 : Vm} {x : Addr} (F : SfOk Z h mk sf x) (hal : Z.vm.Alike vm0) (hB : ∀ y, Bk Z EL vm0 h y → y < mk) (hF : ∀ x ∈ sf, x < h.size ∧ Safe Z EL vm0 h x) : Safe Z EL vm0 h x := by
  rcases F with q | q | ⟨C, E, h1, h2⟩ | ⟨ty, vs, A, hne⟩
  · exact (hF x q).2
  · exact fun b => Nat.not_lt.mpr q (hB _ b)
  · exact Safe.exa hal E h1 h2
  · obtain ⟨-, k, V⟩ := A; exact Safe.arv hal V hne
theorem s_putF (C : Cx p s m meth c Z own bytes maxL ret nm) {R0 O n d host Cl : String} {i kk : Nat} {ty : FieldType} {a : Addr} {v v' old : Value} (w : (Jvm.Cond.fieldLink own i R0 n d).before a0 Z = true) (via : Via Z R0 O n d) (F : Fld Z h a O n d old) (E : Exa Z h a Cl)
    (hL : (Jvm.Cond.lays Cl O n d).before a0 Z = true ∨ ((Jvm.Cond.laysFinal Cl O n d).before a0 Z = true ∧ own = O ∧ nm = "<init>")) (wi : (Jvm.Cond.instantiable Cl kk).before a0 Z = true) (hty : parseFieldDescriptor d = some ty) (hn : narrow ty v = v') (hf : fits ty v' = true) (hge : n0 ≤ a) (hsf : SfOk Z h mk sf a)
    (hd : decode bytes pc = .ok (.putfield i, 3)) (hq : pc + 3 = q) (K : ∀ h', Wr h h' a (Jvm.RoadKit.slotOf Z O n d) v' → AtS p l e R s m args below meth c Z EL own n0 Q mk sf h' cells slots (mkF m q L S)) : AtS p l e R s m args below meth c Z EL own n0 Q mk sf h cells slots (mkF m pc L (v :: .ref a :: S)) := by
  subst hq
  intro T locs k n' vm0 k0 X hk hn' eT N hZ hown hS hk0 hC hB hF
  have hL' : (Jvm.Cond.lays Cl O n d).before a0 Z = true ∨ ((Jvm.Cond.laysFinal Cl O n d).before a0 Z = true ∧ own = O ∧ meth.name = "<init>") := hL.imp id fun x => ⟨x.1, x.2.1, C.2.2.2.2.2.2.2.trans x.2.2⟩
  obtain ⟨T', h', X', e', W, st⟩ := putFN X C.1 (show Z.Warmed39 (s.setVm vm0).vm from hZ) hown w via eT F E hL' wi hty hn hf (g := mkF m pc L (v :: .ref a :: S)) rfl rfl (hb C.2.1 hd)
  have hsafe := hsf.safe hZ.alike hB hF
  obtain ⟨H', hB'⟩ := hC.1.wrStep W hsafe
  obtain ⟨t, o, r1, r⟩ := K h' W T' _ k n' vm0 k0 X' hk hn' e' (Fr.snoc X' N hge) hZ hown hS (by rw [W.size]; exact hk0) (hC.trans (CHr.wr W hsafe hC.1)) (fun y hy => hB y (hB' y hy)) (fun x hx => ⟨by rw [W.size]; exact (hF x hx).1, Safe.wr W hsafe hC.1 (hF x hx).2⟩)
  exact ⟨t, o, st _ r1, r⟩
theorem s_new (C : Cx p s m meth c Z own bytes maxL ret nm) {Cl : String} {i n : Nat} (w : (Jvm.Cond.classLink own i Cl).before a0 Z = true) (wi : (Jvm.Cond.instantiable Cl n).before a0 Z = true) (wz : (Jvm.Cond.initialized Cl).before a0 Z = true) {cells' slots' : Nat} (hc1 : cells + 1 = cells') (hs1 : slots + n = slots') (hc : cells' ≤ R.cells) (hl : slots' ≤ R.slots)
    (hd : decode bytes pc = .ok (.new i, 3)) (hq : pc + 3 = q) (K : ∀ h' a, a = h.size → Ext h h' → Exa Z h' a Cl → (∀ {O nm d : String} {ty : FieldType}, RoadKit.Laid Z a0 Cl O nm d → parseFieldDescriptor d = some ty → Fld Z h' a O nm d (defaultValue ty)) → AtS p l e R s m args below meth c Z EL own n0 Q mk (a :: sf) h' cells' slots' (mkF m q L (.ref a :: S))) : AtS p l e R s m args below meth c Z EL own n0 Q mk sf h cells slots (mkF m pc L S) := by
  subst hq hc1 hs1
  intro T locs k n' vm0 k0 X hk hn' eT N hZ hown hS hk0 hC hB hF
  obtain ⟨T', h', X', e', E, A, D, -, st⟩ := newO X C.1 (show Z.Warmed39 (s.setVm vm0).vm from hZ) hown w wi wz eT (g := mkF m pc L S) rfl (hb C.2.1 hd) (by omega) (by omega)
  obtain ⟨H', hB'⟩ := hC.1.step (h' := h') fun y _ cell hc => E.2 _ _ hc
  have hs : ∀ x ∈ h.size :: sf, x < h'.size ∧ Safe Z EL vm0 h' x := fun x hx => by
    rcases List.mem_cons.mp hx with rfl | hx
    · exact ⟨A.lt, (Safe.new (Nat.le_refl _)).ext E hC.1⟩
    · exact ⟨Nat.lt_of_lt_of_le (hF x hx).1 E.1, (hF x hx).2.ext E hC.1⟩
  obtain ⟨t, o, r1, r⟩ := K h' h.size rfl E A D T' _ (k + 1) (n' + n) vm0 k0 X' (by omega) (by omega) e' N hZ hown hS (Nat.le_trans hk0 E.1) (hC.trans (CHr.ext E hC.1)) (fun y hy => hB y (hB' y hy)) hs
  exact ⟨t, o, st _ r1, r⟩
theorem s_newArr (C : Cx p s m meth c Z own bytes maxL ret nm) {aty : ArrayType} {ty : FieldType} {n : Int32} (w : (Jvm.Cond.arrayClass ty).before a0 Z = true) (hty : newarray.typeOf aty = ty) (hn : ¬ n < 0) {cap : Nat} (hcap : n.toNatClampNeg ≤ cap) (hb' : cap * 8 ≤ 536870912) {cells' slots' : Nat} (hc1 : cells + 1 = cells') (hs1 : slots + cap = slots') (hc : cells' ≤ R.cells) (hl : slots' ≤ R.slots)
    (hd : decode bytes pc = .ok (.newarray aty, 2)) (hq : pc + 2 = q) (K : ∀ h' a, a = h.size → Ext h h' → Ar Z h' a ty (List.replicate n.toNatClampNeg (defaultValue ty)) → AtS p l e R s m args below meth c Z EL own n0 Q mk (a :: sf) h' cells' slots' (mkF m q L (.ref a :: S))) : AtS p l e R s m args below meth c Z EL own n0 Q mk sf h cells slots (mkF m pc L (.int n :: S)) := by
  subst hq hc1 hs1 hty
  intro T locs k n' vm0 k0 X hk hn' eT N hZ hown hS hk0 hC hB hF
  obtain ⟨T', h', cA, X', e', E, A, st⟩ := newP X C.1 (show Z.Warmed39 (s.setVm vm0).vm from hZ) w eT (g := mkF m pc L (.int n :: S)) rfl (hb C.2.1 hd) rfl hn hcap hb' (by omega) (by omega)
  have q := nat_of_nonneg hn
  have V := (Arv.new A hn).pad (pad_rep [] (defaultValue (newarray.typeOf aty)) n.toNatClampNeg)
  obtain ⟨H', hB'⟩ := hC.1.step (h' := h') fun y _ cell hc => E.2 _ _ hc
  have hs : ∀ x ∈ h.size :: sf, x < h'.size ∧ Safe Z EL vm0 h' x := fun x hx => by
    rcases List.mem_cons.mp hx with rfl | hx
    · exact ⟨V.lt, (Safe.new (Nat.le_refl _)).ext E hC.1⟩
    · exact ⟨Nat.lt_of_lt_of_le (hF x hx).1 E.1, (hF x hx).2.ext E hC.1⟩
  obtain ⟨t, o, r1, r⟩ := K h' h.size rfl E ⟨by simpa using q.2, cA, by simpa [q.1] using V⟩ T' _ (k + 1) (n' + cap) vm0 k0 X' (by omega) (by omega) e' N hZ hown hS (Nat.le_trans hk0 E.1) (hC.trans (CHr.ext E hC.1)) (fun y hy => hB y (hB' y hy)) hs
  exact ⟨t, o, st _ r1, r⟩
theorem s_len (C : Cx p s m meth c Z own bytes maxL ret nm) {a : Addr} {ty : FieldType} {vs : List Value} {z : Int32} (A : Ar Z h a ty vs) (hz : Int32.ofNat vs.length = z) (hd : decode bytes pc = .ok (.arraylength, 1)) (hq : pc + 1 = q) (K : AtS p l e R s m args below meth c Z EL own n0 Q mk sf h cells slots (mkF m q L (.int z :: S))) : AtS p l e R s m args below meth c Z EL own n0 Q mk sf h cells slots (mkF m pc L (.ref a :: S)) := by
  subst hq hz
  obtain ⟨hlt, k, cl, Ar, -, hS, hM, -, -⟩ := A
  refine K.goX fun T locs k n vm0 X eT hZ hown t st => X.arraylength C.1 (by rw [eT]; exact Ar.1) (State.isArrayOf_alike (T := s.setVm vm0) hZ.alike Ar.2.1) (g := mkF m pc L (.ref a :: S)) rfl rfl (hb C.2.1 hd) t ?_
  rw [len_of hS hM]; exact st

theorem s_iaload (C : Cx p s m meth c Z own bytes maxL ret nm) {a : Addr} {vs : List Value} {j : Int32} {i : Nat} {v : Value} (A : Ar Z h a .int vs) (hj : j = Int32.ofNat i) (hv : vs[i]? = some v) (hd : decode bytes pc = .ok (.iaload, 1)) (hq : pc + 1 = q) (K : AtS p l e R s m args below meth c Z EL own n0 Q mk sf h cells slots (mkF m q L (v :: S))) : AtS p l e R s m args below meth c Z EL own n0 Q mk sf h cells slots (mkF m pc L (.int j :: .ref a :: S)) := by
  subst hq hj
  obtain ⟨hlt, k, cl, Ar, -, hS, hM, H, -⟩ := A
  obtain ⟨hi, hg⟩ := List.getElem?_eq_some_iff.mp hv
  have e1 := ofNat_nat (n := i) (by omega)
  have e2 := ofNat_nat hlt
  have hin : ¬ (Int32.ofNat i < 0 ∨ cl.slots.size ≤ (Int32.ofNat i).toNatClampNeg) := by
    rw [e1, hS, e2]; exact fun q => q.elim (ofNat_neg (by omega)) (by omega)
  refine K.goX fun T locs k n vm0 X eT hZ hown t st => X.iaload C.1 (j := Int32.ofNat i) (v := v) (by rw [eT]; exact Ar.1) (State.isArrayOf_alike (T := s.setVm vm0) hZ.alike Ar.2.1) Ar.2.2 hin (by rw [e1, H i (by rw [hS, e2]; exact hi)]; simp [List.getD, hv]) (g := mkF m pc L (.int (Int32.ofNat i) :: .ref a :: S)) rfl rfl (hb C.2.1 hd) t st
theorem s_caload (C : Cx p s m meth c Z own bytes maxL ret nm) {a : Addr} {vs : List Value} {j : Int32} {i : Nat} {v : Value} (A : Ar Z h a .char vs) (hj : j = Int32.ofNat i) (hv : vs[i]? = some v) (hd : decode bytes pc = .ok (.caload, 1)) (hq : pc + 1 = q) (K : AtS p l e R s m args below meth c Z EL own n0 Q mk sf h cells slots (mkF m q L (v :: S))) : AtS p l e R s m args below meth c Z EL own n0 Q mk sf h cells slots (mkF m pc L (.int j :: .ref a :: S)) := by
  subst hq hj
  obtain ⟨hlt, k, cl, Ar, -, hS, hM, H, -⟩ := A
  obtain ⟨hi, hg⟩ := List.getElem?_eq_some_iff.mp hv
  have e1 := ofNat_nat (n := i) (by omega)
  have e2 := ofNat_nat hlt
  have hin : ¬ (Int32.ofNat i < 0 ∨ cl.slots.size ≤ (Int32.ofNat i).toNatClampNeg) := by
    rw [e1, hS, e2]; exact fun q => q.elim (ofNat_neg (by omega)) (by omega)
  refine K.goX fun T locs k n vm0 X eT hZ hown t st => X.caload C.1 (j := Int32.ofNat i) (v := v) (by rw [eT]; exact Ar.1) (State.isArrayOf_alike (T := s.setVm vm0) hZ.alike Ar.2.1) Ar.2.2 hin (by rw [e1, H i (by rw [hS, e2]; exact hi)]; simp [List.getD, hv]) (g := mkF m pc L (.int (Int32.ofNat i) :: .ref a :: S)) rfl rfl (hb C.2.1 hd) t st
theorem s_baload (C : Cx p s m meth c Z own bytes maxL ret nm) {a : Addr} {vs : List Value} {j : Int32} {i : Nat} {v : Value} (A : Ar Z h a .byte vs) (hj : j = Int32.ofNat i) (hv : vs[i]? = some v) (hd : decode bytes pc = .ok (.baload, 1)) (hq : pc + 1 = q) (K : AtS p l e R s m args below meth c Z EL own n0 Q mk sf h cells slots (mkF m q L (v :: S))) : AtS p l e R s m args below meth c Z EL own n0 Q mk sf h cells slots (mkF m pc L (.int j :: .ref a :: S)) := by
  subst hq hj
  obtain ⟨hlt, k, cl, Ar, -, hS, hM, H, -⟩ := A
  obtain ⟨hi, hg⟩ := List.getElem?_eq_some_iff.mp hv
  have e1 := ofNat_nat (n := i) (by omega)
  have e2 := ofNat_nat hlt
  have hin : ¬ (Int32.ofNat i < 0 ∨ cl.slots.size ≤ (Int32.ofNat i).toNatClampNeg) := by
    rw [e1, hS, e2]; exact fun q => q.elim (ofNat_neg (by omega)) (by omega)
  refine K.goX fun T locs k n vm0 X eT hZ hown t st => X.baloadBytes C.1 (j := Int32.ofNat i) (v := v) (by rw [eT]; exact Ar.1) (State.isArrayOf_alike (T := s.setVm vm0) hZ.alike Ar.2.1) Ar.2.2 hin (by rw [e1, H i (by rw [hS, e2]; exact hi)]; simp [List.getD, hv]) (g := mkF m pc L (.int (Int32.ofNat i) :: .ref a :: S)) rfl rfl (hb C.2.1 hd) t st
theorem s_laload (C : Cx p s m meth c Z own bytes maxL ret nm) {a : Addr} {vs : List Value} {j : Int32} {i : Nat} {v : Value} (A : Ar Z h a .long vs) (hj : j = Int32.ofNat i) (hv : vs[i]? = some v) (hd : decode bytes pc = .ok (.laload, 1)) (hq : pc + 1 = q) (K : AtS p l e R s m args below meth c Z EL own n0 Q mk sf h cells slots (mkF m q L (v :: S))) : AtS p l e R s m args below meth c Z EL own n0 Q mk sf h cells slots (mkF m pc L (.int j :: .ref a :: S)) := by
  subst hq hj
  obtain ⟨hlt, k, cl, Ar, -, hS, hM, H, -⟩ := A
  obtain ⟨hi, hg⟩ := List.getElem?_eq_some_iff.mp hv
  have e1 := ofNat_nat (n := i) (by omega)
  have e2 := ofNat_nat hlt
  have hin : ¬ (Int32.ofNat i < 0 ∨ cl.slots.size ≤ (Int32.ofNat i).toNatClampNeg) := by
    rw [e1, hS, e2]; exact fun q => q.elim (ofNat_neg (by omega)) (by omega)
  refine K.goX fun T locs k n vm0 X eT hZ hown t st => X.laload C.1 (j := Int32.ofNat i) (v := v) (by rw [eT]; exact Ar.1) (State.isArrayOf_alike (T := s.setVm vm0) hZ.alike Ar.2.1) Ar.2.2 hin (by rw [e1, H i (by rw [hS, e2]; exact hi)]; simp [List.getD, hv]) (g := mkF m pc L (.int (Int32.ofNat i) :: .ref a :: S)) rfl rfl (hb C.2.1 hd) t st
theorem s_aaload (C : Cx p s m meth c Z own bytes maxL ret nm) {a : Addr} {ty : FieldType} {vs : List Value} {j : Int32} {i : Nat} {v : Value} (A : Ar Z h a ty vs) (hj : j = Int32.ofNat i) (hv : vs[i]? = some v) (hr : ty.isReference = true) (hd : decode bytes pc = .ok (.aaload, 1)) (hq : pc + 1 = q) (K : AtS p l e R s m args below meth c Z EL own n0 Q mk sf h cells slots (mkF m q L (v :: S))) : AtS p l e R s m args below meth c Z EL own n0 Q mk sf h cells slots (mkF m pc L (.int j :: .ref a :: S)) := by
  subst hq hj
  obtain ⟨hlt, k, cl, Ar, -, hS, hM, H, -⟩ := A
  obtain ⟨hi, hg⟩ := List.getElem?_eq_some_iff.mp hv
  have e1 := ofNat_nat (n := i) (by omega)
  have e2 := ofNat_nat hlt
  have hin : ¬ (Int32.ofNat i < 0 ∨ cl.slots.size ≤ (Int32.ofNat i).toNatClampNeg) := by
    rw [e1, hS, e2]; exact fun q => q.elim (ofNat_neg (by omega)) (by omega)
  refine K.goX fun T locs k n vm0 X eT hZ hown t st => X.aaload C.1 (j := Int32.ofNat i) (v := v) (by rw [eT]; exact Ar.1) (State.isArrayOf_alike (T := s.setVm vm0) hZ.alike Ar.2.1) hr Ar.2.2 hin (by rw [e1, H i (by rw [hS, e2]; exact hi)]; simp [List.getD, hv]) (g := mkF m pc L (.int (Int32.ofNat i) :: .ref a :: S)) rfl rfl (hb C.2.1 hd) t st
theorem s_iastore (C : Cx p s m meth c Z own bytes maxL ret nm) {a : Addr} {vs : List Value} {j : Int32} {i : Nat} {x : Int32} (A : Ar Z h a .int vs) (hj : j = Int32.ofNat i) (hi : i < vs.length) (hge : n0 ≤ a) (hd : decode bytes pc = .ok (.iastore, 1)) (hq : pc + 1 = q)
    (K : ∀ h', Wr h h' a i (.int x) → Ar Z h' a .int (vs.set i (.int x)) → AtS p l e R s m args below meth c Z EL own n0 Q mk sf h' cells slots (mkF m q L S)) : AtS p l e R s m args below meth c Z EL own n0 Q mk sf h cells slots (mkF m pc L (.int x :: .int j :: .ref a :: S)) := by
  subst hq hj
  intro T locs k n' vm0 k0 X hk hn' eT N hZ hown hS0 hk0 hC hB hF
  have hsafe := SfOk.safe (mk := mk) (sf := sf) (SfOk.arr A (by decide)) hZ.alike hB hF
  obtain ⟨hlt, k', cl, Ar, q1, hS, hM, H, G⟩ := A
  have e1 := ofNat_nat (n := i) (by omega)
  have e2 := ofNat_nat hlt
  have hin : ¬ (Int32.ofNat i < 0 ∨ cl.slots.size ≤ (Int32.ofNat i).toNatClampNeg) := by
    rw [e1, hS, e2]; exact fun q => q.elim (ofNat_neg (by omega)) (by omega)
  obtain ⟨T', h', X', e', W, st⟩ := stI X C.1 (show Z.Warmed39 (s.setVm vm0).vm from hZ) eT Ar (j := Int32.ofNat i) (x := x) hin (g := mkF m pc L (.int x :: .int (Int32.ofNat i) :: .ref a :: S)) rfl rfl (hb C.2.1 hd)
  have V := Arv.set Ar q1 hS hM H G (rfl) W i e1 hi
  obtain ⟨H', hB'⟩ := hC.1.wrStep W hsafe
  obtain ⟨t, o, r1, r⟩ := K h' (by rw [e1] at W; exact W) ⟨by simpa using hlt, k', by rw [List.length_set]; exact V⟩ T' _ k n' vm0 k0 X' hk hn' e' (Fr.snoc X' N hge) hZ hown hS0 (by rw [W.size]; exact hk0) (hC.trans (CHr.wr W hsafe hC.1)) (fun y hy => hB y (hB' y hy)) (fun x hx => ⟨by rw [W.size]; exact (hF x hx).1, Safe.wr W hsafe hC.1 (hF x hx).2⟩)
  exact ⟨t, o, st _ r1, r⟩
theorem s_castore (C : Cx p s m meth c Z own bytes maxL ret nm) {a : Addr} {vs : List Value} {j : Int32} {i : Nat} {x : Int32} {z : Int32} (hz : nar .char x = z) (A : Ar Z h a .char vs) (hj : j = Int32.ofNat i) (hi : i < vs.length) (hge : n0 ≤ a) (hd : decode bytes pc = .ok (.castore, 1)) (hq : pc + 1 = q)
    (K : ∀ h', Wr h h' a i (.int z) → Ar Z h' a .char (vs.set i (.int z)) → AtS p l e R s m args below meth c Z EL own n0 Q mk sf h' cells slots (mkF m q L S)) : AtS p l e R s m args below meth c Z EL own n0 Q mk sf h cells slots (mkF m pc L (.int x :: .int j :: .ref a :: S)) := by
  subst hq hj hz
  intro T locs k n' vm0 k0 X hk hn' eT N hZ hown hS0 hk0 hC hB hF
  have hsafe := SfOk.safe (mk := mk) (sf := sf) (SfOk.arr A (by decide)) hZ.alike hB hF
  obtain ⟨hlt, k', cl, Ar, q1, hS, hM, H, G⟩ := A
  have e1 := ofNat_nat (n := i) (by omega)
  have e2 := ofNat_nat hlt
  have hin : ¬ (Int32.ofNat i < 0 ∨ cl.slots.size ≤ (Int32.ofNat i).toNatClampNeg) := by
    rw [e1, hS, e2]; exact fun q => q.elim (ofNat_neg (by omega)) (by omega)
  obtain ⟨T', h', X', e', W, st⟩ := stC X C.1 (show Z.Warmed39 (s.setVm vm0).vm from hZ) eT Ar (j := Int32.ofNat i) (x := x) hin (g := mkF m pc L (.int x :: .int (Int32.ofNat i) :: .ref a :: S)) rfl rfl (hb C.2.1 hd)
  have V := Arv.set Ar q1 hS hM H G (fits_nar_char _) W i e1 hi
  obtain ⟨H', hB'⟩ := hC.1.wrStep W hsafe
  obtain ⟨t, o, r1, r⟩ := K h' (by rw [e1] at W; exact W) ⟨by simpa using hlt, k', by rw [List.length_set]; exact V⟩ T' _ k n' vm0 k0 X' hk hn' e' (Fr.snoc X' N hge) hZ hown hS0 (by rw [W.size]; exact hk0) (hC.trans (CHr.wr W hsafe hC.1)) (fun y hy => hB y (hB' y hy)) (fun x hx => ⟨by rw [W.size]; exact (hF x hx).1, Safe.wr W hsafe hC.1 (hF x hx).2⟩)
  exact ⟨t, o, st _ r1, r⟩
theorem s_bastore (C : Cx p s m meth c Z own bytes maxL ret nm) {a : Addr} {vs : List Value} {j : Int32} {i : Nat} {x : Int32} {z : Int32} (hz : nar .byte x = z) (A : Ar Z h a .byte vs) (hj : j = Int32.ofNat i) (hi : i < vs.length) (hge : n0 ≤ a) (hsf : SfOk Z h mk sf a) (hd : decode bytes pc = .ok (.bastore, 1)) (hq : pc + 1 = q)
    (K : ∀ h', Wr h h' a i (.int z) → Ar Z h' a .byte (vs.set i (.int z)) → AtS p l e R s m args below meth c Z EL own n0 Q mk sf h' cells slots (mkF m q L S)) : AtS p l e R s m args below meth c Z EL own n0 Q mk sf h cells slots (mkF m pc L (.int x :: .int j :: .ref a :: S)) := by
  subst hq hj hz
  intro T locs k n' vm0 k0 X hk hn' eT N hZ hown hS0 hk0 hC hB hF
  have hsafe := SfOk.safe (mk := mk) (sf := sf) hsf hZ.alike hB hF
  obtain ⟨hlt, k', cl, Ar, q1, hS, hM, H, G⟩ := A
  have e1 := ofNat_nat (n := i) (by omega)
  have e2 := ofNat_nat hlt
  have hin : ¬ (Int32.ofNat i < 0 ∨ cl.slots.size ≤ (Int32.ofNat i).toNatClampNeg) := by
    rw [e1, hS, e2]; exact fun q => q.elim (ofNat_neg (by omega)) (by omega)
  obtain ⟨T', h', X', e', W, st⟩ := stB X C.1 (show Z.Warmed39 (s.setVm vm0).vm from hZ) eT Ar (j := Int32.ofNat i) (x := x) hin (g := mkF m pc L (.int x :: .int (Int32.ofNat i) :: .ref a :: S)) rfl rfl (hb C.2.1 hd)
  have V := Arv.set Ar q1 hS hM H G (fits_nar_byte _) W i e1 hi
  obtain ⟨H', hB'⟩ := hC.1.wrStep W hsafe
  obtain ⟨t, o, r1, r⟩ := K h' (by rw [e1] at W; exact W) ⟨by simpa using hlt, k', by rw [List.length_set]; exact V⟩ T' _ k n' vm0 k0 X' hk hn' e' (Fr.snoc X' N hge) hZ hown hS0 (by rw [W.size]; exact hk0) (hC.trans (CHr.wr W hsafe hC.1)) (fun y hy => hB y (hB' y hy)) (fun x hx => ⟨by rw [W.size]; exact (hF x hx).1, Safe.wr W hsafe hC.1 (hF x hx).2⟩)
  exact ⟨t, o, st _ r1, r⟩
theorem s_lastore (C : Cx p s m meth c Z own bytes maxL ret nm) {a : Addr} {vs : List Value} {j : Int32} {i : Nat} {x : Int64} (A : Ar Z h a .long vs) (hj : j = Int32.ofNat i) (hi : i < vs.length) (hge : n0 ≤ a) (hd : decode bytes pc = .ok (.lastore, 1)) (hq : pc + 1 = q)
    (K : ∀ h', Wr h h' a i (.long x) → Ar Z h' a .long (vs.set i (.long x)) → AtS p l e R s m args below meth c Z EL own n0 Q mk sf h' cells slots (mkF m q L S)) : AtS p l e R s m args below meth c Z EL own n0 Q mk sf h cells slots (mkF m pc L (.long x :: .int j :: .ref a :: S)) := by
  subst hq hj
  intro T locs k n' vm0 k0 X hk hn' eT N hZ hown hS0 hk0 hC hB hF
  have hsafe := SfOk.safe (mk := mk) (sf := sf) (SfOk.arr A (by decide)) hZ.alike hB hF
  obtain ⟨hlt, k', cl, Ar, q1, hS, hM, H, G⟩ := A
  have e1 := ofNat_nat (n := i) (by omega)
  have e2 := ofNat_nat hlt
  have hin : ¬ (Int32.ofNat i < 0 ∨ cl.slots.size ≤ (Int32.ofNat i).toNatClampNeg) := by
    rw [e1, hS, e2]; exact fun q => q.elim (ofNat_neg (by omega)) (by omega)
  obtain ⟨T', h', X', e', W, st⟩ := stJ X C.1 (show Z.Warmed39 (s.setVm vm0).vm from hZ) eT Ar (j := Int32.ofNat i) (x := x) hin (g := mkF m pc L (.long x :: .int (Int32.ofNat i) :: .ref a :: S)) rfl rfl (hb C.2.1 hd)
  have V := Arv.set Ar q1 hS hM H G (rfl) W i e1 hi
  obtain ⟨H', hB'⟩ := hC.1.wrStep W hsafe
  obtain ⟨t, o, r1, r⟩ := K h' (by rw [e1] at W; exact W) ⟨by simpa using hlt, k', by rw [List.length_set]; exact V⟩ T' _ k n' vm0 k0 X' hk hn' e' (Fr.snoc X' N hge) hZ hown hS0 (by rw [W.size]; exact hk0) (hC.trans (CHr.wr W hsafe hC.1)) (fun y hy => hB y (hB' y hy)) (fun x hx => ⟨by rw [W.size]; exact (hF x hx).1, Safe.wr W hsafe hC.1 (hF x hx).2⟩)
  exact ⟨t, o, st _ r1, r⟩
theorem s_retZ (C : Cx p s m meth c Z own bytes maxL ret nm) (hEL : EW Z a0 EL) {t : FieldType} {x z : Int32} (hret : ret = some t) (ht : t = .boolean ∨ t = .byte ∨ t = .char ∨ t = .short) (hz : nar t x = z) (hd : decode bytes pc = .ok (.ireturn, 1)) (hc : cells ≤ R.cells) (hs : slots ≤ R.slots) (hQ : Q (some (.int z)) h) : AtS p l e R s m args below meth c Z EL own n0 Q mk sf h cells slots (mkF m pc L (.int x :: S)) := by
  subst hz
  intro T locs k n vm0 k0 X hk hn eT N hZ hown hS hk0 hC hB hF
  obtain ⟨fs, hr, hrun, hended, hW1, hW2, hW3, hW4⟩ := X.leaveW hS (by rw [eT]; exact hk0) (v := some (.int (nar t x))) (fun h => by rw [C.2.2.2.2.2.1, hret] at h; cases h) C.2.2.2.2.2.2.1
  have hA := hC.trans (CHv.at (h := h) X hZ hEL hC.1)
  refine ⟨_, _, retN X C.1 (t := t) (C.2.2.2.2.2.1.trans hret) ht (hb C.2.1 hd) hr, hrun, hended, _, _, rfl, ⟨N, ?_⟩, ?_, hW1, hW2, hW3, hW4.mono (Nat.le_trans hk hc) (Nat.le_trans hn hs)⟩
  · show Q _ T.heap
    rw [eT]; exact hQ
  · show CHr Z EL s.vm s.heap T.vm T.heap
    rw [eT]; exact hA
theorem s_ret (C : Cx p s m meth c Z own bytes maxL ret nm) (hEL : EW Z a0 EL) {t : FieldType} {v : Value} {i : Instr} (hret : ret = some t) (hn' : narrow t v = v)
    (hi : (i = .ireturn ∧ (t = .int ∨ t = .boolean ∨ t = .byte ∨ t = .char ∨ t = .short) ∧ ∃ z, v = .int z) ∨ (i = .lreturn ∧ t = .long ∧ ∃ z, v = .long z) ∨ (i = .dreturn ∧ t = .double ∧ ∃ z, v = .double z) ∨ (i = .freturn ∧ t = .float ∧ ∃ z, v = .float z) ∨ (i = .areturn ∧ t.isReference = true ∧ v.isRef = true))
    (hd : decode bytes pc = .ok (i, 1)) (hc : cells ≤ R.cells) (hs : slots ≤ R.slots) (hQ : Q (some v) h) : AtS p l e R s m args below meth c Z EL own n0 Q mk sf h cells slots (mkF m pc L (v :: S)) := by
  intro T locs k n vm0 k0 X hk hn eT N hZ hown hS hk0 hC hB hF
  obtain ⟨fs, hr, hrun, hended, hW1, hW2, hW3, hW4⟩ := X.leaveW hS (by rw [eT]; exact hk0) (v := some v) (fun h => by rw [C.2.2.2.2.2.1, hret] at h; cases h) C.2.2.2.2.2.2.1
  have hA := hC.trans (CHv.at (h := h) X hZ hEL hC.1)
  refine ⟨_, _, retOut X C.1 (t := t) (C.2.2.2.2.2.1.trans hret) hn' hi (hb C.2.1 hd) hr, hrun, hended, _, _, rfl, ⟨N, ?_⟩, ?_, hW1, hW2, hW3, hW4.mono (Nat.le_trans hk hc) (Nat.le_trans hn hs)⟩
  · show Q _ T.heap
    rw [eT]; exact hQ
  · show CHr Z EL s.vm s.heap T.vm T.heap
    rw [eT]; exact hA
theorem s_retI (C : Cx p s m meth c Z own bytes maxL ret nm) (hEL : EW Z a0 EL) {x : Int32} (hret : ret = some .int) (hd : decode bytes pc = .ok (.ireturn, 1)) (hc : cells ≤ R.cells) (hs : slots ≤ R.slots) (hQ : Q (some (.int x)) h) : AtS p l e R s m args below meth c Z EL own n0 Q mk sf h cells slots (mkF m pc L (.int x :: S)) :=
  s_ret C hEL hret rfl (Or.inl ⟨rfl, Or.inl rfl, _, rfl⟩) hd hc hs hQ
theorem s_retJ (C : Cx p s m meth c Z own bytes maxL ret nm) (hEL : EW Z a0 EL) {x : Int64} (hret : ret = some .long) (hd : decode bytes pc = .ok (.lreturn, 1)) (hc : cells ≤ R.cells) (hs : slots ≤ R.slots) (hQ : Q (some (.long x)) h) : AtS p l e R s m args below meth c Z EL own n0 Q mk sf h cells slots (mkF m pc L (.long x :: S)) :=
  s_ret C hEL hret rfl (Or.inr (Or.inl ⟨rfl, rfl, _, rfl⟩)) hd hc hs hQ
theorem s_retA (C : Cx p s m meth c Z own bytes maxL ret nm) (hEL : EW Z a0 EL) {t : FieldType} {v : Value} (hret : ret = some t) (ht : t.isReference = true) (hv : v.isRef = true) (hd : decode bytes pc = .ok (.areturn, 1)) (hc : cells ≤ R.cells) (hs : slots ≤ R.slots) (hQ : Q (some v) h) : AtS p l e R s m args below meth c Z EL own n0 Q mk sf h cells slots (mkF m pc L (v :: S)) :=
  s_ret C hEL hret (by rcases ref_cases hv with rfl | ⟨a, rfl⟩ <;> cases t <;> first | rfl | cases ht) (Or.inr (Or.inr (Or.inr (Or.inr ⟨rfl, ht, hv⟩)))) hd hc hs hQ
theorem s_retV (C : Cx p s m meth c Z own bytes maxL ret nm) (hEL : EW Z a0 EL) (hret : ret = none) (hd : decode bytes pc = .ok (.return_, 1)) (hc : cells ≤ R.cells) (hs : slots ≤ R.slots) (hQ : Q none h) : AtS p l e R s m args below meth c Z EL own n0 Q mk sf h cells slots (mkF m pc L []) := by
  intro T locs k n vm0 k0 X hk hn eT N hZ hown hS hk0 hC hB hF
  obtain ⟨fs, hr, hrun, hended, hW1, hW2, hW3, hW4⟩ := X.leaveW hS (by rw [eT]; exact hk0) (v := none) (fun h => by rfl) C.2.2.2.2.2.2.1
  have hA := hC.trans (CHv.at (h := h) X hZ hEL hC.1)
  refine ⟨_, _, X.returnOut C.1 (C.2.2.2.2.2.1.trans hret) (hb C.2.1 hd) hr, hrun, hended, _, _, rfl, ⟨N, ?_⟩, ?_, hW1, hW2, hW3, hW4.mono (Nat.le_trans hk hc) (Nat.le_trans hn hs)⟩
  · show Q _ T.heap
    rw [eT]; exact hQ
  · show CHr Z EL s.vm s.heap T.vm T.heap
    rw [eT]; exact hA

theorem s_callS1 (C : Cx p s m meth c Z own bytes maxL ret nm) {y : MethodName} {i : Nat} {argsL : List Value} {bytesY : ByteArray} {maxY : Nat} {retY : Option FieldType} {rm : Room} {Qy : Option Value → Heap → Prop} (w1 : (Jvm.Cond.methodLink own i y).before a0 Z = true) (w2 : (Jvm.Cond.static y).before a0 Z = true) (wz : (Jvm.Cond.initialized y.cls).before a0 Z = true) (wc : (Jvm.Cond.code y bytesY maxY retY).before a0 Z = true)
    (hy : y.cls ≠ "java/lang/invoke/MethodHandle" ∧ y.cls ≠ "java/lang/invoke/VarHandle") (ct : Ct [] l Z n0 y bytesY maxY retY rm argsL.toArray h Qy) {S' : List Value} (hS : S' = argsL.reverse ++ S) (hlen : ∀ sig, parseMethodDescriptor y.desc = some sig → argsL.length = sig.parameters.length) (hL : L.size = maxL) (hf : rm.frames + 1 ≤ R.frames) {W : Nat} (hW : (S.map fun v => v.category).sum ≤ W) (hlo : W + (maxY + 11) + rm.locals ≤ R.locals) {cells' slots' : Nat} (hc1 : cells + rm.cells = cells') (hs1 : slots + rm.slots = slots') (hc : cells' ≤ R.cells) (hl : slots' ≤ R.slots) {wl : List Addr} (hKp : ∀ v h', Qy v h' → Keep h h' wl) (hSf : ∀ x ∈ wl, SfOk Z h mk sf x)
    (hd : decode bytes pc = .ok (.invokestatic i, 3)) (hq : pc + 3 = q) (K : ∀ v h', Qy v h' → AtS p l e R s m args below meth c Z EL own n0 Q mk sf h' cells' slots' (mkF m q L (v.toList ++ S))) : AtS p l e R s m args below meth c Z EL own n0 Q mk sf h cells slots (mkF m pc L S') := by
  subst hq hc1 hs1
  intro T locs k n' vm0 k0 X hk hn' eT N hZ hown hS0 hk0 hC hB hF
  obtain ⟨v, _, ⟨T', L', k', n''⟩, -, X', ⟨Lc, hQ, hl', hc', hs'⟩, st⟩ := Jvm.LawKit.callS X C.1 (y := y) hown (mvT (s := s.setVm vm0) hZ w1) (mvT (s := s.setVm vm0) hZ w2) (mvT (s := s.setVm vm0) hZ wz) (mvT (s := s.setVm vm0) hZ wc) hy (backOf (s := s.setVm vm0) (W := W) (Q := fun v h L => Fr n0 L ∧ Qy v h) ct hZ wc wz hf hlo) (g := mkF m pc L S') rfl (hL.trans C.2.2.1.symm) (argsL := argsL) (rest := S) hlen hS (by show 2 * 0 + _ ≤ _; omega) (hb C.2.1 hd) (fun _ _ => ⟨rfl, eT, (by show k + _ ≤ _; omega), (by show n' + _ ≤ _; omega)⟩)
  dsimp only [Pt.U, Pt.locs, Pt.cells, Pt.slots] at X' hl' hc' hs' st hQ
  subst hl' hc' hs'
  have hKp' := hKp v T'.heap hQ.2
  have hsafe : ∀ x ∈ wl, Safe Z EL vm0 h x := fun x hx => (hSf x hx).safe hZ.alike hB hF
  obtain ⟨H', hB'⟩ := hC.1.keepStep hKp' hsafe
  obtain ⟨t, o, r1, r⟩ := K v T'.heap hQ.2 T' _ _ _ vm0 k0 X' (by omega) (by omega) rfl (Fr.app N hQ.1) hZ hown hS0 (Nat.le_trans hk0 hKp'.1) (hC.trans (CHr.keep hKp' hsafe hC.1)) (fun y hy => hB y (hB' y hy)) (fun x hx => ⟨Nat.lt_of_lt_of_le (hF x hx).1 hKp'.1, (hF x hx).2.keep hKp' hsafe hC.1⟩)
  exact ⟨t, o, st _ r1, r⟩
theorem s_callI1 (C : Cx p s m meth c Z own bytes maxL ret nm) {y : MethodName} {i : Nat} {a : Addr} {argsL : List Value} {bytesY : ByteArray} {maxY : Nat} {rm : Room} {Qy : Option Value → Heap → Prop} (hnm : y.name = "<init>") (w1 : (Jvm.Cond.methodLink own i y).before a0 Z = true) (w2 : (Jvm.Cond.instanceMethod y).before a0 Z = true) (wz : (Jvm.Cond.initialized y.cls).before a0 Z = true) (wc : (Jvm.Cond.code y bytesY maxY none).before a0 Z = true)
    (hy : y.cls ≠ "java/lang/invoke/MethodHandle" ∧ y.cls ≠ "java/lang/invoke/VarHandle") (ct : Ct [] l Z n0 y bytesY maxY none rm (.ref a :: argsL).toArray h Qy) {S' : List Value} (hS : S' = argsL.reverse ++ .ref a :: S) (hlen : ∀ sig, parseMethodDescriptor y.desc = some sig → argsL.length = sig.parameters.length) (hL : L.size = maxL) (hf : rm.frames + 1 ≤ R.frames) {W : Nat} (hW : (S.map fun v => v.category).sum ≤ W) (hlo : W + (maxY + 11) + rm.locals ≤ R.locals) {cells' slots' : Nat} (hc1 : cells + rm.cells = cells') (hs1 : slots + rm.slots = slots') (hc : cells' ≤ R.cells) (hl : slots' ≤ R.slots) {wl : List Addr} (hKp : ∀ v h', Qy v h' → Keep h h' wl) (hSf : ∀ x ∈ wl, SfOk Z h mk sf x)
    (hd : decode bytes pc = .ok (.invokespecial i, 3)) (hq : pc + 3 = q) (K : ∀ v h', Qy v h' → AtS p l e R s m args below meth c Z EL own n0 Q mk sf h' cells' slots' (mkF m q L (v.toList ++ S))) : AtS p l e R s m args below meth c Z EL own n0 Q mk sf h cells slots (mkF m pc L S') := by
  subst hq hc1 hs1
  intro T locs k n' vm0 k0 X hk hn' eT N hZ hown hS0 hk0 hC hB hF
  obtain ⟨v, _, ⟨T', L', k', n''⟩, -, X', ⟨Lc, hQ, hl', hc', hs'⟩, st⟩ := X.specialBack C.1 (y := y) hnm hown (mvT (s := s.setVm vm0) hZ w1) (mvT (s := s.setVm vm0) hZ w2) (mvT (s := s.setVm vm0) hZ wc) hy (backOf (s := s.setVm vm0) (W := W) (Q := fun v h L => Fr n0 L ∧ Qy v h) ct hZ wc wz hf hlo) (g := mkF m pc L S') rfl (hL.trans C.2.2.1.symm) (Steps.refl _) (a := a) (argsL := argsL) (rest := S) hlen hS (by show 2 * 0 + _ ≤ _; omega) (hb C.2.1 hd) (fun _ _ => ⟨rfl, eT, (by show k + _ ≤ _; omega), (by show n' + _ ≤ _; omega)⟩)
  dsimp only [Pt.U, Pt.locs, Pt.cells, Pt.slots] at X' hl' hc' hs' st hQ
  subst hl' hc' hs'
  have hKp' := hKp v T'.heap hQ.2
  have hsafe : ∀ x ∈ wl, Safe Z EL vm0 h x := fun x hx => (hSf x hx).safe hZ.alike hB hF
  obtain ⟨H', hB'⟩ := hC.1.keepStep hKp' hsafe
  obtain ⟨t, o, r1, r⟩ := K v T'.heap hQ.2 T' _ _ _ vm0 k0 X' (by omega) (by omega) rfl (Fr.app N hQ.1) hZ hown hS0 (Nat.le_trans hk0 hKp'.1) (hC.trans (CHr.keep hKp' hsafe hC.1)) (fun y hy => hB y (hB' y hy)) (fun x hx => ⟨Nat.lt_of_lt_of_le (hF x hx).1 hKp'.1, (hF x hx).2.keep hKp' hsafe hC.1⟩)
  exact ⟨t, o, st.trans r1, r⟩
theorem s_callV1 (C : Cx p s m meth c Z own bytes maxL ret nm) {y z : MethodName} {Cl : String} {i : Nat} {a : Addr} {argsL : List Value} {bytesY : ByteArray} {maxY : Nat} {retY : Option FieldType} {rm : Room} {Qy : Option Value → Heap → Prop} (E : Exa Z h a Cl) (w1 : (Jvm.Cond.methodLink own i y).before a0 Z = true) (w2 : (Jvm.Cond.declares y).before a0 Z = true) (hnf : ∀ vm0, Z.Warmed39 vm0 → NotFace (s.setVm vm0) y) (w3 : (Jvm.Cond.selects Cl y z).before a0 Z = true) (w4 : (Jvm.Cond.instanceMethod z).before a0 Z = true) (wz : (Jvm.Cond.initialized z.cls).before a0 Z = true) (wc : (Jvm.Cond.code z bytesY maxY retY).before a0 Z = true)
    (hy : y.cls ≠ "java/lang/invoke/MethodHandle" ∧ y.cls ≠ "java/lang/invoke/VarHandle") (ct : Ct [] l Z n0 z bytesY maxY retY rm (.ref a :: argsL).toArray h Qy) {S' : List Value} (hS : S' = argsL.reverse ++ .ref a :: S) (hlen : ∀ sig, parseMethodDescriptor y.desc = some sig → argsL.length = sig.parameters.length) (hL : L.size = maxL) (hf : rm.frames + 1 ≤ R.frames) {W : Nat} (hW : (S.map fun v => v.category).sum ≤ W) (hlo : W + (maxY + 11) + rm.locals ≤ R.locals) {cells' slots' : Nat} (hc1 : cells + rm.cells = cells') (hs1 : slots + rm.slots = slots') (hc : cells' ≤ R.cells) (hl : slots' ≤ R.slots) {wl : List Addr} (hKp : ∀ v h', Qy v h' → Keep h h' wl) (hSf : ∀ x ∈ wl, SfOk Z h mk sf x)
    (hd : decode bytes pc = .ok (.invokevirtual i, 3)) (hq : pc + 3 = q) (K : ∀ v h', Qy v h' → AtS p l e R s m args below meth c Z EL own n0 Q mk sf h' cells' slots' (mkF m q L (v.toList ++ S))) : AtS p l e R s m args below meth c Z EL own n0 Q mk sf h cells slots (mkF m pc L S') := by
  subst hq hc1 hs1
  intro T locs k n' vm0 k0 X hk hn' eT N hZ hown hS0 hk0 hC hB hF
  obtain ⟨cB, kB, q1, q2, q3⟩ := isOf (s := s.setVm vm0) hZ eT E
  obtain ⟨v, _, ⟨T', L', k', n''⟩, -, X', ⟨Lc, hQ, hl', hc', hs'⟩, st⟩ := X.virtualBack C.1 (y := y) (z := z) hown (mvT (s := s.setVm vm0) hZ w1) (mvT (s := s.setVm vm0) hZ w2) (hnf vm0 hZ) (mvT (s := s.setVm vm0) hZ w3) (mvT (s := s.setVm vm0) hZ w4) hy (backOf (s := s.setVm vm0) (W := W) (Q := fun v h L => Fr n0 L ∧ Qy v h) ct hZ wc wz hf hlo) q1 q3 (g := mkF m pc L S') rfl (hL.trans C.2.2.1.symm) (Steps.refl _) (argsL := argsL) (rest := S) hlen hS (by show 2 * 0 + _ ≤ _; omega) (hb C.2.1 hd) (fun _ _ => ⟨rfl, eT, (by show k + _ ≤ _; omega), (by show n' + _ ≤ _; omega)⟩)
  dsimp only [Pt.U, Pt.locs, Pt.cells, Pt.slots] at X' hl' hc' hs' st hQ
  subst hl' hc' hs'
  have hKp' := hKp v T'.heap hQ.2
  have hsafe : ∀ x ∈ wl, Safe Z EL vm0 h x := fun x hx => (hSf x hx).safe hZ.alike hB hF
  obtain ⟨H', hB'⟩ := hC.1.keepStep hKp' hsafe
  obtain ⟨t, o, r1, r⟩ := K v T'.heap hQ.2 T' _ _ _ vm0 k0 X' (by omega) (by omega) rfl (Fr.app N hQ.1) hZ hown hS0 (Nat.le_trans hk0 hKp'.1) (hC.trans (CHr.keep hKp' hsafe hC.1)) (fun y hy => hB y (hB' y hy)) (fun x hx => ⟨Nat.lt_of_lt_of_le (hF x hx).1 hKp'.1, (hF x hx).2.keep hKp' hsafe hC.1⟩)
  exact ⟨t, o, st.trans r1, r⟩
theorem s_callP1 (C : Cx p s m meth c Z own bytes maxL ret nm) {y : MethodName} {Cl : String} {i : Nat} {a : Addr} {argsL : List Value} {bytesY : ByteArray} {maxY : Nat} {retY : Option FieldType} {rm : Room} {Qy : Option Value → Heap → Prop} (E : Exa Z h a Cl) (w1 : (Jvm.Cond.methodLink own i y).before a0 Z = true) (w4 : (Jvm.Cond.instanceMethod y).before a0 Z = true) (hni : ∀ vm0, Z.Warmed39 vm0 → NI (s.setVm vm0) y.cls) (w5 : (Jvm.Cond.privateMethod y).before a0 Z = true) (wz : (Jvm.Cond.initialized y.cls).before a0 Z = true) (wc : (Jvm.Cond.code y bytesY maxY retY).before a0 Z = true)
    (hy : y.cls ≠ "java/lang/invoke/MethodHandle" ∧ y.cls ≠ "java/lang/invoke/VarHandle") (ct : Ct [] l Z n0 y bytesY maxY retY rm (.ref a :: argsL).toArray h Qy) {S' : List Value} (hS : S' = argsL.reverse ++ .ref a :: S) (hlen : ∀ sig, parseMethodDescriptor y.desc = some sig → argsL.length = sig.parameters.length) (hL : L.size = maxL) (hf : rm.frames + 1 ≤ R.frames) {W : Nat} (hW : (S.map fun v => v.category).sum ≤ W) (hlo : W + (maxY + 11) + rm.locals ≤ R.locals) {cells' slots' : Nat} (hc1 : cells + rm.cells = cells') (hs1 : slots + rm.slots = slots') (hc : cells' ≤ R.cells) (hl : slots' ≤ R.slots) {wl : List Addr} (hKp : ∀ v h', Qy v h' → Keep h h' wl) (hSf : ∀ x ∈ wl, SfOk Z h mk sf x)
    (hd : decode bytes pc = .ok (.invokevirtual i, 3)) (hq : pc + 3 = q) (K : ∀ v h', Qy v h' → AtS p l e R s m args below meth c Z EL own n0 Q mk sf h' cells' slots' (mkF m q L (v.toList ++ S))) : AtS p l e R s m args below meth c Z EL own n0 Q mk sf h cells slots (mkF m pc L S') := by
  subst hq hc1 hs1
  intro T locs k n' vm0 k0 X hk hn' eT N hZ hown hS0 hk0 hC hB hF
  obtain ⟨cq, q1, q2⟩ := E.cell
  obtain ⟨cN, kN, n1, n2, n3⟩ := hni vm0 hZ
  have hpv := Cond.privateMethod_at (mvP (s := s.setVm vm0) hZ w5 (args := #[]))
  obtain ⟨v, _, ⟨T', L', k', n''⟩, -, X', ⟨Lc, hQ, hl', hc', hs'⟩, st⟩ := X.privateBack C.1 (y := y) hown (mvT (s := s.setVm vm0) hZ w1) (mvT (s := s.setVm vm0) hZ w4) (selects_self_of_private n1 n2 n3 hpv (mvT (s := s.setVm vm0) hZ w4) hy) hpv (mvT (s := s.setVm vm0) hZ wc) hy (backOf (s := s.setVm vm0) (W := W) (Q := fun v h L => Fr n0 L ∧ Qy v h) ct hZ wc wz hf hlo) (g := mkF m pc L S') rfl (hL.trans C.2.2.1.symm) (Steps.refl _) (a := a) (by rw [eT]; exact q1) q2 (argsL := argsL) (rest := S) hlen hS (by show 2 * 0 + _ ≤ _; omega) (hb C.2.1 hd) (fun _ _ => ⟨rfl, eT, (by show k + _ ≤ _; omega), (by show n' + _ ≤ _; omega)⟩)
  dsimp only [Pt.U, Pt.locs, Pt.cells, Pt.slots] at X' hl' hc' hs' st hQ
  subst hl' hc' hs'
  have hKp' := hKp v T'.heap hQ.2
  have hsafe : ∀ x ∈ wl, Safe Z EL vm0 h x := fun x hx => (hSf x hx).safe hZ.alike hB hF
  obtain ⟨H', hB'⟩ := hC.1.keepStep hKp' hsafe
  obtain ⟨t, o, r1, r⟩ := K v T'.heap hQ.2 T' _ _ _ vm0 k0 X' (by omega) (by omega) rfl (Fr.app N hQ.1) hZ hown hS0 (Nat.le_trans hk0 hKp'.1) (hC.trans (CHr.keep hKp' hsafe hC.1)) (fun y hy => hB y (hB' y hy)) (fun x hx => ⟨Nat.lt_of_lt_of_le (hF x hx).1 hKp'.1, (hF x hx).2.keep hKp' hsafe hC.1⟩)
  exact ⟨t, o, st.trans r1, r⟩
theorem s_callS2 (C : Cx p s m meth c Z own bytes maxL ret nm) (hEL : EW Z a0 EL) {y : MethodName} {i : Nat} {argsL : List Value} {bytesY : ByteArray} {maxY : Nat} {retY : Option FieldType} {rm : Room} {Qy : Option Value → Heap → Prop} (w1 : (Jvm.Cond.methodLink own i y).before a0 Z = true) (w2 : (Jvm.Cond.static y).before a0 Z = true) (wz : (Jvm.Cond.initialized y.cls).before a0 Z = true) (wc : (Jvm.Cond.code y bytesY maxY retY).before a0 Z = true)
    (hy : y.cls ≠ "java/lang/invoke/MethodHandle" ∧ y.cls ≠ "java/lang/invoke/VarHandle") (ct : Cs [] l Z EL n0 y bytesY maxY retY rm argsL.toArray h Qy) {S' : List Value} (hS : S' = argsL.reverse ++ S) (hlen : ∀ sig, parseMethodDescriptor y.desc = some sig → argsL.length = sig.parameters.length) (hL : L.size = maxL) (hf : rm.frames + 1 ≤ R.frames) {W : Nat} (hW : (S.map fun v => v.category).sum ≤ W) (hlo : W + (maxY + 11) + rm.locals ≤ R.locals) {cells' slots' : Nat} (hc1 : cells + rm.cells = cells') (hs1 : slots + rm.slots = slots') (hc : cells' ≤ R.cells) (hl : slots' ≤ R.slots) 
    (hd : decode bytes pc = .ok (.invokestatic i, 3)) (hq : pc + 3 = q) (K : ∀ v h', Qy v h' → AtS p l e R s m args below meth c Z EL own n0 Q h'.size sf h' cells' slots' (mkF m q L (v.toList ++ S))) : AtS p l e R s m args below meth c Z EL own n0 Q mk sf h cells slots (mkF m pc L S') := by
  subst hq hc1 hs1
  intro T locs k n' vm0 k0 X hk hn' eT N hZ hown hS0 hk0 hC hB hF
  obtain ⟨v, _, ⟨T', L', k', n''⟩, -, X', hSn, hgr, ⟨Lc, hQ, hl', hc', hs', hCr⟩, st⟩ := callSS X C.1 (y := y) hown (mvT (s := s.setVm vm0) hZ w1) (mvT (s := s.setVm vm0) hZ w2) (mvT (s := s.setVm vm0) hZ wz) (mvT (s := s.setVm vm0) hZ wc) hy (backOfSH (W := W) (Q := fun v h L => Fr n0 L ∧ Qy v h) ct hZ wc wz hf hlo hEL hC.1) (g := mkF m pc L S') rfl (hL.trans C.2.2.1.symm) (argsL := argsL) (rest := S) hlen hS (by show 2 * 0 + _ ≤ _; omega) (hb C.2.1 hd) (fun _ _ => ⟨rfl, eT, (by show k + _ ≤ _; omega), (by show n' + _ ≤ _; omega)⟩)
  dsimp only [Pt.U, Pt.locs, Pt.cells, Pt.slots] at X' hSn hgr hl' hc' hs' st hQ hCr
  subst hl' hc' hs'
  rw [eT] at hgr
  obtain ⟨X2, hS2, hZ2, hown2⟩ := rebS hS0 hk0 X' hSn hgr (show Z.Warmed39 (s.setVm vm0).vm from hZ) hown
  obtain ⟨t, o, r1, r⟩ := K v T'.heap hQ.2 T' _ _ _ T'.vm T'.heap.size X2 (by omega) (by omega) rfl (Fr.app N hQ.1) hZ2 hown2 hS2 (Nat.le_refl _) (hC.trans hCr) (fun y hy => bk_lt hy) (fun x hx => ⟨Nat.lt_of_lt_of_le (hF x hx).1 hgr, hCr.safe (hF x hx).1 (hF x hx).2⟩)
  exact ⟨t, o, st.trans r1, r⟩
theorem s_callI2 (C : Cx p s m meth c Z own bytes maxL ret nm) (hEL : EW Z a0 EL) {y : MethodName} {i : Nat} {a : Addr} {argsL : List Value} {bytesY : ByteArray} {maxY : Nat} {rm : Room} {Qy : Option Value → Heap → Prop} (hnm : y.name = "<init>") (w1 : (Jvm.Cond.methodLink own i y).before a0 Z = true) (w2 : (Jvm.Cond.instanceMethod y).before a0 Z = true) (wz : (Jvm.Cond.initialized y.cls).before a0 Z = true) (wc : (Jvm.Cond.code y bytesY maxY none).before a0 Z = true)
    (hy : y.cls ≠ "java/lang/invoke/MethodHandle" ∧ y.cls ≠ "java/lang/invoke/VarHandle") (ct : Cs [] l Z EL n0 y bytesY maxY none rm (.ref a :: argsL).toArray h Qy) {S' : List Value} (hS : S' = argsL.reverse ++ .ref a :: S) (hlen : ∀ sig, parseMethodDescriptor y.desc = some sig → argsL.length = sig.parameters.length) (hL : L.size = maxL) (hf : rm.frames + 1 ≤ R.frames) {W : Nat} (hW : (S.map fun v => v.category).sum ≤ W) (hlo : W + (maxY + 11) + rm.locals ≤ R.locals) {cells' slots' : Nat} (hc1 : cells + rm.cells = cells') (hs1 : slots + rm.slots = slots') (hc : cells' ≤ R.cells) (hl : slots' ≤ R.slots) 
    (hd : decode bytes pc = .ok (.invokespecial i, 3)) (hq : pc + 3 = q) (K : ∀ v h', Qy v h' → AtS p l e R s m args below meth c Z EL own n0 Q h'.size sf h' cells' slots' (mkF m q L (v.toList ++ S))) : AtS p l e R s m args below meth c Z EL own n0 Q mk sf h cells slots (mkF m pc L S') := by
  subst hq hc1 hs1
  intro T locs k n' vm0 k0 X hk hn' eT N hZ hown hS0 hk0 hC hB hF
  obtain ⟨v, _, ⟨T', L', k', n''⟩, -, X', hSn, hgr, ⟨Lc, hQ, hl', hc', hs', hCr⟩, st⟩ := X.specialBackS C.1 (y := y) hnm hown (mvT (s := s.setVm vm0) hZ w1) (mvT (s := s.setVm vm0) hZ w2) (mvT (s := s.setVm vm0) hZ wc) hy (backOfSH (W := W) (Q := fun v h L => Fr n0 L ∧ Qy v h) ct hZ wc wz hf hlo hEL hC.1) (g := mkF m pc L S') rfl (hL.trans C.2.2.1.symm) (Steps.refl _) (a := a) (argsL := argsL) (rest := S) hlen hS (by show 2 * 0 + _ ≤ _; omega) (hb C.2.1 hd) (fun _ _ => ⟨rfl, eT, (by show k + _ ≤ _; omega), (by show n' + _ ≤ _; omega)⟩)
  dsimp only [Pt.U, Pt.locs, Pt.cells, Pt.slots] at X' hSn hgr hl' hc' hs' st hQ hCr
  subst hl' hc' hs'
  rw [eT] at hgr
  obtain ⟨X2, hS2, hZ2, hown2⟩ := rebS hS0 hk0 X' hSn hgr (show Z.Warmed39 (s.setVm vm0).vm from hZ) hown
  obtain ⟨t, o, r1, r⟩ := K v T'.heap hQ.2 T' _ _ _ T'.vm T'.heap.size X2 (by omega) (by omega) rfl (Fr.app N hQ.1) hZ2 hown2 hS2 (Nat.le_refl _) (hC.trans hCr) (fun y hy => bk_lt hy) (fun x hx => ⟨Nat.lt_of_lt_of_le (hF x hx).1 hgr, hCr.safe (hF x hx).1 (hF x hx).2⟩)
  exact ⟨t, o, st.trans r1, r⟩
theorem s_callV2 (C : Cx p s m meth c Z own bytes maxL ret nm) (hEL : EW Z a0 EL) {y z : MethodName} {Cl : String} {i : Nat} {a : Addr} {argsL : List Value} {bytesY : ByteArray} {maxY : Nat} {retY : Option FieldType} {rm : Room} {Qy : Option Value → Heap → Prop} (E : Exa Z h a Cl) (w1 : (Jvm.Cond.methodLink own i y).before a0 Z = true) (w2 : (Jvm.Cond.declares y).before a0 Z = true) (hnf : ∀ vm0, Z.Warmed39 vm0 → NotFace (s.setVm vm0) y) (w3 : (Jvm.Cond.selects Cl y z).before a0 Z = true) (w4 : (Jvm.Cond.instanceMethod z).before a0 Z = true) (wz : (Jvm.Cond.initialized z.cls).before a0 Z = true) (wc : (Jvm.Cond.code z bytesY maxY retY).before a0 Z = true)
    (hy : y.cls ≠ "java/lang/invoke/MethodHandle" ∧ y.cls ≠ "java/lang/invoke/VarHandle") (ct : Cs [] l Z EL n0 z bytesY maxY retY rm (.ref a :: argsL).toArray h Qy) {S' : List Value} (hS : S' = argsL.reverse ++ .ref a :: S) (hlen : ∀ sig, parseMethodDescriptor y.desc = some sig → argsL.length = sig.parameters.length) (hL : L.size = maxL) (hf : rm.frames + 1 ≤ R.frames) {W : Nat} (hW : (S.map fun v => v.category).sum ≤ W) (hlo : W + (maxY + 11) + rm.locals ≤ R.locals) {cells' slots' : Nat} (hc1 : cells + rm.cells = cells') (hs1 : slots + rm.slots = slots') (hc : cells' ≤ R.cells) (hl : slots' ≤ R.slots) 
    (hd : decode bytes pc = .ok (.invokevirtual i, 3)) (hq : pc + 3 = q) (K : ∀ v h', Qy v h' → AtS p l e R s m args below meth c Z EL own n0 Q h'.size sf h' cells' slots' (mkF m q L (v.toList ++ S))) : AtS p l e R s m args below meth c Z EL own n0 Q mk sf h cells slots (mkF m pc L S') := by
  subst hq hc1 hs1
  intro T locs k n' vm0 k0 X hk hn' eT N hZ hown hS0 hk0 hC hB hF
  obtain ⟨cB, kB, q1, q2, q3⟩ := isOf (s := s.setVm vm0) hZ eT E
  obtain ⟨v, _, ⟨T', L', k', n''⟩, -, X', hSn, hgr, ⟨Lc, hQ, hl', hc', hs', hCr⟩, st⟩ := X.virtualBackS C.1 (y := y) (z := z) hown (mvT (s := s.setVm vm0) hZ w1) (mvT (s := s.setVm vm0) hZ w2) (hnf vm0 hZ) (mvT (s := s.setVm vm0) hZ w3) (mvT (s := s.setVm vm0) hZ w4) hy (backOfSH (W := W) (Q := fun v h L => Fr n0 L ∧ Qy v h) ct hZ wc wz hf hlo hEL hC.1) q1 q3 (g := mkF m pc L S') rfl (hL.trans C.2.2.1.symm) (Steps.refl _) (argsL := argsL) (rest := S) hlen hS (by show 2 * 0 + _ ≤ _; omega) (hb C.2.1 hd) (fun _ _ => ⟨rfl, eT, (by show k + _ ≤ _; omega), (by show n' + _ ≤ _; omega)⟩)
  dsimp only [Pt.U, Pt.locs, Pt.cells, Pt.slots] at X' hSn hgr hl' hc' hs' st hQ hCr
  subst hl' hc' hs'
  rw [eT] at hgr
  obtain ⟨X2, hS2, hZ2, hown2⟩ := rebS hS0 hk0 X' hSn hgr (show Z.Warmed39 (s.setVm vm0).vm from hZ) hown
  obtain ⟨t, o, r1, r⟩ := K v T'.heap hQ.2 T' _ _ _ T'.vm T'.heap.size X2 (by omega) (by omega) rfl (Fr.app N hQ.1) hZ2 hown2 hS2 (Nat.le_refl _) (hC.trans hCr) (fun y hy => bk_lt hy) (fun x hx => ⟨Nat.lt_of_lt_of_le (hF x hx).1 hgr, hCr.safe (hF x hx).1 (hF x hx).2⟩)
  exact ⟨t, o, st.trans r1, r⟩
theorem s_callP2 (C : Cx p s m meth c Z own bytes maxL ret nm) (hEL : EW Z a0 EL) {y : MethodName} {Cl : String} {i : Nat} {a : Addr} {argsL : List Value} {bytesY : ByteArray} {maxY : Nat} {retY : Option FieldType} {rm : Room} {Qy : Option Value → Heap → Prop} (E : Exa Z h a Cl) (w1 : (Jvm.Cond.methodLink own i y).before a0 Z = true) (w4 : (Jvm.Cond.instanceMethod y).before a0 Z = true) (hni : ∀ vm0, Z.Warmed39 vm0 → NI (s.setVm vm0) y.cls) (w5 : (Jvm.Cond.privateMethod y).before a0 Z = true) (wz : (Jvm.Cond.initialized y.cls).before a0 Z = true) (wc : (Jvm.Cond.code y bytesY maxY retY).before a0 Z = true)
    (hy : y.cls ≠ "java/lang/invoke/MethodHandle" ∧ y.cls ≠ "java/lang/invoke/VarHandle") (ct : Cs [] l Z EL n0 y bytesY maxY retY rm (.ref a :: argsL).toArray h Qy) {S' : List Value} (hS : S' = argsL.reverse ++ .ref a :: S) (hlen : ∀ sig, parseMethodDescriptor y.desc = some sig → argsL.length = sig.parameters.length) (hL : L.size = maxL) (hf : rm.frames + 1 ≤ R.frames) {W : Nat} (hW : (S.map fun v => v.category).sum ≤ W) (hlo : W + (maxY + 11) + rm.locals ≤ R.locals) {cells' slots' : Nat} (hc1 : cells + rm.cells = cells') (hs1 : slots + rm.slots = slots') (hc : cells' ≤ R.cells) (hl : slots' ≤ R.slots) 
    (hd : decode bytes pc = .ok (.invokevirtual i, 3)) (hq : pc + 3 = q) (K : ∀ v h', Qy v h' → AtS p l e R s m args below meth c Z EL own n0 Q h'.size sf h' cells' slots' (mkF m q L (v.toList ++ S))) : AtS p l e R s m args below meth c Z EL own n0 Q mk sf h cells slots (mkF m pc L S') := by
  subst hq hc1 hs1
  intro T locs k n' vm0 k0 X hk hn' eT N hZ hown hS0 hk0 hC hB hF
  obtain ⟨cq, q1, q2⟩ := E.cell
  obtain ⟨cN, kN, n1, n2, n3⟩ := hni vm0 hZ
  have hpv := Cond.privateMethod_at (mvP (s := s.setVm vm0) hZ w5 (args := #[]))
  obtain ⟨v, _, ⟨T', L', k', n''⟩, -, X', hSn, hgr, ⟨Lc, hQ, hl', hc', hs', hCr⟩, st⟩ := X.privateBackS C.1 (y := y) hown (mvT (s := s.setVm vm0) hZ w1) (mvT (s := s.setVm vm0) hZ w4) (selects_self_of_private n1 n2 n3 hpv (mvT (s := s.setVm vm0) hZ w4) hy) hpv (mvT (s := s.setVm vm0) hZ wc) hy (backOfSH (W := W) (Q := fun v h L => Fr n0 L ∧ Qy v h) ct hZ wc wz hf hlo hEL hC.1) (g := mkF m pc L S') rfl (hL.trans C.2.2.1.symm) (Steps.refl _) (a := a) (by rw [eT]; exact q1) q2 (argsL := argsL) (rest := S) hlen hS (by show 2 * 0 + _ ≤ _; omega) (hb C.2.1 hd) (fun _ _ => ⟨rfl, eT, (by show k + _ ≤ _; omega), (by show n' + _ ≤ _; omega)⟩)
  dsimp only [Pt.U, Pt.locs, Pt.cells, Pt.slots] at X' hSn hgr hl' hc' hs' st hQ hCr
  subst hl' hc' hs'
  rw [eT] at hgr
  obtain ⟨X2, hS2, hZ2, hown2⟩ := rebS hS0 hk0 X' hSn hgr (show Z.Warmed39 (s.setVm vm0).vm from hZ) hown
  obtain ⟨t, o, r1, r⟩ := K v T'.heap hQ.2 T' _ _ _ T'.vm T'.heap.size X2 (by omega) (by omega) rfl (Fr.app N hQ.1) hZ2 hown2 hS2 (Nat.le_refl _) (hC.trans hCr) (fun y hy => bk_lt hy) (fun x hx => ⟨Nat.lt_of_lt_of_le (hF x hx).1 hgr, hCr.safe (hF x hx).1 (hF x hx).2⟩)
  exact ⟨t, o, st.trans r1, r⟩
theorem s_nf {y : MethodName} {Cl : String} (w3 : (Jvm.Cond.selects Cl y y).before a0 Z = true) : ∀ vm0, Z.Warmed39 vm0 → NotFace (s.setVm vm0) y := fun vm0 hZ => notFace_of_selects (args := #[]) (mvT (s := s.setVm vm0) hZ w3)
theorem s_nfs {y : MethodName} {Cl : String} (w3 : (Jvm.Cond.superclass y.cls Cl).before a0 Z = true) : ∀ vm0, Z.Warmed39 vm0 → NotFace (s.setVm vm0) y := fun vm0 hZ => nf_super (args := #[]) (mvT (s := s.setVm vm0) hZ w3)
/-- ldc of a String constant: what it spells -/
theorem s_ldc (C : Cx p s m meth c Z own bytes maxL ret nm) (hEL : EW Z a0 EL) (wS : ∀ a ∈ Bundle.stringAtoms, a.before a0 Z = true) {text : String} {i : Nat} (w : (Jvm.Cond.stringLink own i text).before a0 Z = true) (hmem : (own, i) ∈ EL) {vs : List Value} (ht : (∀ c ∈ text.toList, c.toNat < 256) ∧ text.toList.map (fun c => Value.int (Jvm.Lit.byteI c.toNat.toUInt16)) = vs) (hvl : vs.length < 2 ^ 31)
    {n : Nat} (hn1 : 4 * text.toList.length ≤ n) (hbig : n ≤ 536870912) {cells' slots' : Nat} (hc1 : cells + 2 = cells') (hs1 : slots + (n + 4) = slots') (hc : cells' ≤ R.cells) (hl : slots' ≤ R.slots)
    (hd : decode bytes pc = .ok (.ldc i, 2)) (hq : pc + 2 = q) (K : ∀ h' a b, Ext h h' → Exa Z h' a "java/lang/String" → Fld Z h' a "java/lang/String" "coder" "B" (.int 0) → Fld Z h' a "java/lang/String" "value" "[B" (.ref b) → Ar Z h' b .byte vs → (∀ x ∈ sf, x ≠ a ∧ x ≠ b) → AtS p l e R s m args below meth c Z EL own n0 Q h'.size sf h' cells' slots' (mkF m q L (.ref a :: S))) : AtS p l e R s m args below meth c Z EL own n0 Q mk sf h cells slots (mkF m pc L S) := by
  subst hq hc1 hs1
  intro T locs k n' vm0 k0 X hk hn' eT N hZ hown hS0 hk0 hC hB hF
  obtain ⟨a, T', h', k1, b, kc, X', e', E, hS1, hk1, hZ1, hown1, f1, f2, f3, f4, -, -, hCr, -, hne, st⟩ := ldcCH X C.1 hZ hown w wS eT hS0 hk0 hEL hmem hC.1 ht (ofNat_neg hvl) (ofNat_nat hvl) (g := mkF m pc L S) rfl (hb C.2.1 hd) hn1 hbig (by omega) (by omega)
  have hsf : ∀ x ∈ sf, x < h'.size ∧ Safe Z EL T'.vm h' x := fun x hx => ⟨Nat.lt_of_lt_of_le (hF x hx).1 E.1, hCr.safe (hF x hx).1 (hF x hx).2⟩
  obtain ⟨t, o, r1, r⟩ := K h' a b E f1 f2 f3 ⟨hvl, kc, f4⟩ (fun x hx => hne x (hsf x hx).2) T' _ _ _ T'.vm k1 X' (by omega) (by omega) e' N hZ1 hown1 hS1 hk1 (hC.trans hCr) (fun y hy => bk_lt hy) hsf
  exact ⟨t, o, st _ r1, r⟩
/-- ldc of a String constant of which nothing is said -/
theorem s_ldcO (C : Cx p s m meth c Z own bytes maxL ret nm) (hEL : EW Z a0 EL) (wS : ∀ a ∈ Bundle.stringAtoms, a.before a0 Z = true) {text : String} {i : Nat} (w : (Jvm.Cond.stringLink own i text).before a0 Z = true)
    {n : Nat} (hn1 : 4 * text.toList.length ≤ n) (hbig : n ≤ 536870912) {cells' slots' : Nat} (hc1 : cells + 2 = cells') (hs1 : slots + (n + 4) = slots') (hc : cells' ≤ R.cells) (hl : slots' ≤ R.slots)
    (hd : decode bytes pc = .ok (.ldc i, 2)) (hq : pc + 2 = q) (K : ∀ h' a, Ext h h' → AtS p l e R s m args below meth c Z EL own n0 Q h'.size sf h' cells' slots' (mkF m q L (.ref a :: S))) : AtS p l e R s m args below meth c Z EL own n0 Q mk sf h cells slots (mkF m pc L S) := by
  subst hq hc1 hs1
  intro T locs k n' vm0 k0 X hk hn' eT N hZ hown hS0 hk0 hC hB hF
  obtain ⟨a, T', h', k1, X', e', E, hS1, hk1, hZ1, hown1, hCr, -, st⟩ := ldcOH X C.1 hZ hown w wS eT hS0 hk0 hEL hC.1 (g := mkF m pc L S) rfl (hb C.2.1 hd) hn1 hbig (by omega) (by omega)
  have hsf : ∀ x ∈ sf, x < h'.size ∧ Safe Z EL T'.vm h' x := fun x hx => ⟨Nat.lt_of_lt_of_le (hF x hx).1 E.1, hCr.safe (hF x hx).1 (hF x hx).2⟩
  obtain ⟨t, o, r1, r⟩ := K h' a E T' _ _ _ T'.vm k1 X' (by omega) (by omega) e' N hZ1 hown1 hS1 hk1 (hC.trans hCr) (fun y hy => bk_lt hy) hsf
  exact ⟨t, o, st _ r1, r⟩
end WkS
-- CUT
def own_ones : List Value := (List.range 100).map fun k => .int (Int32.ofNat (48 + k % 10))
def own_tens : List Value := (List.range 100).map fun k => .int (Int32.ofNat (48 + k / 10))
theorem own_ones_get {k : Nat} (h : k < 100) : own_ones[k]? = some (.int (Int32.ofNat (48 + k % 10))) := by simp [own_ones, h]
theorem own_tens_get {k : Nat} (h : k < 100) : own_tens[k]? = some (.int (Int32.ofNat (48 + k / 10))) := by simp [own_tens, h]
theorem own_arrB {s : State} {args : Array Value} {x : Addr} (wa : (Jvm.Cond.arrayClass .byte).before args s = true) (X : Exa s s.heap x "[B") {c : Cell} (hc : s.arrayAt? x = some c) : Arr s s.heap x c .byte := by
  obtain ⟨cell, k, h1, h2, h3, h4, -⟩ := X
  obtain ⟨cA, kA, comp, hf, hk, hkind⟩ := Cond.arrayClass_spec wa
  have hf' : s.vm.findClass "[B" = some cA := hf
  cases hf'.symm.trans h2
  cases h3.symm.trans hk
  simp only [State.arrayAt?, h1, Option.bind_eq_bind, Option.bind_some, h3, hkind] at hc
  split at hc
  · cases hc
  · rename_i q
    obtain rfl := Option.some.inj hc
    exact ⟨h1, ⟨fun q2 e2 => (by rw [e2] at h4; cases h4), _, h3, comp, hkind⟩, fun q2 => q (Or.inl q2)⟩
theorem own_tabB {s : State} {args : Array Value} {x : Addr} {t f : Jvm.Term} (wa : (Jvm.Cond.arrayClass .byte).before args s = true) (X : Exa s s.heap x "[B") (e : ∀ idx, t.eval args s none idx s = some (.ref x)) (hl : (Jvm.Cond.eq (Jvm.Term.length t) (Jvm.Term.int (100 : Int32))).value args s none s [] = some true) (ha : (Jvm.Cond.all t (Jvm.Cond.eq (Jvm.Term.elem t (Jvm.Term.index 0)) f)).value args s none s [] = some true) (g : Nat → Int32) (hg : ∀ i, i < 100 → f.eval args s none [i] s = some (.int (g i)) ∧ fits .byte (.int (g i)) = true) : Ar s s.heap x .byte ((List.range 100).map fun k => .int (g k)) := by
  have hlen := Cond.eq_int (Cond.before_iff.mpr hl) rfl
  obtain ⟨c, hc⟩ : ∃ c, s.arrayAt? x = some c := by
    cases h : s.arrayAt? x with
    | none => simp [Term.eval, e, h] at hlen
    | some c => exact ⟨c, rfl⟩
  have A := own_arrB wa X hc
  have h31 := SBG.length_lt (e []) hc hlen
  have hsz : c.slots.size = 100 := by
    have e2 := len_f (e []) hc h31
    have e3 : c.slots.size.toInt32 = (100 : Int32) := by simpa using Option.some.inj (e2.symm.trans hlen)
    have := congrArg Int32.toInt e3
    rw [len_toInt h31] at this
    have e4 : (100 : Int32).toInt = 100 := rfl
    omega
  have hall := Cond.all_elim (e []) hc ha
  have hget : ∀ i, i < 100 → c.slots[i]? = some (.int (g i)) := fun i hi => by
    have h1 := hall i (by rw [hsz]; exact hi)
    have e1 := Cond.eq_int (show (Jvm.Cond.eq (Jvm.Term.elem t (Jvm.Term.index 0)) f).holds args s none s [i] = true by simp [Cond.holds, h1]) (hg i hi).1
    have e2 := elem_in e1 (e [i]) (show (Jvm.Term.index 0).eval args s none [i] s = some (.int (Int32.ofNat i)) from rfl) A.1
    rw [ofNat_nat (by omega)] at e2
    exact e2.2
  refine ⟨by simp, c.cls, c, A, rfl, ?_, ?_, ?_, ?_⟩
  · simp [hsz]
  · simp
  · intro k hk
    rw [hsz] at hk
    rw [hget k hk]
    simp [List.getD, hk]
  · intro k hk
    rw [hsz] at hk
    simpa [List.getD, hk] using (hg k hk).2
theorem own_r10 : ∀ k : Fin 100, (48 + Int32.ofNat k.val % 10 : Int32) = Int32.ofNat (48 + k.val % 10) ∧ (48 + Int32.ofNat k.val / 10 : Int32) = Int32.ofNat (48 + k.val / 10) ∧ fits .byte (.int (Int32.ofNat (48 + k.val % 10))) = true ∧ fits .byte (.int (Int32.ofNat (48 + k.val / 10))) = true := by decide +kernel
theorem own_tabd1 {s : State} {args : Array Value} {x : Addr} (wa : (Jvm.Cond.arrayClass .byte).before args s = true) (X : Exa s s.heap x "[B") (e : (Jvm.Term.static "java/lang/Integer" "DigitOnes" "[B").eval args s none [] s = some (.ref x)) (hl : (Jvm.Cond.eq (Jvm.Term.length (Jvm.Term.static "java/lang/Integer" "DigitOnes" "[B")) (Jvm.Term.int (100 : Int32))).value args s none s [] = some true) (ha : (Jvm.Cond.all (Jvm.Term.static "java/lang/Integer" "DigitOnes" "[B") (Jvm.Cond.eq (Jvm.Term.elem (Jvm.Term.static "java/lang/Integer" "DigitOnes" "[B") (Jvm.Term.index (0 : Nat))) (Jvm.Term.add (Jvm.Term.int (48 : Int32)) (Jvm.Term.rem (Jvm.Term.index (0 : Nat)) (Jvm.Term.int (10 : Int32)))))).value args s none s [] = some true) : Ar s s.heap x .byte own_ones :=
  own_tabB (t := Jvm.Term.static "java/lang/Integer" "DigitOnes" "[B") wa X (fun idx => e) hl ha (fun k => Int32.ofNat (48 + k % 10)) (fun i hi => ⟨by show some (Value.int (48 + Int32.ofNat i % 10)) = _; rw [(own_r10 ⟨i, hi⟩).1], (own_r10 ⟨i, hi⟩).2.2.1⟩)
theorem own_tabd2 {s : State} {args : Array Value} {x : Addr} (wa : (Jvm.Cond.arrayClass .byte).before args s = true) (X : Exa s s.heap x "[B") (e : (Jvm.Term.static "java/lang/Integer" "DigitTens" "[B").eval args s none [] s = some (.ref x)) (hl : (Jvm.Cond.eq (Jvm.Term.length (Jvm.Term.static "java/lang/Integer" "DigitTens" "[B")) (Jvm.Term.int (100 : Int32))).value args s none s [] = some true) (ha : (Jvm.Cond.all (Jvm.Term.static "java/lang/Integer" "DigitTens" "[B") (Jvm.Cond.eq (Jvm.Term.elem (Jvm.Term.static "java/lang/Integer" "DigitTens" "[B") (Jvm.Term.index (0 : Nat))) (Jvm.Term.add (Jvm.Term.int (48 : Int32)) (Jvm.Term.div (Jvm.Term.index (0 : Nat)) (Jvm.Term.int (10 : Int32)))))).value args s none s [] = some true) : Ar s s.heap x .byte own_tens :=
  own_tabB (t := Jvm.Term.static "java/lang/Integer" "DigitTens" "[B") wa X (fun idx => e) hl ha (fun k => Int32.ofNat (48 + k / 10)) (fun i hi => ⟨by show some (Value.int (48 + Int32.ofNat i / 10)) = _; rw [(own_r10 ⟨i, hi⟩).2.1], (own_r10 ⟨i, hi⟩).2.2.2⟩)

def Gl (Z : State) (a0 : Array Value) (n0 : Nat) : Prop := (∀ d ∈ tables_1, d.before a0 Z = true) ∧ (∃ z : Int32, Sta Z Z.heap "java/lang/String" "COMPACT_STRINGS" "Z" (.int z) ∧ ¬ z = 0) ∧ (∃ v : Value, Sta Z Z.heap "jdk/internal/util/Preconditions" "SIOOBE_FORMATTER" "Ljava/util/function/BiFunction;" v ∧ v.isRef = true ∧ v.category = 1) ∧ EW Z a0 consts_1 ∧ (∃ x : Addr, Sta Z Z.heap "java/lang/Integer" "DigitOnes" "[B" (.ref x) ∧ x < Z.heap.size ∧ Ar Z Z.heap x .byte own_ones) ∧ (∃ x : Addr, Sta Z Z.heap "java/lang/Integer" "DigitTens" "[B" (.ref x) ∧ x < Z.heap.size ∧ Ar Z Z.heap x .byte own_tens) ∧ True
theorem Gl.cs {Z : State} {a0 : Array Value} {n0 : Nat} (G : Gl Z a0 n0) : ∃ z : Int32, Sta Z Z.heap "java/lang/String" "COMPACT_STRINGS" "Z" (.int z) ∧ ¬ z = 0 := G.2.1
theorem Gl.fm {Z : State} {a0 : Array Value} {n0 : Nat} (G : Gl Z a0 n0) : ∃ v : Value, Sta Z Z.heap "jdk/internal/util/Preconditions" "SIOOBE_FORMATTER" "Ljava/util/function/BiFunction;" v ∧ v.isRef = true ∧ v.category = 1 := G.2.2.1
theorem Gl.el {Z : State} {a0 : Array Value} {n0 : Nat} (G : Gl Z a0 n0) : EW Z a0 consts_1 := G.2.2.2.1
theorem Gl.d1 {Z : State} {a0 : Array Value} {n0 : Nat} (G : Gl Z a0 n0) : ∃ x : Addr, Sta Z Z.heap "java/lang/Integer" "DigitOnes" "[B" (.ref x) ∧ x < Z.heap.size ∧ Ar Z Z.heap x .byte own_ones := G.2.2.2.2.1
theorem Gl.d2 {Z : State} {a0 : Array Value} {n0 : Nat} (G : Gl Z a0 n0) : ∃ x : Addr, Sta Z Z.heap "java/lang/Integer" "DigitTens" "[B" (.ref x) ∧ x < Z.heap.size ∧ Ar Z Z.heap x .byte own_tens := G.2.2.2.2.2.1
theorem own_sa : ∀ d ∈ Bundle.stringAtoms, d ∈ tables_1 := by decide +kernel
theorem Gl.sa {Z : State} {a0 : Array Value} {n0 : Nat} (G : Gl Z a0 n0) : ∀ d ∈ Bundle.stringAtoms, d.before a0 Z = true := fun d hd => G.1 d (own_sa d hd)
theorem pd_1 : parseMethodDescriptor "(I)C" = some ⟨[.int], some .char⟩ := by decide +kernel
theorem pd_2 : parseMethodDescriptor "([C)V" = some ⟨[(.array .char)], none⟩ := by decide +kernel
theorem pd_3 : parseMethodDescriptor "([CIILjava/lang/Void;)V" = some ⟨[(.array .char), .int, .int, (.object "java/lang/Void")], none⟩ := by decide +kernel
theorem pd_4 : parseMethodDescriptor "()V" = some ⟨[], none⟩ := by decide +kernel
theorem pd_5 : parseMethodDescriptor "([CII)[B" = some ⟨[(.array .char), .int, .int], some (.array .byte)⟩ := by decide +kernel
theorem pd_6 : parseMethodDescriptor "([CI[BII)I" = some ⟨[(.array .char), .int, (.array .byte), .int, .int], some .int⟩ := by decide +kernel
theorem pd_7 : parseMethodDescriptor "([BI)B" = some ⟨[(.array .byte), .int], some .byte⟩ := by decide +kernel
theorem pd_8 : parseMethodDescriptor "(Ljava/lang/String;)V" = some ⟨[(.object "java/lang/String")], none⟩ := by decide +kernel
theorem pd_9 : parseMethodDescriptor "(Ljava/lang/Object;Ljava/lang/String;)Ljava/lang/Object;" = some ⟨[(.object "java/lang/Object"), (.object "java/lang/String")], some (.object "java/lang/Object")⟩ := by decide +kernel
theorem pd_10 : parseMethodDescriptor "()Z" = some ⟨[], some .boolean⟩ := by decide +kernel
theorem pd_11 : parseMethodDescriptor "()I" = some ⟨[], some .int⟩ := by decide +kernel
theorem pd_12 : parseMethodDescriptor "()B" = some ⟨[], some .byte⟩ := by decide +kernel
theorem pd_13 : parseMethodDescriptor "(I)I" = some ⟨[.int], some .int⟩ := by decide +kernel
theorem pd_14 : parseMethodDescriptor "(II)V" = some ⟨[.int, .int], none⟩ := by decide +kernel
theorem pd_15 : parseMethodDescriptor "(IILjava/util/function/BiFunction;)I" = some ⟨[.int, .int, (.object "java/util/function/BiFunction")], some .int⟩ := by decide +kernel
theorem pd_16 : parseMethodDescriptor "(I)Z" = some ⟨[.int], some .boolean⟩ := by decide +kernel
theorem pd_17 : parseMethodDescriptor "(Lcom/example/condo/condo/tenant/TenantName;ILjava/lang/String;)V" = some ⟨[(.object "com/example/condo/condo/tenant/TenantName"), .int, (.object "java/lang/String")], none⟩ := by decide +kernel
theorem pd_18 : parseMethodDescriptor "()Ljava/lang/String;" = some ⟨[], some (.object "java/lang/String")⟩ := by decide +kernel
theorem pd_19 : parseMethodDescriptor "(I)V" = some ⟨[.int], none⟩ := by decide +kernel
theorem pd_20 : parseMethodDescriptor "(Ljava/lang/String;)Ljava/lang/StringBuilder;" = some ⟨[(.object "java/lang/String")], some (.object "java/lang/StringBuilder")⟩ := by decide +kernel
theorem pd_21 : parseMethodDescriptor "(Ljava/lang/String;)Ljava/lang/AbstractStringBuilder;" = some ⟨[(.object "java/lang/String")], some (.object "java/lang/AbstractStringBuilder")⟩ := by decide +kernel
theorem pd_22 : parseMethodDescriptor "(ILjava/lang/String;)V" = some ⟨[.int, (.object "java/lang/String")], none⟩ := by decide +kernel
theorem pd_23 : parseMethodDescriptor "([BIB)V" = some ⟨[(.array .byte), .int, .byte], none⟩ := by decide +kernel
theorem pd_24 : parseMethodDescriptor "(Ljava/lang/Object;ILjava/lang/Object;II)V" = some ⟨[(.object "java/lang/Object"), .int, (.object "java/lang/Object"), .int, .int], none⟩ := by decide +kernel
theorem pd_25 : parseMethodDescriptor "(III)I" = some ⟨[.int, .int, .int], some .int⟩ := by decide +kernel
theorem pd_26 : parseMethodDescriptor "(II)I" = some ⟨[.int, .int], some .int⟩ := by decide +kernel
theorem pd_27 : parseMethodDescriptor "([BI)[B" = some ⟨[(.array .byte), .int], some (.array .byte)⟩ := by decide +kernel
theorem pd_28 : parseMethodDescriptor "(I)Ljava/lang/StringBuilder;" = some ⟨[.int], some (.object "java/lang/StringBuilder")⟩ := by decide +kernel
theorem pd_29 : parseMethodDescriptor "(I)Ljava/lang/AbstractStringBuilder;" = some ⟨[.int], some (.object "java/lang/AbstractStringBuilder")⟩ := by decide +kernel
theorem pd_30 : parseMethodDescriptor "(II[B)I" = some ⟨[.int, .int, (.array .byte)], some .int⟩ := by decide +kernel
theorem pd_31 : parseMethodDescriptor "(Ljava/lang/StringBuilder;)V" = some ⟨[(.object "java/lang/StringBuilder")], none⟩ := by decide +kernel
theorem pd_32 : parseMethodDescriptor "(Ljava/lang/AbstractStringBuilder;Ljava/lang/Void;)V" = some ⟨[(.object "java/lang/AbstractStringBuilder"), (.object "java/lang/Void")], none⟩ := by decide +kernel
theorem pd_33 : parseMethodDescriptor "()[B" = some ⟨[], some (.array .byte)⟩ := by decide +kernel
theorem pd_34 : parseMethodDescriptor "([BII)[B" = some ⟨[(.array .byte), .int, .int], some (.array .byte)⟩ := by decide +kernel
theorem pd_35 : parseMethodDescriptor "(J)J" = some ⟨[.long], some .long⟩ := by decide +kernel
theorem pd_36 : parseMethodDescriptor "(J)I" = some ⟨[.long], some .int⟩ := by decide +kernel
theorem pd_37 : parseMethodDescriptor "(IZJI)C" = some ⟨[.int, .boolean, .long, .int], some .char⟩ := by decide +kernel
theorem pd_38 : parseMethodDescriptor "(JI)I" = some ⟨[.long, .int], some .int⟩ := by decide +kernel
theorem pd_39 : parseMethodDescriptor "(I)J" = some ⟨[.int], some .long⟩ := by decide +kernel
theorem pd_40 : parseMethodDescriptor "(Ljava/lang/String;[CII)Z" = some ⟨[(.object "java/lang/String"), (.array .char), .int, .int], some .boolean⟩ := by decide +kernel
theorem pd_41 : parseMethodDescriptor "([BI)C" = some ⟨[(.array .byte), .int], some .char⟩ := by decide +kernel
theorem pd_42 : parseMethodDescriptor "()Ljava/lang/Object;" = some ⟨[], some (.object "java/lang/Object")⟩ := by decide +kernel
theorem own_K1 {h0 h1 h2 : Heap} {t : Addr} (K1 : Keep h0 h1 []) (K2 : Keep h1 h2 [t]) (g : h0.size ≤ t) : Keep h0 h2 [] := K1.trans K2 (allS (P := fun x => x ∈ [] ∨ h0.size ≤ x) (Or.inr g) all0)
theorem own_K0 {h0 h1 h2 : Heap} {ws : List Addr} (K1 : Keep h0 h1 ws) (K2 : Keep h1 h2 []) : Keep h0 h2 ws := K1.trans K2 (all0 (P := fun x => x ∈ ws ∨ h0.size ≤ x))

section WkSb
variable {p : Program} {l : Launch} {e : Env} {R : Room} {s : State} {m : MethodId} {args : Array Value} {below : List Frame} {meth : Method} {c : Code} {n0 : Nat} {Q : Option Value → Heap → Prop} {h : Heap} {cells slots : Nat} {Z : State} {own : String} {bytes : ByteArray} {maxL : Nat} {ret : Option FieldType} {nm : String} {a0 : Array Value} {pc q : Nat} {L L' : Array Slot} {S : List Value}
theorem own_rng (vs : List Value) (dv : Value) (sp nn : Nat) (h : sp + nn ≤ vs.length) : (List.range nn).map (fun i => vs.getD (sp + i) dv) = (vs.drop sp).take nn := by
  apply List.ext_getElem?
  intro i
  rw [List.getElem?_map, List.getElem?_take, List.getElem?_drop]
  by_cases hi : i < nn
  · rw [List.getElem?_range hi, if_pos hi, List.getElem?_eq_getElem (show sp + i < vs.length by omega)]
    simp [List.getD, List.getElem?_eq_getElem (show sp + i < vs.length by omega)]
  · rw [if_neg hi, List.getElem?_eq_none (by simpa using hi)]; rfl
theorem w_copy (C : Cx p s m meth c Z own bytes maxL ret nm) {i : Nat} {a b : Addr} {ty : FieldType} {vs vd : List Value} {sp dp nn : Nat} (w1 : (Jvm.Cond.methodLink own i Jvm.Stand.acN).before a0 Z = true) (w2 : (Jvm.Cond.native Jvm.Stand.acN).before a0 Z = true) (w3 : (Jvm.Cond.static Jvm.Stand.acN).before a0 Z = true) (w4 : (Jvm.Cond.initialized "java/lang/System").before a0 Z = true)
    (A : Ar Z h a ty vs) (B : Ar Z h b ty vd) (hp : refKind ty = false) (h4 : sp + nn ≤ vs.length) (h5 : dp + nn ≤ vd.length) (ge : n0 ≤ b) (hL : L.size = maxL) (hf : 1 ≤ R.frames) {W : Nat} (hW : (S.map fun v => v.category).sum ≤ W) (hlo : W + 18 ≤ R.locals)
    {S' : List Value} (hS : S' = .int (Int32.ofNat nn) :: .int (Int32.ofNat dp) :: .ref b :: .int (Int32.ofNat sp) :: .ref a :: S) (hd : decode bytes pc = .ok (.invokestatic i, 3)) (hq : pc + 3 = q) (K : ∀ h', Keep h h' [b] → Ar Z h' b ty (vd.take dp ++ (vs.drop sp).take nn ++ vd.drop (dp + nn)) → AtW p l e R s m args below meth c n0 Q h' cells slots (mkF m q L S)) : AtW p l e R s m args below meth c n0 Q h cells slots (mkF m pc L S') := by
  subst hq hS
  intro T locs k n' X hk hn' eT N
  obtain ⟨la, ka, VA⟩ := A
  obtain ⟨lb, kb, VB⟩ := B
  have e1 := ofNat_nat (n := sp) (by omega)
  have e2 := ofNat_nat (n := dp) (by omega)
  have e3 := ofNat_nat (n := nn) (by omega)
  have e4 := ofNat_nat la
  have e5 := ofNat_nat lb
  obtain ⟨T', h', L', X', e', N', K', V', st⟩ := cpA X C.1 C.2.2.2.1 C.2.2.2.2.1 w1 w2 w3 w4 eT VA VB (Or.inl ⟨rfl, hp⟩) (ofNat_neg (n := sp) (by omega)) (ofNat_neg (n := dp) (by omega)) (ofNat_neg (n := nn) (by omega)) (by rw [e1, e3, e4]; exact h4) (by rw [e2, e3, e5]; exact h5) (us := (vs.drop sp).take nn) (by rw [e3, e1, own_rng vs _ sp nn h4]) (by rw [e2, e3]; exact h5) N ge (g := mkF m pc L (.int (Int32.ofNat nn) :: .int (Int32.ofNat dp) :: .ref b :: .int (Int32.ofNat sp) :: .ref a :: S)) rfl (hL.trans C.2.2.1.symm) rfl (hb C.2.1 hd) hf (W := W) (by show 2 * 0 + _ ≤ _; omega) (by show W + (7 + 11) ≤ _; omega)
  rw [e2, e3] at V'
  have hlen : (vd.take dp ++ (vs.drop sp).take nn ++ vd.drop (dp + nn)).length = vd.length := by simp only [List.length_append, List.length_take, List.length_drop]; omega
  obtain ⟨t, o, r1, r⟩ := K h' K' ⟨by rw [hlen]; exact lb, kb, by rw [hlen]; exact V'⟩ T' _ k n' X' hk hn' e' N'
  exact ⟨t, o, st _ r1, r⟩
theorem w_newArrE (C : Cx p s m meth c Z own bytes maxL ret nm) {aty : ArrayType} {ty : FieldType} {n : Int32} (w : (Jvm.Cond.arrayClass ty).before a0 Z = true) (hty : newarray.typeOf aty = ty) (hn : ¬ n < 0) {cap : Nat} (hcap : n.toNatClampNeg ≤ cap) (hb' : cap * 8 ≤ 536870912) {cells' slots' : Nat} (hc1 : cells + 1 = cells') (hs1 : slots + cap = slots') (hc : cells' ≤ R.cells) (hl : slots' ≤ R.slots) {ad : String} (had : "[" ++ ty.toString = ad)
    (hd : decode bytes pc = .ok (.newarray aty, 2)) (hq : pc + 2 = q) (K : ∀ h' a, a = h.size → Ext h h' → Ar Z h' a ty (List.replicate n.toNatClampNeg (defaultValue ty)) → Exa Z h' a ad → AtW p l e R s m args below meth c n0 Q h' cells' slots' (mkF m q L (.ref a :: S))) : AtW p l e R s m args below meth c n0 Q h cells slots (mkF m pc L (.int n :: S)) := by
  subst hq hc1 hs1 hty
  intro T locs k n' X hk hn' eT N
  obtain ⟨T', h', cA, X', e', E, A, Ex, st⟩ := newPE X C.1 C.2.2.2.1 w eT (g := mkF m pc L (.int n :: S)) rfl (hb C.2.1 hd) rfl hn hcap hb' (by omega) (by omega) had
  have q := nat_of_nonneg hn
  have V := (Arv.new A hn).pad (pad_rep [] (defaultValue (newarray.typeOf aty)) n.toNatClampNeg)
  obtain ⟨t, o, r1, r⟩ := K h' h.size rfl E ⟨by simpa using q.2, cA, by simpa [q.1] using V⟩ Ex T' _ (k + 1) (n' + cap) X' (by omega) (by omega) e' N
  exact ⟨t, o, st _ r1, r⟩
theorem w_clone (C : Cx p s m meth c Z own bytes maxL ret nm) {i : Nat} {a : Addr} {ty : FieldType} {ad : String} {vs : List Value} (w1 : (Jvm.Cond.methodLink own i ⟨ad, "clone", "()Ljava/lang/Object;"⟩).before a0 Z = true) (w2 : (Jvm.Cond.sameMethod ad "java/lang/Object" "clone" "()Ljava/lang/Object;").before a0 Z = true) (w3 : (Jvm.Cond.native ⟨"java/lang/Object", "clone", "()Ljava/lang/Object;"⟩).before a0 Z = true) (w4 : (Jvm.Cond.instanceMethod ⟨"java/lang/Object", "clone", "()Ljava/lang/Object;"⟩).before a0 Z = true)
    (w5 : (Jvm.Cond.selects ad ⟨ad, "clone", "()Ljava/lang/Object;"⟩ ⟨"java/lang/Object", "clone", "()Ljava/lang/Object;"⟩).before a0 Z = true) (w6 : (Jvm.Cond.castable ad "java/lang/Cloneable").before a0 Z = true) (A : Ar Z h a ty vs) (E : Exa Z h a ad) (hL : L.size = maxL) (hf : 1 ≤ R.frames) {W cap : Nat} (hW : (S.map fun v => v.category).sum ≤ W) (hlo : W + 14 ≤ R.locals) (hcap : vs.length ≤ cap)
    {cells' slots' : Nat} (hc1 : cells + 1 = cells') (hs1 : slots + cap = slots') (hc : cells' ≤ R.cells) (hl : slots' ≤ R.slots) (hd : decode bytes pc = .ok (.invokevirtual i, 3)) (hq : pc + 3 = q) (K : ∀ h' b, b = h.size → Ext h h' → Ar Z h' b ty vs → Exa Z h' b ad → AtW p l e R s m args below meth c n0 Q h' cells' slots' (mkF m q L (.ref b :: S))) : AtW p l e R s m args below meth c n0 Q h cells slots (mkF m pc L (.ref a :: S)) := by
  subst hq hc1 hs1
  intro T locs k n' X hk hn' eT N
  obtain ⟨la, ka, VA⟩ := A
  obtain ⟨T', h', X', e', E', V', Ex, st⟩ := cloneH X C.1 C.2.2.2.1 C.2.2.2.2.1 w1 w2 w3 w4 w5 w6 eT VA.arh E (g := mkF m pc L (.ref a :: S)) rfl (hL.trans C.2.2.1.symm) rfl (hb C.2.1 hd) hf (W := W) (cap := cap) (by show 2 * 0 + _ ≤ _; omega) hlo (by rw [ofNat_nat la]; exact hcap) (by omega) (by omega)
  have V2 : Arv Z h' h.size ka ty (Int32.ofNat vs.length) vs (defaultValue ty) := by
    obtain ⟨cc, c1, c2, c3, c4, c5, c6⟩ := V'
    exact ⟨cc, c1, c2, c3, c4, c5, c6⟩
  obtain ⟨t, o, r1, r⟩ := K h' h.size rfl E' ⟨la, ka, V2⟩ Ex T' _ (k + 1) (n' + cap) X' (by omega) (by omega) e' N
  exact ⟨t, o, st _ r1, r⟩
theorem own_same {y : MethodName} (hy : y.cls ≠ "java/lang/invoke/MethodHandle" ∧ y.cls ≠ "java/lang/invoke/VarHandle") (w : (Jvm.Cond.instanceMethod y).before a0 Z = true) (ni : NI Z y.cls) : (Jvm.Cond.sameMethod y.cls y.cls y.name y.desc).before a0 Z = true := by
  obtain ⟨mk, methM, hnamed, -, -, -⟩ := Cond.instanceMethod_spec w
  have hf := State.methodFound?_of_named hnamed hy
  obtain ⟨c, k, hc, hk, hi⟩ := ni
  have hn2 : Z.methodNamed? ⟨y.cls, y.name, y.desc⟩ = some mk := hnamed
  simp [Cond.before, Cond.holds, Cond.value, hc, hf, hn2, hk, hi]
theorem w_callU (C : Cx p s m meth c Z own bytes maxL ret nm) {y : MethodName} {Cl : String} {i : Nat} {a : Addr} {argsL : List Value} {bytesY : ByteArray} {maxY : Nat} {retY : Option FieldType} {rm : Room} {Qy : Option Value → Heap → Prop} (E : Exa Z h a Cl) (w1 : (Jvm.Cond.methodLink own i y).before a0 Z = true) (w4 : (Jvm.Cond.instanceMethod y).before a0 Z = true) (ni : NI Z y.cls) (w5 : (Jvm.Cond.superclass own y.cls).before a0 Z = true) (wz : (Jvm.Cond.initialized y.cls).before a0 Z = true) (wc : (Jvm.Cond.code y bytesY maxY retY).before a0 Z = true) (hnn : y.name ≠ "<init>")
    (hy : y.cls ≠ "java/lang/invoke/MethodHandle" ∧ y.cls ≠ "java/lang/invoke/VarHandle") (ct : Ct [] l Z n0 y bytesY maxY retY rm (.ref a :: argsL).toArray h Qy) {S' : List Value} (hS : S' = argsL.reverse ++ .ref a :: S) (hlen : ∀ sig, parseMethodDescriptor y.desc = some sig → argsL.length = sig.parameters.length) (hL : L.size = maxL) (hf : rm.frames + 1 ≤ R.frames) {W : Nat} (hW : (S.map fun v => v.category).sum ≤ W) (hlo : W + (maxY + 11) + rm.locals ≤ R.locals) {cells' slots' : Nat} (hc1 : cells + rm.cells = cells') (hs1 : slots + rm.slots = slots') (hc : cells' ≤ R.cells) (hl : slots' ≤ R.slots)
    (hd : decode bytes pc = .ok (.invokespecial i, 3)) (hq : pc + 3 = q) (K : ∀ v h', Qy v h' → AtW p l e R s m args below meth c n0 Q h' cells' slots' (mkF m q L (v.toList ++ S))) : AtW p l e R s m args below meth c n0 Q h cells slots (mkF m pc L S') := by
  subst hq hc1 hs1
  intro T locs k n' X hk hn' eT N
  obtain ⟨v, _, ⟨T', L', k', n''⟩, -, X', ⟨Lc, hQ, hl', hc', hs'⟩, st⟩ := superBack X C.1 C.2.2.2.1 (y := y) C.2.2.2.2.1 w1 (own_same hy w4 ni) w4 w5 hnn (backOf (W := W) (Q := fun v h L => Fr n0 L ∧ Qy v h) ct C.2.2.2.1 wc wz hf hlo) eT (Ins.self E) (g := mkF m pc L S') rfl (hL.trans C.2.2.1.symm) wc (argsL := argsL) (rest := S) hlen hS (by show 2 * 0 + _ ≤ _; omega) (hb C.2.1 hd) (fun _ _ => ⟨rfl, eT, (by show k + _ ≤ _; omega), (by show n' + _ ≤ _; omega)⟩)
  dsimp only [Pt.U, Pt.locs, Pt.cells, Pt.slots] at X' hl' hc' hs' st hQ
  subst hl' hc' hs'
  obtain ⟨t, o, r1, r⟩ := K v T'.heap hQ.2 T' _ _ _ X' (by omega) (by omega) rfl (Fr.app N hQ.1)
  exact ⟨t, o, st.trans r1, r⟩
end WkSb

theorem own_sub {a b : Nat} (h : b ≤ a) : Int32.ofNat a - Int32.ofNat b = Int32.ofNat (a - b) := by
  have e : Int32.ofNat a = Int32.ofNat (a - b) + Int32.ofNat b := by rw [← Int32.ofNat_add]; congr 1; omega
  rw [e, Int32.add_sub_cancel]
theorem own_add (a b : Nat) : Int32.ofNat a + Int32.ofNat b = Int32.ofNat (a + b) := (Int32.ofNat_add a b).symm
theorem own_shl0 (x : Int32) : x <<< ((0 : Int32) &&& 31) = x := by
  have h := c_ishl x 0 0 (by decide)
  have r1 := rng32 x
  have r2 := rng32 (x <<< ((0 : Int32) &&& 31))
  rw [own_eq]; simp only [Nat.pow_zero] at h; omega
theorem own_bs_app (cs ds : List Int32) : own_bs (cs ++ ds) = own_bs cs ++ own_bs ds := by simp [own_bs]
theorem L1.app {cs ds : List Int32} (h : L1 cs) (g : L1 ds) : L1 (cs ++ ds) := fun c hc => (List.mem_append.mp hc).elim (h c) (g c)
/-- a StringBuilder at b over the byte[] t: it spells cs (Latin-1), its room is cap -/
def Sb (Z : State) (h : Heap) (b t : Addr) (cs : List Int32) (cap : Nat) : Prop := Exa Z h b "java/lang/StringBuilder" ∧ L1 cs ∧ cs.length ≤ cap ∧ Fld Z h b "java/lang/AbstractStringBuilder" "coder" "B" (.int (0 : Int32)) ∧ Fld Z h b "java/lang/AbstractStringBuilder" "count" "I" (.int (Int32.ofNat cs.length)) ∧ Fld Z h b "java/lang/AbstractStringBuilder" "value" "[B" (.ref t) ∧ Exa Z h t "[B" ∧ Ar Z h t .byte (own_bs cs ++ List.replicate (cap - cs.length) (Value.int (0 : Int32)))
theorem Sb_k0 {Z : State} {h h' : Heap} {b t : Addr} {cs : List Int32} {cap : Nat} (F : Sb Z h b t cs cap) (K : Keep h h' []) : Sb Z h' b t cs cap := by
  obtain ⟨E, hr, hl, f1, f2, f3, E2, A⟩ := F
  exact ⟨E.keep K, hr, hl, f1.keep K nin0, f2.keep K nin0, f3.keep K nin0, E2.keep K, A.keep K nin0⟩
theorem Sb.capl {Z : State} {h : Heap} {b t : Addr} {cs : List Int32} {cap : Nat} (F : Sb Z h b t cs cap) : cap < 2 ^ 31 := by
  obtain ⟨-, -, hl, -, -, -, -, A⟩ := F
  have := A.1
  rw [List.length_append, own_bs_len, List.length_replicate] at this
  omega
theorem Sb.tlt {Z : State} {h : Heap} {b t : Addr} {cs : List Int32} {cap : Nat} (F : Sb Z h b t cs cap) : t < h.size := F.2.2.2.2.2.2.1.lt
theorem Sb.ne {Z : State} {h : Heap} {b t : Addr} {cs : List Int32} {cap : Nat} (F : Sb Z h b t cs cap) : b ≠ t := ne_exa F.1 F.2.2.2.2.2.2.1 (by decide)
/-- the appended bytes behind the first ones -/
theorem own_appd (cs ds : List Int32) (cap : Nat) (h : cs.length + ds.length ≤ cap) : (own_bs cs ++ List.replicate (cap - cs.length) (Value.int (0 : Int32))).take cs.length ++ own_bs ds ++ (own_bs cs ++ List.replicate (cap - cs.length) (Value.int (0 : Int32))).drop (cs.length + ds.length) = own_bs (cs ++ ds) ++ List.replicate (cap - (cs ++ ds).length) (Value.int (0 : Int32)) := by
  have h1 : (own_bs cs).length = cs.length := own_bs_len cs
  rw [List.take_left' h1, List.drop_append, h1, List.drop_eq_nil_of_le (by omega), List.nil_append, List.drop_replicate, own_bs_app, List.length_append]
  congr 2; omega

theorem d13_0 : decode jdk_42_method_152_code 0 = .ok (.getstatic 38, 3) := by decide +kernel
theorem d13_3 : decode jdk_42_method_152_code 3 = .ok (.ifCond .eq 10, 3) := by decide +kernel
theorem d13_6 : decode jdk_42_method_152_code 6 = .ok (.aload_n 0, 1) := by decide +kernel
theorem d13_7 : decode jdk_42_method_152_code 7 = .ok (.getfield 15, 3) := by decide +kernel
theorem d13_10 : decode jdk_42_method_152_code 10 = .ok (.goto 4, 3) := by decide +kernel
theorem d13_13 : decode jdk_42_method_152_code 13 = .ok (.iconst 1, 1) := by decide +kernel
theorem d13_14 : decode jdk_42_method_152_code 14 = .ok (.ireturn, 1) := by decide +kernel
theorem pf13 : plainFor (⟨"java/lang/String", "coder", "()B"⟩ : MethodName) = true := by first | exact plainFor_of_name (by first | (simp [plainName, overriddenIn]; done) | decide +kernel) | decide +kernel
theorem ef_coder (m : MethodId) (z0 : Addr) : entryFrame m #[(.ref z0)] 1 = mkF m 0 #[.val (.ref z0)] [] := by first | rfl | (simp [entryFrame, mkF, argsToLocals, Value.category, *]; done) | rfl
set_option maxRecDepth 65536 in
set_option maxHeartbeats 40000000 in
theorem rm_coder {l : Launch} {Z : State} {a0 : Array Value} {n0 : Nat} (G : Gl Z a0 n0) {h0 : Heap} (O : Old Z n0 h0) (a : Addr) (cs : List Int32) (S : Str Z h0 a cs) :
    Ct [] l Z n0 (⟨"java/lang/String", "coder", "()B"⟩ : MethodName) jdk_42_method_152_code 1 (some .byte) ({ frames := 0, cells := 0, slots := 0, locals := 0 } : Room) #[(.ref a)] h0 (fun v h => h = h0 ∧ v = some (.int 0)) := by
  refine Ct.intro pf13 ?_
  intro p e s m below meth c C
  refine AtW.cast ?_ (ef_coder m a)
  obtain ⟨E, hr, t, FC, FV, A⟩ := id S
  obtain ⟨zc, SC, hzc⟩ := G.cs
  refine w_getS (q := 3) (host := "") C (Or.inl (G.1 _ (List.mem_of_getElem? (i := 22) rfl))) Via.refl (SC.ext O.2) d13_0 rfl ?_
  refine w_if_eq_f (q := 6) C d13_3 rfl hzc ?_
  refine w_aloadN (q := 7) C rfl rfl d13_6 rfl ?_
  refine w_getF (q := 10) (host := "") C (Or.inl (G.1 _ (List.mem_of_getElem? (i := 34) rfl))) Via.refl FC d13_7 rfl ?_
  refine w_goto (q := 14) C d13_10 (by decide) (by decide) ?_
  exact w_retZ (z := (0 : Int32)) C (t := .byte) rfl (by simp) (by decide) d13_14 (by decide) (by decide) ⟨rfl, rfl⟩
theorem d12_0 : decode jdk_42_method_54_code 0 = .ok (.aload_n 0, 1) := by decide +kernel
theorem d12_1 : decode jdk_42_method_54_code 1 = .ok (.getfield 9, 3) := by decide +kernel
theorem d12_4 : decode jdk_42_method_54_code 4 = .ok (.arraylength, 1) := by decide +kernel
theorem d12_5 : decode jdk_42_method_54_code 5 = .ok (.aload_n 0, 1) := by decide +kernel
theorem d12_6 : decode jdk_42_method_54_code 6 = .ok (.invokevirtual 335, 3) := by decide +kernel
theorem d12_9 : decode jdk_42_method_54_code 9 = .ok (.ishr, 1) := by decide +kernel
theorem d12_10 : decode jdk_42_method_54_code 10 = .ok (.ireturn, 1) := by decide +kernel
theorem pf12 : plainFor (⟨"java/lang/String", "length", "()I"⟩ : MethodName) = true := by first | exact plainFor_of_name (by first | (simp [plainName, overriddenIn]; done) | decide +kernel) | decide +kernel
theorem ef_length (m : MethodId) (z0 : Addr) : entryFrame m #[(.ref z0)] 1 = mkF m 0 #[.val (.ref z0)] [] := by first | rfl | (simp [entryFrame, mkF, argsToLocals, Value.category, *]; done) | rfl
set_option maxRecDepth 65536 in
set_option maxHeartbeats 40000000 in
theorem rm_length {l : Launch} {Z : State} {a0 : Array Value} {n0 : Nat} (G : Gl Z a0 n0) {h0 : Heap} (O : Old Z n0 h0) (a : Addr) (cs : List Int32) (S : Str Z h0 a cs) :
    Ct [] l Z n0 (⟨"java/lang/String", "length", "()I"⟩ : MethodName) jdk_42_method_54_code 1 (some .int) ({ frames := 1, cells := 0, slots := 0, locals := 13 } : Room) #[(.ref a)] h0 (fun v h => h = h0 ∧ v = some (.int (Int32.ofNat cs.length))) := by
  refine Ct.intro pf12 ?_
  intro p e s m below meth c C
  refine AtW.cast ?_ (ef_length m a)
  obtain ⟨E, hr, t, FC, FV, A⟩ := id S
  refine w_aloadN (q := 1) C rfl rfl d12_0 rfl ?_
  refine w_getF (q := 4) (host := "") C (Or.inl (G.1 _ (List.mem_of_getElem? (i := 36) rfl))) Via.refl FV d12_1 rfl ?_
  refine w_len (q := 5) (z := (Int32.ofNat cs.length)) C A (by rw [own_bs_len]) d12_4 rfl ?_
  refine w_aloadN (q := 6) C rfl rfl d12_5 rfl ?_
  refine w_callV (q := 9) (argsL := []) (S := [(.int (Int32.ofNat cs.length))]) (W := 1) (cells' := 0) (slots' := 0) (a := a) C E (G.1 _ (List.mem_of_getElem? (i := 64) rfl)) (G.1 _ (List.mem_of_getElem? (i := 65) rfl)) (w_nf C (G.1 _ (List.mem_of_getElem? (i := 67) rfl))) (G.1 _ (List.mem_of_getElem? (i := 67) rfl)) (G.1 _ (List.mem_of_getElem? (i := 66) rfl)) (G.1 _ (List.mem_of_getElem? (i := 10) rfl)) (G.1 _ (List.mem_of_getElem? (i := 68) rfl)) (by decide) (rm_coder G O a cs S) rfl (lenOf pd_12 rfl) rfl (by decide) (own_leb rfl) (by decide) rfl rfl (by decide) (by decide) d12_6 rfl ?_
  rintro _ h1 ⟨eh2, rfl⟩
  rw [eh2]
  show AtW p l e _ s m _ below meth c n0 _ h0 0 0 (mkF m 9 #[.val (.ref a)] [(.int (0 : Int32)), (.int (Int32.ofNat cs.length))])
  refine w_ishr (q := 10) C rfl d12_9 rfl ?_
  rw [show ((Int32.ofNat cs.length) >>> ((0 : Int32) &&& 31)) = (Int32.ofNat cs.length) from own_shr0 _]
  exact w_retI C rfl d12_10 (by decide) (by decide) ⟨rfl, rfl⟩
theorem d15_0 : decode jdk_42_method_154_code 0 = .ok (.getstatic 38, 3) := by decide +kernel
theorem d15_3 : decode jdk_42_method_154_code 3 = .ok (.ifCond .eq 14, 3) := by decide +kernel
theorem d15_6 : decode jdk_42_method_154_code 6 = .ok (.aload_n 0, 1) := by decide +kernel
theorem d15_7 : decode jdk_42_method_154_code 7 = .ok (.getfield 15, 3) := by decide +kernel
theorem d15_10 : decode jdk_42_method_154_code 10 = .ok (.ifCond .ne 7, 3) := by decide +kernel
theorem d15_13 : decode jdk_42_method_154_code 13 = .ok (.iconst 1, 1) := by decide +kernel
theorem d15_14 : decode jdk_42_method_154_code 14 = .ok (.goto 4, 3) := by decide +kernel
theorem d15_17 : decode jdk_42_method_154_code 17 = .ok (.iconst 0, 1) := by decide +kernel
theorem d15_18 : decode jdk_42_method_154_code 18 = .ok (.ireturn, 1) := by decide +kernel
theorem pf15 : plainFor (⟨"java/lang/String", "isLatin1", "()Z"⟩ : MethodName) = true := by first | exact plainFor_of_name (by first | (simp [plainName, overriddenIn]; done) | decide +kernel) | decide +kernel
theorem ef_isLatin1 (m : MethodId) (z0 : Addr) : entryFrame m #[(.ref z0)] 1 = mkF m 0 #[.val (.ref z0)] [] := by first | rfl | (simp [entryFrame, mkF, argsToLocals, Value.category, *]; done) | rfl
set_option maxRecDepth 65536 in
set_option maxHeartbeats 40000000 in
theorem rm_isLatin1 {l : Launch} {Z : State} {a0 : Array Value} {n0 : Nat} (G : Gl Z a0 n0) {h0 : Heap} (O : Old Z n0 h0) (a : Addr) (cs : List Int32) (S : Str Z h0 a cs) :
    Ct [] l Z n0 (⟨"java/lang/String", "isLatin1", "()Z"⟩ : MethodName) jdk_42_method_154_code 1 (some .boolean) ({ frames := 0, cells := 0, slots := 0, locals := 0 } : Room) #[(.ref a)] h0 (fun v h => h = h0 ∧ v = some (.int 1)) := by
  refine Ct.intro pf15 ?_
  intro p e s m below meth c C
  refine AtW.cast ?_ (ef_isLatin1 m a)
  obtain ⟨E, hr, t, FC, FV, A⟩ := id S
  obtain ⟨zc, SC, hzc⟩ := G.cs
  refine w_getS (q := 3) (host := "") C (Or.inl (G.1 _ (List.mem_of_getElem? (i := 22) rfl))) Via.refl (SC.ext O.2) d15_0 rfl ?_
  refine w_if_eq_f (q := 6) C d15_3 rfl hzc ?_
  refine w_aloadN (q := 7) C rfl rfl d15_6 rfl ?_
  refine w_getF (q := 10) (host := "") C (Or.inl (G.1 _ (List.mem_of_getElem? (i := 34) rfl))) Via.refl FC d15_7 rfl ?_
  refine w_if_ne_f (q := 13) C d15_10 rfl (by decide) ?_
  refine w_iconst (q := 14) (v := (1 : Int32)) C (by rfl) d15_13 rfl ?_
  refine w_goto (q := 18) C d15_14 (by decide) (by decide) ?_
  exact w_retZ (z := (1 : Int32)) C (t := .boolean) rfl (by simp) (by decide) d15_18 (by decide) (by decide) ⟨rfl, rfl⟩
theorem d17_0 : decode jdk_41_method_11_code 0 = .ok (.iload_n 0, 1) := by decide +kernel
theorem d17_1 : decode jdk_41_method_11_code 1 = .ok (.ifCond .lt 8, 3) := by decide +kernel
theorem d17_4 : decode jdk_41_method_11_code 4 = .ok (.iload_n 0, 1) := by decide +kernel
theorem d17_5 : decode jdk_41_method_11_code 5 = .ok (.iload_n 1, 1) := by decide +kernel
theorem d17_6 : decode jdk_41_method_11_code 6 = .ok (.if_icmp .lt 10, 3) := by decide +kernel
theorem d17_9 : decode jdk_41_method_11_code 9 = .ok (.aload_n 2, 1) := by decide +kernel
theorem d17_10 : decode jdk_41_method_11_code 10 = .ok (.iload_n 0, 1) := by decide +kernel
theorem d17_11 : decode jdk_41_method_11_code 11 = .ok (.iload_n 1, 1) := by decide +kernel
theorem d17_12 : decode jdk_41_method_11_code 12 = .ok (.invokestatic 95, 3) := by decide +kernel
theorem d17_15 : decode jdk_41_method_11_code 15 = .ok (.athrow, 1) := by decide +kernel
theorem d17_16 : decode jdk_41_method_11_code 16 = .ok (.iload_n 0, 1) := by decide +kernel
theorem d17_17 : decode jdk_41_method_11_code 17 = .ok (.ireturn, 1) := by decide +kernel
theorem pf17 : plainFor (⟨"jdk/internal/util/Preconditions", "checkIndex", "(IILjava/util/function/BiFunction;)I"⟩ : MethodName) = true := by first | exact plainFor_of_name (by first | (simp [plainName, overriddenIn]; done) | decide +kernel) | decide +kernel
theorem ef_pcheck (m : MethodId) (z0 : Int32) (z1 : Int32) (z2 : Value) (cz2 : z2.category = 1) : entryFrame m #[(.int z0), (.int z1), z2] 3 = mkF m 0 #[.val (.int z0), .val (.int z1), .val z2] [] := by cases z2 <;> first | (simp [Value.category] at cz2; done) | first | rfl | (simp [entryFrame, mkF, argsToLocals, Value.category, *]; done) | rfl
set_option maxRecDepth 65536 in
set_option maxHeartbeats 40000000 in
theorem rm_pcheck {l : Launch} {Z : State} {a0 : Array Value} {n0 : Nat} (G : Gl Z a0 n0) {h0 : Heap} (O : Old Z n0 h0) (x : Int32) (y : Int32) (f : Value) (hf : f.isRef = true) (hfc : f.category = 1) (hx : ¬ x < 0) (hxy : x < y) :
    Ct [] l Z n0 (⟨"jdk/internal/util/Preconditions", "checkIndex", "(IILjava/util/function/BiFunction;)I"⟩ : MethodName) jdk_41_method_11_code 3 (some .int) ({ frames := 0, cells := 0, slots := 0, locals := 0 } : Room) #[(.int x), (.int y), f] h0 (fun v h => h = h0 ∧ v = some (.int x)) := by
  refine Ct.intro pf17 ?_
  intro p e s m below meth c C
  refine AtW.cast ?_ (ef_pcheck m x y f (by assumption))
  refine w_iloadN (q := 1) C rfl d17_0 rfl ?_
  refine w_if_lt_f (q := 4) C d17_1 rfl hx ?_
  refine w_iloadN (q := 5) C rfl d17_4 rfl ?_
  refine w_iloadN (q := 6) C rfl d17_5 rfl ?_
  refine w_icmp_lt_t (q := 16) C d17_6 (by decide) (by decide) hxy ?_
  refine w_iloadN (q := 17) C rfl d17_16 rfl ?_
  exact w_retI C rfl d17_17 (by decide) (by decide) ⟨rfl, rfl⟩
theorem d16_0 : decode jdk_42_method_155_code 0 = .ok (.iload_n 0, 1) := by decide +kernel
theorem d16_1 : decode jdk_42_method_155_code 1 = .ok (.iload_n 1, 1) := by decide +kernel
theorem d16_2 : decode jdk_42_method_155_code 2 = .ok (.getstatic 1053, 3) := by decide +kernel
theorem d16_5 : decode jdk_42_method_155_code 5 = .ok (.invokestatic 1059, 3) := by decide +kernel
theorem d16_8 : decode jdk_42_method_155_code 8 = .ok (.pop, 1) := by decide +kernel
theorem d16_9 : decode jdk_42_method_155_code 9 = .ok (.return_, 1) := by decide +kernel
theorem pf16 : plainFor (⟨"java/lang/String", "checkIndex", "(II)V"⟩ : MethodName) = true := by first | exact plainFor_of_name (by first | (simp [plainName, overriddenIn]; done) | decide +kernel) | decide +kernel
theorem ef_scheck (m : MethodId) (z0 : Int32) (z1 : Int32) : entryFrame m #[(.int z0), (.int z1)] 2 = mkF m 0 #[.val (.int z0), .val (.int z1)] [] := by first | rfl | (simp [entryFrame, mkF, argsToLocals, Value.category, *]; done) | rfl
set_option maxRecDepth 65536 in
set_option maxHeartbeats 40000000 in
theorem rm_scheck {l : Launch} {Z : State} {a0 : Array Value} {n0 : Nat} (G : Gl Z a0 n0) {h0 : Heap} (O : Old Z n0 h0) (x : Int32) (y : Int32) (hx : ¬ x < 0) (hxy : x < y) :
    Ct [] l Z n0 (⟨"java/lang/String", "checkIndex", "(II)V"⟩ : MethodName) jdk_42_method_155_code 2 none ({ frames := 1, cells := 0, slots := 0, locals := 14 } : Room) #[(.int x), (.int y)] h0 (fun v h => h = h0 ∧ v = none) := by
  refine Ct.intro pf16 ?_
  intro p e s m below meth c C
  refine AtW.cast ?_ (ef_scheck m x y)
  obtain ⟨f, Sf, hf, hfc⟩ := G.fm
  refine w_iloadN (q := 1) C rfl d16_0 rfl ?_
  refine w_iloadN (q := 2) C rfl d16_1 rfl ?_
  refine w_getS (q := 5) (host := "") C (Or.inl (G.1 _ (List.mem_of_getElem? (i := 82) rfl))) Via.refl (Sf.ext O.2) d16_2 rfl ?_
  refine w_callS (q := 8) (argsL := [(.int x), (.int y), f]) (S := []) (W := 0) (cells' := 0) (slots' := 0) C (G.1 _ (List.mem_of_getElem? (i := 84) rfl)) (G.1 _ (List.mem_of_getElem? (i := 85) rfl)) (G.1 _ (List.mem_of_getElem? (i := 83) rfl)) (G.1 _ (List.mem_of_getElem? (i := 86) rfl)) (by decide) (rm_pcheck G O x y f hf hfc hx hxy) rfl (lenOf pd_15 rfl) rfl (by decide) (own_leb rfl) (by decide) rfl rfl (by decide) (by decide) d16_5 rfl ?_
  rintro _ h3 ⟨eh4, rfl⟩
  rw [eh4]
  show AtW p l e _ s m _ below meth c n0 _ h0 0 0 (mkF m 8 #[.val (.int x), .val (.int y)] [(.int x)])
  refine w_pop (q := 9) C rfl d16_8 rfl ?_
  exact w_retV C rfl d16_9 (by decide) (by decide) ⟨rfl, rfl⟩
theorem d56_0 : decode jdk_43_method_2_code 0 = .ok (.iload_n 1, 1) := by decide +kernel
theorem d56_1 : decode jdk_43_method_2_code 1 = .ok (.aload_n 0, 1) := by decide +kernel
theorem d56_2 : decode jdk_43_method_2_code 2 = .ok (.arraylength, 1) := by decide +kernel
theorem d56_3 : decode jdk_43_method_2_code 3 = .ok (.invokestatic 9, 3) := by decide +kernel
theorem d56_6 : decode jdk_43_method_2_code 6 = .ok (.aload_n 0, 1) := by decide +kernel
theorem d56_7 : decode jdk_43_method_2_code 7 = .ok (.iload_n 1, 1) := by decide +kernel
theorem d56_8 : decode jdk_43_method_2_code 8 = .ok (.baload, 1) := by decide +kernel
theorem d56_9 : decode jdk_43_method_2_code 9 = .ok (.sipush 255, 3) := by decide +kernel
theorem d56_12 : decode jdk_43_method_2_code 12 = .ok (.iand, 1) := by decide +kernel
theorem d56_13 : decode jdk_43_method_2_code 13 = .ok (.i2c, 1) := by decide +kernel
theorem d56_14 : decode jdk_43_method_2_code 14 = .ok (.ireturn, 1) := by decide +kernel
theorem pf56 : plainFor (⟨"java/lang/StringLatin1", "charAt", "([BI)C"⟩ : MethodName) = true := by first | exact plainFor_of_name (by first | (simp [plainName, overriddenIn]; done) | decide +kernel) | decide +kernel
theorem ef_charAtL (m : MethodId) (z0 : Addr) (z1 : Int32) : entryFrame m #[(.ref z0), (.int z1)] 2 = mkF m 0 #[.val (.ref z0), .val (.int z1)] [] := by first | rfl | (simp [entryFrame, mkF, argsToLocals, Value.category, *]; done) | rfl
set_option maxRecDepth 65536 in
set_option maxHeartbeats 40000000 in
theorem rm_charAtL {l : Launch} {Z : State} {a0 : Array Value} {n0 : Nat} (G : Gl Z a0 n0) {h0 : Heap} (O : Old Z n0 h0) (t : Addr) (cs : List Int32) (i : Nat) (ch : Int32) (A : Ar Z h0 t .byte (own_bs cs)) (hr : L1 cs) (hi : cs[i]? = some ch) :
    Ct [] l Z n0 (⟨"java/lang/StringLatin1", "charAt", "([BI)C"⟩ : MethodName) jdk_43_method_2_code 2 (some .char) ({ frames := 2, cells := 0, slots := 0, locals := 27 } : Room) #[(.ref t), (.int (Int32.ofNat i))] h0 (fun v h => h = h0 ∧ v = some (.int ch)) := by
  refine Ct.intro pf56 ?_
  intro p e s m below meth c C
  refine AtW.cast ?_ (ef_charAtL m t (Int32.ofNat i))
  have hl := A.1
  rw [own_bs_len] at hl
  have hil : i < cs.length := (List.getElem?_eq_some_iff.mp hi).1
  have hc := hr.get hi
  refine w_iloadN (q := 1) C rfl d56_0 rfl ?_
  refine w_aloadN (q := 2) C rfl rfl d56_1 rfl ?_
  refine w_len (q := 3) (z := (Int32.ofNat cs.length)) C A (by rw [own_bs_len]) d56_2 rfl ?_
  refine w_callS (q := 6) (argsL := [(.int (Int32.ofNat i)), (.int (Int32.ofNat cs.length))]) (S := []) (W := 0) (cells' := 0) (slots' := 0) C (G.1 _ (List.mem_of_getElem? (i := 283) rfl)) (G.1 _ (List.mem_of_getElem? (i := 80) rfl)) (G.1 _ (List.mem_of_getElem? (i := 10) rfl)) (G.1 _ (List.mem_of_getElem? (i := 81) rfl)) (by decide) (rm_scheck G O _ _ (ofNat_neg (by omega)) ((own_nlt (by omega) hl).mpr hil)) rfl (lenOf pd_14 rfl) rfl (by decide) (own_leb rfl) (by decide) rfl rfl (by decide) (by decide) d56_3 rfl ?_
  rintro _ h5 ⟨eh6, rfl⟩
  rw [eh6]
  show AtW p l e _ s m _ below meth c n0 _ h0 0 0 (mkF m 6 #[.val (.ref t), .val (.int (Int32.ofNat i))] [])
  refine w_aloadN (q := 7) C rfl rfl d56_6 rfl ?_
  refine w_iloadN (q := 8) C rfl d56_7 rfl ?_
  refine w_baload (q := 9) (i := i) (v := (.int ch.toInt8.toInt32)) C A rfl (own_bs_get hi) d56_8 rfl ?_
  refine w_sipush (q := 12) (v := (255 : Int32)) C (by rfl) d56_9 rfl ?_
  refine w_iand (q := 13) C rfl d56_12 rfl ?_
  refine w_i2c (q := 14) C rfl d56_13 rfl ?_
  rw [show ((ch.toInt8.toInt32 &&& (255 : Int32)).toUInt32.toUInt16.toUInt32.toInt32) = ch from own_lo8 hc.1 hc.2]
  exact w_retZ (z := ch) C (t := .char) rfl (by simp) (own_nar hc.1 hc.2) d56_14 (by decide) (by decide) ⟨rfl, rfl⟩
theorem d55_0 : decode jdk_42_method_56_code 0 = .ok (.aload_n 0, 1) := by decide +kernel
theorem d55_1 : decode jdk_42_method_56_code 1 = .ok (.invokevirtual 492, 3) := by decide +kernel
theorem d55_4 : decode jdk_42_method_56_code 4 = .ok (.ifCond .eq 12, 3) := by decide +kernel
theorem d55_7 : decode jdk_42_method_56_code 7 = .ok (.aload_n 0, 1) := by decide +kernel
theorem d55_8 : decode jdk_42_method_56_code 8 = .ok (.getfield 9, 3) := by decide +kernel
theorem d55_11 : decode jdk_42_method_56_code 11 = .ok (.iload_n 1, 1) := by decide +kernel
theorem d55_12 : decode jdk_42_method_56_code 12 = .ok (.invokestatic 495, 3) := by decide +kernel
theorem d55_15 : decode jdk_42_method_56_code 15 = .ok (.ireturn, 1) := by decide +kernel
theorem d55_16 : decode jdk_42_method_56_code 16 = .ok (.aload_n 0, 1) := by decide +kernel
theorem d55_17 : decode jdk_42_method_56_code 17 = .ok (.getfield 9, 3) := by decide +kernel
theorem d55_20 : decode jdk_42_method_56_code 20 = .ok (.iload_n 1, 1) := by decide +kernel
theorem d55_21 : decode jdk_42_method_56_code 21 = .ok (.invokestatic 498, 3) := by decide +kernel
theorem d55_24 : decode jdk_42_method_56_code 24 = .ok (.ireturn, 1) := by decide +kernel
theorem pf55 : plainFor (⟨"java/lang/String", "charAt", "(I)C"⟩ : MethodName) = true := by first | exact plainFor_of_name (by first | (simp [plainName, overriddenIn]; done) | decide +kernel) | decide +kernel
theorem ef_charAt (m : MethodId) (z0 : Addr) (z1 : Int32) : entryFrame m #[(.ref z0), (.int z1)] 2 = mkF m 0 #[.val (.ref z0), .val (.int z1)] [] := by first | rfl | (simp [entryFrame, mkF, argsToLocals, Value.category, *]; done) | rfl
set_option maxRecDepth 65536 in
set_option maxHeartbeats 40000000 in
theorem rm_charAt {l : Launch} {Z : State} {a0 : Array Value} {n0 : Nat} (G : Gl Z a0 n0) {h0 : Heap} (O : Old Z n0 h0) (a : Addr) (cs : List Int32) (i : Nat) (ch : Int32) (S : Str Z h0 a cs) (hi : cs[i]? = some ch) :
    Ct [] l Z n0 (⟨"java/lang/String", "charAt", "(I)C"⟩ : MethodName) jdk_42_method_56_code 2 (some .char) ({ frames := 3, cells := 0, slots := 0, locals := 40 } : Room) #[(.ref a), (.int (Int32.ofNat i))] h0 (fun v h => h = h0 ∧ v = some (.int ch)) := by
  refine Ct.intro pf55 ?_
  intro p e s m below meth c C
  refine AtW.cast ?_ (ef_charAt m a (Int32.ofNat i))
  obtain ⟨E, hr, t, FC, FV, A⟩ := id S
  have hc := hr.get hi
  refine w_aloadN (q := 1) C rfl rfl d55_0 rfl ?_
  refine w_callV (q := 4) (argsL := []) (S := []) (W := 0) (cells' := 0) (slots' := 0) (a := a) C E (G.1 _ (List.mem_of_getElem? (i := 74) rfl)) (G.1 _ (List.mem_of_getElem? (i := 75) rfl)) (w_nf C (G.1 _ (List.mem_of_getElem? (i := 77) rfl))) (G.1 _ (List.mem_of_getElem? (i := 77) rfl)) (G.1 _ (List.mem_of_getElem? (i := 76) rfl)) (G.1 _ (List.mem_of_getElem? (i := 10) rfl)) (G.1 _ (List.mem_of_getElem? (i := 78) rfl)) (by decide) (rm_isLatin1 G O a cs S) rfl (lenOf pd_10 rfl) rfl (by decide) (own_leb rfl) (by decide) rfl rfl (by decide) (by decide) d55_1 rfl ?_
  rintro _ h7 ⟨eh8, rfl⟩
  rw [eh8]
  show AtW p l e _ s m _ below meth c n0 _ h0 0 0 (mkF m 4 #[.val (.ref a), .val (.int (Int32.ofNat i))] [(.int (1 : Int32))])
  refine w_if_eq_f (q := 7) C d55_4 rfl (by decide) ?_
  refine w_aloadN (q := 8) C rfl rfl d55_7 rfl ?_
  refine w_getF (q := 11) (host := "") C (Or.inl (G.1 _ (List.mem_of_getElem? (i := 36) rfl))) Via.refl FV d55_8 rfl ?_
  refine w_iloadN (q := 12) C rfl d55_11 rfl ?_
  refine w_callS (q := 15) (argsL := [(.ref t), (.int (Int32.ofNat i))]) (S := []) (W := 0) (cells' := 0) (slots' := 0) C (G.1 _ (List.mem_of_getElem? (i := 279) rfl)) (G.1 _ (List.mem_of_getElem? (i := 280) rfl)) (G.1 _ (List.mem_of_getElem? (i := 281) rfl)) (G.1 _ (List.mem_of_getElem? (i := 282) rfl)) (by decide) (rm_charAtL G O t cs i ch A hr hi) rfl (lenOf pd_41 rfl) rfl (by decide) (own_leb rfl) (by decide) rfl rfl (by decide) (by decide) d55_12 rfl ?_
  rintro _ h9 ⟨eh10, rfl⟩
  rw [eh10]
  show AtW p l e _ s m _ below meth c n0 _ h0 0 0 (mkF m 15 #[.val (.ref a), .val (.int (Int32.ofNat i))] [(.int ch)])
  exact w_retZ (z := ch) C (t := .char) rfl (by simp) (own_nar hc.1 hc.2) d55_15 (by decide) (by decide) ⟨rfl, rfl⟩
theorem own_fill (cs : List Int32) (i k : Nat) (c : Int32) (h : cs[i]? = some c) : (own_bs (cs.take i) ++ List.replicate (k + 1) (Value.int (0 : Int32))).set i (.int c.toInt8.toInt32) = own_bs (cs.take (i + 1)) ++ List.replicate k (Value.int (0 : Int32)) := by
  obtain ⟨hi, hg⟩ := List.getElem?_eq_some_iff.mp h
  have hl : (own_bs (cs.take i)).length = i := by rw [own_bs_len, List.length_take]; omega
  rw [List.set_append_right _ _ (by omega), hl, Nat.sub_self, List.replicate_succ, List.set_cons_zero, List.take_add_one, h]
  simp [own_bs]

theorem d6_0 : decode jdk_52_method_21_code 0 = .ok (.iconst 0, 1) := by decide +kernel
theorem d6_1 : decode jdk_52_method_21_code 1 = .ok (.istore 5, 2) := by decide +kernel
theorem d6_3 : decode jdk_52_method_21_code 3 = .ok (.iload 5, 2) := by decide +kernel
theorem d6_5 : decode jdk_52_method_21_code 5 = .ok (.iload 4, 2) := by decide +kernel
theorem d6_7 : decode jdk_52_method_21_code 7 = .ok (.if_icmp .ge 37, 3) := by decide +kernel
theorem d6_10 : decode jdk_52_method_21_code 10 = .ok (.aload_n 0, 1) := by decide +kernel
theorem d6_11 : decode jdk_52_method_21_code 11 = .ok (.iload_n 1, 1) := by decide +kernel
theorem d6_12 : decode jdk_52_method_21_code 12 = .ok (.caload, 1) := by decide +kernel
theorem d6_13 : decode jdk_52_method_21_code 13 = .ok (.istore 6, 2) := by decide +kernel
theorem d6_15 : decode jdk_52_method_21_code 15 = .ok (.iload 6, 2) := by decide +kernel
theorem d6_17 : decode jdk_52_method_21_code 17 = .ok (.sipush 255, 3) := by decide +kernel
theorem d6_20 : decode jdk_52_method_21_code 20 = .ok (.if_icmp .le 6, 3) := by decide +kernel
theorem d6_23 : decode jdk_52_method_21_code 23 = .ok (.iload 5, 2) := by decide +kernel
theorem d6_25 : decode jdk_52_method_21_code 25 = .ok (.ireturn, 1) := by decide +kernel
theorem d6_26 : decode jdk_52_method_21_code 26 = .ok (.aload_n 2, 1) := by decide +kernel
theorem d6_27 : decode jdk_52_method_21_code 27 = .ok (.iload_n 3, 1) := by decide +kernel
theorem d6_28 : decode jdk_52_method_21_code 28 = .ok (.iload 6, 2) := by decide +kernel
theorem d6_30 : decode jdk_52_method_21_code 30 = .ok (.i2b, 1) := by decide +kernel
theorem d6_31 : decode jdk_52_method_21_code 31 = .ok (.bastore, 1) := by decide +kernel
theorem d6_32 : decode jdk_52_method_21_code 32 = .ok (.iinc 1 1, 3) := by decide +kernel
theorem d6_35 : decode jdk_52_method_21_code 35 = .ok (.iinc 3 1, 3) := by decide +kernel
theorem d6_38 : decode jdk_52_method_21_code 38 = .ok (.iinc 5 1, 3) := by decide +kernel
theorem d6_41 : decode jdk_52_method_21_code 41 = .ok (.goto (-38), 3) := by decide +kernel
theorem d6_44 : decode jdk_52_method_21_code 44 = .ok (.iload 4, 2) := by decide +kernel
theorem d6_46 : decode jdk_52_method_21_code 46 = .ok (.ireturn, 1) := by decide +kernel
theorem pf6 : plainFor (⟨"java/lang/StringUTF16", "compress", "([CI[BII)I"⟩ : MethodName) = true := by first | exact plainFor_of_name (by first | (simp [plainName, overriddenIn]; done) | decide +kernel) | decide +kernel
theorem ef_comp5 (m : MethodId) (z0 : Addr) (z1 : Int32) (z2 : Addr) (z3 : Int32) (z4 : Int32) : entryFrame m #[(.ref z0), (.int z1), (.ref z2), (.int z3), (.int z4)] 7 = mkF m 0 #[.val (.ref z0), .val (.int z1), .val (.ref z2), .val (.int z3), .val (.int z4), .unset, .unset] [] := by first | rfl | (simp [entryFrame, mkF, argsToLocals, Value.category, *]; done) | rfl
set_option maxRecDepth 65536 in
set_option maxHeartbeats 40000000 in
theorem rm_comp5 {l : Launch} {Z : State} {a0 : Array Value} {n0 : Nat} (G : Gl Z a0 n0) {h0 : Heap} (O : Old Z n0 h0) (a : Addr) (cs : List Int32) (t : Addr) (A : Ar Z h0 a .char (cs.map Value.int)) (hr : L1 cs) (B : Ar Z h0 t .byte (List.replicate cs.length (Value.int (0 : Int32)))) (hne : a ≠ t) (hge : n0 ≤ t) :
    Ct [] l Z n0 (⟨"java/lang/StringUTF16", "compress", "([CI[BII)I"⟩ : MethodName) jdk_52_method_21_code 7 (some .int) ({ frames := 0, cells := 0, slots := 0, locals := 0 } : Room) #[(.ref a), (.int (0 : Int32)), (.ref t), (.int (0 : Int32)), (.int (Int32.ofNat cs.length))] h0 (fun v h => Keep h0 h [t] ∧ v = some (.int (Int32.ofNat cs.length)) ∧ Ar Z h t .byte (own_bs cs)) := by
  refine Ct.intro pf6 ?_
  intro p e s m below meth c C
  refine AtW.cast ?_ (ef_comp5 m a (0 : Int32) t (0 : Int32) (Int32.ofNat cs.length))
  have hl : cs.length < 2 ^ 31 := by have := A.1; rw [List.length_map] at this; exact this
  have LOOP : ∀ (k i : Nat) (h1 : Heap) (s6 : Slot), i + k = cs.length → One s6 → Keep h0 h1 [t] → Ar Z h1 t .byte (own_bs (cs.take i) ++ List.replicate k (Value.int (0 : Int32))) → AtW p l e ({ frames := 0, cells := 0, slots := 0, locals := 0 } : Room) s m #[(.ref a), (.int (0 : Int32)), (.ref t), (.int (0 : Int32)), (.int (Int32.ofNat cs.length))] below meth c n0 (fun v h => Keep h0 h [t] ∧ v = some (.int (Int32.ofNat cs.length)) ∧ Ar Z h t .byte (own_bs cs)) h1 0 0 (mkF m 3 #[.val (.ref a), .val (.int (Int32.ofNat i)), .val (.ref t), .val (.int (Int32.ofNat i)), .val (.int (Int32.ofNat cs.length)), .val (.int (Int32.ofNat i)), s6] []) := by
    intro k
    induction k with
    | zero =>
      intro i h1 s6 hik hs K V
      obtain rfl : i = cs.length := by omega
      refine w_iload (q := 5) C rfl d6_3 rfl ?_
      refine w_iload (q := 7) C rfl d6_5 rfl ?_
      refine w_icmp_ge_t (q := 44) C d6_7 (by decide) (by decide) (fun q => Nat.lt_irrefl _ ((own_nlt hl hl).mp q)) ?_
      refine w_iload (q := 46) C rfl d6_44 rfl ?_
      exact w_retI C rfl d6_46 (by decide) (by decide) ⟨K, rfl, by simpa using V⟩
    | succ k ih =>
      intro i h1 s6 hik hs K V
      have hil : i < cs.length := by omega
      obtain ⟨ch, hch⟩ : ∃ ch, cs[i]? = some ch := ⟨_, List.getElem?_eq_getElem hil⟩
      have hc := hr.get hch
      refine w_iload (q := 5) C rfl d6_3 rfl ?_
      refine w_iload (q := 7) C rfl d6_5 rfl ?_
      refine w_icmp_ge_f (q := 10) C d6_7 rfl ((own_nlt (by omega) hl).mpr hil) ?_
      refine w_aloadN (q := 11) C rfl rfl d6_10 rfl ?_
      refine w_iloadN (q := 12) C rfl d6_11 rfl ?_
      refine w_caload (q := 13) (i := i) (v := (.int ch)) C (A.keep K (ninS hne nin0)) rfl (by simp [hch]) d6_12 rfl ?_
      refine w_istore (q := 15) (L' := #[.val (.ref a), .val (.int (Int32.ofNat i)), .val (.ref t), .val (.int (Int32.ofNat i)), .val (.int (Int32.ofNat cs.length)), .val (.int (Int32.ofNat i)), .val (.int ch)]) C (Jvm.Free.XS.store1 (o := s6) rfl hs rfl) d6_13 rfl ?_
      refine w_iload (q := 17) C rfl d6_15 rfl ?_
      refine w_sipush (q := 20) (v := (255 : Int32)) C (by rfl) d6_17 rfl ?_
      refine w_icmp_le_t (q := 26) C d6_20 (by decide) (by decide) hc.2 ?_
      refine w_aloadN (q := 27) C rfl rfl d6_26 rfl ?_
      refine w_iloadN (q := 28) C rfl d6_27 rfl ?_
      refine w_iload (q := 30) C rfl d6_28 rfl ?_
      refine w_i2b (q := 31) C rfl d6_30 rfl ?_
      refine w_bastore (q := 32) (z := ch.toInt8.toInt32) (i := i) C (own_nar8 ch) V rfl (by simp [own_bs_len]; omega) hge d6_31 rfl ?_
      intro h11 Wh11 Vh11
      rw [own_fill cs i k ch hch] at Vh11
      refine w_iinc (q := 35) (L' := #[.val (.ref a), .val (.int (Int32.ofNat (i + 1))), .val (.ref t), .val (.int (Int32.ofNat i)), .val (.int (Int32.ofNat cs.length)), .val (.int (Int32.ofNat i)), .val (.int ch)]) C rfl (own_one i) rfl d6_32 rfl ?_
      refine w_iinc (q := 38) (L' := #[.val (.ref a), .val (.int (Int32.ofNat (i + 1))), .val (.ref t), .val (.int (Int32.ofNat (i + 1))), .val (.int (Int32.ofNat cs.length)), .val (.int (Int32.ofNat i)), .val (.int ch)]) C rfl (own_one i) rfl d6_35 rfl ?_
      refine w_iinc (q := 41) (L' := #[.val (.ref a), .val (.int (Int32.ofNat (i + 1))), .val (.ref t), .val (.int (Int32.ofNat (i + 1))), .val (.int (Int32.ofNat cs.length)), .val (.int (Int32.ofNat (i + 1))), .val (.int ch)]) C rfl (own_one i) rfl d6_38 rfl ?_
      refine w_goto (q := 3) C d6_41 (by decide) (by decide) ?_
      exact ih (i + 1) h11 _ (by omega) (One.val rfl) (K.wr Wh11 (Or.inl (List.mem_cons_self ..))) Vh11
  refine w_iconst (q := 1) (v := (0 : Int32)) C (by rfl) d6_0 rfl ?_
  refine w_istore (q := 3) (L' := #[.val (.ref a), .val (.int (0 : Int32)), .val (.ref t), .val (.int (0 : Int32)), .val (.int (Int32.ofNat cs.length)), .val (.int (0 : Int32)), .unset]) C rfl d6_1 rfl ?_
  exact LOOP cs.length 0 h0 .unset (by omega) One.u (Keep.refl _ _) (by simpa [own_bs] using B)
theorem d5_0 : decode jdk_52_method_16_code 0 = .ok (.iload_n 2, 1) := by decide +kernel
theorem d5_1 : decode jdk_52_method_16_code 1 = .ok (.newarray .byte, 2) := by decide +kernel
theorem d5_3 : decode jdk_52_method_16_code 3 = .ok (.astore_n 3, 1) := by decide +kernel
theorem d5_4 : decode jdk_52_method_16_code 4 = .ok (.aload_n 0, 1) := by decide +kernel
theorem d5_5 : decode jdk_52_method_16_code 5 = .ok (.iload_n 1, 1) := by decide +kernel
theorem d5_6 : decode jdk_52_method_16_code 6 = .ok (.aload_n 3, 1) := by decide +kernel
theorem d5_7 : decode jdk_52_method_16_code 7 = .ok (.iconst 0, 1) := by decide +kernel
theorem d5_8 : decode jdk_52_method_16_code 8 = .ok (.iload_n 2, 1) := by decide +kernel
theorem d5_9 : decode jdk_52_method_16_code 9 = .ok (.invokestatic 115, 3) := by decide +kernel
theorem d5_12 : decode jdk_52_method_16_code 12 = .ok (.istore 4, 2) := by decide +kernel
theorem d5_14 : decode jdk_52_method_16_code 14 = .ok (.iload 4, 2) := by decide +kernel
theorem d5_16 : decode jdk_52_method_16_code 16 = .ok (.iload_n 2, 1) := by decide +kernel
theorem d5_17 : decode jdk_52_method_16_code 17 = .ok (.if_icmp .eq 40, 3) := by decide +kernel
theorem d5_20 : decode jdk_52_method_16_code 20 = .ok (.aload_n 0, 1) := by decide +kernel
theorem d5_21 : decode jdk_52_method_16_code 21 = .ok (.iload_n 1, 1) := by decide +kernel
theorem d5_22 : decode jdk_52_method_16_code 22 = .ok (.iload_n 2, 1) := by decide +kernel
theorem d5_23 : decode jdk_52_method_16_code 23 = .ok (.invokestatic 119, 3) := by decide +kernel
theorem d5_26 : decode jdk_52_method_16_code 26 = .ok (.astore 5, 2) := by decide +kernel
theorem d5_28 : decode jdk_52_method_16_code 28 = .ok (.aload 5, 2) := by decide +kernel
theorem d5_30 : decode jdk_52_method_16_code 30 = .ok (.iload 4, 2) := by decide +kernel
theorem d5_32 : decode jdk_52_method_16_code 32 = .ok (.invokestatic 71, 3) := by decide +kernel
theorem d5_35 : decode jdk_52_method_16_code 35 = .ok (.sipush 255, 3) := by decide +kernel
theorem d5_38 : decode jdk_52_method_16_code 38 = .ok (.if_icmp .gt 16, 3) := by decide +kernel
theorem d5_41 : decode jdk_52_method_16_code 41 = .ok (.aload 5, 2) := by decide +kernel
theorem d5_43 : decode jdk_52_method_16_code 43 = .ok (.iconst 0, 1) := by decide +kernel
theorem d5_44 : decode jdk_52_method_16_code 44 = .ok (.aload_n 3, 1) := by decide +kernel
theorem d5_45 : decode jdk_52_method_16_code 45 = .ok (.iconst 0, 1) := by decide +kernel
theorem d5_46 : decode jdk_52_method_16_code 46 = .ok (.iload_n 2, 1) := by decide +kernel
theorem d5_47 : decode jdk_52_method_16_code 47 = .ok (.invokestatic 123, 3) := by decide +kernel
theorem d5_50 : decode jdk_52_method_16_code 50 = .ok (.iload_n 2, 1) := by decide +kernel
theorem d5_51 : decode jdk_52_method_16_code 51 = .ok (.if_icmp .eq 6, 3) := by decide +kernel
theorem d5_54 : decode jdk_52_method_16_code 54 = .ok (.aload 5, 2) := by decide +kernel
theorem d5_56 : decode jdk_52_method_16_code 56 = .ok (.areturn, 1) := by decide +kernel
theorem d5_57 : decode jdk_52_method_16_code 57 = .ok (.aload_n 3, 1) := by decide +kernel
theorem d5_58 : decode jdk_52_method_16_code 58 = .ok (.areturn, 1) := by decide +kernel
theorem pf5 : plainFor (⟨"java/lang/StringUTF16", "compress", "([CII)[B"⟩ : MethodName) = true := by first | exact plainFor_of_name (by first | (simp [plainName, overriddenIn]; done) | decide +kernel) | decide +kernel
theorem ef_comp3 (m : MethodId) (z0 : Addr) (z1 : Int32) (z2 : Int32) : entryFrame m #[(.ref z0), (.int z1), (.int z2)] 6 = mkF m 0 #[.val (.ref z0), .val (.int z1), .val (.int z2), .unset, .unset, .unset] [] := by first | rfl | (simp [entryFrame, mkF, argsToLocals, Value.category, *]; done) | rfl
set_option maxRecDepth 65536 in
set_option maxHeartbeats 40000000 in
theorem rm_comp3 {l : Launch} {Z : State} {a0 : Array Value} {n0 : Nat} (G : Gl Z a0 n0) {h0 : Heap} (O : Old Z n0 h0) (a : Addr) (cs : List Int32) (A : Ar Z h0 a .char (cs.map Value.int)) (hr : L1 cs) (hcap : cs.length ≤ 3) :
    Ct [] l Z n0 (⟨"java/lang/StringUTF16", "compress", "([CII)[B"⟩ : MethodName) jdk_52_method_16_code 6 (some (.array .byte)) ({ frames := 1, cells := 1, slots := 3, locals := 18 } : Room) #[(.ref a), (.int (0 : Int32)), (.int (Int32.ofNat cs.length))] h0 (fun v h => Keep h0 h [] ∧ ∃ t, v = some (.ref t) ∧ h0.size ≤ t ∧ Ar Z h t .byte (own_bs cs)) := by
  refine Ct.intro pf5 ?_
  intro p e s m below meth c C
  refine AtW.cast ?_ (ef_comp3 m a (0 : Int32) (Int32.ofNat cs.length))
  have hl : cs.length < 2 ^ 31 := by omega
  refine w_iloadN (q := 1) C rfl d5_0 rfl ?_
  refine w_newArr (q := 3) (cap := 3) (cells' := 1) (slots' := 3) C (G.1 _ (List.mem_of_getElem? (i := 27) rfl)) rfl (ofNat_neg hl) (by rw [ofNat_nat hl]; exact hcap) (by decide) rfl rfl (by decide) (by decide) d5_1 rfl ?_
  intro h12 t g_t Eh12 V_t
  replace V_t : Ar Z h12 t .byte (List.replicate cs.length (Value.int (0 : Int32))) := by rw [ofNat_nat hl] at V_t; exact V_t
  have hge : n0 ≤ t := by rw [g_t]; exact Old_le O
  have hg0 : h0.size ≤ t := Nat.le_of_eq g_t.symm
  have K1 : Keep h0 h12 [] := Keep.of_ext Eh12
  replace O := Old_k0 O K1
  refine w_astoreN (q := 4) (L' := #[.val (.ref a), .val (.int (0 : Int32)), .val (.int (Int32.ofNat cs.length)), .val (.ref t), .unset, .unset]) C rfl rfl d5_3 rfl ?_
  refine w_aloadN (q := 5) C rfl rfl d5_4 rfl ?_
  refine w_iloadN (q := 6) C rfl d5_5 rfl ?_
  refine w_aloadN (q := 7) C rfl rfl d5_6 rfl ?_
  refine w_iconst (q := 8) (v := (0 : Int32)) C (by rfl) d5_7 rfl ?_
  refine w_iloadN (q := 9) C rfl d5_8 rfl ?_
  refine w_callS (q := 12) (argsL := [(.ref a), (.int (0 : Int32)), (.ref t), (.int (0 : Int32)), (.int (Int32.ofNat cs.length))]) (S := []) (W := 0) (cells' := 1) (slots' := 3) C (G.1 _ (List.mem_of_getElem? (i := 28) rfl)) (G.1 _ (List.mem_of_getElem? (i := 29) rfl)) (G.1 _ (List.mem_of_getElem? (i := 25) rfl)) (G.1 _ (List.mem_of_getElem? (i := 30) rfl)) (by decide) (rm_comp5 G O a cs t (Ar_k0 A K1) hr V_t (Nat.ne_of_lt (by rw [g_t]; exact A.lt)) hge) rfl (lenOf pd_6 rfl) rfl (by decide) (own_leb rfl) (by decide) rfl rfl (by decide) (by decide) d5_9 rfl ?_
  rintro _ h13 ⟨Kh13, rfl, B2⟩
  show AtW p l e _ s m _ below meth c n0 _ h13 1 3 (mkF m 12 #[.val (.ref a), .val (.int (0 : Int32)), .val (.int (Int32.ofNat cs.length)), .val (.ref t), .unset, .unset] [(.int (Int32.ofNat cs.length))])
  refine w_istore (q := 14) (L' := #[.val (.ref a), .val (.int (0 : Int32)), .val (.int (Int32.ofNat cs.length)), .val (.ref t), .val (.int (Int32.ofNat cs.length)), .unset]) C rfl d5_12 rfl ?_
  refine w_iload (q := 16) C rfl d5_14 rfl ?_
  refine w_iloadN (q := 17) C rfl d5_16 rfl ?_
  refine w_icmp_eq_t (q := 57) C d5_17 (by decide) (by decide) rfl ?_
  refine w_aloadN (q := 58) C rfl rfl d5_57 rfl ?_
  exact w_retA C rfl rfl rfl d5_58 (by decide) (by decide) ⟨own_K1 K1 Kh13 hg0, t, rfl, hg0, B2⟩
theorem d7_0 : decode jdk_52_method_15_code 0 = .ok (.iload_n 1, 1) := by decide +kernel
theorem d7_1 : decode jdk_52_method_15_code 1 = .ok (.aload_n 0, 1) := by decide +kernel
theorem d7_2 : decode jdk_52_method_15_code 2 = .ok (.arraylength, 1) := by decide +kernel
theorem d7_3 : decode jdk_52_method_15_code 3 = .ok (.isub, 1) := by decide +kernel
theorem d7_4 : decode jdk_52_method_15_code 4 = .ok (.bipush 31, 2) := by decide +kernel
theorem d7_6 : decode jdk_52_method_15_code 6 = .ok (.iushr, 1) := by decide +kernel
theorem d7_7 : decode jdk_52_method_15_code 7 = .ok (.i2b, 1) := by decide +kernel
theorem d7_8 : decode jdk_52_method_15_code 8 = .ok (.ireturn, 1) := by decide +kernel
theorem pf7 : plainFor (⟨"java/lang/StringUTF16", "coderFromArrayLen", "([BI)B"⟩ : MethodName) = true := by first | exact plainFor_of_name (by first | (simp [plainName, overriddenIn]; done) | decide +kernel) | decide +kernel
theorem ef_codL (m : MethodId) (z0 : Addr) (z1 : Int32) : entryFrame m #[(.ref z0), (.int z1)] 2 = mkF m 0 #[.val (.ref z0), .val (.int z1)] [] := by first | rfl | (simp [entryFrame, mkF, argsToLocals, Value.category, *]; done) | rfl
set_option maxRecDepth 65536 in
set_option maxHeartbeats 40000000 in
theorem rm_codL {l : Launch} {Z : State} {a0 : Array Value} {n0 : Nat} (G : Gl Z a0 n0) {h0 : Heap} (O : Old Z n0 h0) (t : Addr) (cs : List Int32) (A : Ar Z h0 t .byte (own_bs cs)) :
    Ct [] l Z n0 (⟨"java/lang/StringUTF16", "coderFromArrayLen", "([BI)B"⟩ : MethodName) jdk_52_method_15_code 2 (some .byte) ({ frames := 0, cells := 0, slots := 0, locals := 0 } : Room) #[(.ref t), (.int (Int32.ofNat cs.length))] h0 (fun v h => h = h0 ∧ v = some (.int 0)) := by
  refine Ct.intro pf7 ?_
  intro p e s m below meth c C
  refine AtW.cast ?_ (ef_codL m t (Int32.ofNat cs.length))
  refine w_iloadN (q := 1) C rfl d7_0 rfl ?_
  refine w_aloadN (q := 2) C rfl rfl d7_1 rfl ?_
  refine w_len (q := 3) (z := (Int32.ofNat cs.length)) C A (by rw [own_bs_len]) d7_2 rfl ?_
  refine w_isub (q := 4) C rfl d7_3 rfl ?_
  rw [show ((Int32.ofNat cs.length) - (Int32.ofNat cs.length)) = (0 : Int32) from Int32.sub_self _]
  refine w_bipush (q := 6) (v := (31 : Int32)) C (by rfl) d7_4 rfl ?_
  refine w_iushr (q := 7) (z := (0 : Int32)) C (by decide) d7_6 rfl ?_
  refine w_i2b (q := 8) (z := (0 : Int32)) C (by decide) d7_7 rfl ?_
  exact w_retZ (z := (0 : Int32)) C (t := .byte) rfl (by simp) (by decide) d7_8 (by decide) (by decide) ⟨rfl, rfl⟩
theorem d3_0 : decode jdk_42_method_149_code 0 = .ok (.aload_n 0, 1) := by decide +kernel
theorem d3_1 : decode jdk_42_method_149_code 1 = .ok (.invokespecial 1, 3) := by decide +kernel
theorem d3_4 : decode jdk_42_method_149_code 4 = .ok (.iload_n 3, 1) := by decide +kernel
theorem d3_5 : decode jdk_42_method_149_code 5 = .ok (.ifCond .ne 22, 3) := by decide +kernel
theorem d3_8 : decode jdk_42_method_149_code 8 = .ok (.aload_n 0, 1) := by decide +kernel
theorem d3_9 : decode jdk_42_method_149_code 9 = .ok (.ldc 7, 2) := by decide +kernel
theorem d3_11 : decode jdk_42_method_149_code 11 = .ok (.getfield 9, 3) := by decide +kernel
theorem d3_14 : decode jdk_42_method_149_code 14 = .ok (.putfield 9, 3) := by decide +kernel
theorem d3_17 : decode jdk_42_method_149_code 17 = .ok (.aload_n 0, 1) := by decide +kernel
theorem d3_18 : decode jdk_42_method_149_code 18 = .ok (.ldc 7, 2) := by decide +kernel
theorem d3_20 : decode jdk_42_method_149_code 20 = .ok (.getfield 15, 3) := by decide +kernel
theorem d3_23 : decode jdk_42_method_149_code 23 = .ok (.putfield 15, 3) := by decide +kernel
theorem d3_26 : decode jdk_42_method_149_code 26 = .ok (.return_, 1) := by decide +kernel
theorem d3_27 : decode jdk_42_method_149_code 27 = .ok (.getstatic 38, 3) := by decide +kernel
theorem d3_30 : decode jdk_42_method_149_code 30 = .ok (.ifCond .eq 28, 3) := by decide +kernel
theorem d3_33 : decode jdk_42_method_149_code 33 = .ok (.aload_n 1, 1) := by decide +kernel
theorem d3_34 : decode jdk_42_method_149_code 34 = .ok (.iload_n 2, 1) := by decide +kernel
theorem d3_35 : decode jdk_42_method_149_code 35 = .ok (.iload_n 3, 1) := by decide +kernel
theorem d3_36 : decode jdk_42_method_149_code 36 = .ok (.invokestatic 177, 3) := by decide +kernel
theorem d3_39 : decode jdk_42_method_149_code 39 = .ok (.astore 5, 2) := by decide +kernel
theorem d3_41 : decode jdk_42_method_149_code 41 = .ok (.aload_n 0, 1) := by decide +kernel
theorem d3_42 : decode jdk_42_method_149_code 42 = .ok (.aload 5, 2) := by decide +kernel
theorem d3_44 : decode jdk_42_method_149_code 44 = .ok (.iload_n 3, 1) := by decide +kernel
theorem d3_45 : decode jdk_42_method_149_code 45 = .ok (.invokestatic 47, 3) := by decide +kernel
theorem d3_48 : decode jdk_42_method_149_code 48 = .ok (.putfield 15, 3) := by decide +kernel
theorem d3_51 : decode jdk_42_method_149_code 51 = .ok (.aload_n 0, 1) := by decide +kernel
theorem d3_52 : decode jdk_42_method_149_code 52 = .ok (.aload 5, 2) := by decide +kernel
theorem d3_54 : decode jdk_42_method_149_code 54 = .ok (.putfield 9, 3) := by decide +kernel
theorem d3_57 : decode jdk_42_method_149_code 57 = .ok (.return_, 1) := by decide +kernel
theorem d3_58 : decode jdk_42_method_149_code 58 = .ok (.aload_n 0, 1) := by decide +kernel
theorem d3_59 : decode jdk_42_method_149_code 59 = .ok (.iconst 1, 1) := by decide +kernel
theorem d3_60 : decode jdk_42_method_149_code 60 = .ok (.putfield 15, 3) := by decide +kernel
theorem d3_63 : decode jdk_42_method_149_code 63 = .ok (.aload_n 0, 1) := by decide +kernel
theorem d3_64 : decode jdk_42_method_149_code 64 = .ok (.aload_n 1, 1) := by decide +kernel
theorem d3_65 : decode jdk_42_method_149_code 65 = .ok (.iload_n 2, 1) := by decide +kernel
theorem d3_66 : decode jdk_42_method_149_code 66 = .ok (.iload_n 3, 1) := by decide +kernel
theorem d3_67 : decode jdk_42_method_149_code 67 = .ok (.invokestatic 180, 3) := by decide +kernel
theorem d3_70 : decode jdk_42_method_149_code 70 = .ok (.putfield 9, 3) := by decide +kernel
theorem d3_73 : decode jdk_42_method_149_code 73 = .ok (.return_, 1) := by decide +kernel
theorem pf3 : plainFor (⟨"java/lang/String", "<init>", "([CIILjava/lang/Void;)V"⟩ : MethodName) = true := by first | exact plainFor_of_name (by first | (simp [plainName, overriddenIn]; done) | decide +kernel) | decide +kernel
theorem ef_strinit4 (m : MethodId) (z0 : Addr) (z1 : Addr) (z2 : Int32) (z3 : Int32) : entryFrame m #[(.ref z0), (.ref z1), (.int z2), (.int z3), .null] 6 = mkF m 0 #[.val (.ref z0), .val (.ref z1), .val (.int z2), .val (.int z3), .val .null, .unset] [] := by first | rfl | (simp [entryFrame, mkF, argsToLocals, Value.category, *]; done) | rfl
set_option maxRecDepth 65536 in
set_option maxHeartbeats 40000000 in
theorem rm_strinit4 {l : Launch} {Z : State} {a0 : Array Value} {n0 : Nat} (G : Gl Z a0 n0) {h0 : Heap} (O : Old Z n0 h0) (a : Addr) (b : Addr) (cs : List Int32) (E : Exa Z h0 a "java/lang/String") (FV : Fld Z h0 a "java/lang/String" "value" "[B" .null) (FC : Fld Z h0 a "java/lang/String" "coder" "B" (.int (0 : Int32))) (hge : n0 ≤ a) (A : Ar Z h0 b .char (cs.map Value.int)) (hr : L1 cs) (hcap : cs.length ≤ 3) (h1 : cs.length ≠ 0) :
    Ct [] l Z n0 (⟨"java/lang/String", "<init>", "([CIILjava/lang/Void;)V"⟩ : MethodName) jdk_42_method_149_code 6 none ({ frames := 2, cells := 1, slots := 3, locals := 35 } : Room) #[(.ref a), (.ref b), (.int (0 : Int32)), (.int (Int32.ofNat cs.length)), .null] h0 (fun v h => Keep h0 h [a] ∧ v = none ∧ Str Z h a cs) := by
  refine Ct.intro pf3 ?_
  intro p e s m below meth c C
  refine AtW.cast ?_ (ef_strinit4 m a b (0 : Int32) (Int32.ofNat cs.length))
  obtain ⟨zc, SC, hzc⟩ := G.cs
  refine w_aloadN (q := 1) C rfl rfl d3_0 rfl ?_
  refine w_initO (q := 4) (W := 0) C (G.1 _ (List.mem_of_getElem? (i := 19) rfl)) (G.1 _ (List.mem_of_getElem? (i := 20) rfl)) (G.1 _ (List.mem_of_getElem? (i := 21) rfl)) rfl (by decide) (own_leb rfl) (by decide) d3_1 rfl ?_
  refine w_iloadN (q := 5) C rfl d3_4 rfl ?_
  refine w_if_ne_t (q := 27) C d3_5 (by decide) (by decide) (fun q => h1 ((own_neq (n := 0) (by omega) (by omega)).mp q)) ?_
  refine w_getS (q := 30) (host := "") C (Or.inl (G.1 _ (List.mem_of_getElem? (i := 22) rfl))) Via.refl (SC.ext O.2) d3_27 rfl ?_
  refine w_if_eq_f (q := 33) C d3_30 rfl hzc ?_
  refine w_aloadN (q := 34) C rfl rfl d3_33 rfl ?_
  refine w_iloadN (q := 35) C rfl d3_34 rfl ?_
  refine w_iloadN (q := 36) C rfl d3_35 rfl ?_
  have A_lt := E.lt
  refine w_callS (q := 39) (argsL := [(.ref b), (.int (0 : Int32)), (.int (Int32.ofNat cs.length))]) (S := []) (W := 0) (cells' := 1) (slots' := 3) C (G.1 _ (List.mem_of_getElem? (i := 23) rfl)) (G.1 _ (List.mem_of_getElem? (i := 24) rfl)) (G.1 _ (List.mem_of_getElem? (i := 25) rfl)) (G.1 _ (List.mem_of_getElem? (i := 26) rfl)) (by decide) (rm_comp3 G O b cs A hr hcap) rfl (lenOf pd_5 rfl) rfl (by decide) (own_leb rfl) (by decide) rfl rfl (by decide) (by decide) d3_36 rfl ?_
  rintro _ h14 ⟨Kh14, t, rfl, hg, B⟩
  show AtW p l e _ s m _ below meth c n0 _ h14 1 3 (mkF m 39 #[.val (.ref a), .val (.ref b), .val (.int (0 : Int32)), .val (.int (Int32.ofNat cs.length)), .val .null, .unset] [(.ref t)])
  replace O := Old_k0 O Kh14
  replace E := Exa_k0 E Kh14
  replace FV := Fld_k0 FV Kh14
  replace FC := Fld_k0 FC Kh14
  have hne : t ≠ a := Ne.symm (Nat.ne_of_lt (Nat.lt_of_lt_of_le A_lt hg))
  refine w_astore (q := 41) (L' := #[.val (.ref a), .val (.ref b), .val (.int (0 : Int32)), .val (.int (Int32.ofNat cs.length)), .val .null, .val (.ref t)]) C rfl rfl d3_39 rfl ?_
  refine w_aloadN (q := 42) C rfl rfl d3_41 rfl ?_
  refine w_aload (q := 44) C rfl rfl d3_42 rfl ?_
  refine w_iloadN (q := 45) C rfl d3_44 rfl ?_
  refine w_callS (q := 48) (argsL := [(.ref t), (.int (Int32.ofNat cs.length))]) (S := [(.ref a)]) (W := 1) (cells' := 1) (slots' := 3) C (G.1 _ (List.mem_of_getElem? (i := 31) rfl)) (G.1 _ (List.mem_of_getElem? (i := 32) rfl)) (G.1 _ (List.mem_of_getElem? (i := 25) rfl)) (G.1 _ (List.mem_of_getElem? (i := 33) rfl)) (by decide) (rm_codL G O t cs B) rfl (lenOf pd_7 rfl) rfl (by decide) (own_leb rfl) (by decide) rfl rfl (by decide) (by decide) d3_45 rfl ?_
  rintro _ h15 ⟨eh16, rfl⟩
  rw [eh16]
  show AtW p l e _ s m _ below meth c n0 _ h14 1 3 (mkF m 48 #[.val (.ref a), .val (.ref b), .val (.int (0 : Int32)), .val (.int (Int32.ofNat cs.length)), .val .null, .val (.ref t)] [(.int (0 : Int32)), (.ref a)])
  refine w_putF (q := 51) (host := "") (v' := (.int (0 : Int32))) C (G.1 _ (List.mem_of_getElem? (i := 34) rfl)) Via.refl FC E (Or.inr ⟨(G.1 _ (List.mem_of_getElem? (i := 35) rfl)), rfl, rfl⟩) (G.1 _ (List.mem_of_getElem? (i := 9) rfl)) (ty := .byte) (by decide) rfl rfl hge d3_48 rfl ?_
  intro h17 Wh17
  have K2 : Keep h0 h17 [a] := ((Keep.refl h0 [a]).trans Kh14 (all0 (P := fun x => x ∈ [a] ∨ h0.size ≤ x))).wr Wh17 (Or.inl (List.mem_cons_self ..))
  replace FC := FC.same Wh17
  replace FV := FV.other Wh17 (Or.inr (slot_ne (Or.inr (G.1 _ (List.mem_of_getElem? (i := 37) rfl))) (Or.inr (G.1 _ (List.mem_of_getElem? (i := 35) rfl))) (by decide) (t := .array .byte) (t' := .byte) (by decide) (by decide)))
  replace E := E.wr Wh17
  replace B := B.other Wh17 hne
  refine w_aloadN (q := 52) C rfl rfl d3_51 rfl ?_
  refine w_aload (q := 54) C rfl rfl d3_52 rfl ?_
  refine w_putF (q := 57) (host := "") (v' := (.ref t)) C (G.1 _ (List.mem_of_getElem? (i := 36) rfl)) Via.refl FV E (Or.inr ⟨(G.1 _ (List.mem_of_getElem? (i := 37) rfl)), rfl, rfl⟩) (G.1 _ (List.mem_of_getElem? (i := 9) rfl)) (ty := (.array .byte)) (by decide) rfl rfl hge d3_54 rfl ?_
  intro h18 Wh18
  replace FV := FV.same Wh18
  replace FC := FC.other Wh18 (Or.inr (slot_ne (Or.inr (G.1 _ (List.mem_of_getElem? (i := 35) rfl))) (Or.inr (G.1 _ (List.mem_of_getElem? (i := 37) rfl))) (by decide) (t := .byte) (t' := .array .byte) (by decide) (by decide)))
  replace E := E.wr Wh18
  replace B := B.other Wh18 hne
  exact w_retV C rfl d3_57 (by decide) (by decide) ⟨K2.wr Wh18 (Or.inl (List.mem_cons_self ..)), rfl, E, hr, t, FC, FV, B⟩
theorem d2_0 : decode jdk_42_method_3_code 0 = .ok (.aload_n 0, 1) := by decide +kernel
theorem d2_1 : decode jdk_42_method_3_code 1 = .ok (.aload_n 1, 1) := by decide +kernel
theorem d2_2 : decode jdk_42_method_3_code 2 = .ok (.iconst 0, 1) := by decide +kernel
theorem d2_3 : decode jdk_42_method_3_code 3 = .ok (.aload_n 1, 1) := by decide +kernel
theorem d2_4 : decode jdk_42_method_3_code 4 = .ok (.arraylength, 1) := by decide +kernel
theorem d2_5 : decode jdk_42_method_3_code 5 = .ok (.aconst_null, 1) := by decide +kernel
theorem d2_6 : decode jdk_42_method_3_code 6 = .ok (.invokespecial 27, 3) := by decide +kernel
theorem d2_9 : decode jdk_42_method_3_code 9 = .ok (.return_, 1) := by decide +kernel
theorem pf2 : plainFor (⟨"java/lang/String", "<init>", "([C)V"⟩ : MethodName) = true := by first | exact plainFor_of_name (by first | (simp [plainName, overriddenIn]; done) | decide +kernel) | decide +kernel
theorem ef_strinit (m : MethodId) (z0 : Addr) (z1 : Addr) : entryFrame m #[(.ref z0), (.ref z1)] 2 = mkF m 0 #[.val (.ref z0), .val (.ref z1)] [] := by first | rfl | (simp [entryFrame, mkF, argsToLocals, Value.category, *]; done) | rfl
set_option maxRecDepth 65536 in
set_option maxHeartbeats 40000000 in
theorem rm_strinit {l : Launch} {Z : State} {a0 : Array Value} {n0 : Nat} (G : Gl Z a0 n0) {h0 : Heap} (O : Old Z n0 h0) (a : Addr) (b : Addr) (cs : List Int32) (E : Exa Z h0 a "java/lang/String") (FV : Fld Z h0 a "java/lang/String" "value" "[B" .null) (FC : Fld Z h0 a "java/lang/String" "coder" "B" (.int (0 : Int32))) (hge : n0 ≤ a) (A : Ar Z h0 b .char (cs.map Value.int)) (hr : L1 cs) (hcap : cs.length ≤ 3) (h1 : cs.length ≠ 0) :
    Ct [] l Z n0 (⟨"java/lang/String", "<init>", "([C)V"⟩ : MethodName) jdk_42_method_3_code 2 none ({ frames := 3, cells := 1, slots := 3, locals := 52 } : Room) #[(.ref a), (.ref b)] h0 (fun v h => Keep h0 h [a] ∧ v = none ∧ Str Z h a cs) := by
  refine Ct.intro pf2 ?_
  intro p e s m below meth c C
  refine AtW.cast ?_ (ef_strinit m a b)
  refine w_aloadN (q := 1) C rfl rfl d2_0 rfl ?_
  refine w_aloadN (q := 2) C rfl rfl d2_1 rfl ?_
  refine w_iconst (q := 3) (v := (0 : Int32)) C (by rfl) d2_2 rfl ?_
  refine w_aloadN (q := 4) C rfl rfl d2_3 rfl ?_
  refine w_len (q := 5) (z := (Int32.ofNat cs.length)) C A (by rw [List.length_map]) d2_4 rfl ?_
  refine w_aconst_null (q := 6) C d2_5 rfl ?_
  refine w_callI (q := 9) (argsL := [(.ref b), (.int (0 : Int32)), (.int (Int32.ofNat cs.length)), .null]) (S := []) (W := 0) (cells' := 1) (slots' := 3) (a := a) C rfl (G.1 _ (List.mem_of_getElem? (i := 15) rfl)) (G.1 _ (List.mem_of_getElem? (i := 16) rfl)) (G.1 _ (List.mem_of_getElem? (i := 10) rfl)) (G.1 _ (List.mem_of_getElem? (i := 18) rfl)) (by decide) (rm_strinit4 G O a b cs E FV FC hge A hr hcap h1) rfl (lenOf pd_3 rfl) rfl (by decide) (own_leb rfl) (by decide) rfl rfl (by decide) (by decide) d2_6 rfl ?_
  rintro _ h19 ⟨Kh19, rfl, S⟩
  show AtW p l e _ s m _ below meth c n0 _ h19 1 3 (mkF m 9 #[.val (.ref a), .val (.ref b)] [])
  exact w_retV C rfl d2_9 (by decide) (by decide) ⟨Kh19, rfl, S⟩
theorem d27_0 : decode jdk_68_method_71_code 0 = .ok (.getstatic 18, 3) := by decide +kernel
theorem d27_3 : decode jdk_68_method_71_code 3 = .ok (.ifCond .eq 18, 3) := by decide +kernel
theorem d27_6 : decode jdk_68_method_71_code 6 = .ok (.aload_n 0, 1) := by decide +kernel
theorem d27_7 : decode jdk_68_method_71_code 7 = .ok (.getfield 22, 3) := by decide +kernel
theorem d27_10 : decode jdk_68_method_71_code 10 = .ok (.aload_n 1, 1) := by decide +kernel
theorem d27_11 : decode jdk_68_method_71_code 11 = .ok (.invokevirtual 40, 3) := by decide +kernel
theorem d27_14 : decode jdk_68_method_71_code 14 = .ok (.if_icmp .eq 7, 3) := by decide +kernel
theorem d27_17 : decode jdk_68_method_71_code 17 = .ok (.aload_n 0, 1) := by decide +kernel
theorem d27_18 : decode jdk_68_method_71_code 18 = .ok (.invokevirtual 195, 3) := by decide +kernel
theorem d27_21 : decode jdk_68_method_71_code 21 = .ok (.return_, 1) := by decide +kernel
theorem pf27 : plainFor (⟨"java/lang/AbstractStringBuilder", "inflateIfNeededFor", "(Ljava/lang/String;)V"⟩ : MethodName) = true := by first | exact plainFor_of_name (by first | (simp [plainName, overriddenIn]; done) | decide +kernel) | decide +kernel
theorem ef_inflate (m : MethodId) (z0 : Addr) (z1 : Addr) : entryFrame m #[(.ref z0), (.ref z1)] 2 = mkF m 0 #[.val (.ref z0), .val (.ref z1)] [] := by first | rfl | (simp [entryFrame, mkF, argsToLocals, Value.category, *]; done) | rfl
set_option maxRecDepth 65536 in
set_option maxHeartbeats 40000000 in
theorem rm_inflate {l : Launch} {Z : State} {a0 : Array Value} {n0 : Nat} (G : Gl Z a0 n0) {h0 : Heap} (O : Old Z n0 h0) (b : Addr) (t : Addr) (cs : List Int32) (cap : Nat) (a : Addr) (ds : List Int32) (B : Sb Z h0 b t cs cap) (S : Str Z h0 a ds) :
    Ct [] l Z n0 (⟨"java/lang/AbstractStringBuilder", "inflateIfNeededFor", "(Ljava/lang/String;)V"⟩ : MethodName) jdk_68_method_71_code 2 none ({ frames := 1, cells := 0, slots := 0, locals := 13 } : Room) #[(.ref b), (.ref a)] h0 (fun v h => h = h0 ∧ v = none) := by
  refine Ct.intro pf27 ?_
  intro p e s m below meth c C
  refine AtW.cast ?_ (ef_inflate m b a)
  obtain ⟨E, hr, hlc, FC, FN, FV, E2, A⟩ := id B
  obtain ⟨zc, SC, hzc⟩ := G.cs
  refine w_getS (q := 3) (host := "") C (Or.inl (G.1 _ (List.mem_of_getElem? (i := 123) rfl))) Via.refl (SC.ext O.2) d27_0 rfl ?_
  refine w_if_eq_f (q := 6) C d27_3 rfl hzc ?_
  refine w_aloadN (q := 7) C rfl rfl d27_6 rfl ?_
  refine w_getF (q := 10) (host := "") C (Or.inl (G.1 _ (List.mem_of_getElem? (i := 126) rfl))) Via.refl FC d27_7 rfl ?_
  refine w_aloadN (q := 11) C rfl rfl d27_10 rfl ?_
  refine w_callV (q := 14) (argsL := []) (S := [(.int (0 : Int32))]) (W := 1) (cells' := 0) (slots' := 0) (a := a) C S.1 (G.1 _ (List.mem_of_getElem? (i := 157) rfl)) (G.1 _ (List.mem_of_getElem? (i := 65) rfl)) (w_nf C (G.1 _ (List.mem_of_getElem? (i := 67) rfl))) (G.1 _ (List.mem_of_getElem? (i := 67) rfl)) (G.1 _ (List.mem_of_getElem? (i := 66) rfl)) (G.1 _ (List.mem_of_getElem? (i := 10) rfl)) (G.1 _ (List.mem_of_getElem? (i := 68) rfl)) (by decide) (rm_coder G O a ds S) rfl (lenOf pd_12 rfl) rfl (by decide) (own_leb rfl) (by decide) rfl rfl (by decide) (by decide) d27_11 rfl ?_
  rintro _ h20 ⟨eh21, rfl⟩
  rw [eh21]
  show AtW p l e _ s m _ below meth c n0 _ h0 0 0 (mkF m 14 #[.val (.ref b), .val (.ref a)] [(.int (0 : Int32)), (.int (0 : Int32))])
  refine w_icmp_eq_t (q := 21) C d27_14 (by decide) (by decide) (by decide) ?_
  exact w_retV C rfl d27_21 (by decide) (by decide) ⟨rfl, rfl⟩
theorem d28_0 : decode jdk_42_method_147_code 0 = .ok (.aload_n 0, 1) := by decide +kernel
theorem d28_1 : decode jdk_42_method_147_code 1 = .ok (.invokevirtual 335, 3) := by decide +kernel
theorem d28_4 : decode jdk_42_method_147_code 4 = .ok (.iload_n 3, 1) := by decide +kernel
theorem d28_5 : decode jdk_42_method_147_code 5 = .ok (.if_icmp .ne 23, 3) := by decide +kernel
theorem d28_8 : decode jdk_42_method_147_code 8 = .ok (.aload_n 0, 1) := by decide +kernel
theorem d28_9 : decode jdk_42_method_147_code 9 = .ok (.getfield 9, 3) := by decide +kernel
theorem d28_12 : decode jdk_42_method_147_code 12 = .ok (.iconst 0, 1) := by decide +kernel
theorem d28_13 : decode jdk_42_method_147_code 13 = .ok (.aload_n 1, 1) := by decide +kernel
theorem d28_14 : decode jdk_42_method_147_code 14 = .ok (.iload_n 2, 1) := by decide +kernel
theorem d28_15 : decode jdk_42_method_147_code 15 = .ok (.iload_n 3, 1) := by decide +kernel
theorem d28_16 : decode jdk_42_method_147_code 16 = .ok (.ishl, 1) := by decide +kernel
theorem d28_17 : decode jdk_42_method_147_code 17 = .ok (.aload_n 0, 1) := by decide +kernel
theorem d28_18 : decode jdk_42_method_147_code 18 = .ok (.getfield 9, 3) := by decide +kernel
theorem d28_21 : decode jdk_42_method_147_code 21 = .ok (.arraylength, 1) := by decide +kernel
theorem d28_22 : decode jdk_42_method_147_code 22 = .ok (.invokestatic 212, 3) := by decide +kernel
theorem d28_25 : decode jdk_42_method_147_code 25 = .ok (.goto 18, 3) := by decide +kernel
theorem d28_28 : decode jdk_42_method_147_code 28 = .ok (.aload_n 0, 1) := by decide +kernel
theorem d28_29 : decode jdk_42_method_147_code 29 = .ok (.getfield 9, 3) := by decide +kernel
theorem d28_32 : decode jdk_42_method_147_code 32 = .ok (.iconst 0, 1) := by decide +kernel
theorem d28_33 : decode jdk_42_method_147_code 33 = .ok (.aload_n 1, 1) := by decide +kernel
theorem d28_34 : decode jdk_42_method_147_code 34 = .ok (.iload_n 2, 1) := by decide +kernel
theorem d28_35 : decode jdk_42_method_147_code 35 = .ok (.aload_n 0, 1) := by decide +kernel
theorem d28_36 : decode jdk_42_method_147_code 36 = .ok (.getfield 9, 3) := by decide +kernel
theorem d28_39 : decode jdk_42_method_147_code 39 = .ok (.arraylength, 1) := by decide +kernel
theorem d28_40 : decode jdk_42_method_147_code 40 = .ok (.invokestatic 106, 3) := by decide +kernel
theorem d28_43 : decode jdk_42_method_147_code 43 = .ok (.return_, 1) := by decide +kernel
theorem pf28 : plainFor (⟨"java/lang/String", "getBytes", "([BIB)V"⟩ : MethodName) = true := by first | exact plainFor_of_name (by first | (simp [plainName, overriddenIn]; done) | decide +kernel) | decide +kernel
theorem ef_getBytes (m : MethodId) (z0 : Addr) (z1 : Addr) (z2 : Int32) (z3 : Int32) : entryFrame m #[(.ref z0), (.ref z1), (.int z2), (.int z3)] 4 = mkF m 0 #[.val (.ref z0), .val (.ref z1), .val (.int z2), .val (.int z3)] [] := by first | rfl | (simp [entryFrame, mkF, argsToLocals, Value.category, *]; done) | rfl
set_option maxRecDepth 65536 in
set_option maxHeartbeats 40000000 in
theorem rm_getBytes {l : Launch} {Z : State} {a0 : Array Value} {n0 : Nat} (G : Gl Z a0 n0) {h0 : Heap} (O : Old Z n0 h0) (a : Addr) (ds : List Int32) (t : Addr) (vd : List Value) (k : Nat) (S : Str Z h0 a ds) (B : Ar Z h0 t .byte vd) (hk : k + ds.length ≤ vd.length) (hge : n0 ≤ t) :
    Ct [] l Z n0 (⟨"java/lang/String", "getBytes", "([BIB)V"⟩ : MethodName) jdk_42_method_147_code 4 none ({ frames := 1, cells := 0, slots := 0, locals := 18 } : Room) #[(.ref a), (.ref t), (.int (Int32.ofNat k)), (.int (0 : Int32))] h0 (fun v h => Keep h0 h [t] ∧ v = none ∧ Ar Z h t .byte (vd.take k ++ own_bs ds ++ vd.drop (k + ds.length))) := by
  refine Ct.intro pf28 ?_
  intro p e s m below meth c C
  refine AtW.cast ?_ (ef_getBytes m a t (Int32.ofNat k) (0 : Int32))
  obtain ⟨E, hr, ts, FC, FV, A⟩ := id S
  refine w_aloadN (q := 1) C rfl rfl d28_0 rfl ?_
  refine w_callV (q := 4) (argsL := []) (S := []) (W := 0) (cells' := 0) (slots' := 0) (a := a) C E (G.1 _ (List.mem_of_getElem? (i := 64) rfl)) (G.1 _ (List.mem_of_getElem? (i := 65) rfl)) (w_nf C (G.1 _ (List.mem_of_getElem? (i := 67) rfl))) (G.1 _ (List.mem_of_getElem? (i := 67) rfl)) (G.1 _ (List.mem_of_getElem? (i := 66) rfl)) (G.1 _ (List.mem_of_getElem? (i := 10) rfl)) (G.1 _ (List.mem_of_getElem? (i := 68) rfl)) (by decide) (rm_coder G O a ds S) rfl (lenOf pd_12 rfl) rfl (by decide) (own_leb rfl) (by decide) rfl rfl (by decide) (by decide) d28_1 rfl ?_
  rintro _ h22 ⟨eh23, rfl⟩
  rw [eh23]
  show AtW p l e _ s m _ below meth c n0 _ h0 0 0 (mkF m 4 #[.val (.ref a), .val (.ref t), .val (.int (Int32.ofNat k)), .val (.int (0 : Int32))] [(.int (0 : Int32))])
  refine w_iloadN (q := 5) C rfl d28_4 rfl ?_
  refine w_icmp_ne_f (q := 8) C d28_5 rfl (by decide) ?_
  refine w_aloadN (q := 9) C rfl rfl d28_8 rfl ?_
  refine w_getF (q := 12) (host := "") C (Or.inl (G.1 _ (List.mem_of_getElem? (i := 36) rfl))) Via.refl FV d28_9 rfl ?_
  refine w_iconst (q := 13) (v := (0 : Int32)) C (by rfl) d28_12 rfl ?_
  refine w_aloadN (q := 14) C rfl rfl d28_13 rfl ?_
  refine w_iloadN (q := 15) C rfl d28_14 rfl ?_
  refine w_iloadN (q := 16) C rfl d28_15 rfl ?_
  refine w_ishl (q := 17) C rfl d28_16 rfl ?_
  rw [show ((Int32.ofNat k) <<< ((0 : Int32) &&& 31)) = (Int32.ofNat k) from own_shl0 _]
  refine w_aloadN (q := 18) C rfl rfl d28_17 rfl ?_
  refine w_getF (q := 21) (host := "") C (Or.inl (G.1 _ (List.mem_of_getElem? (i := 36) rfl))) Via.refl FV d28_18 rfl ?_
  refine w_len (q := 22) (z := (Int32.ofNat ds.length)) C A (by rw [own_bs_len]) d28_21 rfl ?_
  refine w_copy (q := 25) (S := []) (sp := 0) (dp := k) (nn := ds.length) (W := 0) C (G.1 _ (List.mem_of_getElem? (i := 163) rfl)) (G.1 _ (List.mem_of_getElem? (i := 166) rfl)) (G.1 _ (List.mem_of_getElem? (i := 164) rfl)) (G.1 _ (List.mem_of_getElem? (i := 165) rfl)) A B rfl (by rw [own_bs_len]; omega) hk hge rfl (by decide) (own_leb rfl) (by decide) rfl d28_22 rfl ?_
  intro h24 Kh24 Vh24
  refine w_goto (q := 43) C d28_25 (by decide) (by decide) ?_
  exact w_retV C rfl d28_43 (by decide) (by decide) ⟨Kh24, rfl, by simpa [own_bs_len, List.take_of_length_le] using Vh24⟩
theorem d26_0 : decode jdk_68_method_73_code 0 = .ok (.aload_n 0, 1) := by decide +kernel
theorem d26_1 : decode jdk_68_method_73_code 1 = .ok (.aload_n 2, 1) := by decide +kernel
theorem d26_2 : decode jdk_68_method_73_code 2 = .ok (.invokevirtual 397, 3) := by decide +kernel
theorem d26_5 : decode jdk_68_method_73_code 5 = .ok (.aload_n 2, 1) := by decide +kernel
theorem d26_6 : decode jdk_68_method_73_code 6 = .ok (.aload_n 0, 1) := by decide +kernel
theorem d26_7 : decode jdk_68_method_73_code 7 = .ok (.getfield 15, 3) := by decide +kernel
theorem d26_10 : decode jdk_68_method_73_code 10 = .ok (.iload_n 1, 1) := by decide +kernel
theorem d26_11 : decode jdk_68_method_73_code 11 = .ok (.aload_n 0, 1) := by decide +kernel
theorem d26_12 : decode jdk_68_method_73_code 12 = .ok (.getfield 22, 3) := by decide +kernel
theorem d26_15 : decode jdk_68_method_73_code 15 = .ok (.invokevirtual 399, 3) := by decide +kernel
theorem d26_18 : decode jdk_68_method_73_code 18 = .ok (.return_, 1) := by decide +kernel
theorem pf26 : plainFor (⟨"java/lang/AbstractStringBuilder", "putStringAt", "(ILjava/lang/String;)V"⟩ : MethodName) = true := by first | exact plainFor_of_name (by first | (simp [plainName, overriddenIn]; done) | decide +kernel) | decide +kernel
theorem ef_putStr (m : MethodId) (z0 : Addr) (z1 : Int32) (z2 : Addr) : entryFrame m #[(.ref z0), (.int z1), (.ref z2)] 3 = mkF m 0 #[.val (.ref z0), .val (.int z1), .val (.ref z2)] [] := by first | rfl | (simp [entryFrame, mkF, argsToLocals, Value.category, *]; done) | rfl
set_option maxRecDepth 65536 in
set_option maxHeartbeats 40000000 in
theorem rm_putStr {l : Launch} {Z : State} {a0 : Array Value} {n0 : Nat} (G : Gl Z a0 n0) {h0 : Heap} (O : Old Z n0 h0) (b : Addr) (t : Addr) (cs : List Int32) (cap : Nat) (a : Addr) (ds : List Int32) (B : Sb Z h0 b t cs cap) (S : Str Z h0 a ds) (hfit : cs.length + ds.length ≤ cap) (hge : n0 ≤ t) :
    Ct [] l Z n0 (⟨"java/lang/AbstractStringBuilder", "putStringAt", "(ILjava/lang/String;)V"⟩ : MethodName) jdk_68_method_73_code 3 none ({ frames := 2, cells := 0, slots := 0, locals := 33 } : Room) #[(.ref b), (.int (Int32.ofNat cs.length)), (.ref a)] h0 (fun v h => Keep h0 h [t] ∧ v = none ∧ Ar Z h t .byte (own_bs (cs ++ ds) ++ List.replicate (cap - (cs ++ ds).length) (Value.int (0 : Int32)))) := by
  refine Ct.intro pf26 ?_
  intro p e s m below meth c C
  refine AtW.cast ?_ (ef_putStr m b (Int32.ofNat cs.length) a)
  obtain ⟨E, hr, hlc, FC, FN, FV, E2, A⟩ := id B
  refine w_aloadN (q := 1) C rfl rfl d26_0 rfl ?_
  refine w_aloadN (q := 2) C rfl rfl d26_1 rfl ?_
  refine w_callP (q := 5) (argsL := [(.ref a)]) (S := []) (W := 0) (cells' := 0) (slots' := 0) (a := b) C E (G.1 _ (List.mem_of_getElem? (i := 152) rfl)) (G.1 _ (List.mem_of_getElem? (i := 153) rfl)) (NI.of_sel (args := #[]) (z := ({ cls := "java/lang/AbstractStringBuilder", name := "ensureCapacityInternal", desc := "(I)V" } : Jvm.MethodName)) (mvT C.2.2.2.1 (G.1 _ (List.mem_of_getElem? (i := 145) rfl)))) (G.1 _ (List.mem_of_getElem? (i := 154) rfl)) (G.1 _ (List.mem_of_getElem? (i := 120) rfl)) (G.1 _ (List.mem_of_getElem? (i := 156) rfl)) (by decide) (rm_inflate G O b t cs cap a ds B S) rfl (lenOf pd_8 rfl) rfl (by decide) (own_leb rfl) (by decide) rfl rfl (by decide) (by decide) d26_2 rfl ?_
  rintro _ h25 ⟨eh26, rfl⟩
  rw [eh26]
  show AtW p l e _ s m _ below meth c n0 _ h0 0 0 (mkF m 5 #[.val (.ref b), .val (.int (Int32.ofNat cs.length)), .val (.ref a)] [])
  refine w_aloadN (q := 6) C rfl rfl d26_5 rfl ?_
  refine w_aloadN (q := 7) C rfl rfl d26_6 rfl ?_
  refine w_getF (q := 10) (host := "") C (Or.inl (G.1 _ (List.mem_of_getElem? (i := 124) rfl))) Via.refl FV d26_7 rfl ?_
  refine w_iloadN (q := 11) C rfl d26_10 rfl ?_
  refine w_aloadN (q := 12) C rfl rfl d26_11 rfl ?_
  refine w_getF (q := 15) (host := "") C (Or.inl (G.1 _ (List.mem_of_getElem? (i := 126) rfl))) Via.refl FC d26_12 rfl ?_
  refine w_callV (q := 18) (argsL := [(.ref t), (.int (Int32.ofNat cs.length)), (.int (0 : Int32))]) (S := []) (W := 0) (cells' := 0) (slots' := 0) (a := a) C S.1 (G.1 _ (List.mem_of_getElem? (i := 158) rfl)) (G.1 _ (List.mem_of_getElem? (i := 159) rfl)) (w_nf C (G.1 _ (List.mem_of_getElem? (i := 161) rfl))) (G.1 _ (List.mem_of_getElem? (i := 161) rfl)) (G.1 _ (List.mem_of_getElem? (i := 160) rfl)) (G.1 _ (List.mem_of_getElem? (i := 10) rfl)) (G.1 _ (List.mem_of_getElem? (i := 162) rfl)) (by decide) (rm_getBytes G O a ds t _ cs.length S A (by simp only [List.length_append, own_bs_len, List.length_replicate]; omega) hge) rfl (lenOf pd_23 rfl) rfl (by decide) (own_leb rfl) (by decide) rfl rfl (by decide) (by decide) d26_15 rfl ?_
  rintro _ h27 ⟨Kh27, rfl, V⟩
  show AtW p l e _ s m _ below meth c n0 _ h27 0 0 (mkF m 18 #[.val (.ref b), .val (.int (Int32.ofNat cs.length)), .val (.ref a)] [])
  exact w_retV C rfl d26_18 (by decide) (by decide) ⟨Kh27, rfl, by rw [← own_appd cs ds cap hfit]; exact V⟩
theorem d32_0 : decode jdk_29_method_65_code 0 = .ok (.iload_n 0, 1) := by decide +kernel
theorem d32_1 : decode jdk_29_method_65_code 1 = .ok (.iload_n 1, 1) := by decide +kernel
theorem d32_2 : decode jdk_29_method_65_code 2 = .ok (.if_icmp .lt 7, 3) := by decide +kernel
theorem d32_5 : decode jdk_29_method_65_code 5 = .ok (.iload_n 0, 1) := by decide +kernel
theorem d32_6 : decode jdk_29_method_65_code 6 = .ok (.goto 4, 3) := by decide +kernel
theorem d32_9 : decode jdk_29_method_65_code 9 = .ok (.iload_n 1, 1) := by decide +kernel
theorem d32_10 : decode jdk_29_method_65_code 10 = .ok (.ireturn, 1) := by decide +kernel
theorem pf32 : plainFor (⟨"java/lang/Math", "max", "(II)I"⟩ : MethodName) = true := by first | exact plainFor_of_name (by first | (simp [plainName, overriddenIn]; done) | decide +kernel) | decide +kernel
theorem ef_mmax (m : MethodId) (z0 : Int32) (z1 : Int32) : entryFrame m #[(.int z0), (.int z1)] 2 = mkF m 0 #[.val (.int z0), .val (.int z1)] [] := by first | rfl | (simp [entryFrame, mkF, argsToLocals, Value.category, *]; done) | rfl
set_option maxRecDepth 65536 in
set_option maxHeartbeats 40000000 in
theorem rm_mmax {l : Launch} {Z : State} {a0 : Array Value} {n0 : Nat} (G : Gl Z a0 n0) {h0 : Heap} (O : Old Z n0 h0) (x : Int32) (y : Int32) :
    Ct [] l Z n0 (⟨"java/lang/Math", "max", "(II)I"⟩ : MethodName) jdk_29_method_65_code 2 (some .int) ({ frames := 0, cells := 0, slots := 0, locals := 0 } : Room) #[(.int x), (.int y)] h0 (fun v h => h = h0 ∧ v = some (.int (if x < y then y else x))) := by
  refine Ct.intro pf32 ?_
  intro p e s m below meth c C
  refine AtW.cast ?_ (ef_mmax m x y)
  refine w_iloadN (q := 1) C rfl d32_0 rfl ?_
  refine w_iloadN (q := 2) C rfl d32_1 rfl ?_
  by_cases hc : x < y
  · refine w_icmp_lt_t (q := 9) C d32_2 (by decide) (by decide) hc ?_
    refine w_iloadN (q := 10) C rfl d32_9 rfl ?_
    exact w_retI C rfl d32_10 (by decide) (by decide) ⟨rfl, by rw [if_pos hc]⟩
  · refine w_icmp_lt_f (q := 5) C d32_2 rfl hc ?_
    refine w_iloadN (q := 6) C rfl d32_5 rfl ?_
    refine w_goto (q := 10) C d32_6 (by decide) (by decide) ?_
    exact w_retI C rfl d32_10 (by decide) (by decide) ⟨rfl, by rw [if_neg hc]⟩
theorem d31_0 : decode jdk_48_method_27_code 0 = .ok (.iload_n 0, 1) := by decide +kernel
theorem d31_1 : decode jdk_48_method_27_code 1 = .ok (.iload_n 1, 1) := by decide +kernel
theorem d31_2 : decode jdk_48_method_27_code 2 = .ok (.iload_n 2, 1) := by decide +kernel
theorem d31_3 : decode jdk_48_method_27_code 3 = .ok (.invokestatic 194, 3) := by decide +kernel
theorem d31_6 : decode jdk_48_method_27_code 6 = .ok (.iadd, 1) := by decide +kernel
theorem d31_7 : decode jdk_48_method_27_code 7 = .ok (.istore_n 3, 1) := by decide +kernel
theorem d31_8 : decode jdk_48_method_27_code 8 = .ok (.iconst 0, 1) := by decide +kernel
theorem d31_9 : decode jdk_48_method_27_code 9 = .ok (.iload_n 3, 1) := by decide +kernel
theorem d31_10 : decode jdk_48_method_27_code 10 = .ok (.if_icmp .ge 11, 3) := by decide +kernel
theorem d31_13 : decode jdk_48_method_27_code 13 = .ok (.iload_n 3, 1) := by decide +kernel
theorem d31_14 : decode jdk_48_method_27_code 14 = .ok (.ldc 200, 2) := by decide +kernel
theorem d31_16 : decode jdk_48_method_27_code 16 = .ok (.if_icmp .gt 5, 3) := by decide +kernel
theorem d31_19 : decode jdk_48_method_27_code 19 = .ok (.iload_n 3, 1) := by decide +kernel
theorem d31_20 : decode jdk_48_method_27_code 20 = .ok (.ireturn, 1) := by decide +kernel
theorem d31_21 : decode jdk_48_method_27_code 21 = .ok (.iload_n 0, 1) := by decide +kernel
theorem d31_22 : decode jdk_48_method_27_code 22 = .ok (.iload_n 1, 1) := by decide +kernel
theorem d31_23 : decode jdk_48_method_27_code 23 = .ok (.invokestatic 201, 3) := by decide +kernel
theorem d31_26 : decode jdk_48_method_27_code 26 = .ok (.ireturn, 1) := by decide +kernel
theorem pf31 : plainFor (⟨"jdk/internal/util/ArraysSupport", "newLength", "(III)I"⟩ : MethodName) = true := by first | exact plainFor_of_name (by first | (simp [plainName, overriddenIn]; done) | decide +kernel) | decide +kernel
theorem ef_newLen (m : MethodId) (z0 : Int32) (z1 : Int32) (z2 : Int32) : entryFrame m #[(.int z0), (.int z1), (.int z2)] 4 = mkF m 0 #[.val (.int z0), .val (.int z1), .val (.int z2), .unset] [] := by first | rfl | (simp [entryFrame, mkF, argsToLocals, Value.category, *]; done) | rfl
set_option maxRecDepth 65536 in
set_option maxHeartbeats 40000000 in
theorem rm_newLen {l : Launch} {Z : State} {a0 : Array Value} {n0 : Nat} (G : Gl Z a0 n0) {h0 : Heap} (O : Old Z n0 h0) (x : Nat) (g : Nat) (pg : Nat) (hg : g ≤ pg) (hp : 0 < pg) (hx : x + pg < 1000000000) :
    Ct [] l Z n0 (⟨"jdk/internal/util/ArraysSupport", "newLength", "(III)I"⟩ : MethodName) jdk_48_method_27_code 4 (some .int) ({ frames := 1, cells := 0, slots := 0, locals := 14 } : Room) #[(.int (Int32.ofNat x)), (.int (Int32.ofNat g)), (.int (Int32.ofNat pg))] h0 (fun v h => h = h0 ∧ v = some (.int (Int32.ofNat (x + pg)))) := by
  refine Ct.intro pf31 ?_
  intro p e s m below meth c C
  refine AtW.cast ?_ (ef_newLen m (Int32.ofNat x) (Int32.ofNat g) (Int32.ofNat pg))
  refine w_iloadN (q := 1) C rfl d31_0 rfl ?_
  refine w_iloadN (q := 2) C rfl d31_1 rfl ?_
  refine w_iloadN (q := 3) C rfl d31_2 rfl ?_
  refine w_callS (q := 6) (argsL := [(.int (Int32.ofNat g)), (.int (Int32.ofNat pg))]) (S := [(.int (Int32.ofNat x))]) (W := 1) (cells' := 0) (slots' := 0) C (G.1 _ (List.mem_of_getElem? (i := 181) rfl)) (G.1 _ (List.mem_of_getElem? (i := 182) rfl)) (G.1 _ (List.mem_of_getElem? (i := 183) rfl)) (G.1 _ (List.mem_of_getElem? (i := 184) rfl)) (by decide) (rm_mmax G O _ _) rfl (lenOf pd_26 rfl) rfl (by decide) (own_leb rfl) (by decide) rfl rfl (by decide) (by decide) d31_3 rfl ?_
  rintro _ h28 ⟨eh29, rfl⟩
  rw [eh29]
  show AtW p l e _ s m _ below meth c n0 _ h0 0 0 (mkF m 6 #[.val (.int (Int32.ofNat x)), .val (.int (Int32.ofNat g)), .val (.int (Int32.ofNat pg)), .unset] [(.int (if (Int32.ofNat g) < (Int32.ofNat pg) then (Int32.ofNat pg) else (Int32.ofNat g))), (.int (Int32.ofNat x))])
  rw [show (if (Int32.ofNat g) < (Int32.ofNat pg) then (Int32.ofNat pg) else (Int32.ofNat g)) = (Int32.ofNat pg) from by split; rfl; rename_i q; rw [own_nlt (by omega) (by omega)] at q; congr 1; omega]
  refine w_iadd (q := 7) C rfl d31_6 rfl ?_
  rw [show ((Int32.ofNat x) + (Int32.ofNat pg)) = (Int32.ofNat (x + pg)) from own_add x pg]
  refine w_istoreN (q := 8) (L' := #[.val (.int (Int32.ofNat x)), .val (.int (Int32.ofNat g)), .val (.int (Int32.ofNat pg)), .val (.int (Int32.ofNat (x + pg)))]) C rfl d31_7 rfl ?_
  refine w_iconst (q := 9) (v := (0 : Int32)) C (by rfl) d31_8 rfl ?_
  refine w_iloadN (q := 10) C rfl d31_9 rfl ?_
  refine w_icmp_ge_f (q := 13) C d31_10 rfl ((own_nlt (i := 0) (by omega) (by omega)).mpr (by omega)) ?_
  refine w_iloadN (q := 14) C rfl d31_13 rfl ?_
  refine w_ldcI (q := 16) C (G.1 _ (List.mem_of_getElem? (i := 185) rfl)) d31_14 rfl ?_
  refine w_icmp_gt_f (q := 19) C d31_16 rfl (by rw [own_lt, own_nat (by omega)]; have e : (2147483639 : Int32).toInt = 2147483639 := rfl; omega) ?_
  refine w_iloadN (q := 20) C rfl d31_19 rfl ?_
  exact w_retI C rfl d31_20 (by decide) (by decide) ⟨rfl, rfl⟩
theorem d30_0 : decode jdk_68_method_10_code 0 = .ok (.aload_n 0, 1) := by decide +kernel
theorem d30_1 : decode jdk_68_method_10_code 1 = .ok (.getfield 15, 3) := by decide +kernel
theorem d30_4 : decode jdk_68_method_10_code 4 = .ok (.arraylength, 1) := by decide +kernel
theorem d30_5 : decode jdk_68_method_10_code 5 = .ok (.istore_n 2, 1) := by decide +kernel
theorem d30_6 : decode jdk_68_method_10_code 6 = .ok (.iload_n 1, 1) := by decide +kernel
theorem d30_7 : decode jdk_68_method_10_code 7 = .ok (.aload_n 0, 1) := by decide +kernel
theorem d30_8 : decode jdk_68_method_10_code 8 = .ok (.getfield 22, 3) := by decide +kernel
theorem d30_11 : decode jdk_68_method_10_code 11 = .ok (.ishl, 1) := by decide +kernel
theorem d30_12 : decode jdk_68_method_10_code 12 = .ok (.istore_n 3, 1) := by decide +kernel
theorem d30_13 : decode jdk_68_method_10_code 13 = .ok (.iload_n 3, 1) := by decide +kernel
theorem d30_14 : decode jdk_68_method_10_code 14 = .ok (.iload_n 2, 1) := by decide +kernel
theorem d30_15 : decode jdk_68_method_10_code 15 = .ok (.isub, 1) := by decide +kernel
theorem d30_16 : decode jdk_68_method_10_code 16 = .ok (.istore 4, 2) := by decide +kernel
theorem d30_18 : decode jdk_68_method_10_code 18 = .ok (.iload_n 2, 1) := by decide +kernel
theorem d30_19 : decode jdk_68_method_10_code 19 = .ok (.iload 4, 2) := by decide +kernel
theorem d30_21 : decode jdk_68_method_10_code 21 = .ok (.iload_n 2, 1) := by decide +kernel
theorem d30_22 : decode jdk_68_method_10_code 22 = .ok (.iconst 2, 1) := by decide +kernel
theorem d30_23 : decode jdk_68_method_10_code 23 = .ok (.aload_n 0, 1) := by decide +kernel
theorem d30_24 : decode jdk_68_method_10_code 24 = .ok (.getfield 22, 3) := by decide +kernel
theorem d30_27 : decode jdk_68_method_10_code 27 = .ok (.ishl, 1) := by decide +kernel
theorem d30_28 : decode jdk_68_method_10_code 28 = .ok (.iadd, 1) := by decide +kernel
theorem d30_29 : decode jdk_68_method_10_code 29 = .ok (.invokestatic 114, 3) := by decide +kernel
theorem d30_32 : decode jdk_68_method_10_code 32 = .ok (.istore 5, 2) := by decide +kernel
theorem d30_34 : decode jdk_68_method_10_code 34 = .ok (.iload 5, 2) := by decide +kernel
theorem d30_36 : decode jdk_68_method_10_code 36 = .ok (.ldc 39, 2) := by decide +kernel
theorem d30_38 : decode jdk_68_method_10_code 38 = .ok (.if_icmp .ne 13, 3) := by decide +kernel
theorem d30_41 : decode jdk_68_method_10_code 41 = .ok (.new 120, 3) := by decide +kernel
theorem d30_44 : decode jdk_68_method_10_code 44 = .ok (.dup, 1) := by decide +kernel
theorem d30_45 : decode jdk_68_method_10_code 45 = .ok (.ldc 122, 2) := by decide +kernel
theorem d30_47 : decode jdk_68_method_10_code 47 = .ok (.invokespecial 124, 3) := by decide +kernel
theorem d30_50 : decode jdk_68_method_10_code 50 = .ok (.athrow, 1) := by decide +kernel
theorem d30_51 : decode jdk_68_method_10_code 51 = .ok (.iload 5, 2) := by decide +kernel
theorem d30_53 : decode jdk_68_method_10_code 53 = .ok (.aload_n 0, 1) := by decide +kernel
theorem d30_54 : decode jdk_68_method_10_code 54 = .ok (.getfield 22, 3) := by decide +kernel
theorem d30_57 : decode jdk_68_method_10_code 57 = .ok (.ishr, 1) := by decide +kernel
theorem d30_58 : decode jdk_68_method_10_code 58 = .ok (.ireturn, 1) := by decide +kernel
theorem pf30 : plainFor (⟨"java/lang/AbstractStringBuilder", "newCapacity", "(I)I"⟩ : MethodName) = true := by first | exact plainFor_of_name (by first | (simp [plainName, overriddenIn]; done) | decide +kernel) | decide +kernel
theorem ef_newCap (m : MethodId) (z0 : Addr) (z1 : Int32) : entryFrame m #[(.ref z0), (.int z1)] 6 = mkF m 0 #[.val (.ref z0), .val (.int z1), .unset, .unset, .unset, .unset] [] := by first | rfl | (simp [entryFrame, mkF, argsToLocals, Value.category, *]; done) | rfl
set_option maxRecDepth 65536 in
set_option maxHeartbeats 40000000 in
theorem rm_newCap {l : Launch} {Z : State} {a0 : Array Value} {n0 : Nat} (G : Gl Z a0 n0) {h0 : Heap} (O : Old Z n0 h0) (b : Addr) (t : Addr) (cs : List Int32) (cap : Nat) (mn : Nat) (B : Sb Z h0 b t cs cap) (hmn : cap < mn) (hmx : mn ≤ 2 * cap + 2) (hc9 : cap < 100000) :
    Ct [] l Z n0 (⟨"java/lang/AbstractStringBuilder", "newCapacity", "(I)I"⟩ : MethodName) jdk_68_method_10_code 6 (some .int) ({ frames := 2, cells := 0, slots := 0, locals := 29 } : Room) #[(.ref b), (.int (Int32.ofNat mn))] h0 (fun v h => h = h0 ∧ v = some (.int (Int32.ofNat (2 * cap + 2)))) := by
  refine Ct.intro pf30 ?_
  intro p e s m below meth c C
  refine AtW.cast ?_ (ef_newCap m b (Int32.ofNat mn))
  obtain ⟨E, hr, hlc, FC, FN, FV, E2, A⟩ := id B
  refine w_aloadN (q := 1) C rfl rfl d30_0 rfl ?_
  refine w_getF (q := 4) (host := "") C (Or.inl (G.1 _ (List.mem_of_getElem? (i := 124) rfl))) Via.refl FV d30_1 rfl ?_
  refine w_len (q := 5) (z := (Int32.ofNat cap)) C A (by simp only [List.length_append, own_bs_len, List.length_replicate]; congr 1; omega) d30_4 rfl ?_
  refine w_istoreN (q := 6) (L' := #[.val (.ref b), .val (.int (Int32.ofNat mn)), .val (.int (Int32.ofNat cap)), .unset, .unset, .unset]) C rfl d30_5 rfl ?_
  refine w_iloadN (q := 7) C rfl d30_6 rfl ?_
  refine w_aloadN (q := 8) C rfl rfl d30_7 rfl ?_
  refine w_getF (q := 11) (host := "") C (Or.inl (G.1 _ (List.mem_of_getElem? (i := 126) rfl))) Via.refl FC d30_8 rfl ?_
  refine w_ishl (q := 12) C rfl d30_11 rfl ?_
  rw [show ((Int32.ofNat mn) <<< ((0 : Int32) &&& 31)) = (Int32.ofNat mn) from own_shl0 _]
  refine w_istoreN (q := 13) (L' := #[.val (.ref b), .val (.int (Int32.ofNat mn)), .val (.int (Int32.ofNat cap)), .val (.int (Int32.ofNat mn)), .unset, .unset]) C rfl d30_12 rfl ?_
  refine w_iloadN (q := 14) C rfl d30_13 rfl ?_
  refine w_iloadN (q := 15) C rfl d30_14 rfl ?_
  refine w_isub (q := 16) C rfl d30_15 rfl ?_
  rw [show ((Int32.ofNat mn) - (Int32.ofNat cap)) = (Int32.ofNat (mn - cap)) from own_sub (by omega)]
  refine w_istore (q := 18) (L' := #[.val (.ref b), .val (.int (Int32.ofNat mn)), .val (.int (Int32.ofNat cap)), .val (.int (Int32.ofNat mn)), .val (.int (Int32.ofNat (mn - cap))), .unset]) C rfl d30_16 rfl ?_
  refine w_iloadN (q := 19) C rfl d30_18 rfl ?_
  refine w_iload (q := 21) C rfl d30_19 rfl ?_
  refine w_iloadN (q := 22) C rfl d30_21 rfl ?_
  refine w_iconst (q := 23) (v := (2 : Int32)) C (by rfl) d30_22 rfl ?_
  refine w_aloadN (q := 24) C rfl rfl d30_23 rfl ?_
  refine w_getF (q := 27) (host := "") C (Or.inl (G.1 _ (List.mem_of_getElem? (i := 126) rfl))) Via.refl FC d30_24 rfl ?_
  refine w_ishl (q := 28) (z := (2 : Int32)) C (by decide) d30_27 rfl ?_
  refine w_iadd (q := 29) C rfl d30_28 rfl ?_
  rw [show ((Int32.ofNat cap) + (2 : Int32)) = (Int32.ofNat (cap + 2)) from own_add cap 2]
  refine w_callS (q := 32) (argsL := [(.int (Int32.ofNat cap)), (.int (Int32.ofNat (mn - cap))), (.int (Int32.ofNat (cap + 2)))]) (S := []) (W := 0) (cells' := 0) (slots' := 0) C (G.1 _ (List.mem_of_getElem? (i := 177) rfl)) (G.1 _ (List.mem_of_getElem? (i := 178) rfl)) (G.1 _ (List.mem_of_getElem? (i := 179) rfl)) (G.1 _ (List.mem_of_getElem? (i := 180) rfl)) (by decide) (rm_newLen G O cap (mn - cap) (cap + 2) (by omega) (by omega) (by omega)) rfl (lenOf pd_25 rfl) rfl (by decide) (own_leb rfl) (by decide) rfl rfl (by decide) (by decide) d30_29 rfl ?_
  rintro _ h30 ⟨eh31, rfl⟩
  rw [eh31]
  show AtW p l e _ s m _ below meth c n0 _ h0 0 0 (mkF m 32 #[.val (.ref b), .val (.int (Int32.ofNat mn)), .val (.int (Int32.ofNat cap)), .val (.int (Int32.ofNat mn)), .val (.int (Int32.ofNat (mn - cap))), .unset] [(.int (Int32.ofNat (cap + (cap + 2))))])
  refine w_istore (q := 34) (L' := #[.val (.ref b), .val (.int (Int32.ofNat mn)), .val (.int (Int32.ofNat cap)), .val (.int (Int32.ofNat mn)), .val (.int (Int32.ofNat (mn - cap))), .val (.int (Int32.ofNat (cap + (cap + 2))))]) C rfl d30_32 rfl ?_
  refine w_iload (q := 36) C rfl d30_34 rfl ?_
  refine w_ldcI (q := 38) C (G.1 _ (List.mem_of_getElem? (i := 186) rfl)) d30_36 rfl ?_
  refine w_icmp_ne_t (q := 51) C d30_38 (by decide) (by decide) (by rw [own_eq, own_nat (by omega)]; have e : (2147483647 : Int32).toInt = 2147483647 := rfl; omega) ?_
  refine w_iload (q := 53) C rfl d30_51 rfl ?_
  refine w_aloadN (q := 54) C rfl rfl d30_53 rfl ?_
  refine w_getF (q := 57) (host := "") C (Or.inl (G.1 _ (List.mem_of_getElem? (i := 126) rfl))) Via.refl FC d30_54 rfl ?_
  refine w_ishr (q := 58) C rfl d30_57 rfl ?_
  rw [show ((Int32.ofNat (cap + (cap + 2))) >>> ((0 : Int32) &&& 31)) = (Int32.ofNat (2 * cap + 2)) from (own_shr0 _).trans (by congr 1; omega)]
  exact w_retI C rfl d30_58 (by decide) (by decide) ⟨rfl, rfl⟩
theorem d34_0 : decode jdk_29_method_69_code 0 = .ok (.iload_n 0, 1) := by decide +kernel
theorem d34_1 : decode jdk_29_method_69_code 1 = .ok (.iload_n 1, 1) := by decide +kernel
theorem d34_2 : decode jdk_29_method_69_code 2 = .ok (.if_icmp .gt 7, 3) := by decide +kernel
theorem d34_5 : decode jdk_29_method_69_code 5 = .ok (.iload_n 0, 1) := by decide +kernel
theorem d34_6 : decode jdk_29_method_69_code 6 = .ok (.goto 4, 3) := by decide +kernel
theorem d34_9 : decode jdk_29_method_69_code 9 = .ok (.iload_n 1, 1) := by decide +kernel
theorem d34_10 : decode jdk_29_method_69_code 10 = .ok (.ireturn, 1) := by decide +kernel
theorem pf34 : plainFor (⟨"java/lang/Math", "min", "(II)I"⟩ : MethodName) = true := by first | exact plainFor_of_name (by first | (simp [plainName, overriddenIn]; done) | decide +kernel) | decide +kernel
theorem ef_mmin (m : MethodId) (z0 : Int32) (z1 : Int32) : entryFrame m #[(.int z0), (.int z1)] 2 = mkF m 0 #[.val (.int z0), .val (.int z1)] [] := by first | rfl | (simp [entryFrame, mkF, argsToLocals, Value.category, *]; done) | rfl
set_option maxRecDepth 65536 in
set_option maxHeartbeats 40000000 in
theorem rm_mmin {l : Launch} {Z : State} {a0 : Array Value} {n0 : Nat} (G : Gl Z a0 n0) {h0 : Heap} (O : Old Z n0 h0) (x : Int32) (y : Int32) :
    Ct [] l Z n0 (⟨"java/lang/Math", "min", "(II)I"⟩ : MethodName) jdk_29_method_69_code 2 (some .int) ({ frames := 0, cells := 0, slots := 0, locals := 0 } : Room) #[(.int x), (.int y)] h0 (fun v h => h = h0 ∧ v = some (.int (if y < x then y else x))) := by
  refine Ct.intro pf34 ?_
  intro p e s m below meth c C
  refine AtW.cast ?_ (ef_mmin m x y)
  refine w_iloadN (q := 1) C rfl d34_0 rfl ?_
  refine w_iloadN (q := 2) C rfl d34_1 rfl ?_
  by_cases hc : y < x
  · refine w_icmp_gt_t (q := 9) C d34_2 (by decide) (by decide) hc ?_
    refine w_iloadN (q := 10) C rfl d34_9 rfl ?_
    exact w_retI C rfl d34_10 (by decide) (by decide) ⟨rfl, by rw [if_pos hc]⟩
  · refine w_icmp_gt_f (q := 5) C d34_2 rfl hc ?_
    refine w_iloadN (q := 6) C rfl d34_5 rfl ?_
    refine w_goto (q := 10) C d34_6 (by decide) (by decide) ?_
    exact w_retI C rfl d34_10 (by decide) (by decide) ⟨rfl, by rw [if_neg hc]⟩
theorem d33_0 : decode jdk_65_method_121_code 0 = .ok (.iload_n 1, 1) := by decide +kernel
theorem d33_1 : decode jdk_65_method_121_code 1 = .ok (.aload_n 0, 1) := by decide +kernel
theorem d33_2 : decode jdk_65_method_121_code 2 = .ok (.arraylength, 1) := by decide +kernel
theorem d33_3 : decode jdk_65_method_121_code 3 = .ok (.if_icmp .ne 11, 3) := by decide +kernel
theorem d33_6 : decode jdk_65_method_121_code 6 = .ok (.aload_n 0, 1) := by decide +kernel
theorem d33_7 : decode jdk_65_method_121_code 7 = .ok (.invokevirtual 310, 3) := by decide +kernel
theorem d33_10 : decode jdk_65_method_121_code 10 = .ok (.checkcast 311, 3) := by decide +kernel
theorem d33_13 : decode jdk_65_method_121_code 13 = .ok (.areturn, 1) := by decide +kernel
theorem d33_14 : decode jdk_65_method_121_code 14 = .ok (.iload_n 1, 1) := by decide +kernel
theorem d33_15 : decode jdk_65_method_121_code 15 = .ok (.newarray .byte, 2) := by decide +kernel
theorem d33_17 : decode jdk_65_method_121_code 17 = .ok (.astore_n 2, 1) := by decide +kernel
theorem d33_18 : decode jdk_65_method_121_code 18 = .ok (.aload_n 0, 1) := by decide +kernel
theorem d33_19 : decode jdk_65_method_121_code 19 = .ok (.iconst 0, 1) := by decide +kernel
theorem d33_20 : decode jdk_65_method_121_code 20 = .ok (.aload_n 2, 1) := by decide +kernel
theorem d33_21 : decode jdk_65_method_121_code 21 = .ok (.iconst 0, 1) := by decide +kernel
theorem d33_22 : decode jdk_65_method_121_code 22 = .ok (.aload_n 0, 1) := by decide +kernel
theorem d33_23 : decode jdk_65_method_121_code 23 = .ok (.arraylength, 1) := by decide +kernel
theorem d33_24 : decode jdk_65_method_121_code 24 = .ok (.iload_n 1, 1) := by decide +kernel
theorem d33_25 : decode jdk_65_method_121_code 25 = .ok (.invokestatic 304, 3) := by decide +kernel
theorem d33_28 : decode jdk_65_method_121_code 28 = .ok (.invokestatic 150, 3) := by decide +kernel
theorem d33_31 : decode jdk_65_method_121_code 31 = .ok (.aload_n 2, 1) := by decide +kernel
theorem d33_32 : decode jdk_65_method_121_code 32 = .ok (.areturn, 1) := by decide +kernel
theorem pf33 : plainFor (⟨"java/util/Arrays", "copyOf", "([BI)[B"⟩ : MethodName) = true := by first | exact plainFor_of_name (by first | (simp [plainName, overriddenIn]; done) | decide +kernel) | decide +kernel
theorem ef_copyOf (m : MethodId) (z0 : Addr) (z1 : Int32) : entryFrame m #[(.ref z0), (.int z1)] 3 = mkF m 0 #[.val (.ref z0), .val (.int z1), .unset] [] := by first | rfl | (simp [entryFrame, mkF, argsToLocals, Value.category, *]; done) | rfl
set_option maxRecDepth 65536 in
set_option maxHeartbeats 40000000 in
theorem rm_copyOf {l : Launch} {Z : State} {a0 : Array Value} {n0 : Nat} (G : Gl Z a0 n0) {h0 : Heap} (O : Old Z n0 h0) (t : Addr) (vs : List Value) (n : Nat) (A : Ar Z h0 t .byte vs) (hn : vs.length < n) (hnc : n ≤ 70) :
    Ct [] l Z n0 (⟨"java/util/Arrays", "copyOf", "([BI)[B"⟩ : MethodName) jdk_65_method_121_code 3 (some (.array .byte)) ({ frames := 1, cells := 1, slots := 70, locals := 18 } : Room) #[(.ref t), (.int (Int32.ofNat n))] h0 (fun v h => Keep h0 h [] ∧ ∃ u, v = some (.ref u) ∧ h0.size ≤ u ∧ Exa Z h u "[B" ∧ Ar Z h u .byte (vs ++ List.replicate (n - vs.length) (Value.int (0 : Int32)))) := by
  refine Ct.intro pf33 ?_
  intro p e s m below meth c C
  refine AtW.cast ?_ (ef_copyOf m t (Int32.ofNat n))
  have hvl := A.1
  refine w_iloadN (q := 1) C rfl d33_0 rfl ?_
  refine w_aloadN (q := 2) C rfl rfl d33_1 rfl ?_
  refine w_len (q := 3) (z := (Int32.ofNat vs.length)) C A rfl d33_2 rfl ?_
  refine w_icmp_ne_t (q := 14) C d33_3 (by decide) (by decide) (fun q => by rw [own_neq (by omega) hvl] at q; omega) ?_
  refine w_iloadN (q := 15) C rfl d33_14 rfl ?_
  refine w_newArrE (q := 17) (cap := 70) (cells' := 1) (slots' := 70) (ad := "[B") C (G.1 _ (List.mem_of_getElem? (i := 27) rfl)) rfl (ofNat_neg (by omega)) (by rw [ofNat_nat (by omega)]; exact hnc) (by decide) rfl rfl (by decide) (by decide) rfl d33_15 rfl ?_
  intro h32 u g_u Eh32 V_u X_u
  rw [ofNat_nat (by omega)] at V_u
  have K1 : Keep h0 h32 [] := Keep.of_ext Eh32
  have hg0 : h0.size ≤ u := Nat.le_of_eq g_u.symm
  have ge : n0 ≤ u := Nat.le_trans (Old_le O) hg0
  replace O := Old_k0 O K1
  replace A := Ar_k0 A K1
  refine w_astoreN (q := 18) (L' := #[.val (.ref t), .val (.int (Int32.ofNat n)), .val (.ref u)]) C rfl rfl d33_17 rfl ?_
  refine w_aloadN (q := 19) C rfl rfl d33_18 rfl ?_
  refine w_iconst (q := 20) (v := (0 : Int32)) C (by rfl) d33_19 rfl ?_
  refine w_aloadN (q := 21) C rfl rfl d33_20 rfl ?_
  refine w_iconst (q := 22) (v := (0 : Int32)) C (by rfl) d33_21 rfl ?_
  refine w_aloadN (q := 23) C rfl rfl d33_22 rfl ?_
  refine w_len (q := 24) (z := (Int32.ofNat vs.length)) C A rfl d33_23 rfl ?_
  refine w_iloadN (q := 25) C rfl d33_24 rfl ?_
  refine w_callS (q := 28) (argsL := [(.int (Int32.ofNat vs.length)), (.int (Int32.ofNat n))]) (S := [(.int (0 : Int32)), (.ref u), (.int (0 : Int32)), (.ref t)]) (W := 4) (cells' := 1) (slots' := 70) C (G.1 _ (List.mem_of_getElem? (i := 191) rfl)) (G.1 _ (List.mem_of_getElem? (i := 192) rfl)) (G.1 _ (List.mem_of_getElem? (i := 183) rfl)) (G.1 _ (List.mem_of_getElem? (i := 193) rfl)) (by decide) (rm_mmin G O _ _) rfl (lenOf pd_26 rfl) rfl (by decide) (own_leb rfl) (by decide) rfl rfl (by decide) (by decide) d33_25 rfl ?_
  rintro _ h33 ⟨eh34, rfl⟩
  rw [eh34]
  show AtW p l e _ s m _ below meth c n0 _ h32 1 70 (mkF m 28 #[.val (.ref t), .val (.int (Int32.ofNat n)), .val (.ref u)] [(.int (if (Int32.ofNat n) < (Int32.ofNat vs.length) then (Int32.ofNat n) else (Int32.ofNat vs.length))), (.int (0 : Int32)), (.ref u), (.int (0 : Int32)), (.ref t)])
  rw [show (if (Int32.ofNat n) < (Int32.ofNat vs.length) then (Int32.ofNat n) else (Int32.ofNat vs.length)) = (Int32.ofNat vs.length) from by rw [if_neg (fun q => by rw [own_nlt (by omega) hvl] at q; omega)]]
  refine w_copy (q := 31) (S := []) (sp := 0) (dp := 0) (nn := vs.length) (W := 0) C (G.1 _ (List.mem_of_getElem? (i := 194) rfl)) (G.1 _ (List.mem_of_getElem? (i := 166) rfl)) (G.1 _ (List.mem_of_getElem? (i := 164) rfl)) (G.1 _ (List.mem_of_getElem? (i := 165) rfl)) A V_u rfl (by omega) (by rw [List.length_replicate]; omega) ge rfl (by decide) (own_leb rfl) (by decide) rfl d33_28 rfl ?_
  intro h35 Kh35 Vh35
  refine w_aloadN (q := 32) C rfl rfl d33_31 rfl ?_
  exact w_retA C rfl rfl rfl d33_32 (by decide) (by decide) ⟨own_K1 K1 Kh35 hg0, u, rfl, hg0, X_u.keep Kh35, by have q := Vh35; simp at q; exact q⟩
theorem d25_0 : decode jdk_68_method_9_code 0 = .ok (.aload_n 0, 1) := by decide +kernel
theorem d25_1 : decode jdk_68_method_9_code 1 = .ok (.getfield 15, 3) := by decide +kernel
theorem d25_4 : decode jdk_68_method_9_code 4 = .ok (.arraylength, 1) := by decide +kernel
theorem d25_5 : decode jdk_68_method_9_code 5 = .ok (.aload_n 0, 1) := by decide +kernel
theorem d25_6 : decode jdk_68_method_9_code 6 = .ok (.getfield 22, 3) := by decide +kernel
theorem d25_9 : decode jdk_68_method_9_code 9 = .ok (.ishr, 1) := by decide +kernel
theorem d25_10 : decode jdk_68_method_9_code 10 = .ok (.istore_n 2, 1) := by decide +kernel
theorem d25_11 : decode jdk_68_method_9_code 11 = .ok (.iload_n 1, 1) := by decide +kernel
theorem d25_12 : decode jdk_68_method_9_code 12 = .ok (.iload_n 2, 1) := by decide +kernel
theorem d25_13 : decode jdk_68_method_9_code 13 = .ok (.isub, 1) := by decide +kernel
theorem d25_14 : decode jdk_68_method_9_code 14 = .ok (.ifCond .le 24, 3) := by decide +kernel
theorem d25_17 : decode jdk_68_method_9_code 17 = .ok (.aload_n 0, 1) := by decide +kernel
theorem d25_18 : decode jdk_68_method_9_code 18 = .ok (.aload_n 0, 1) := by decide +kernel
theorem d25_19 : decode jdk_68_method_9_code 19 = .ok (.getfield 15, 3) := by decide +kernel
theorem d25_22 : decode jdk_68_method_9_code 22 = .ok (.aload_n 0, 1) := by decide +kernel
theorem d25_23 : decode jdk_68_method_9_code 23 = .ok (.iload_n 1, 1) := by decide +kernel
theorem d25_24 : decode jdk_68_method_9_code 24 = .ok (.invokevirtual 104, 3) := by decide +kernel
theorem d25_27 : decode jdk_68_method_9_code 27 = .ok (.aload_n 0, 1) := by decide +kernel
theorem d25_28 : decode jdk_68_method_9_code 28 = .ok (.getfield 22, 3) := by decide +kernel
theorem d25_31 : decode jdk_68_method_9_code 31 = .ok (.ishl, 1) := by decide +kernel
theorem d25_32 : decode jdk_68_method_9_code 32 = .ok (.invokestatic 108, 3) := by decide +kernel
theorem d25_35 : decode jdk_68_method_9_code 35 = .ok (.putfield 15, 3) := by decide +kernel
theorem d25_38 : decode jdk_68_method_9_code 38 = .ok (.return_, 1) := by decide +kernel
theorem pf25 : plainFor (⟨"java/lang/AbstractStringBuilder", "ensureCapacityInternal", "(I)V"⟩ : MethodName) = true := by first | exact plainFor_of_name (by first | (simp [plainName, overriddenIn]; done) | decide +kernel) | decide +kernel
theorem ef_ensGrow (m : MethodId) (z0 : Addr) (z1 : Int32) : entryFrame m #[(.ref z0), (.int z1)] 3 = mkF m 0 #[.val (.ref z0), .val (.int z1), .unset] [] := by first | rfl | (simp [entryFrame, mkF, argsToLocals, Value.category, *]; done) | rfl
set_option maxRecDepth 65536 in
set_option maxHeartbeats 40000000 in
theorem rm_ensGrow {l : Launch} {Z : State} {a0 : Array Value} {n0 : Nat} (G : Gl Z a0 n0) {h0 : Heap} (O : Old Z n0 h0) (b : Addr) (t : Addr) (cs : List Int32) (cap : Nat) (mn : Nat) (B : Sb Z h0 b t cs cap) (hmx : mn ≤ cap ∨ (mn ≤ 2 * cap + 2 ∧ 2 * cap + 2 ≤ 70)) (hge : n0 ≤ b) :
    Ct [] l Z n0 (⟨"java/lang/AbstractStringBuilder", "ensureCapacityInternal", "(I)V"⟩ : MethodName) jdk_68_method_9_code 3 none ({ frames := 3, cells := 1, slots := 70, locals := 48 } : Room) #[(.ref b), (.int (Int32.ofNat mn))] h0 (fun v h => Keep h0 h [b] ∧ v = none ∧ ∃ u cap', (u = t ∨ h0.size ≤ u) ∧ cap' = (if mn ≤ cap then cap else 2 * cap + 2) ∧ Sb Z h b u cs cap') := by
  refine Ct.intro pf25 ?_
  intro p e s m below meth c C
  refine AtW.cast ?_ (ef_ensGrow m b (Int32.ofNat mn))
  obtain ⟨E, hr, hlc, FC, FN, FV, E2, A⟩ := id B
  have hcl := B.capl
  have hmb : mn < 2 ^ 31 := by omega
  refine w_aloadN (q := 1) C rfl rfl d25_0 rfl ?_
  refine w_getF (q := 4) (host := "") C (Or.inl (G.1 _ (List.mem_of_getElem? (i := 124) rfl))) Via.refl FV d25_1 rfl ?_
  refine w_len (q := 5) (z := (Int32.ofNat cap)) C A (by simp only [List.length_append, own_bs_len, List.length_replicate]; congr 1; omega) d25_4 rfl ?_
  refine w_aloadN (q := 6) C rfl rfl d25_5 rfl ?_
  refine w_getF (q := 9) (host := "") C (Or.inl (G.1 _ (List.mem_of_getElem? (i := 126) rfl))) Via.refl FC d25_6 rfl ?_
  refine w_ishr (q := 10) C rfl d25_9 rfl ?_
  rw [show ((Int32.ofNat cap) >>> ((0 : Int32) &&& 31)) = (Int32.ofNat cap) from own_shr0 _]
  refine w_istoreN (q := 11) (L' := #[.val (.ref b), .val (.int (Int32.ofNat mn)), .val (.int (Int32.ofNat cap))]) C rfl d25_10 rfl ?_
  refine w_iloadN (q := 12) C rfl d25_11 rfl ?_
  refine w_iloadN (q := 13) C rfl d25_12 rfl ?_
  refine w_isub (q := 14) C rfl d25_13 rfl ?_
  have hsg : 0 < Int32.ofNat mn - Int32.ofNat cap ↔ cap < mn := by rw [own_lt]; have c1 := c_isub (Int32.ofNat mn) (Int32.ofNat cap); rw [own_nat hmb, own_nat hcl] at c1; have r := rng32 (Int32.ofNat mn - Int32.ofNat cap); have e0 : (0 : Int32).toInt = 0 := rfl; omega
  by_cases q1 : 0 < ((Int32.ofNat mn) - (Int32.ofNat cap))
  · refine w_if_le_f (q := 17) C d25_14 rfl q1 ?_
    rw [hsg] at q1
    have hmx2 : mn ≤ 2 * cap + 2 ∧ 2 * cap + 2 ≤ 70 := by omega
    refine w_aloadN (q := 18) C rfl rfl d25_17 rfl ?_
    refine w_aloadN (q := 19) C rfl rfl d25_18 rfl ?_
    refine w_getF (q := 22) (host := "") C (Or.inl (G.1 _ (List.mem_of_getElem? (i := 124) rfl))) Via.refl FV d25_19 rfl ?_
    refine w_aloadN (q := 23) C rfl rfl d25_22 rfl ?_
    refine w_iloadN (q := 24) C rfl d25_23 rfl ?_
    refine w_callP (q := 27) (argsL := [(.int (Int32.ofNat mn))]) (S := [(.ref t), (.ref b)]) (W := 2) (cells' := 0) (slots' := 0) (a := b) C E (G.1 _ (List.mem_of_getElem? (i := 172) rfl)) (G.1 _ (List.mem_of_getElem? (i := 173) rfl)) (NI.of_sel (args := #[]) (z := ({ cls := "java/lang/AbstractStringBuilder", name := "ensureCapacityInternal", desc := "(I)V" } : Jvm.MethodName)) (mvT C.2.2.2.1 (G.1 _ (List.mem_of_getElem? (i := 145) rfl)))) (G.1 _ (List.mem_of_getElem? (i := 174) rfl)) (G.1 _ (List.mem_of_getElem? (i := 120) rfl)) (G.1 _ (List.mem_of_getElem? (i := 176) rfl)) (by decide) (rm_newCap G O b t cs cap mn B q1 hmx2.1 (by omega)) rfl (lenOf pd_13 rfl) rfl (by decide) (own_leb rfl) (by decide) rfl rfl (by decide) (by decide) d25_24 rfl ?_
    rintro _ h36 ⟨eh37, rfl⟩
    rw [eh37]
    show AtW p l e _ s m _ below meth c n0 _ h0 0 0 (mkF m 27 #[.val (.ref b), .val (.int (Int32.ofNat mn)), .val (.int (Int32.ofNat cap))] [(.int (Int32.ofNat (2 * cap + 2))), (.ref t), (.ref b)])
    refine w_aloadN (q := 28) C rfl rfl d25_27 rfl ?_
    refine w_getF (q := 31) (host := "") C (Or.inl (G.1 _ (List.mem_of_getElem? (i := 126) rfl))) Via.refl FC d25_28 rfl ?_
    refine w_ishl (q := 32) C rfl d25_31 rfl ?_
    rw [show ((Int32.ofNat (2 * cap + 2)) <<< ((0 : Int32) &&& 31)) = (Int32.ofNat (2 * cap + 2)) from own_shl0 _]
    refine w_callS (q := 35) (argsL := [(.ref t), (.int (Int32.ofNat (2 * cap + 2)))]) (S := [(.ref b)]) (W := 1) (cells' := 1) (slots' := 70) C (G.1 _ (List.mem_of_getElem? (i := 187) rfl)) (G.1 _ (List.mem_of_getElem? (i := 188) rfl)) (G.1 _ (List.mem_of_getElem? (i := 189) rfl)) (G.1 _ (List.mem_of_getElem? (i := 190) rfl)) (by decide) (rm_copyOf G O t _ (2 * cap + 2) A (by simp only [List.length_append, own_bs_len, List.length_replicate]; omega) hmx2.2) rfl (lenOf pd_27 rfl) rfl (by decide) (own_leb rfl) (by decide) rfl rfl (by decide) (by decide) d25_32 rfl ?_
    rintro _ h38 ⟨Kh38, u, rfl, hgu, X_u, V_u⟩
    show AtW p l e _ s m _ below meth c n0 _ h38 1 70 (mkF m 35 #[.val (.ref b), .val (.int (Int32.ofNat mn)), .val (.int (Int32.ofNat cap))] [(.ref u), (.ref b)])
    replace E := Exa_k0 E Kh38
    replace FC := Fld_k0 FC Kh38
    replace FN := Fld_k0 FN Kh38
    replace FV := Fld_k0 FV Kh38
    have hub : u ≠ b := Ne.symm (ne_exa E X_u (by decide))
    refine w_putF (q := 38) (host := "") (v' := (.ref u)) C (G.1 _ (List.mem_of_getElem? (i := 124) rfl)) Via.refl FV E (Or.inl (G.1 _ (List.mem_of_getElem? (i := 125) rfl))) (G.1 _ (List.mem_of_getElem? (i := 111) rfl)) (ty := (.array .byte)) (by decide) rfl rfl hge d25_35 rfl ?_
    intro h39 Wh39
    replace FV := FV.same Wh39
    replace FC := FC.other Wh39 (Or.inr (slot_ne (Or.inl (G.1 _ (List.mem_of_getElem? (i := 127) rfl))) (Or.inl (G.1 _ (List.mem_of_getElem? (i := 125) rfl))) (by decide) (t := .byte) (t' := (.array .byte)) (by decide) (by decide)))
    replace FN := FN.other Wh39 (Or.inr (slot_ne (Or.inl (G.1 _ (List.mem_of_getElem? (i := 141) rfl))) (Or.inl (G.1 _ (List.mem_of_getElem? (i := 125) rfl))) (by decide) (t := .int) (t' := (.array .byte)) (by decide) (by decide)))
    replace E := E.wr Wh39
    replace X_u := X_u.wr Wh39
    replace V_u := V_u.other Wh39 hub
    exact w_retV C rfl d25_38 (by decide) (by decide) ⟨((Keep.refl h0 [b]).trans Kh38 (all0 (P := fun x => x ∈ [b] ∨ h0.size ≤ x))).wr Wh39 (Or.inl (List.mem_cons_self ..)), rfl, u, _, Or.inr hgu, rfl, E, hr, by split <;> omega, FC, FN, FV, X_u, by rw [if_neg (by omega)]; rw [List.append_assoc, List.replicate_append_replicate] at V_u; refine V_u.eq ?_; congr 2; simp only [List.length_append, own_bs_len, List.length_replicate]; omega⟩
  · refine w_if_le_t (q := 38) C d25_14 (by decide) (by decide) q1 ?_
    exact w_retV C rfl d25_38 (by decide) (by decide) ⟨Keep.refl _ _, rfl, t, cap, Or.inl rfl, by rw [if_pos (by rw [hsg] at q1; omega)], B⟩
theorem d24_0 : decode jdk_68_method_22_code 0 = .ok (.aload_n 1, 1) := by decide +kernel
theorem d24_1 : decode jdk_68_method_22_code 1 = .ok (.ifnonnull 8, 3) := by decide +kernel
theorem d24_4 : decode jdk_68_method_22_code 4 = .ok (.aload_n 0, 1) := by decide +kernel
theorem d24_5 : decode jdk_68_method_22_code 5 = .ok (.invokevirtual 204, 3) := by decide +kernel
theorem d24_8 : decode jdk_68_method_22_code 8 = .ok (.areturn, 1) := by decide +kernel
theorem d24_9 : decode jdk_68_method_22_code 9 = .ok (.aload_n 1, 1) := by decide +kernel
theorem d24_10 : decode jdk_68_method_22_code 10 = .ok (.invokevirtual 32, 3) := by decide +kernel
theorem d24_13 : decode jdk_68_method_22_code 13 = .ok (.istore_n 2, 1) := by decide +kernel
theorem d24_14 : decode jdk_68_method_22_code 14 = .ok (.aload_n 0, 1) := by decide +kernel
theorem d24_15 : decode jdk_68_method_22_code 15 = .ok (.aload_n 0, 1) := by decide +kernel
theorem d24_16 : decode jdk_68_method_22_code 16 = .ok (.getfield 79, 3) := by decide +kernel
theorem d24_19 : decode jdk_68_method_22_code 19 = .ok (.iload_n 2, 1) := by decide +kernel
theorem d24_20 : decode jdk_68_method_22_code 20 = .ok (.iadd, 1) := by decide +kernel
theorem d24_21 : decode jdk_68_method_22_code 21 = .ok (.invokevirtual 100, 3) := by decide +kernel
theorem d24_24 : decode jdk_68_method_22_code 24 = .ok (.aload_n 0, 1) := by decide +kernel
theorem d24_25 : decode jdk_68_method_22_code 25 = .ok (.aload_n 0, 1) := by decide +kernel
theorem d24_26 : decode jdk_68_method_22_code 26 = .ok (.getfield 79, 3) := by decide +kernel
theorem d24_29 : decode jdk_68_method_22_code 29 = .ok (.aload_n 1, 1) := by decide +kernel
theorem d24_30 : decode jdk_68_method_22_code 30 = .ok (.invokevirtual 208, 3) := by decide +kernel
theorem d24_33 : decode jdk_68_method_22_code 33 = .ok (.aload_n 0, 1) := by decide +kernel
theorem d24_34 : decode jdk_68_method_22_code 34 = .ok (.dup, 1) := by decide +kernel
theorem d24_35 : decode jdk_68_method_22_code 35 = .ok (.getfield 79, 3) := by decide +kernel
theorem d24_38 : decode jdk_68_method_22_code 38 = .ok (.iload_n 2, 1) := by decide +kernel
theorem d24_39 : decode jdk_68_method_22_code 39 = .ok (.iadd, 1) := by decide +kernel
theorem d24_40 : decode jdk_68_method_22_code 40 = .ok (.putfield 79, 3) := by decide +kernel
theorem d24_43 : decode jdk_68_method_22_code 43 = .ok (.aload_n 0, 1) := by decide +kernel
theorem d24_44 : decode jdk_68_method_22_code 44 = .ok (.areturn, 1) := by decide +kernel
theorem pf24 : plainFor (⟨"java/lang/AbstractStringBuilder", "append", "(Ljava/lang/String;)Ljava/lang/AbstractStringBuilder;"⟩ : MethodName) = true := by first | exact plainFor_of_name (by first | (simp [plainName, overriddenIn]; done) | decide +kernel) | decide +kernel
theorem ef_asbApp (m : MethodId) (z0 : Addr) (z1 : Addr) : entryFrame m #[(.ref z0), (.ref z1)] 3 = mkF m 0 #[.val (.ref z0), .val (.ref z1), .unset] [] := by first | rfl | (simp [entryFrame, mkF, argsToLocals, Value.category, *]; done) | rfl
set_option maxRecDepth 65536 in
set_option maxHeartbeats 40000000 in
theorem rm_asbApp {l : Launch} {Z : State} {a0 : Array Value} {n0 : Nat} (G : Gl Z a0 n0) {h0 : Heap} (O : Old Z n0 h0) (b : Addr) (t : Addr) (cs : List Int32) (cap : Nat) (a : Addr) (ds : List Int32) (B : Sb Z h0 b t cs cap) (S : Str Z h0 a ds) (hfit : cs.length + ds.length ≤ cap ∨ (cs.length + ds.length ≤ 2 * cap + 2 ∧ 2 * cap + 2 ≤ 70)) (hge : n0 ≤ b) (hgt : n0 ≤ t) (hsb : a ≠ b) (hst : ∀ x, Fld Z h0 a "java/lang/String" "value" "[B" (.ref x) → x ≠ b) :
    Ct [] l Z n0 (⟨"java/lang/AbstractStringBuilder", "append", "(Ljava/lang/String;)Ljava/lang/AbstractStringBuilder;"⟩ : MethodName) jdk_68_method_22_code 3 (some (.object "java/lang/AbstractStringBuilder")) ({ frames := 4, cells := 1, slots := 70, locals := 62 } : Room) #[(.ref b), (.ref a)] h0 (fun v h => Keep h0 h [b, t] ∧ v = some (.ref b) ∧ ∃ u cap', (u = t ∨ h0.size ≤ u) ∧ cap' = (if cs.length + ds.length ≤ cap then cap else 2 * cap + 2) ∧ Sb Z h b u (cs ++ ds) cap') := by
  refine Ct.intro pf24 ?_
  intro p e s m below meth c C
  refine AtW.cast ?_ (ef_asbApp m b a)
  obtain ⟨E, hr, hlc, FC, FN, FV, E2, A⟩ := id B
  have hsl := S.len
  have hcl := B.capl
  refine w_aloadN (q := 1) C rfl rfl d24_0 rfl ?_
  refine w_ifnonnull_t (q := 9) C d24_1 (by decide) (by decide) ?_
  refine w_aloadN (q := 10) C rfl rfl d24_9 rfl ?_
  refine w_callV (q := 13) (argsL := []) (S := []) (W := 0) (cells' := 0) (slots' := 0) (a := a) C S.1 (G.1 _ (List.mem_of_getElem? (i := 139) rfl)) (G.1 _ (List.mem_of_getElem? (i := 60) rfl)) (w_nf C (G.1 _ (List.mem_of_getElem? (i := 62) rfl))) (G.1 _ (List.mem_of_getElem? (i := 62) rfl)) (G.1 _ (List.mem_of_getElem? (i := 61) rfl)) (G.1 _ (List.mem_of_getElem? (i := 10) rfl)) (G.1 _ (List.mem_of_getElem? (i := 63) rfl)) (by decide) (rm_length G O a ds S) rfl (lenOf pd_11 rfl) rfl (by decide) (own_leb rfl) (by decide) rfl rfl (by decide) (by decide) d24_10 rfl ?_
  rintro _ h40 ⟨eh41, rfl⟩
  rw [eh41]
  show AtW p l e _ s m _ below meth c n0 _ h0 0 0 (mkF m 13 #[.val (.ref b), .val (.ref a), .unset] [(.int (Int32.ofNat ds.length))])
  refine w_istoreN (q := 14) (L' := #[.val (.ref b), .val (.ref a), .val (.int (Int32.ofNat ds.length))]) C rfl d24_13 rfl ?_
  refine w_aloadN (q := 15) C rfl rfl d24_14 rfl ?_
  refine w_aloadN (q := 16) C rfl rfl d24_15 rfl ?_
  refine w_getF (q := 19) (host := "") C (Or.inl (G.1 _ (List.mem_of_getElem? (i := 140) rfl))) Via.refl FN d24_16 rfl ?_
  refine w_iloadN (q := 20) C rfl d24_19 rfl ?_
  refine w_iadd (q := 21) C rfl d24_20 rfl ?_
  rw [show ((Int32.ofNat cs.length) + (Int32.ofNat ds.length)) = (Int32.ofNat (cs.length + ds.length)) from own_add _ _]
  refine w_callP (q := 24) (argsL := [(.int (Int32.ofNat (cs.length + ds.length)))]) (S := []) (W := 0) (cells' := 1) (slots' := 70) (a := b) C E (G.1 _ (List.mem_of_getElem? (i := 142) rfl)) (G.1 _ (List.mem_of_getElem? (i := 143) rfl)) (NI.of_sel (args := #[]) (z := ({ cls := "java/lang/AbstractStringBuilder", name := "ensureCapacityInternal", desc := "(I)V" } : Jvm.MethodName)) (mvT C.2.2.2.1 (G.1 _ (List.mem_of_getElem? (i := 145) rfl)))) (G.1 _ (List.mem_of_getElem? (i := 144) rfl)) (G.1 _ (List.mem_of_getElem? (i := 120) rfl)) (G.1 _ (List.mem_of_getElem? (i := 146) rfl)) (by decide) (rm_ensGrow G O b t cs cap (cs.length + ds.length) B hfit hge) rfl (lenOf pd_19 rfl) rfl (by decide) (own_leb rfl) (by decide) rfl rfl (by decide) (by decide) d24_21 rfl ?_
  rintro _ h42 ⟨Kh42, rfl, u, cap', hu, hcp, B'⟩
  show AtW p l e _ s m _ below meth c n0 _ h42 1 70 (mkF m 24 #[.val (.ref b), .val (.ref a), .val (.int (Int32.ofNat ds.length))] [])
  have hgu : n0 ≤ u := hu.elim (fun q => by rw [q]; exact hgt) (fun q => Nat.le_trans (Old_le O) q)
  have O0 := O
  replace O := O.keep Kh42 (allS hge all0)
  replace S : Str Z h42 a ds := by obtain ⟨s1, s2, x, s3, s4, s5⟩ := S; exact ⟨s1.keep Kh42, s2, x, s3.keep Kh42 (ninS hsb nin0), s4.keep Kh42 (ninS hsb nin0), s5.keep Kh42 (ninS (hst x s4) nin0)⟩
  have hfit' : cs.length + ds.length ≤ cap' := by rw [hcp]; split <;> omega
  clear E hlc FC FN FV E2 A
  obtain ⟨E, hr, hlc, FC, FN, FV, E2, A⟩ := id B'
  refine w_aloadN (q := 25) C rfl rfl d24_24 rfl ?_
  refine w_aloadN (q := 26) C rfl rfl d24_25 rfl ?_
  refine w_getF (q := 29) (host := "") C (Or.inl (G.1 _ (List.mem_of_getElem? (i := 140) rfl))) Via.refl FN d24_26 rfl ?_
  refine w_aloadN (q := 30) C rfl rfl d24_29 rfl ?_
  refine w_callP (q := 33) (argsL := [(.int (Int32.ofNat cs.length)), (.ref a)]) (S := []) (W := 0) (cells' := 1) (slots' := 70) (a := b) C E (G.1 _ (List.mem_of_getElem? (i := 147) rfl)) (G.1 _ (List.mem_of_getElem? (i := 148) rfl)) (NI.of_sel (args := #[]) (z := ({ cls := "java/lang/AbstractStringBuilder", name := "ensureCapacityInternal", desc := "(I)V" } : Jvm.MethodName)) (mvT C.2.2.2.1 (G.1 _ (List.mem_of_getElem? (i := 145) rfl)))) (G.1 _ (List.mem_of_getElem? (i := 149) rfl)) (G.1 _ (List.mem_of_getElem? (i := 120) rfl)) (G.1 _ (List.mem_of_getElem? (i := 151) rfl)) (by decide) (rm_putStr G O b u cs cap' a ds B' S hfit' hgu) rfl (lenOf pd_22 rfl) rfl (by decide) (own_leb rfl) (by decide) rfl rfl (by decide) (by decide) d24_30 rfl ?_
  rintro _ h43 ⟨Kh43, rfl, V⟩
  show AtW p l e _ s m _ below meth c n0 _ h43 1 70 (mkF m 33 #[.val (.ref b), .val (.ref a), .val (.int (Int32.ofNat ds.length))] [])
  have hbt := B'.ne
  replace E := E.keep Kh43
  replace FC := FC.keep Kh43 (ninS hbt nin0)
  replace FN := FN.keep Kh43 (ninS hbt nin0)
  replace FV := FV.keep Kh43 (ninS hbt nin0)
  replace E2 := E2.keep Kh43
  have hL2 : L1 (cs ++ ds) := hr.app S.2.1
  refine w_aloadN (q := 34) C rfl rfl d24_33 rfl ?_
  refine w_dup (q := 35) C rfl d24_34 rfl ?_
  refine w_getF (q := 38) (host := "") C (Or.inl (G.1 _ (List.mem_of_getElem? (i := 140) rfl))) Via.refl FN d24_35 rfl ?_
  refine w_iloadN (q := 39) C rfl d24_38 rfl ?_
  refine w_iadd (q := 40) C rfl d24_39 rfl ?_
  rw [show ((Int32.ofNat cs.length) + (Int32.ofNat ds.length)) = (Int32.ofNat (cs ++ ds).length) from (own_add _ _).trans (by rw [List.length_append])]
  refine w_putF (q := 43) (host := "") (v' := (.int (Int32.ofNat (cs ++ ds).length))) C (G.1 _ (List.mem_of_getElem? (i := 140) rfl)) Via.refl FN E (Or.inl (G.1 _ (List.mem_of_getElem? (i := 141) rfl))) (G.1 _ (List.mem_of_getElem? (i := 111) rfl)) (ty := .int) (by decide) rfl rfl hge d24_40 rfl ?_
  intro h44 Wh44
  replace FN := FN.same Wh44
  replace FC := FC.other Wh44 (Or.inr (slot_ne (Or.inl (G.1 _ (List.mem_of_getElem? (i := 127) rfl))) (Or.inl (G.1 _ (List.mem_of_getElem? (i := 141) rfl))) (by decide) (t := .byte) (t' := .int) (by decide) (by decide)))
  replace FV := FV.other Wh44 (Or.inr (slot_ne (Or.inl (G.1 _ (List.mem_of_getElem? (i := 125) rfl))) (Or.inl (G.1 _ (List.mem_of_getElem? (i := 141) rfl))) (by decide) (t := (.array .byte)) (t' := .int) (by decide) (by decide)))
  replace E := E.wr Wh44
  replace E2 := E2.wr Wh44
  replace V := V.other Wh44 (Ne.symm hbt)
  refine w_aloadN (q := 44) C rfl rfl d24_43 rfl ?_
  exact w_retA C rfl rfl rfl d24_44 (by decide) (by decide) ⟨(((Keep.refl h0 [b, t]).trans Kh42 (allS (P := fun x => x ∈ [b, t] ∨ h0.size ≤ x) (Or.inl (by simp)) all0)).trans Kh43 (allS (P := fun x => x ∈ [b, t] ∨ h0.size ≤ x) (hu.elim (fun q => Or.inl (by simp [q])) Or.inr) all0)).wr Wh44 (Or.inl (by simp)), rfl, u, cap', hu, hcp, E, hL2, by rw [List.length_append]; exact hfit', FC, FN, FV, E2, V⟩
theorem d22_0 : decode jdk_68_method_2_code 0 = .ok (.aload_n 0, 1) := by decide +kernel
theorem d22_1 : decode jdk_68_method_2_code 1 = .ok (.invokespecial 3, 3) := by decide +kernel
theorem d22_4 : decode jdk_68_method_2_code 4 = .ok (.getstatic 18, 3) := by decide +kernel
theorem d22_7 : decode jdk_68_method_2_code 7 = .ok (.ifCond .eq 18, 3) := by decide +kernel
theorem d22_10 : decode jdk_68_method_2_code 10 = .ok (.aload_n 0, 1) := by decide +kernel
theorem d22_11 : decode jdk_68_method_2_code 11 = .ok (.iload_n 1, 1) := by decide +kernel
theorem d22_12 : decode jdk_68_method_2_code 12 = .ok (.newarray .byte, 2) := by decide +kernel
theorem d22_14 : decode jdk_68_method_2_code 14 = .ok (.putfield 15, 3) := by decide +kernel
theorem d22_17 : decode jdk_68_method_2_code 17 = .ok (.aload_n 0, 1) := by decide +kernel
theorem d22_18 : decode jdk_68_method_2_code 18 = .ok (.iconst 0, 1) := by decide +kernel
theorem d22_19 : decode jdk_68_method_2_code 19 = .ok (.putfield 22, 3) := by decide +kernel
theorem d22_22 : decode jdk_68_method_2_code 22 = .ok (.goto 16, 3) := by decide +kernel
theorem d22_25 : decode jdk_68_method_2_code 25 = .ok (.aload_n 0, 1) := by decide +kernel
theorem d22_26 : decode jdk_68_method_2_code 26 = .ok (.iload_n 1, 1) := by decide +kernel
theorem d22_27 : decode jdk_68_method_2_code 27 = .ok (.invokestatic 26, 3) := by decide +kernel
theorem d22_30 : decode jdk_68_method_2_code 30 = .ok (.putfield 15, 3) := by decide +kernel
theorem d22_33 : decode jdk_68_method_2_code 33 = .ok (.aload_n 0, 1) := by decide +kernel
theorem d22_34 : decode jdk_68_method_2_code 34 = .ok (.iconst 1, 1) := by decide +kernel
theorem d22_35 : decode jdk_68_method_2_code 35 = .ok (.putfield 22, 3) := by decide +kernel
theorem d22_38 : decode jdk_68_method_2_code 38 = .ok (.return_, 1) := by decide +kernel
theorem pf22 : plainFor (⟨"java/lang/AbstractStringBuilder", "<init>", "(I)V"⟩ : MethodName) = true := by first | exact plainFor_of_name (by first | (simp [plainName, overriddenIn]; done) | decide +kernel) | decide +kernel
theorem ef_asbinit (m : MethodId) (z0 : Addr) (z1 : Int32) : entryFrame m #[(.ref z0), (.int z1)] 2 = mkF m 0 #[.val (.ref z0), .val (.int z1)] [] := by first | rfl | (simp [entryFrame, mkF, argsToLocals, Value.category, *]; done) | rfl
set_option maxRecDepth 65536 in
set_option maxHeartbeats 40000000 in
theorem rm_asbinit {l : Launch} {Z : State} {a0 : Array Value} {n0 : Nat} (G : Gl Z a0 n0) {h0 : Heap} (O : Old Z n0 h0) (b : Addr) (E : Exa Z h0 b "java/lang/StringBuilder") (F_value : Fld Z h0 b "java/lang/AbstractStringBuilder" "value" "[B" .null) (F_coder : Fld Z h0 b "java/lang/AbstractStringBuilder" "coder" "B" (.int (0 : Int32))) (F_count : Fld Z h0 b "java/lang/AbstractStringBuilder" "count" "I" (.int (0 : Int32))) (hge : n0 ≤ b) :
    Ct [] l Z n0 (⟨"java/lang/AbstractStringBuilder", "<init>", "(I)V"⟩ : MethodName) jdk_68_method_2_code 2 none ({ frames := 1, cells := 1, slots := 16, locals := 12 } : Room) #[(.ref b), (.int (16 : Int32))] h0 (fun v h => Keep h0 h [b] ∧ v = none ∧ ∃ t, h0.size ≤ t ∧ Sb Z h b t [] 16) := by
  refine Ct.intro pf22 ?_
  intro p e s m below meth c C
  refine AtW.cast ?_ (ef_asbinit m b (16 : Int32))
  obtain ⟨zc, SC, hzc⟩ := G.cs
  refine w_aloadN (q := 1) C rfl rfl d22_0 rfl ?_
  refine w_initO (q := 4) (W := 0) C (G.1 _ (List.mem_of_getElem? (i := 122) rfl)) (G.1 _ (List.mem_of_getElem? (i := 20) rfl)) (G.1 _ (List.mem_of_getElem? (i := 21) rfl)) rfl (by decide) (own_leb rfl) (by decide) d22_1 rfl ?_
  refine w_getS (q := 7) (host := "") C (Or.inl (G.1 _ (List.mem_of_getElem? (i := 123) rfl))) Via.refl (SC.ext O.2) d22_4 rfl ?_
  refine w_if_eq_f (q := 10) C d22_7 rfl hzc ?_
  refine w_aloadN (q := 11) C rfl rfl d22_10 rfl ?_
  refine w_iloadN (q := 12) C rfl d22_11 rfl ?_
  refine w_newArrE (q := 14) (cap := 16) (cells' := 1) (slots' := 16) (ad := "[B") C (G.1 _ (List.mem_of_getElem? (i := 27) rfl)) rfl (by decide) (by decide) (by decide) rfl rfl (by decide) (by decide) rfl d22_12 rfl ?_
  intro h45 t g_t Eh45 V_t X_t
  have hg0 : h0.size ≤ t := Nat.le_of_eq g_t.symm
  have hbt : t ≠ b := Ne.symm (Nat.ne_of_lt (by rw [g_t]; exact E.lt))
  have K1 : Keep h0 h45 [b] := (Keep.refl h0 [b]).ext Eh45
  replace E := E.ext Eh45
  replace F_value := F_value.ext Eh45
  replace F_coder := F_coder.ext Eh45
  replace F_count := F_count.ext Eh45
  refine w_putF (q := 17) (host := "") (v' := (.ref t)) C (G.1 _ (List.mem_of_getElem? (i := 124) rfl)) Via.refl F_value E (Or.inl (G.1 _ (List.mem_of_getElem? (i := 125) rfl))) (G.1 _ (List.mem_of_getElem? (i := 111) rfl)) (ty := (.array .byte)) (by decide) rfl rfl hge d22_14 rfl ?_
  intro h46 Wh46
  have K2 := K1.wr Wh46 (Or.inl (List.mem_cons_self ..))
  replace F_value := F_value.same Wh46
  replace F_coder := F_coder.other Wh46 (Or.inr (slot_ne (Or.inl (G.1 _ (List.mem_of_getElem? (i := 127) rfl))) (Or.inl (G.1 _ (List.mem_of_getElem? (i := 125) rfl))) (by decide) (t := .byte) (t' := (.array .byte)) (by decide) (by decide)))
  replace F_count := F_count.other Wh46 (Or.inr (slot_ne (Or.inl (G.1 _ (List.mem_of_getElem? (i := 141) rfl))) (Or.inl (G.1 _ (List.mem_of_getElem? (i := 125) rfl))) (by decide) (t := .int) (t' := (.array .byte)) (by decide) (by decide)))
  replace E := E.wr Wh46
  replace X_t := X_t.wr Wh46
  replace V_t := V_t.other Wh46 hbt
  refine w_aloadN (q := 18) C rfl rfl d22_17 rfl ?_
  refine w_iconst (q := 19) (v := (0 : Int32)) C (by rfl) d22_18 rfl ?_
  refine w_putF (q := 22) (host := "") (v' := (.int (0 : Int32))) C (G.1 _ (List.mem_of_getElem? (i := 126) rfl)) Via.refl F_coder E (Or.inl (G.1 _ (List.mem_of_getElem? (i := 127) rfl))) (G.1 _ (List.mem_of_getElem? (i := 111) rfl)) (ty := .byte) (by decide) rfl rfl hge d22_19 rfl ?_
  intro h47 Wh47
  replace F_coder := F_coder.same Wh47
  replace F_value := F_value.other Wh47 (Or.inr (slot_ne (Or.inl (G.1 _ (List.mem_of_getElem? (i := 125) rfl))) (Or.inl (G.1 _ (List.mem_of_getElem? (i := 127) rfl))) (by decide) (t := (.array .byte)) (t' := .byte) (by decide) (by decide)))
  replace F_count := F_count.other Wh47 (Or.inr (slot_ne (Or.inl (G.1 _ (List.mem_of_getElem? (i := 141) rfl))) (Or.inl (G.1 _ (List.mem_of_getElem? (i := 127) rfl))) (by decide) (t := .int) (t' := .byte) (by decide) (by decide)))
  replace E := E.wr Wh47
  replace X_t := X_t.wr Wh47
  replace V_t := V_t.other Wh47 hbt
  refine w_goto (q := 38) C d22_22 (by decide) (by decide) ?_
  exact w_retV C rfl d22_38 (by decide) (by decide) ⟨K2.wr Wh47 (Or.inl (List.mem_cons_self ..)), rfl, t, hg0, E, (fun c hc => absurd hc List.not_mem_nil), by decide, F_coder, F_count, F_value, X_t, V_t⟩
theorem d21_0 : decode jdk_67_method_1_code 0 = .ok (.aload_n 0, 1) := by decide +kernel
theorem d21_1 : decode jdk_67_method_1_code 1 = .ok (.bipush 16, 2) := by decide +kernel
theorem d21_3 : decode jdk_67_method_1_code 3 = .ok (.invokespecial 1, 3) := by decide +kernel
theorem d21_6 : decode jdk_67_method_1_code 6 = .ok (.return_, 1) := by decide +kernel
theorem pf21 : plainFor (⟨"java/lang/StringBuilder", "<init>", "()V"⟩ : MethodName) = true := by first | exact plainFor_of_name (by first | (simp [plainName, overriddenIn]; done) | decide +kernel) | decide +kernel
theorem ef_sbinit (m : MethodId) (z0 : Addr) : entryFrame m #[(.ref z0)] 1 = mkF m 0 #[.val (.ref z0)] [] := by first | rfl | (simp [entryFrame, mkF, argsToLocals, Value.category, *]; done) | rfl
set_option maxRecDepth 65536 in
set_option maxHeartbeats 40000000 in
theorem rm_sbinit {l : Launch} {Z : State} {a0 : Array Value} {n0 : Nat} (G : Gl Z a0 n0) {h0 : Heap} (O : Old Z n0 h0) (b : Addr) (E : Exa Z h0 b "java/lang/StringBuilder") (F_value : Fld Z h0 b "java/lang/AbstractStringBuilder" "value" "[B" .null) (F_coder : Fld Z h0 b "java/lang/AbstractStringBuilder" "coder" "B" (.int (0 : Int32))) (F_count : Fld Z h0 b "java/lang/AbstractStringBuilder" "count" "I" (.int (0 : Int32))) (hge : n0 ≤ b) :
    Ct [] l Z n0 (⟨"java/lang/StringBuilder", "<init>", "()V"⟩ : MethodName) jdk_67_method_1_code 1 none ({ frames := 2, cells := 1, slots := 16, locals := 25 } : Room) #[(.ref b)] h0 (fun v h => Keep h0 h [b] ∧ v = none ∧ ∃ t, h0.size ≤ t ∧ Sb Z h b t [] 16) := by
  refine Ct.intro pf21 ?_
  intro p e s m below meth c C
  refine AtW.cast ?_ (ef_sbinit m b)
  refine w_aloadN (q := 1) C rfl rfl d21_0 rfl ?_
  refine w_bipush (q := 3) (v := (16 : Int32)) C (by rfl) d21_1 rfl ?_
  refine w_callI (q := 6) (argsL := [(.int (16 : Int32))]) (S := []) (W := 0) (cells' := 1) (slots' := 16) (a := b) C rfl (G.1 _ (List.mem_of_getElem? (i := 116) rfl)) (G.1 _ (List.mem_of_getElem? (i := 117) rfl)) (G.1 _ (List.mem_of_getElem? (i := 120) rfl)) (G.1 _ (List.mem_of_getElem? (i := 121) rfl)) (by decide) (rm_asbinit G O b E F_value F_coder F_count hge) rfl (lenOf pd_19 rfl) rfl (by decide) (own_leb rfl) (by decide) rfl rfl (by decide) (by decide) d21_3 rfl ?_
  rintro _ h48 ⟨Kh48, rfl, t, hg, B⟩
  show AtW p l e _ s m _ below meth c n0 _ h48 1 16 (mkF m 6 #[.val (.ref b)] [])
  exact w_retV C rfl d21_6 (by decide) (by decide) ⟨Kh48, rfl, t, hg, B⟩
theorem d23_0 : decode jdk_67_method_7_code 0 = .ok (.aload_n 0, 1) := by decide +kernel
theorem d23_1 : decode jdk_67_method_7_code 1 = .ok (.aload_n 1, 1) := by decide +kernel
theorem d23_2 : decode jdk_67_method_7_code 2 = .ok (.invokespecial 29, 3) := by decide +kernel
theorem d23_5 : decode jdk_67_method_7_code 5 = .ok (.pop, 1) := by decide +kernel
theorem d23_6 : decode jdk_67_method_7_code 6 = .ok (.aload_n 0, 1) := by decide +kernel
theorem d23_7 : decode jdk_67_method_7_code 7 = .ok (.areturn, 1) := by decide +kernel
theorem pf23 : plainFor (⟨"java/lang/StringBuilder", "append", "(Ljava/lang/String;)Ljava/lang/StringBuilder;"⟩ : MethodName) = true := by first | exact plainFor_of_name (by first | (simp [plainName, overriddenIn]; done) | decide +kernel) | decide +kernel
theorem ef_sbApp (m : MethodId) (z0 : Addr) (z1 : Addr) : entryFrame m #[(.ref z0), (.ref z1)] 2 = mkF m 0 #[.val (.ref z0), .val (.ref z1)] [] := by first | rfl | (simp [entryFrame, mkF, argsToLocals, Value.category, *]; done) | rfl
set_option maxRecDepth 65536 in
set_option maxHeartbeats 40000000 in
theorem rm_sbApp {l : Launch} {Z : State} {a0 : Array Value} {n0 : Nat} (G : Gl Z a0 n0) {h0 : Heap} (O : Old Z n0 h0) (b : Addr) (t : Addr) (cs : List Int32) (cap : Nat) (a : Addr) (ds : List Int32) (B : Sb Z h0 b t cs cap) (S : Str Z h0 a ds) (hfit : cs.length + ds.length ≤ cap ∨ (cs.length + ds.length ≤ 2 * cap + 2 ∧ 2 * cap + 2 ≤ 70)) (hge : n0 ≤ b) (hgt : n0 ≤ t) (hsb : a ≠ b) (hst : ∀ x, Fld Z h0 a "java/lang/String" "value" "[B" (.ref x) → x ≠ b) :
    Ct [] l Z n0 (⟨"java/lang/StringBuilder", "append", "(Ljava/lang/String;)Ljava/lang/StringBuilder;"⟩ : MethodName) jdk_67_method_7_code 2 (some (.object "java/lang/StringBuilder")) ({ frames := 5, cells := 1, slots := 70, locals := 76 } : Room) #[(.ref b), (.ref a)] h0 (fun v h => Keep h0 h [b, t] ∧ v = some (.ref b) ∧ ∃ u cap', (u = t ∨ h0.size ≤ u) ∧ cap' = (if cs.length + ds.length ≤ cap then cap else 2 * cap + 2) ∧ Sb Z h b u (cs ++ ds) cap') := by
  refine Ct.intro pf23 ?_
  intro p e s m below meth c C
  refine AtW.cast ?_ (ef_sbApp m b a)
  have E := B.1
  refine w_aloadN (q := 1) C rfl rfl d23_0 rfl ?_
  refine w_aloadN (q := 2) C rfl rfl d23_1 rfl ?_
  refine w_callU (q := 5) (argsL := [(.ref a)]) (S := []) (W := 0) (cells' := 1) (slots' := 70) (a := b) C E (G.1 _ (List.mem_of_getElem? (i := 134) rfl)) (G.1 _ (List.mem_of_getElem? (i := 135) rfl)) (NI.of_sel (z := ({ cls := "java/lang/AbstractStringBuilder", name := "ensureCapacityInternal", desc := "(I)V" } : Jvm.MethodName)) (G.1 _ (List.mem_of_getElem? (i := 145) rfl))) (G.1 _ (List.mem_of_getElem? (i := 136) rfl)) (G.1 _ (List.mem_of_getElem? (i := 120) rfl)) (G.1 _ (List.mem_of_getElem? (i := 138) rfl)) (by decide) (by decide) (rm_asbApp G O b t cs cap a ds B S hfit hge hgt hsb hst) rfl (lenOf pd_21 rfl) rfl (by decide) (own_leb rfl) (by decide) rfl rfl (by decide) (by decide) d23_2 rfl ?_
  rintro _ h49 ⟨Kh49, rfl, R⟩
  show AtW p l e _ s m _ below meth c n0 _ h49 1 70 (mkF m 5 #[.val (.ref b), .val (.ref a)] [(.ref b)])
  refine w_pop (q := 6) C rfl d23_5 rfl ?_
  refine w_aloadN (q := 7) C rfl rfl d23_6 rfl ?_
  exact w_retA C rfl rfl rfl d23_7 (by decide) (by decide) ⟨Kh49, rfl, R⟩
theorem own_dec {k : Nat} (h : 1 ≤ k) : Int32.ofNat k + Int32.ofInt (-1) = Int32.ofNat (k - 1) := by
  have e : Int32.ofNat k = Int32.ofNat (k - 1) + 1 := by rw [own_one (k - 1)]; congr 1; omega
  rw [e, Int32.add_assoc, show (1 : Int32) + Int32.ofInt (-1) = 0 by decide, Int32.add_zero]
def own_mag (x : Int32) : Nat := x.toInt.natAbs
theorem own_mag_le (x : Int32) : own_mag x ≤ 2 ^ 31 := by have := rng32 x; unfold own_mag; omega
theorem own_mag_neg {x : Int32} (h : x < 0) : x = SBG.negI (own_mag x) := by
  have r := rng32 x
  have e0 : (0 : Int32).toInt = 0 := rfl
  rw [own_lt] at h
  rw [own_eq, SBG.negI_toInt (own_mag_le x)]; unfold own_mag; omega
theorem own_mag_pos {x : Int32} (h : ¬ x < 0) : -x = SBG.negI (own_mag x) := by
  have r := rng32 x
  have e0 : (0 : Int32).toInt = 0 := rfl
  rw [own_lt] at h
  rw [own_eq, SBG.negI_toInt (own_mag_le x), Int32.toInt_neg, SBG.bm (by omega) (by omega)]; unfold own_mag; omega
def own_sg (x : Int32) : Nat := if x < 0 then 1 else 0
def own_isz (x : Int32) : Nat := SBG.digits (own_mag x) + own_sg x
/-- the last k decimal digits of n, as chars -/
def own_dg : Nat → Nat → List Int32
  | 0, _ => []
  | k + 1, n => own_dg k (n / 10) ++ [Int32.ofNat (48 + n % 10)]
theorem own_dg_len : ∀ k n : Nat, (own_dg k n).length = k
  | 0, _ => rfl
  | k + 1, n => by simp [own_dg, own_dg_len k]
theorem own_d48 (d : Nat) (h : d < 10) : ¬ Int32.ofNat (48 + d) < 0 ∧ ¬ 255 < Int32.ofNat (48 + d) := by
  have t : ∀ k : Fin 10, ¬ Int32.ofNat (48 + k.val) < 0 ∧ ¬ 255 < Int32.ofNat (48 + k.val) := by decide +kernel
  exact t ⟨d, h⟩
theorem own_dg_L1 : ∀ k n : Nat, L1 (own_dg k n)
  | 0, _ => fun c hc => absurd hc List.not_mem_nil
  | k + 1, n => fun c hc => by
    rcases List.mem_append.mp hc with hc | hc
    · exact own_dg_L1 k (n / 10) c hc
    · rw [List.mem_singleton.mp hc]; exact own_d48 _ (by omega)
theorem own_dg_get : ∀ (k n i : Nat), i < k → (own_dg k n)[i]? = some (Int32.ofNat (48 + n / 10 ^ (k - 1 - i) % 10))
  | 0, _, i, h => absurd h (by omega)
  | k + 1, n, i, h => by
    unfold own_dg
    by_cases q : i < k
    · rw [List.getElem?_append_left (by rw [own_dg_len]; exact q), own_dg_get k (n / 10) i q, Nat.div_div_eq_div_mul]
      rw [show k + 1 - 1 - i = (k - 1 - i) + 1 by omega, Nat.pow_succ, Nat.mul_comm]
    · obtain rfl : i = k := by omega
      rw [List.getElem?_append_right (by rw [own_dg_len]; exact Nat.le_refl _), own_dg_len, Nat.sub_self, show i + 1 - 1 - i = 0 by omega]
      simp
def own_istr (x : Int32) : List Int32 := (if x < 0 then [(45 : Int32)] else []) ++ own_dg (SBG.digits (own_mag x)) (own_mag x)
theorem own_istr_len (x : Int32) : (own_istr x).length = own_isz x := by
  unfold own_istr own_isz own_sg; split <;> simp [own_dg_len, Nat.add_comm]
theorem own_istr_L1 (x : Int32) : L1 (own_istr x) := L1.app (by split <;> (intro c hc; simp at hc; try (subst hc; decide))) (own_dg_L1 _ _)
theorem own_isz_le (x : Int32) : own_isz x ≤ 11 := by have := (SBG.digits_pos (own_mag x)).2; unfold own_isz own_sg; split <;> omega
theorem own_istr_get {x : Int32} {j : Nat} (hj : j < own_isz x) (h : ¬ (x < 0 ∧ j = 0)) : (own_istr x)[j]? = some (Int32.ofNat (48 + own_mag x / 10 ^ (own_isz x - 1 - j) % 10)) := by
  by_cases hx : x < 0
  · have hj0 : j ≠ 0 := fun q => h ⟨hx, q⟩
    have hz : own_isz x = SBG.digits (own_mag x) + 1 := by unfold own_isz own_sg; rw [if_pos hx]
    have hi : own_istr x = [(45 : Int32)] ++ own_dg (SBG.digits (own_mag x)) (own_mag x) := by unfold own_istr; rw [if_pos hx]
    rw [hz] at hj ⊢
    rw [hi, List.getElem?_append_right (show [(45 : Int32)].length ≤ j by show 1 ≤ j; omega), show j - [(45 : Int32)].length = j - 1 from rfl, own_dg_get _ _ _ (by omega), show SBG.digits (own_mag x) - 1 - (j - 1) = SBG.digits (own_mag x) + 1 - 1 - j by omega]
  · have hz : own_isz x = SBG.digits (own_mag x) := by unfold own_isz own_sg; rw [if_neg hx]; rfl
    have hi : own_istr x = own_dg (SBG.digits (own_mag x)) (own_mag x) := by unfold own_istr; rw [if_neg hx]; rfl
    rw [hz] at hj ⊢
    rw [hi]
    exact own_dg_get _ _ _ hj
theorem own_istr_neg {x : Int32} (hx : x < 0) : (own_istr x)[0]? = some 45 := by
  unfold own_istr; rw [if_pos hx]; rfl
theorem own_dig100 {n : Nat} (h : 100 ≤ n) (hn : n ≤ 2 ^ 31) : SBG.digits n = SBG.digits (n / 100) + 2 := by
  unfold SBG.digits; (repeat' split) <;> omega
/-- what getChars makes of the bytes vs: the digits of n end before c -/
def own_pt (vs : List Value) (c n : Nat) : List Value := vs.take (c - SBG.digits n) ++ own_bs (own_dg (SBG.digits n) n) ++ vs.drop c
def own_by (d : Nat) : Value := .int (Int32.ofNat (48 + d)).toInt8.toInt32
theorem own_split2 (vs : List Value) (c : Nat) (h2 : 2 ≤ c) (hc : c ≤ vs.length) : ∃ (P : List Value) (x y : Value) (Q : List Value), vs = P ++ x :: y :: Q ∧ c = P.length + 2 :=
  ⟨vs.take (c - 2), vs[c - 2], vs[c - 2 + 1], vs.drop (c - 2 + 1 + 1), by rw [← List.drop_eq_getElem_cons, ← List.drop_eq_getElem_cons, List.take_append_drop], by rw [List.length_take]; omega⟩
theorem own_set2 (P Q : List Value) (x y a b : Value) : ((P ++ x :: y :: Q).set (P.length + 1) a).set P.length b = P ++ b :: a :: Q := by
  rw [List.set_append_right _ _ (by omega), List.set_append_right _ _ (by omega), Nat.sub_self, show P.length + 1 - P.length = 1 by omega]; rfl
theorem own_pt100 {vs : List Value} {c n : Nat} (h : 100 ≤ n) (hn : n ≤ 2 ^ 31) (h1 : SBG.digits n ≤ c) (hc : c ≤ vs.length) : own_pt ((vs.set (c - 1) (own_by (n % 100 % 10))).set (c - 1 - 1) (own_by (n % 100 / 10))) (c - 1 - 1) (n / 100) = own_pt vs c n := by
  have hd := own_dig100 h hn
  obtain ⟨P, x, y, Q, rfl, rfl⟩ := own_split2 vs c (by omega) hc
  rw [show P.length + 2 - 1 - 1 = P.length by omega, show P.length + 2 - 1 = P.length + 1 by omega, own_set2]
  unfold own_pt
  rw [hd, show P.length + 2 - (SBG.digits (n / 100) + 2) = P.length - SBG.digits (n / 100) by omega, List.take_append_of_le_length (by omega), List.take_append_of_le_length (by omega)]
  rw [show own_dg (SBG.digits (n / 100) + 2) n = own_dg (SBG.digits (n / 100)) (n / 100) ++ [Int32.ofNat (48 + n % 100 / 10), Int32.ofNat (48 + n % 100 % 10)] by
    show (own_dg (SBG.digits (n / 100)) (n / 10 / 10) ++ [Int32.ofNat (48 + n / 10 % 10)]) ++ [Int32.ofNat (48 + n % 10)] = _
    rw [List.append_assoc, Nat.div_div_eq_div_mul, show n / 10 % 10 = n % 100 / 10 by omega, show n % 10 = n % 100 % 10 by omega]; rfl]
  rw [own_bs_app]
  have e1 : (P ++ own_by (n % 100 / 10) :: own_by (n % 100 % 10) :: Q).drop P.length = own_by (n % 100 / 10) :: own_by (n % 100 % 10) :: Q := List.drop_left' rfl
  have e2 : (P ++ x :: y :: Q).drop (P.length + 2) = Q := by rw [List.drop_append, List.drop_eq_nil_of_le (by omega)]; simp
  rw [e1, e2]
  simp [own_bs, own_by]
theorem own_pt1 {vs : List Value} {c n : Nat} (h : n < 10) (h1 : 1 ≤ c) (hc : c ≤ vs.length) : vs.set (c - 1) (own_by (n % 10)) = own_pt vs c n := by
  unfold own_pt
  rw [show SBG.digits n = 1 by unfold SBG.digits; rw [if_pos h]]
  have e : own_bs (own_dg 1 n) = [own_by (n % 10)] := rfl
  rw [e, List.set_eq_take_append_cons_drop, if_pos (by omega), show c - 1 + 1 = c by omega, List.append_assoc]; rfl
theorem own_pt2 {vs : List Value} {c n : Nat} (h0 : ¬ n < 10) (h : n < 100) (h1 : 2 ≤ c) (hc : c ≤ vs.length) : (vs.set (c - 1) (own_by (n % 10))).set (c - 1 - 1) (own_by (n / 10)) = own_pt vs c n := by
  obtain ⟨P, x, y, Q, rfl, rfl⟩ := own_split2 vs c h1 hc
  rw [show P.length + 2 - 1 - 1 = P.length by omega, show P.length + 2 - 1 = P.length + 1 by omega, own_set2]
  unfold own_pt
  rw [show SBG.digits n = 2 by unfold SBG.digits; rw [if_neg h0, if_pos h], show P.length + 2 - 2 = P.length by omega, List.take_left' rfl]
  have e : own_bs (own_dg 2 n) = [own_by (n / 10), own_by (n % 10)] := by
    show [Value.int (Int32.ofNat (48 + n / 10 % 10)).toInt8.toInt32, _] = _
    rw [show n / 10 % 10 = n / 10 by omega]; rfl
  have e2 : (P ++ x :: y :: Q).drop (P.length + 2) = Q := by rw [List.drop_append, List.drop_eq_nil_of_le (by omega)]; simp
  rw [e, e2]; simp
theorem own_ptS {vs : List Value} {c : Nat} {x : Int32} (hx : x < 0) (h1 : own_isz x ≤ c) (hc : c ≤ vs.length) : (own_pt vs c (own_mag x)).set (c - SBG.digits (own_mag x) - 1) (.int (45 : Int32)) = vs.take (c - own_isz x) ++ own_bs (own_istr x) ++ vs.drop c := by
  have e : own_isz x = SBG.digits (own_mag x) + 1 := by unfold own_isz own_sg; rw [if_pos hx]
  rw [e] at h1 ⊢
  unfold own_pt own_istr
  rw [if_pos hx, own_bs_app]
  have hl : (vs.take (c - SBG.digits (own_mag x))).length = c - SBG.digits (own_mag x) := by rw [List.length_take]; omega
  rw [List.append_assoc, List.set_append_left _ _ (by omega), List.set_eq_take_append_cons_drop, if_pos (by omega), List.take_take, List.drop_eq_nil_of_le (by omega), Nat.min_eq_left (by omega)]
  have e2 : own_bs [(45 : Int32)] = [Value.int (45 : Int32)] := by decide
  rw [e2, show c - (SBG.digits (own_mag x) + 1) = c - SBG.digits (own_mag x) - 1 by omega]
  simp
theorem own_ptP {vs : List Value} {c : Nat} {x : Int32} (hx : ¬ x < 0) : own_pt vs c (own_mag x) = vs.take (c - own_isz x) ++ own_bs (own_istr x) ++ vs.drop c := by
  have e : own_isz x = SBG.digits (own_mag x) := by unfold own_isz own_sg; rw [if_neg hx]; rfl
  unfold own_pt own_istr
  rw [e, if_neg hx, List.nil_append]

theorem d37_0 : decode jdk_33_method_13_code 0 = .ok (.iconst 1, 1) := by decide +kernel
theorem d37_1 : decode jdk_33_method_13_code 1 = .ok (.istore_n 1, 1) := by decide +kernel
theorem d37_2 : decode jdk_33_method_13_code 2 = .ok (.iload_n 0, 1) := by decide +kernel
theorem d37_3 : decode jdk_33_method_13_code 3 = .ok (.ifCond .lt 8, 3) := by decide +kernel
theorem d37_6 : decode jdk_33_method_13_code 6 = .ok (.iconst 0, 1) := by decide +kernel
theorem d37_7 : decode jdk_33_method_13_code 7 = .ok (.istore_n 1, 1) := by decide +kernel
theorem d37_8 : decode jdk_33_method_13_code 8 = .ok (.iload_n 0, 1) := by decide +kernel
theorem d37_9 : decode jdk_33_method_13_code 9 = .ok (.ineg, 1) := by decide +kernel
theorem d37_10 : decode jdk_33_method_13_code 10 = .ok (.istore_n 0, 1) := by decide +kernel
theorem d37_11 : decode jdk_33_method_13_code 11 = .ok (.bipush (-10), 2) := by decide +kernel
theorem d37_13 : decode jdk_33_method_13_code 13 = .ok (.istore_n 2, 1) := by decide +kernel
theorem d37_14 : decode jdk_33_method_13_code 14 = .ok (.iconst 1, 1) := by decide +kernel
theorem d37_15 : decode jdk_33_method_13_code 15 = .ok (.istore_n 3, 1) := by decide +kernel
theorem d37_16 : decode jdk_33_method_13_code 16 = .ok (.iload_n 3, 1) := by decide +kernel
theorem d37_17 : decode jdk_33_method_13_code 17 = .ok (.bipush 10, 2) := by decide +kernel
theorem d37_19 : decode jdk_33_method_13_code 19 = .ok (.if_icmp .ge 23, 3) := by decide +kernel
theorem d37_22 : decode jdk_33_method_13_code 22 = .ok (.iload_n 0, 1) := by decide +kernel
theorem d37_23 : decode jdk_33_method_13_code 23 = .ok (.iload_n 2, 1) := by decide +kernel
theorem d37_24 : decode jdk_33_method_13_code 24 = .ok (.if_icmp .le 7, 3) := by decide +kernel
theorem d37_27 : decode jdk_33_method_13_code 27 = .ok (.iload_n 3, 1) := by decide +kernel
theorem d37_28 : decode jdk_33_method_13_code 28 = .ok (.iload_n 1, 1) := by decide +kernel
theorem d37_29 : decode jdk_33_method_13_code 29 = .ok (.iadd, 1) := by decide +kernel
theorem d37_30 : decode jdk_33_method_13_code 30 = .ok (.ireturn, 1) := by decide +kernel
theorem d37_31 : decode jdk_33_method_13_code 31 = .ok (.bipush 10, 2) := by decide +kernel
theorem d37_33 : decode jdk_33_method_13_code 33 = .ok (.iload_n 2, 1) := by decide +kernel
theorem d37_34 : decode jdk_33_method_13_code 34 = .ok (.imul, 1) := by decide +kernel
theorem d37_35 : decode jdk_33_method_13_code 35 = .ok (.istore_n 2, 1) := by decide +kernel
theorem d37_36 : decode jdk_33_method_13_code 36 = .ok (.iinc 3 1, 3) := by decide +kernel
theorem d37_39 : decode jdk_33_method_13_code 39 = .ok (.goto (-23), 3) := by decide +kernel
theorem d37_42 : decode jdk_33_method_13_code 42 = .ok (.bipush 10, 2) := by decide +kernel
theorem d37_44 : decode jdk_33_method_13_code 44 = .ok (.iload_n 1, 1) := by decide +kernel
theorem d37_45 : decode jdk_33_method_13_code 45 = .ok (.iadd, 1) := by decide +kernel
theorem d37_46 : decode jdk_33_method_13_code 46 = .ok (.ireturn, 1) := by decide +kernel
theorem pf37 : plainFor (⟨"java/lang/Integer", "stringSize", "(I)I"⟩ : MethodName) = true := by first | exact plainFor_of_name (by first | (simp [plainName, overriddenIn]; done) | decide +kernel) | decide +kernel
theorem ef_strSize (m : MethodId) (z0 : Int32) : entryFrame m #[(.int z0)] 4 = mkF m 0 #[.val (.int z0), .unset, .unset, .unset] [] := by first | rfl | (simp [entryFrame, mkF, argsToLocals, Value.category, *]; done) | rfl
set_option maxRecDepth 65536 in
set_option maxHeartbeats 40000000 in
theorem rm_strSize {l : Launch} {Z : State} {a0 : Array Value} {n0 : Nat} (G : Gl Z a0 n0) {h0 : Heap} (O : Old Z n0 h0) (x : Int32) :
    Ct [] l Z n0 (⟨"java/lang/Integer", "stringSize", "(I)I"⟩ : MethodName) jdk_33_method_13_code 4 (some .int) ({ frames := 0, cells := 0, slots := 0, locals := 0 } : Room) #[(.int x)] h0 (fun v h => h = h0 ∧ v = some (.int (Int32.ofNat (own_isz x)))) := by
  refine Ct.intro pf37 ?_
  intro p e s m below meth c C
  refine AtW.cast ?_ (ef_strSize m x)
  have hle := own_mag_le x
  have lt1 : (-10 : Int32) < SBG.negI (own_mag x) ↔ own_mag x < 10 := by rw [show (-10 : Int32) = SBG.negI 10 by decide +kernel]; exact SBG.negI_lt hle 10 (by omega)
  have lt2 : (-100 : Int32) < SBG.negI (own_mag x) ↔ own_mag x < 100 := by rw [show (-100 : Int32) = SBG.negI 100 by decide +kernel]; exact SBG.negI_lt hle 100 (by omega)
  have lt3 : (-1000 : Int32) < SBG.negI (own_mag x) ↔ own_mag x < 1000 := by rw [show (-1000 : Int32) = SBG.negI 1000 by decide +kernel]; exact SBG.negI_lt hle 1000 (by omega)
  have lt4 : (-10000 : Int32) < SBG.negI (own_mag x) ↔ own_mag x < 10000 := by rw [show (-10000 : Int32) = SBG.negI 10000 by decide +kernel]; exact SBG.negI_lt hle 10000 (by omega)
  have lt5 : (-100000 : Int32) < SBG.negI (own_mag x) ↔ own_mag x < 100000 := by rw [show (-100000 : Int32) = SBG.negI 100000 by decide +kernel]; exact SBG.negI_lt hle 100000 (by omega)
  have lt6 : (-1000000 : Int32) < SBG.negI (own_mag x) ↔ own_mag x < 1000000 := by rw [show (-1000000 : Int32) = SBG.negI 1000000 by decide +kernel]; exact SBG.negI_lt hle 1000000 (by omega)
  have lt7 : (-10000000 : Int32) < SBG.negI (own_mag x) ↔ own_mag x < 10000000 := by rw [show (-10000000 : Int32) = SBG.negI 10000000 by decide +kernel]; exact SBG.negI_lt hle 10000000 (by omega)
  have lt8 : (-100000000 : Int32) < SBG.negI (own_mag x) ↔ own_mag x < 100000000 := by rw [show (-100000000 : Int32) = SBG.negI 100000000 by decide +kernel]; exact SBG.negI_lt hle 100000000 (by omega)
  have lt9 : (-1000000000 : Int32) < SBG.negI (own_mag x) ↔ own_mag x < 1000000000 := by rw [show (-1000000000 : Int32) = SBG.negI 1000000000 by decide +kernel]; exact SBG.negI_lt hle 1000000000 (by omega)
  have LOOP : ∀ sg : Nat, own_isz x = SBG.digits (own_mag x) + sg → AtW p l e ({ frames := 0, cells := 0, slots := 0, locals := 0 } : Room) s m #[(.int x)] below meth c n0 (fun v h => h = h0 ∧ v = some (.int (Int32.ofNat (own_isz x)))) h0 0 0 (mkF m 11 #[.val (.int (SBG.negI (own_mag x))), .val (.int (Int32.ofNat sg)), .unset, .unset] []) := by
    intro sg hsg
    refine w_bipush (q := 13) (v := (-10 : Int32)) C (by rfl) d37_11 rfl ?_
    refine w_istoreN (q := 14) (L' := #[.val (.int (SBG.negI (own_mag x))), .val (.int (Int32.ofNat sg)), .val (.int (-10 : Int32)), .unset]) C rfl d37_13 rfl ?_
    refine w_iconst (q := 15) (v := (1 : Int32)) C (by rfl) d37_14 rfl ?_
    refine w_istoreN (q := 16) (L' := #[.val (.int (SBG.negI (own_mag x))), .val (.int (Int32.ofNat sg)), .val (.int (-10 : Int32)), .val (.int (1 : Int32))]) C rfl d37_15 rfl ?_
    refine w_iloadN (q := 17) C rfl d37_16 rfl ?_
    refine w_bipush (q := 19) (v := (10 : Int32)) C (by rfl) d37_17 rfl ?_
    refine w_icmp_ge_f (q := 22) C d37_19 rfl (by decide) ?_
    refine w_iloadN (q := 23) C rfl d37_22 rfl ?_
    refine w_iloadN (q := 24) C rfl d37_23 rfl ?_
    by_cases q1 : (-10 : Int32) < (SBG.negI (own_mag x))
    · refine w_icmp_le_f (q := 27) C d37_24 rfl q1 ?_
      refine w_iloadN (q := 28) C rfl d37_27 rfl ?_
      refine w_iloadN (q := 29) C rfl d37_28 rfl ?_
      refine w_iadd (q := 30) C rfl d37_29 rfl ?_
      rw [show ((1 : Int32) + (Int32.ofNat sg)) = (Int32.ofNat (1 + sg)) from own_add 1 sg]
      exact w_retI C rfl d37_30 (by decide) (by decide) ⟨rfl, by rw [hsg, show SBG.digits (own_mag x) = 1 by (try rw [lt1] at q1); unfold SBG.digits; (repeat' split) <;> omega]⟩
    · refine w_icmp_le_t (q := 31) C d37_24 (by decide) (by decide) q1 ?_
      rw [lt1] at q1
      refine w_bipush (q := 33) (v := (10 : Int32)) C (by rfl) d37_31 rfl ?_
      refine w_iloadN (q := 34) C rfl d37_33 rfl ?_
      refine w_imul (q := 35) (z := (-100 : Int32)) C (by decide) d37_34 rfl ?_
      refine w_istoreN (q := 36) (L' := #[.val (.int (SBG.negI (own_mag x))), .val (.int (Int32.ofNat sg)), .val (.int (-100 : Int32)), .val (.int (1 : Int32))]) C rfl d37_35 rfl ?_
      refine w_iinc (q := 39) (L' := #[.val (.int (SBG.negI (own_mag x))), .val (.int (Int32.ofNat sg)), .val (.int (-100 : Int32)), .val (.int (2 : Int32))]) C rfl (by decide) rfl d37_36 rfl ?_
      refine w_goto (q := 16) C d37_39 (by decide) (by decide) ?_
      refine w_iloadN (q := 17) C rfl d37_16 rfl ?_
      refine w_bipush (q := 19) (v := (10 : Int32)) C (by rfl) d37_17 rfl ?_
      refine w_icmp_ge_f (q := 22) C d37_19 rfl (by decide) ?_
      refine w_iloadN (q := 23) C rfl d37_22 rfl ?_
      refine w_iloadN (q := 24) C rfl d37_23 rfl ?_
      by_cases q2 : (-100 : Int32) < (SBG.negI (own_mag x))
      · refine w_icmp_le_f (q := 27) C d37_24 rfl q2 ?_
        refine w_iloadN (q := 28) C rfl d37_27 rfl ?_
        refine w_iloadN (q := 29) C rfl d37_28 rfl ?_
        refine w_iadd (q := 30) C rfl d37_29 rfl ?_
        rw [show ((2 : Int32) + (Int32.ofNat sg)) = (Int32.ofNat (2 + sg)) from own_add 2 sg]
        exact w_retI C rfl d37_30 (by decide) (by decide) ⟨rfl, by rw [hsg, show SBG.digits (own_mag x) = 2 by (try rw [lt2] at q2); unfold SBG.digits; (repeat' split) <;> omega]⟩
      · refine w_icmp_le_t (q := 31) C d37_24 (by decide) (by decide) q2 ?_
        rw [lt2] at q2
        refine w_bipush (q := 33) (v := (10 : Int32)) C (by rfl) d37_31 rfl ?_
        refine w_iloadN (q := 34) C rfl d37_33 rfl ?_
        refine w_imul (q := 35) (z := (-1000 : Int32)) C (by decide) d37_34 rfl ?_
        refine w_istoreN (q := 36) (L' := #[.val (.int (SBG.negI (own_mag x))), .val (.int (Int32.ofNat sg)), .val (.int (-1000 : Int32)), .val (.int (2 : Int32))]) C rfl d37_35 rfl ?_
        refine w_iinc (q := 39) (L' := #[.val (.int (SBG.negI (own_mag x))), .val (.int (Int32.ofNat sg)), .val (.int (-1000 : Int32)), .val (.int (3 : Int32))]) C rfl (by decide) rfl d37_36 rfl ?_
        refine w_goto (q := 16) C d37_39 (by decide) (by decide) ?_
        refine w_iloadN (q := 17) C rfl d37_16 rfl ?_
        refine w_bipush (q := 19) (v := (10 : Int32)) C (by rfl) d37_17 rfl ?_
        refine w_icmp_ge_f (q := 22) C d37_19 rfl (by decide) ?_
        refine w_iloadN (q := 23) C rfl d37_22 rfl ?_
        refine w_iloadN (q := 24) C rfl d37_23 rfl ?_
        by_cases q3 : (-1000 : Int32) < (SBG.negI (own_mag x))
        · refine w_icmp_le_f (q := 27) C d37_24 rfl q3 ?_
          refine w_iloadN (q := 28) C rfl d37_27 rfl ?_
          refine w_iloadN (q := 29) C rfl d37_28 rfl ?_
          refine w_iadd (q := 30) C rfl d37_29 rfl ?_
          rw [show ((3 : Int32) + (Int32.ofNat sg)) = (Int32.ofNat (3 + sg)) from own_add 3 sg]
          exact w_retI C rfl d37_30 (by decide) (by decide) ⟨rfl, by rw [hsg, show SBG.digits (own_mag x) = 3 by (try rw [lt3] at q3); unfold SBG.digits; (repeat' split) <;> omega]⟩
        · refine w_icmp_le_t (q := 31) C d37_24 (by decide) (by decide) q3 ?_
          rw [lt3] at q3
          refine w_bipush (q := 33) (v := (10 : Int32)) C (by rfl) d37_31 rfl ?_
          refine w_iloadN (q := 34) C rfl d37_33 rfl ?_
          refine w_imul (q := 35) (z := (-10000 : Int32)) C (by decide) d37_34 rfl ?_
          refine w_istoreN (q := 36) (L' := #[.val (.int (SBG.negI (own_mag x))), .val (.int (Int32.ofNat sg)), .val (.int (-10000 : Int32)), .val (.int (3 : Int32))]) C rfl d37_35 rfl ?_
          refine w_iinc (q := 39) (L' := #[.val (.int (SBG.negI (own_mag x))), .val (.int (Int32.ofNat sg)), .val (.int (-10000 : Int32)), .val (.int (4 : Int32))]) C rfl (by decide) rfl d37_36 rfl ?_
          refine w_goto (q := 16) C d37_39 (by decide) (by decide) ?_
          refine w_iloadN (q := 17) C rfl d37_16 rfl ?_
          refine w_bipush (q := 19) (v := (10 : Int32)) C (by rfl) d37_17 rfl ?_
          refine w_icmp_ge_f (q := 22) C d37_19 rfl (by decide) ?_
          refine w_iloadN (q := 23) C rfl d37_22 rfl ?_
          refine w_iloadN (q := 24) C rfl d37_23 rfl ?_
          by_cases q4 : (-10000 : Int32) < (SBG.negI (own_mag x))
          · refine w_icmp_le_f (q := 27) C d37_24 rfl q4 ?_
            refine w_iloadN (q := 28) C rfl d37_27 rfl ?_
            refine w_iloadN (q := 29) C rfl d37_28 rfl ?_
            refine w_iadd (q := 30) C rfl d37_29 rfl ?_
            rw [show ((4 : Int32) + (Int32.ofNat sg)) = (Int32.ofNat (4 + sg)) from own_add 4 sg]
            exact w_retI C rfl d37_30 (by decide) (by decide) ⟨rfl, by rw [hsg, show SBG.digits (own_mag x) = 4 by (try rw [lt4] at q4); unfold SBG.digits; (repeat' split) <;> omega]⟩
          · refine w_icmp_le_t (q := 31) C d37_24 (by decide) (by decide) q4 ?_
            rw [lt4] at q4
            refine w_bipush (q := 33) (v := (10 : Int32)) C (by rfl) d37_31 rfl ?_
            refine w_iloadN (q := 34) C rfl d37_33 rfl ?_
            refine w_imul (q := 35) (z := (-100000 : Int32)) C (by decide) d37_34 rfl ?_
            refine w_istoreN (q := 36) (L' := #[.val (.int (SBG.negI (own_mag x))), .val (.int (Int32.ofNat sg)), .val (.int (-100000 : Int32)), .val (.int (4 : Int32))]) C rfl d37_35 rfl ?_
            refine w_iinc (q := 39) (L' := #[.val (.int (SBG.negI (own_mag x))), .val (.int (Int32.ofNat sg)), .val (.int (-100000 : Int32)), .val (.int (5 : Int32))]) C rfl (by decide) rfl d37_36 rfl ?_
            refine w_goto (q := 16) C d37_39 (by decide) (by decide) ?_
            refine w_iloadN (q := 17) C rfl d37_16 rfl ?_
            refine w_bipush (q := 19) (v := (10 : Int32)) C (by rfl) d37_17 rfl ?_
            refine w_icmp_ge_f (q := 22) C d37_19 rfl (by decide) ?_
            refine w_iloadN (q := 23) C rfl d37_22 rfl ?_
            refine w_iloadN (q := 24) C rfl d37_23 rfl ?_
            by_cases q5 : (-100000 : Int32) < (SBG.negI (own_mag x))
            · refine w_icmp_le_f (q := 27) C d37_24 rfl q5 ?_
              refine w_iloadN (q := 28) C rfl d37_27 rfl ?_
              refine w_iloadN (q := 29) C rfl d37_28 rfl ?_
              refine w_iadd (q := 30) C rfl d37_29 rfl ?_
              rw [show ((5 : Int32) + (Int32.ofNat sg)) = (Int32.ofNat (5 + sg)) from own_add 5 sg]
              exact w_retI C rfl d37_30 (by decide) (by decide) ⟨rfl, by rw [hsg, show SBG.digits (own_mag x) = 5 by (try rw [lt5] at q5); unfold SBG.digits; (repeat' split) <;> omega]⟩
            · refine w_icmp_le_t (q := 31) C d37_24 (by decide) (by decide) q5 ?_
              rw [lt5] at q5
              refine w_bipush (q := 33) (v := (10 : Int32)) C (by rfl) d37_31 rfl ?_
              refine w_iloadN (q := 34) C rfl d37_33 rfl ?_
              refine w_imul (q := 35) (z := (-1000000 : Int32)) C (by decide) d37_34 rfl ?_
              refine w_istoreN (q := 36) (L' := #[.val (.int (SBG.negI (own_mag x))), .val (.int (Int32.ofNat sg)), .val (.int (-1000000 : Int32)), .val (.int (5 : Int32))]) C rfl d37_35 rfl ?_
              refine w_iinc (q := 39) (L' := #[.val (.int (SBG.negI (own_mag x))), .val (.int (Int32.ofNat sg)), .val (.int (-1000000 : Int32)), .val (.int (6 : Int32))]) C rfl (by decide) rfl d37_36 rfl ?_
              refine w_goto (q := 16) C d37_39 (by decide) (by decide) ?_
              refine w_iloadN (q := 17) C rfl d37_16 rfl ?_
              refine w_bipush (q := 19) (v := (10 : Int32)) C (by rfl) d37_17 rfl ?_
              refine w_icmp_ge_f (q := 22) C d37_19 rfl (by decide) ?_
              refine w_iloadN (q := 23) C rfl d37_22 rfl ?_
              refine w_iloadN (q := 24) C rfl d37_23 rfl ?_
              by_cases q6 : (-1000000 : Int32) < (SBG.negI (own_mag x))
              · refine w_icmp_le_f (q := 27) C d37_24 rfl q6 ?_
                refine w_iloadN (q := 28) C rfl d37_27 rfl ?_
                refine w_iloadN (q := 29) C rfl d37_28 rfl ?_
                refine w_iadd (q := 30) C rfl d37_29 rfl ?_
                rw [show ((6 : Int32) + (Int32.ofNat sg)) = (Int32.ofNat (6 + sg)) from own_add 6 sg]
                exact w_retI C rfl d37_30 (by decide) (by decide) ⟨rfl, by rw [hsg, show SBG.digits (own_mag x) = 6 by (try rw [lt6] at q6); unfold SBG.digits; (repeat' split) <;> omega]⟩
              · refine w_icmp_le_t (q := 31) C d37_24 (by decide) (by decide) q6 ?_
                rw [lt6] at q6
                refine w_bipush (q := 33) (v := (10 : Int32)) C (by rfl) d37_31 rfl ?_
                refine w_iloadN (q := 34) C rfl d37_33 rfl ?_
                refine w_imul (q := 35) (z := (-10000000 : Int32)) C (by decide) d37_34 rfl ?_
                refine w_istoreN (q := 36) (L' := #[.val (.int (SBG.negI (own_mag x))), .val (.int (Int32.ofNat sg)), .val (.int (-10000000 : Int32)), .val (.int (6 : Int32))]) C rfl d37_35 rfl ?_
                refine w_iinc (q := 39) (L' := #[.val (.int (SBG.negI (own_mag x))), .val (.int (Int32.ofNat sg)), .val (.int (-10000000 : Int32)), .val (.int (7 : Int32))]) C rfl (by decide) rfl d37_36 rfl ?_
                refine w_goto (q := 16) C d37_39 (by decide) (by decide) ?_
                refine w_iloadN (q := 17) C rfl d37_16 rfl ?_
                refine w_bipush (q := 19) (v := (10 : Int32)) C (by rfl) d37_17 rfl ?_
                refine w_icmp_ge_f (q := 22) C d37_19 rfl (by decide) ?_
                refine w_iloadN (q := 23) C rfl d37_22 rfl ?_
                refine w_iloadN (q := 24) C rfl d37_23 rfl ?_
                by_cases q7 : (-10000000 : Int32) < (SBG.negI (own_mag x))
                · refine w_icmp_le_f (q := 27) C d37_24 rfl q7 ?_
                  refine w_iloadN (q := 28) C rfl d37_27 rfl ?_
                  refine w_iloadN (q := 29) C rfl d37_28 rfl ?_
                  refine w_iadd (q := 30) C rfl d37_29 rfl ?_
                  rw [show ((7 : Int32) + (Int32.ofNat sg)) = (Int32.ofNat (7 + sg)) from own_add 7 sg]
                  exact w_retI C rfl d37_30 (by decide) (by decide) ⟨rfl, by rw [hsg, show SBG.digits (own_mag x) = 7 by (try rw [lt7] at q7); unfold SBG.digits; (repeat' split) <;> omega]⟩
                · refine w_icmp_le_t (q := 31) C d37_24 (by decide) (by decide) q7 ?_
                  rw [lt7] at q7
                  refine w_bipush (q := 33) (v := (10 : Int32)) C (by rfl) d37_31 rfl ?_
                  refine w_iloadN (q := 34) C rfl d37_33 rfl ?_
                  refine w_imul (q := 35) (z := (-100000000 : Int32)) C (by decide) d37_34 rfl ?_
                  refine w_istoreN (q := 36) (L' := #[.val (.int (SBG.negI (own_mag x))), .val (.int (Int32.ofNat sg)), .val (.int (-100000000 : Int32)), .val (.int (7 : Int32))]) C rfl d37_35 rfl ?_
                  refine w_iinc (q := 39) (L' := #[.val (.int (SBG.negI (own_mag x))), .val (.int (Int32.ofNat sg)), .val (.int (-100000000 : Int32)), .val (.int (8 : Int32))]) C rfl (by decide) rfl d37_36 rfl ?_
                  refine w_goto (q := 16) C d37_39 (by decide) (by decide) ?_
                  refine w_iloadN (q := 17) C rfl d37_16 rfl ?_
                  refine w_bipush (q := 19) (v := (10 : Int32)) C (by rfl) d37_17 rfl ?_
                  refine w_icmp_ge_f (q := 22) C d37_19 rfl (by decide) ?_
                  refine w_iloadN (q := 23) C rfl d37_22 rfl ?_
                  refine w_iloadN (q := 24) C rfl d37_23 rfl ?_
                  by_cases q8 : (-100000000 : Int32) < (SBG.negI (own_mag x))
                  · refine w_icmp_le_f (q := 27) C d37_24 rfl q8 ?_
                    refine w_iloadN (q := 28) C rfl d37_27 rfl ?_
                    refine w_iloadN (q := 29) C rfl d37_28 rfl ?_
                    refine w_iadd (q := 30) C rfl d37_29 rfl ?_
                    rw [show ((8 : Int32) + (Int32.ofNat sg)) = (Int32.ofNat (8 + sg)) from own_add 8 sg]
                    exact w_retI C rfl d37_30 (by decide) (by decide) ⟨rfl, by rw [hsg, show SBG.digits (own_mag x) = 8 by (try rw [lt8] at q8); unfold SBG.digits; (repeat' split) <;> omega]⟩
                  · refine w_icmp_le_t (q := 31) C d37_24 (by decide) (by decide) q8 ?_
                    rw [lt8] at q8
                    refine w_bipush (q := 33) (v := (10 : Int32)) C (by rfl) d37_31 rfl ?_
                    refine w_iloadN (q := 34) C rfl d37_33 rfl ?_
                    refine w_imul (q := 35) (z := (-1000000000 : Int32)) C (by decide) d37_34 rfl ?_
                    refine w_istoreN (q := 36) (L' := #[.val (.int (SBG.negI (own_mag x))), .val (.int (Int32.ofNat sg)), .val (.int (-1000000000 : Int32)), .val (.int (8 : Int32))]) C rfl d37_35 rfl ?_
                    refine w_iinc (q := 39) (L' := #[.val (.int (SBG.negI (own_mag x))), .val (.int (Int32.ofNat sg)), .val (.int (-1000000000 : Int32)), .val (.int (9 : Int32))]) C rfl (by decide) rfl d37_36 rfl ?_
                    refine w_goto (q := 16) C d37_39 (by decide) (by decide) ?_
                    refine w_iloadN (q := 17) C rfl d37_16 rfl ?_
                    refine w_bipush (q := 19) (v := (10 : Int32)) C (by rfl) d37_17 rfl ?_
                    refine w_icmp_ge_f (q := 22) C d37_19 rfl (by decide) ?_
                    refine w_iloadN (q := 23) C rfl d37_22 rfl ?_
                    refine w_iloadN (q := 24) C rfl d37_23 rfl ?_
                    by_cases q9 : (-1000000000 : Int32) < (SBG.negI (own_mag x))
                    · refine w_icmp_le_f (q := 27) C d37_24 rfl q9 ?_
                      refine w_iloadN (q := 28) C rfl d37_27 rfl ?_
                      refine w_iloadN (q := 29) C rfl d37_28 rfl ?_
                      refine w_iadd (q := 30) C rfl d37_29 rfl ?_
                      rw [show ((9 : Int32) + (Int32.ofNat sg)) = (Int32.ofNat (9 + sg)) from own_add 9 sg]
                      exact w_retI C rfl d37_30 (by decide) (by decide) ⟨rfl, by rw [hsg, show SBG.digits (own_mag x) = 9 by (try rw [lt9] at q9); unfold SBG.digits; (repeat' split) <;> omega]⟩
                    · refine w_icmp_le_t (q := 31) C d37_24 (by decide) (by decide) q9 ?_
                      rw [lt9] at q9
                      refine w_bipush (q := 33) (v := (10 : Int32)) C (by rfl) d37_31 rfl ?_
                      refine w_iloadN (q := 34) C rfl d37_33 rfl ?_
                      refine w_imul (q := 35) (z := (-1410065408 : Int32)) C (by decide) d37_34 rfl ?_
                      refine w_istoreN (q := 36) (L' := #[.val (.int (SBG.negI (own_mag x))), .val (.int (Int32.ofNat sg)), .val (.int (-1410065408 : Int32)), .val (.int (9 : Int32))]) C rfl d37_35 rfl ?_
                      refine w_iinc (q := 39) (L' := #[.val (.int (SBG.negI (own_mag x))), .val (.int (Int32.ofNat sg)), .val (.int (-1410065408 : Int32)), .val (.int (10 : Int32))]) C rfl (by decide) rfl d37_36 rfl ?_
                      refine w_goto (q := 16) C d37_39 (by decide) (by decide) ?_
                      refine w_iloadN (q := 17) C rfl d37_16 rfl ?_
                      refine w_bipush (q := 19) (v := (10 : Int32)) C (by rfl) d37_17 rfl ?_
                      refine w_icmp_ge_t (q := 42) C d37_19 (by decide) (by decide) (by decide) ?_
                      refine w_bipush (q := 44) (v := (10 : Int32)) C (by rfl) d37_42 rfl ?_
                      refine w_iloadN (q := 45) C rfl d37_44 rfl ?_
                      refine w_iadd (q := 46) C rfl d37_45 rfl ?_
                      rw [show ((10 : Int32) + (Int32.ofNat sg)) = (Int32.ofNat (10 + sg)) from own_add 10 sg]
                      exact w_retI C rfl d37_46 (by decide) (by decide) ⟨rfl, by rw [hsg, show SBG.digits (own_mag x) = 10 by unfold SBG.digits; (repeat' split) <;> omega]⟩
  refine w_iconst (q := 1) (v := (1 : Int32)) C (by rfl) d37_0 rfl ?_
  refine w_istoreN (q := 2) (L' := #[.val (.int x), .val (.int (1 : Int32)), .unset, .unset]) C rfl d37_1 rfl ?_
  refine w_iloadN (q := 3) C rfl d37_2 rfl ?_
  by_cases q : x < 0
  · refine w_if_lt_t (q := 11) C d37_3 (by decide) (by decide) q ?_
    have J := LOOP 1 (by unfold own_isz own_sg; rw [if_pos q])
    rw [← own_mag_neg q] at J
    exact J
  · refine w_if_lt_f (q := 6) C d37_3 rfl q ?_
    refine w_iconst (q := 7) (v := (0 : Int32)) C (by rfl) d37_6 rfl ?_
    refine w_istoreN (q := 8) (L' := #[.val (.int x), .val (.int (0 : Int32)), .unset, .unset]) C rfl d37_7 rfl ?_
    refine w_iloadN (q := 9) C rfl d37_8 rfl ?_
    refine w_ineg (q := 10) C rfl d37_9 rfl ?_
    rw [show (-x) = (SBG.negI (own_mag x)) from own_mag_pos q]
    refine w_istoreN (q := 11) (L' := #[.val (.int (SBG.negI (own_mag x))), .val (.int (0 : Int32)), .unset, .unset]) C rfl d37_10 rfl ?_
    exact LOOP 0 (by unfold own_isz own_sg; rw [if_neg q])
theorem d39_0 : decode jdk_33_method_12_code 0 = .ok (.iload_n 1, 1) := by decide +kernel
theorem d39_1 : decode jdk_33_method_12_code 1 = .ok (.istore 5, 2) := by decide +kernel
theorem d39_3 : decode jdk_33_method_12_code 3 = .ok (.iload_n 0, 1) := by decide +kernel
theorem d39_4 : decode jdk_33_method_12_code 4 = .ok (.ifCond .ge 7, 3) := by decide +kernel
theorem d39_7 : decode jdk_33_method_12_code 7 = .ok (.iconst 1, 1) := by decide +kernel
theorem d39_8 : decode jdk_33_method_12_code 8 = .ok (.goto 4, 3) := by decide +kernel
theorem d39_11 : decode jdk_33_method_12_code 11 = .ok (.iconst 0, 1) := by decide +kernel
theorem d39_12 : decode jdk_33_method_12_code 12 = .ok (.istore 6, 2) := by decide +kernel
theorem d39_14 : decode jdk_33_method_12_code 14 = .ok (.iload 6, 2) := by decide +kernel
theorem d39_16 : decode jdk_33_method_12_code 16 = .ok (.ifCond .ne 6, 3) := by decide +kernel
theorem d39_19 : decode jdk_33_method_12_code 19 = .ok (.iload_n 0, 1) := by decide +kernel
theorem d39_20 : decode jdk_33_method_12_code 20 = .ok (.ineg, 1) := by decide +kernel
theorem d39_21 : decode jdk_33_method_12_code 21 = .ok (.istore_n 0, 1) := by decide +kernel
theorem d39_22 : decode jdk_33_method_12_code 22 = .ok (.iload_n 0, 1) := by decide +kernel
theorem d39_23 : decode jdk_33_method_12_code 23 = .ok (.bipush (-100), 2) := by decide +kernel
theorem d39_25 : decode jdk_33_method_12_code 25 = .ok (.if_icmp .gt 47, 3) := by decide +kernel
theorem d39_28 : decode jdk_33_method_12_code 28 = .ok (.iload_n 0, 1) := by decide +kernel
theorem d39_29 : decode jdk_33_method_12_code 29 = .ok (.bipush 100, 2) := by decide +kernel
theorem d39_31 : decode jdk_33_method_12_code 31 = .ok (.idiv, 1) := by decide +kernel
theorem d39_32 : decode jdk_33_method_12_code 32 = .ok (.istore_n 3, 1) := by decide +kernel
theorem d39_33 : decode jdk_33_method_12_code 33 = .ok (.iload_n 3, 1) := by decide +kernel
theorem d39_34 : decode jdk_33_method_12_code 34 = .ok (.bipush 100, 2) := by decide +kernel
theorem d39_36 : decode jdk_33_method_12_code 36 = .ok (.imul, 1) := by decide +kernel
theorem d39_37 : decode jdk_33_method_12_code 37 = .ok (.iload_n 0, 1) := by decide +kernel
theorem d39_38 : decode jdk_33_method_12_code 38 = .ok (.isub, 1) := by decide +kernel
theorem d39_39 : decode jdk_33_method_12_code 39 = .ok (.istore 4, 2) := by decide +kernel
theorem d39_41 : decode jdk_33_method_12_code 41 = .ok (.iload_n 3, 1) := by decide +kernel
theorem d39_42 : decode jdk_33_method_12_code 42 = .ok (.istore_n 0, 1) := by decide +kernel
theorem d39_43 : decode jdk_33_method_12_code 43 = .ok (.aload_n 2, 1) := by decide +kernel
theorem d39_44 : decode jdk_33_method_12_code 44 = .ok (.iinc 5 (-1), 3) := by decide +kernel
theorem d39_47 : decode jdk_33_method_12_code 47 = .ok (.iload 5, 2) := by decide +kernel
theorem d39_49 : decode jdk_33_method_12_code 49 = .ok (.getstatic 83, 3) := by decide +kernel
theorem d39_52 : decode jdk_33_method_12_code 52 = .ok (.iload 4, 2) := by decide +kernel
theorem d39_54 : decode jdk_33_method_12_code 54 = .ok (.baload, 1) := by decide +kernel
theorem d39_55 : decode jdk_33_method_12_code 55 = .ok (.bastore, 1) := by decide +kernel
theorem d39_56 : decode jdk_33_method_12_code 56 = .ok (.aload_n 2, 1) := by decide +kernel
theorem d39_57 : decode jdk_33_method_12_code 57 = .ok (.iinc 5 (-1), 3) := by decide +kernel
theorem d39_60 : decode jdk_33_method_12_code 60 = .ok (.iload 5, 2) := by decide +kernel
theorem d39_62 : decode jdk_33_method_12_code 62 = .ok (.getstatic 87, 3) := by decide +kernel
theorem d39_65 : decode jdk_33_method_12_code 65 = .ok (.iload 4, 2) := by decide +kernel
theorem d39_67 : decode jdk_33_method_12_code 67 = .ok (.baload, 1) := by decide +kernel
theorem d39_68 : decode jdk_33_method_12_code 68 = .ok (.bastore, 1) := by decide +kernel
theorem d39_69 : decode jdk_33_method_12_code 69 = .ok (.goto (-47), 3) := by decide +kernel
theorem d39_72 : decode jdk_33_method_12_code 72 = .ok (.aload_n 2, 1) := by decide +kernel
theorem d39_73 : decode jdk_33_method_12_code 73 = .ok (.iinc 5 (-1), 3) := by decide +kernel
theorem d39_76 : decode jdk_33_method_12_code 76 = .ok (.iload 5, 2) := by decide +kernel
theorem d39_78 : decode jdk_33_method_12_code 78 = .ok (.getstatic 83, 3) := by decide +kernel
theorem d39_81 : decode jdk_33_method_12_code 81 = .ok (.iload_n 0, 1) := by decide +kernel
theorem d39_82 : decode jdk_33_method_12_code 82 = .ok (.ineg, 1) := by decide +kernel
theorem d39_83 : decode jdk_33_method_12_code 83 = .ok (.baload, 1) := by decide +kernel
theorem d39_84 : decode jdk_33_method_12_code 84 = .ok (.bastore, 1) := by decide +kernel
theorem d39_85 : decode jdk_33_method_12_code 85 = .ok (.iload_n 0, 1) := by decide +kernel
theorem d39_86 : decode jdk_33_method_12_code 86 = .ok (.bipush (-9), 2) := by decide +kernel
theorem d39_88 : decode jdk_33_method_12_code 88 = .ok (.if_icmp .ge 16, 3) := by decide +kernel
theorem d39_91 : decode jdk_33_method_12_code 91 = .ok (.aload_n 2, 1) := by decide +kernel
theorem d39_92 : decode jdk_33_method_12_code 92 = .ok (.iinc 5 (-1), 3) := by decide +kernel
theorem d39_95 : decode jdk_33_method_12_code 95 = .ok (.iload 5, 2) := by decide +kernel
theorem d39_97 : decode jdk_33_method_12_code 97 = .ok (.getstatic 87, 3) := by decide +kernel
theorem d39_100 : decode jdk_33_method_12_code 100 = .ok (.iload_n 0, 1) := by decide +kernel
theorem d39_101 : decode jdk_33_method_12_code 101 = .ok (.ineg, 1) := by decide +kernel
theorem d39_102 : decode jdk_33_method_12_code 102 = .ok (.baload, 1) := by decide +kernel
theorem d39_103 : decode jdk_33_method_12_code 103 = .ok (.bastore, 1) := by decide +kernel
theorem d39_104 : decode jdk_33_method_12_code 104 = .ok (.iload 6, 2) := by decide +kernel
theorem d39_106 : decode jdk_33_method_12_code 106 = .ok (.ifCond .eq 12, 3) := by decide +kernel
theorem d39_109 : decode jdk_33_method_12_code 109 = .ok (.aload_n 2, 1) := by decide +kernel
theorem d39_110 : decode jdk_33_method_12_code 110 = .ok (.iinc 5 (-1), 3) := by decide +kernel
theorem d39_113 : decode jdk_33_method_12_code 113 = .ok (.iload 5, 2) := by decide +kernel
theorem d39_115 : decode jdk_33_method_12_code 115 = .ok (.bipush 45, 2) := by decide +kernel
theorem d39_117 : decode jdk_33_method_12_code 117 = .ok (.bastore, 1) := by decide +kernel
theorem d39_118 : decode jdk_33_method_12_code 118 = .ok (.iload 5, 2) := by decide +kernel
theorem d39_120 : decode jdk_33_method_12_code 120 = .ok (.ireturn, 1) := by decide +kernel
theorem pf39 : plainFor (⟨"java/lang/Integer", "getChars", "(II[B)I"⟩ : MethodName) = true := by first | exact plainFor_of_name (by first | (simp [plainName, overriddenIn]; done) | decide +kernel) | decide +kernel
theorem ef_getChars (m : MethodId) (z0 : Int32) (z1 : Int32) (z2 : Addr) : entryFrame m #[(.int z0), (.int z1), (.ref z2)] 7 = mkF m 0 #[.val (.int z0), .val (.int z1), .val (.ref z2), .unset, .unset, .unset, .unset] [] := by first | rfl | (simp [entryFrame, mkF, argsToLocals, Value.category, *]; done) | rfl
set_option maxRecDepth 65536 in
set_option maxHeartbeats 40000000 in
theorem rm_getChars {l : Launch} {Z : State} {a0 : Array Value} {n0 : Nat} (G : Gl Z a0 n0) {h0 : Heap} (O : Old Z n0 h0) (x : Int32) (idx : Nat) (t : Addr) (vs : List Value) (V : Ar Z h0 t .byte vs) (hfit : own_isz x ≤ idx) (hidx : idx ≤ vs.length) (hge : n0 ≤ t) :
    Ct [] l Z n0 (⟨"java/lang/Integer", "getChars", "(II[B)I"⟩ : MethodName) jdk_33_method_12_code 7 (some .int) ({ frames := 0, cells := 0, slots := 0, locals := 0 } : Room) #[(.int x), (.int (Int32.ofNat idx)), (.ref t)] h0 (fun v h => Keep h0 h [t] ∧ ∃ z : Int32, v = some (.int z) ∧ Ar Z h t .byte (vs.take (idx - own_isz x) ++ own_bs (own_istr x) ++ vs.drop idx)) := by
  refine Ct.intro pf39 ?_
  intro p e s m below meth c C
  refine AtW.cast ?_ (ef_getChars m x (Int32.ofNat idx) t)
  have hle := own_mag_le x
  have hvl := V.1
  obtain ⟨x1, S1, l1, A1⟩ := G.d1
  obtain ⟨x2, S2, l2, A2⟩ := G.d2
  have n1 : x1 ≠ t := Nat.ne_of_lt (Nat.lt_of_lt_of_le (by rw [← O.1]; exact l1) hge)
  have n2 : x2 ≠ t := Nat.ne_of_lt (Nat.lt_of_lt_of_le (by rw [← O.1]; exact l2) hge)
  have LOOP : ∀ (sg : Int32) (F : List Value) (ee : Nat), (∀ (h1 : Heap) (z0 : Int32) (s3 s4 : Slot), Keep h0 h1 [t] → Ar Z h1 t .byte F → One s3 → One s4 → AtW p l e ({ frames := 0, cells := 0, slots := 0, locals := 0 } : Room) s m #[(.int x), (.int (Int32.ofNat idx)), (.ref t)] below meth c n0 (fun v h => Keep h0 h [t] ∧ ∃ z : Int32, v = some (.int z) ∧ Ar Z h t .byte (vs.take (idx - own_isz x) ++ own_bs (own_istr x) ++ vs.drop idx)) h1 0 0 (mkF m 104 #[.val (.int z0), .val (.int (Int32.ofNat idx)), .val (.ref t), s3, s4, .val (.int (Int32.ofNat ee)), .val (.int sg)] [])) → ∀ (k N : Nat), N < k → N ≤ 2 ^ 31 → ∀ (cp : Nat) (h1 : Heap) (us : List Value) (s3 s4 : Slot), SBG.digits N ≤ cp → cp ≤ us.length → us.length < 2 ^ 31 → Keep h0 h1 [t] → Ar Z h1 t .byte us → One s3 → One s4 → own_pt us cp N = F → cp - SBG.digits N = ee → AtW p l e ({ frames := 0, cells := 0, slots := 0, locals := 0 } : Room) s m #[(.int x), (.int (Int32.ofNat idx)), (.ref t)] below meth c n0 (fun v h => Keep h0 h [t] ∧ ∃ z : Int32, v = some (.int z) ∧ Ar Z h t .byte (vs.take (idx - own_isz x) ++ own_bs (own_istr x) ++ vs.drop idx)) h1 0 0 (mkF m 22 #[.val (.int (SBG.negI N)), .val (.int (Int32.ofNat idx)), .val (.ref t), s3, s4, .val (.int (Int32.ofNat cp)), .val (.int sg)] []) := by
    intro sg F ee FIN
    intro k
    induction k with
    | zero =>
      intro N hN
      exact absurd hN (by omega)
    | succ k ih =>
      intro N hN hle cp h1 us s3 s4 hd hc hl K U o3 o4 hF he
      have hcl : cp < 2 ^ 31 := by omega
      have hc1 : 1 ≤ cp := Nat.le_trans (SBG.digits_pos N).1 hd
      have hm : (-100 : Int32) < SBG.negI N ↔ N < 100 := by rw [show (-100 : Int32) = SBG.negI 100 by decide +kernel]; exact SBG.negI_lt hle 100 (by omega)
      have hm9 : SBG.negI N < (-9 : Int32) ↔ 9 < N := by rw [show (-9 : Int32) = SBG.negI 9 by decide +kernel]; exact SBG.negI_lt (by omega) N hle
      refine w_iloadN (q := 23) C rfl d39_22 rfl ?_
      refine w_bipush (q := 25) (v := (-100 : Int32)) C (by rfl) d39_23 rfl ?_
      by_cases q1 : (-100 : Int32) < (SBG.negI N)
      · refine w_icmp_gt_t (q := 72) C d39_25 (by decide) (by decide) q1 ?_
        rw [hm] at q1
        refine w_aloadN (q := 73) C rfl rfl d39_72 rfl ?_
        refine w_iinc (q := 76) (L' := #[.val (.int (SBG.negI N)), .val (.int (Int32.ofNat idx)), .val (.ref t), s3, s4, .val (.int (Int32.ofNat (cp - 1))), .val (.int sg)]) C rfl (own_dec hc1) rfl d39_73 rfl ?_
        refine w_iload (q := 78) C rfl d39_76 rfl ?_
        have Oh1 : Old Z n0 h1 := O.keep K (allS hge all0)
        refine w_getS (q := 81) (host := "") C (Or.inl (G.1 _ (List.mem_of_getElem? (i := 217) rfl))) Via.refl (S1.ext Oh1.2) d39_78 rfl ?_
        refine w_iloadN (q := 82) C rfl d39_81 rfl ?_
        refine w_ineg (q := 83) C rfl d39_82 rfl ?_
        rw [show (-(SBG.negI N)) = (Int32.ofNat N) from SBG.neg_negI (by omega)]
        refine w_baload (q := 84) (i := N) (v := (.int (Int32.ofNat (48 + N % 10)))) C ((A1.ext Oh1.2)) rfl (own_ones_get (by omega)) d39_83 rfl ?_
        refine w_bastore (q := 85) (z := (Int32.ofNat (48 + N % 10)).toInt8.toInt32) (i := (cp - 1)) C rfl U rfl (by omega) hge d39_84 rfl ?_
        intro h50 Wh50 Vh50
        have K2 := K.wr Wh50 (Or.inl (List.mem_cons_self ..))
        refine w_iloadN (q := 86) C rfl d39_85 rfl ?_
        refine w_bipush (q := 88) (v := (-9 : Int32)) C (by rfl) d39_86 rfl ?_
        by_cases q2 : (SBG.negI N) < (-9 : Int32)
        · refine w_icmp_ge_f (q := 91) C d39_88 rfl q2 ?_
          rw [hm9] at q2
          have hdg2 : SBG.digits N = 2 := by unfold SBG.digits; rw [if_neg (by omega), if_pos q1]
          refine w_aloadN (q := 92) C rfl rfl d39_91 rfl ?_
          refine w_iinc (q := 95) (L' := #[.val (.int (SBG.negI N)), .val (.int (Int32.ofNat idx)), .val (.ref t), s3, s4, .val (.int (Int32.ofNat (cp - 1 - 1))), .val (.int sg)]) C rfl (own_dec (by omega)) rfl d39_92 rfl ?_
          refine w_iload (q := 97) C rfl d39_95 rfl ?_
          have Oh50 : Old Z n0 h50 := O.keep K2 (allS hge all0)
          refine w_getS (q := 100) (host := "") C (Or.inl (G.1 _ (List.mem_of_getElem? (i := 284) rfl))) Via.refl (S2.ext Oh50.2) d39_97 rfl ?_
          refine w_iloadN (q := 101) C rfl d39_100 rfl ?_
          refine w_ineg (q := 102) C rfl d39_101 rfl ?_
          rw [show (-(SBG.negI N)) = (Int32.ofNat N) from SBG.neg_negI (by omega)]
          refine w_baload (q := 103) (i := N) (v := (.int (Int32.ofNat (48 + N / 10)))) C ((A2.ext Oh50.2)) rfl (own_tens_get (by omega)) d39_102 rfl ?_
          refine w_bastore (q := 104) (z := (Int32.ofNat (48 + N / 10)).toInt8.toInt32) (i := (cp - 1 - 1)) C rfl Vh50 rfl (by rw [List.length_set]; omega) hge d39_103 rfl ?_
          intro h51 Wh51 Vh51
          have e9 : cp - 1 - 1 = ee := by omega
          have q := own_pt2 (vs := us) (c := cp) (n := N) (by omega) q1 (by omega) hc
          rw [hF] at q
          rw [e9]
          exact FIN h51 _ _ _ (K2.wr Wh51 (Or.inl (List.mem_cons_self ..))) (by rw [← q]; exact Vh51) o3 o4
        · refine w_icmp_ge_t (q := 104) C d39_88 (by decide) (by decide) q2 ?_
          rw [hm9] at q2
          have e9 : cp - 1 = ee := by rw [← he, show SBG.digits N = 1 by unfold SBG.digits; rw [if_pos (by omega)]]
          have q := own_pt1 (vs := us) (c := cp) (n := N) (by omega) hc1 hc
          rw [hF] at q
          rw [e9]
          exact FIN h50 _ _ _ K2 (by rw [← q]; exact Vh50) o3 o4
      · refine w_icmp_gt_f (q := 28) C d39_25 rfl q1 ?_
        rw [hm, Nat.not_lt] at q1
        have hd2 := own_dig100 q1 hle
        refine w_iloadN (q := 29) C rfl d39_28 rfl ?_
        refine w_bipush (q := 31) (v := (100 : Int32)) C (by rfl) d39_29 rfl ?_
        refine w_idiv (q := 32) C (by decide) rfl d39_31 rfl ?_
        rw [show ((SBG.negI N) / (100 : Int32)) = (SBG.negI (N / 100)) from SBG.negI_div100 hle]
        refine w_istoreN (q := 33) (L' := #[.val (.int (SBG.negI N)), .val (.int (Int32.ofNat idx)), .val (.ref t), .val (.int (SBG.negI (N / 100))), s4, .val (.int (Int32.ofNat cp)), .val (.int sg)]) C (Jvm.Free.XS.store1 (o := s3) rfl o3 rfl) d39_32 rfl ?_
        refine w_iloadN (q := 34) C rfl d39_33 rfl ?_
        refine w_bipush (q := 36) (v := (100 : Int32)) C (by rfl) d39_34 rfl ?_
        refine w_imul (q := 37) C rfl d39_36 rfl ?_
        refine w_iloadN (q := 38) C rfl d39_37 rfl ?_
        refine w_isub (q := 39) C rfl d39_38 rfl ?_
        rw [show (((SBG.negI (N / 100)) * (100 : Int32)) - (SBG.negI N)) = (Int32.ofNat (N % 100)) from SBG.negI_rem hle]
        refine w_istore (q := 41) (L' := #[.val (.int (SBG.negI N)), .val (.int (Int32.ofNat idx)), .val (.ref t), .val (.int (SBG.negI (N / 100))), .val (.int (Int32.ofNat (N % 100))), .val (.int (Int32.ofNat cp)), .val (.int sg)]) C (Jvm.Free.XS.store1 (o := s4) rfl o4 rfl) d39_39 rfl ?_
        refine w_iloadN (q := 42) C rfl d39_41 rfl ?_
        refine w_istoreN (q := 43) (L' := #[.val (.int (SBG.negI (N / 100))), .val (.int (Int32.ofNat idx)), .val (.ref t), .val (.int (SBG.negI (N / 100))), .val (.int (Int32.ofNat (N % 100))), .val (.int (Int32.ofNat cp)), .val (.int sg)]) C rfl d39_42 rfl ?_
        refine w_aloadN (q := 44) C rfl rfl d39_43 rfl ?_
        refine w_iinc (q := 47) (L' := #[.val (.int (SBG.negI (N / 100))), .val (.int (Int32.ofNat idx)), .val (.ref t), .val (.int (SBG.negI (N / 100))), .val (.int (Int32.ofNat (N % 100))), .val (.int (Int32.ofNat (cp - 1))), .val (.int sg)]) C rfl (own_dec hc1) rfl d39_44 rfl ?_
        refine w_iload (q := 49) C rfl d39_47 rfl ?_
        have Oh1 : Old Z n0 h1 := O.keep K (allS hge all0)
        refine w_getS (q := 52) (host := "") C (Or.inl (G.1 _ (List.mem_of_getElem? (i := 217) rfl))) Via.refl (S1.ext Oh1.2) d39_49 rfl ?_
        refine w_iload (q := 54) C rfl d39_52 rfl ?_
        refine w_baload (q := 55) (i := (N % 100)) (v := (.int (Int32.ofNat (48 + N % 100 % 10)))) C ((A1.ext Oh1.2)) rfl (own_ones_get (by omega)) d39_54 rfl ?_
        refine w_bastore (q := 56) (z := (Int32.ofNat (48 + N % 100 % 10)).toInt8.toInt32) (i := (cp - 1)) C rfl U rfl (by omega) hge d39_55 rfl ?_
        intro h52 Wh52 Vh52
        have K2 := K.wr Wh52 (Or.inl (List.mem_cons_self ..))
        refine w_aloadN (q := 57) C rfl rfl d39_56 rfl ?_
        refine w_iinc (q := 60) (L' := #[.val (.int (SBG.negI (N / 100))), .val (.int (Int32.ofNat idx)), .val (.ref t), .val (.int (SBG.negI (N / 100))), .val (.int (Int32.ofNat (N % 100))), .val (.int (Int32.ofNat (cp - 1 - 1))), .val (.int sg)]) C rfl (own_dec (by omega)) rfl d39_57 rfl ?_
        refine w_iload (q := 62) C rfl d39_60 rfl ?_
        have Oh52 : Old Z n0 h52 := O.keep K2 (allS hge all0)
        refine w_getS (q := 65) (host := "") C (Or.inl (G.1 _ (List.mem_of_getElem? (i := 284) rfl))) Via.refl (S2.ext Oh52.2) d39_62 rfl ?_
        refine w_iload (q := 67) C rfl d39_65 rfl ?_
        refine w_baload (q := 68) (i := (N % 100)) (v := (.int (Int32.ofNat (48 + N % 100 / 10)))) C ((A2.ext Oh52.2)) rfl (own_tens_get (by omega)) d39_67 rfl ?_
        refine w_bastore (q := 69) (z := (Int32.ofNat (48 + N % 100 / 10)).toInt8.toInt32) (i := (cp - 1 - 1)) C rfl Vh52 rfl (by rw [List.length_set]; omega) hge d39_68 rfl ?_
        intro h53 Wh53 Vh53
        refine w_goto (q := 22) C d39_69 (by decide) (by decide) ?_
        exact ih (N / 100) (by omega) (by omega) (cp - 1 - 1) h53 _ _ _ (by omega) (by rw [List.length_set, List.length_set]; omega) (by rw [List.length_set, List.length_set]; exact hl) (K2.wr Wh53 (Or.inl (List.mem_cons_self ..))) Vh53 (One.val rfl) (One.val rfl) (Eq.trans (own_pt100 q1 hle hd hc) hF) (by omega)
  refine w_iloadN (q := 1) C rfl d39_0 rfl ?_
  refine w_istore (q := 3) (L' := #[.val (.int x), .val (.int (Int32.ofNat idx)), .val (.ref t), .unset, .unset, .val (.int (Int32.ofNat idx)), .unset]) C rfl d39_1 rfl ?_
  refine w_iloadN (q := 4) C rfl d39_3 rfl ?_
  by_cases q : x < 0
  · refine w_if_ge_f (q := 7) C d39_4 rfl q ?_
    refine w_iconst (q := 8) (v := (1 : Int32)) C (by rfl) d39_7 rfl ?_
    refine w_goto (q := 12) C d39_8 (by decide) (by decide) ?_
    refine w_istore (q := 14) (L' := #[.val (.int x), .val (.int (Int32.ofNat idx)), .val (.ref t), .unset, .unset, .val (.int (Int32.ofNat idx)), .val (.int (1 : Int32))]) C rfl d39_12 rfl ?_
    refine w_iload (q := 16) C rfl d39_14 rfl ?_
    refine w_if_ne_t (q := 22) C d39_16 (by decide) (by decide) (by decide) ?_
    have hz : own_isz x = SBG.digits (own_mag x) + 1 := by unfold own_isz own_sg; rw [if_pos q]
    have FINX : ∀ (h1 : Heap) (z0 : Int32) (s3 s4 : Slot), Keep h0 h1 [t] → Ar Z h1 t .byte (own_pt vs idx (own_mag x)) → One s3 → One s4 → AtW p l e ({ frames := 0, cells := 0, slots := 0, locals := 0 } : Room) s m #[(.int x), (.int (Int32.ofNat idx)), (.ref t)] below meth c n0 (fun v h => Keep h0 h [t] ∧ ∃ z : Int32, v = some (.int z) ∧ Ar Z h t .byte (vs.take (idx - own_isz x) ++ own_bs (own_istr x) ++ vs.drop idx)) h1 0 0 (mkF m 104 #[.val (.int z0), .val (.int (Int32.ofNat idx)), .val (.ref t), s3, s4, .val (.int (Int32.ofNat (idx - SBG.digits (own_mag x)))), .val (.int (1 : Int32))] []) := by
      intro h1 z0 s3 s4 K U o3 o4
      show AtW p l e _ s m _ below meth c n0 _ h1 0 0 (mkF m 104 #[.val (.int z0), .val (.int (Int32.ofNat idx)), .val (.ref t), s3, s4, .val (.int (Int32.ofNat (idx - SBG.digits (own_mag x)))), .val (.int (1 : Int32))] [])
      refine w_iload (q := 106) C rfl d39_104 rfl ?_
      refine w_if_eq_f (q := 109) C d39_106 rfl (by decide) ?_
      refine w_aloadN (q := 110) C rfl rfl d39_109 rfl ?_
      refine w_iinc (q := 113) (L' := #[.val (.int z0), .val (.int (Int32.ofNat idx)), .val (.ref t), s3, s4, .val (.int (Int32.ofNat (idx - SBG.digits (own_mag x) - 1))), .val (.int (1 : Int32))]) C rfl (own_dec (by omega)) rfl d39_110 rfl ?_
      refine w_iload (q := 115) C rfl d39_113 rfl ?_
      refine w_bipush (q := 117) (v := (45 : Int32)) C (by rfl) d39_115 rfl ?_
      refine w_bastore (q := 118) (z := (45 : Int32)) (i := (idx - SBG.digits (own_mag x) - 1)) C rfl U rfl (by unfold own_pt; simp only [List.length_append, List.length_take, List.length_drop, own_bs_len, own_dg_len]; omega) hge d39_117 rfl ?_
      intro h54 Wh54 Vh54
      refine w_iload (q := 120) C rfl d39_118 rfl ?_
      exact w_retI C rfl d39_120 (by decide) (by decide) ⟨K.wr Wh54 (Or.inl (List.mem_cons_self ..)), _, rfl, by rw [← own_ptS q hfit hidx]; exact Vh54⟩
    have J := LOOP 1 (own_pt vs idx (own_mag x)) (idx - SBG.digits (own_mag x)) FINX (own_mag x + 1) (own_mag x) (by omega) hle idx h0 vs .unset .unset (by omega) hidx hvl (Keep.refl _ _) V One.u One.u rfl rfl
    rw [← own_mag_neg q] at J
    exact J
  · refine w_if_ge_t (q := 11) C d39_4 (by decide) (by decide) q ?_
    refine w_iconst (q := 12) (v := (0 : Int32)) C (by rfl) d39_11 rfl ?_
    refine w_istore (q := 14) (L' := #[.val (.int x), .val (.int (Int32.ofNat idx)), .val (.ref t), .unset, .unset, .val (.int (Int32.ofNat idx)), .val (.int (0 : Int32))]) C rfl d39_12 rfl ?_
    refine w_iload (q := 16) C rfl d39_14 rfl ?_
    refine w_if_ne_f (q := 19) C d39_16 rfl (by decide) ?_
    refine w_iloadN (q := 20) C rfl d39_19 rfl ?_
    refine w_ineg (q := 21) C rfl d39_20 rfl ?_
    rw [show (-x) = (SBG.negI (own_mag x)) from own_mag_pos q]
    refine w_istoreN (q := 22) (L' := #[.val (.int (SBG.negI (own_mag x))), .val (.int (Int32.ofNat idx)), .val (.ref t), .unset, .unset, .val (.int (Int32.ofNat idx)), .val (.int (0 : Int32))]) C rfl d39_21 rfl ?_
    have hz : own_isz x = SBG.digits (own_mag x) := by unfold own_isz own_sg; rw [if_neg q]; rfl
    refine LOOP 0 (own_pt vs idx (own_mag x)) (idx - SBG.digits (own_mag x)) ?_ (own_mag x + 1) (own_mag x) (by omega) hle idx h0 vs _ _ (by omega) hidx hvl (Keep.refl _ _) V One.u One.u rfl rfl
    intro h1 z0 s3 s4 K U o3 o4
    show AtW p l e _ s m _ below meth c n0 _ h1 0 0 (mkF m 104 #[.val (.int z0), .val (.int (Int32.ofNat idx)), .val (.ref t), s3, s4, .val (.int (Int32.ofNat (idx - SBG.digits (own_mag x)))), .val (.int (0 : Int32))] [])
    refine w_iload (q := 106) C rfl d39_104 rfl ?_
    refine w_if_eq_t (q := 118) C d39_106 (by decide) (by decide) (by decide) ?_
    refine w_iload (q := 120) C rfl d39_118 rfl ?_
    exact w_retI C rfl d39_120 (by decide) (by decide) ⟨K, _, rfl, by rw [← own_ptP q]; exact U⟩
theorem d38_0 : decode jdk_68_method_68_code 0 = .ok (.getstatic 18, 3) := by decide +kernel
theorem d38_3 : decode jdk_68_method_68_code 3 = .ok (.ifCond .eq 14, 3) := by decide +kernel
theorem d38_6 : decode jdk_68_method_68_code 6 = .ok (.aload_n 0, 1) := by decide +kernel
theorem d38_7 : decode jdk_68_method_68_code 7 = .ok (.getfield 22, 3) := by decide +kernel
theorem d38_10 : decode jdk_68_method_68_code 10 = .ok (.ifCond .ne 7, 3) := by decide +kernel
theorem d38_13 : decode jdk_68_method_68_code 13 = .ok (.iconst 1, 1) := by decide +kernel
theorem d38_14 : decode jdk_68_method_68_code 14 = .ok (.goto 4, 3) := by decide +kernel
theorem d38_17 : decode jdk_68_method_68_code 17 = .ok (.iconst 0, 1) := by decide +kernel
theorem d38_18 : decode jdk_68_method_68_code 18 = .ok (.ireturn, 1) := by decide +kernel
theorem pf38 : plainFor (⟨"java/lang/AbstractStringBuilder", "isLatin1", "()Z"⟩ : MethodName) = true := by first | exact plainFor_of_name (by first | (simp [plainName, overriddenIn]; done) | decide +kernel) | decide +kernel
theorem ef_asbLatin1 (m : MethodId) (z0 : Addr) : entryFrame m #[(.ref z0)] 1 = mkF m 0 #[.val (.ref z0)] [] := by first | rfl | (simp [entryFrame, mkF, argsToLocals, Value.category, *]; done) | rfl
set_option maxRecDepth 65536 in
set_option maxHeartbeats 40000000 in
theorem rm_asbLatin1 {l : Launch} {Z : State} {a0 : Array Value} {n0 : Nat} (G : Gl Z a0 n0) {h0 : Heap} (O : Old Z n0 h0) (b : Addr) (t : Addr) (cs : List Int32) (cap : Nat) (B : Sb Z h0 b t cs cap) :
    Ct [] l Z n0 (⟨"java/lang/AbstractStringBuilder", "isLatin1", "()Z"⟩ : MethodName) jdk_68_method_68_code 1 (some .boolean) ({ frames := 0, cells := 0, slots := 0, locals := 0 } : Room) #[(.ref b)] h0 (fun v h => h = h0 ∧ v = some (.int 1)) := by
  refine Ct.intro pf38 ?_
  intro p e s m below meth c C
  refine AtW.cast ?_ (ef_asbLatin1 m b)
  obtain ⟨E, hr, hlc, FC, FN, FV, E2, A⟩ := id B
  obtain ⟨zc, SC, hzc⟩ := G.cs
  refine w_getS (q := 3) (host := "") C (Or.inl (G.1 _ (List.mem_of_getElem? (i := 123) rfl))) Via.refl (SC.ext O.2) d38_0 rfl ?_
  refine w_if_eq_f (q := 6) C d38_3 rfl hzc ?_
  refine w_aloadN (q := 7) C rfl rfl d38_6 rfl ?_
  refine w_getF (q := 10) (host := "") C (Or.inl (G.1 _ (List.mem_of_getElem? (i := 126) rfl))) Via.refl FC d38_7 rfl ?_
  refine w_if_ne_f (q := 13) C d38_10 rfl (by decide) ?_
  refine w_iconst (q := 14) (v := (1 : Int32)) C (by rfl) d38_13 rfl ?_
  refine w_goto (q := 18) C d38_14 (by decide) (by decide) ?_
  exact w_retZ (z := (1 : Int32)) C (t := .boolean) rfl (by simp) (by decide) d38_18 (by decide) (by decide) ⟨rfl, rfl⟩
theorem d36_0 : decode jdk_68_method_32_code 0 = .ok (.aload_n 0, 1) := by decide +kernel
theorem d36_1 : decode jdk_68_method_32_code 1 = .ok (.getfield 79, 3) := by decide +kernel
theorem d36_4 : decode jdk_68_method_32_code 4 = .ok (.istore_n 2, 1) := by decide +kernel
theorem d36_5 : decode jdk_68_method_32_code 5 = .ok (.iload_n 2, 1) := by decide +kernel
theorem d36_6 : decode jdk_68_method_32_code 6 = .ok (.iload_n 1, 1) := by decide +kernel
theorem d36_7 : decode jdk_68_method_32_code 7 = .ok (.invokestatic 245, 3) := by decide +kernel
theorem d36_10 : decode jdk_68_method_32_code 10 = .ok (.iadd, 1) := by decide +kernel
theorem d36_11 : decode jdk_68_method_32_code 11 = .ok (.istore_n 3, 1) := by decide +kernel
theorem d36_12 : decode jdk_68_method_32_code 12 = .ok (.aload_n 0, 1) := by decide +kernel
theorem d36_13 : decode jdk_68_method_32_code 13 = .ok (.iload_n 3, 1) := by decide +kernel
theorem d36_14 : decode jdk_68_method_32_code 14 = .ok (.invokevirtual 100, 3) := by decide +kernel
theorem d36_17 : decode jdk_68_method_32_code 17 = .ok (.aload_n 0, 1) := by decide +kernel
theorem d36_18 : decode jdk_68_method_32_code 18 = .ok (.invokevirtual 83, 3) := by decide +kernel
theorem d36_21 : decode jdk_68_method_32_code 21 = .ok (.ifCond .eq 16, 3) := by decide +kernel
theorem d36_24 : decode jdk_68_method_32_code 24 = .ok (.iload_n 1, 1) := by decide +kernel
theorem d36_25 : decode jdk_68_method_32_code 25 = .ok (.iload_n 3, 1) := by decide +kernel
theorem d36_26 : decode jdk_68_method_32_code 26 = .ok (.aload_n 0, 1) := by decide +kernel
theorem d36_27 : decode jdk_68_method_32_code 27 = .ok (.getfield 15, 3) := by decide +kernel
theorem d36_30 : decode jdk_68_method_32_code 30 = .ok (.invokestatic 248, 3) := by decide +kernel
theorem d36_33 : decode jdk_68_method_32_code 33 = .ok (.pop, 1) := by decide +kernel
theorem d36_34 : decode jdk_68_method_32_code 34 = .ok (.goto 14, 3) := by decide +kernel
theorem d36_37 : decode jdk_68_method_32_code 37 = .ok (.iload_n 1, 1) := by decide +kernel
theorem d36_38 : decode jdk_68_method_32_code 38 = .ok (.iload_n 2, 1) := by decide +kernel
theorem d36_39 : decode jdk_68_method_32_code 39 = .ok (.iload_n 3, 1) := by decide +kernel
theorem d36_40 : decode jdk_68_method_32_code 40 = .ok (.aload_n 0, 1) := by decide +kernel
theorem d36_41 : decode jdk_68_method_32_code 41 = .ok (.getfield 15, 3) := by decide +kernel
theorem d36_44 : decode jdk_68_method_32_code 44 = .ok (.invokestatic 251, 3) := by decide +kernel
theorem d36_47 : decode jdk_68_method_32_code 47 = .ok (.pop, 1) := by decide +kernel
theorem d36_48 : decode jdk_68_method_32_code 48 = .ok (.aload_n 0, 1) := by decide +kernel
theorem d36_49 : decode jdk_68_method_32_code 49 = .ok (.iload_n 3, 1) := by decide +kernel
theorem d36_50 : decode jdk_68_method_32_code 50 = .ok (.putfield 79, 3) := by decide +kernel
theorem d36_53 : decode jdk_68_method_32_code 53 = .ok (.aload_n 0, 1) := by decide +kernel
theorem d36_54 : decode jdk_68_method_32_code 54 = .ok (.areturn, 1) := by decide +kernel
theorem pf36 : plainFor (⟨"java/lang/AbstractStringBuilder", "append", "(I)Ljava/lang/AbstractStringBuilder;"⟩ : MethodName) = true := by first | exact plainFor_of_name (by first | (simp [plainName, overriddenIn]; done) | decide +kernel) | decide +kernel
theorem ef_asbAppI (m : MethodId) (z0 : Addr) (z1 : Int32) : entryFrame m #[(.ref z0), (.int z1)] 4 = mkF m 0 #[.val (.ref z0), .val (.int z1), .unset, .unset] [] := by first | rfl | (simp [entryFrame, mkF, argsToLocals, Value.category, *]; done) | rfl
set_option maxRecDepth 65536 in
set_option maxHeartbeats 40000000 in
theorem rm_asbAppI {l : Launch} {Z : State} {a0 : Array Value} {n0 : Nat} (G : Gl Z a0 n0) {h0 : Heap} (O : Old Z n0 h0) (b : Addr) (t : Addr) (cs : List Int32) (cap : Nat) (x : Int32) (B : Sb Z h0 b t cs cap) (hfit : cs.length + own_isz x ≤ cap ∨ (cs.length + own_isz x ≤ 2 * cap + 2 ∧ 2 * cap + 2 ≤ 70)) (hge : n0 ≤ b) (hgt : n0 ≤ t) :
    Ct [] l Z n0 (⟨"java/lang/AbstractStringBuilder", "append", "(I)Ljava/lang/AbstractStringBuilder;"⟩ : MethodName) jdk_68_method_32_code 4 (some (.object "java/lang/AbstractStringBuilder")) ({ frames := 4, cells := 1, slots := 70, locals := 62 } : Room) #[(.ref b), (.int x)] h0 (fun v h => Keep h0 h [b, t] ∧ v = some (.ref b) ∧ ∃ u cap', (u = t ∨ h0.size ≤ u) ∧ cap' = (if cs.length + own_isz x ≤ cap then cap else 2 * cap + 2) ∧ Sb Z h b u (cs ++ own_istr x) cap') := by
  refine Ct.intro pf36 ?_
  intro p e s m below meth c C
  refine AtW.cast ?_ (ef_asbAppI m b x)
  obtain ⟨E, hr, hlc, FC, FN, FV, E2, A⟩ := id B
  have hcl := B.capl
  have hdl := own_istr_len x
  have hdm := own_isz_le x
  refine w_aloadN (q := 1) C rfl rfl d36_0 rfl ?_
  refine w_getF (q := 4) (host := "") C (Or.inl (G.1 _ (List.mem_of_getElem? (i := 140) rfl))) Via.refl FN d36_1 rfl ?_
  refine w_istoreN (q := 5) (L' := #[.val (.ref b), .val (.int x), .val (.int (Int32.ofNat cs.length)), .unset]) C rfl d36_4 rfl ?_
  refine w_iloadN (q := 6) C rfl d36_5 rfl ?_
  refine w_iloadN (q := 7) C rfl d36_6 rfl ?_
  refine w_callS (q := 10) (argsL := [(.int x)]) (S := [(.int (Int32.ofNat cs.length))]) (W := 1) (cells' := 0) (slots' := 0) C (G.1 _ (List.mem_of_getElem? (i := 205) rfl)) (G.1 _ (List.mem_of_getElem? (i := 206) rfl)) (G.1 _ (List.mem_of_getElem? (i := 207) rfl)) (G.1 _ (List.mem_of_getElem? (i := 208) rfl)) (by decide) (rm_strSize G O x) rfl (lenOf pd_13 rfl) rfl (by decide) (own_leb rfl) (by decide) rfl rfl (by decide) (by decide) d36_7 rfl ?_
  rintro _ h55 ⟨eh56, rfl⟩
  rw [eh56]
  show AtW p l e _ s m _ below meth c n0 _ h0 0 0 (mkF m 10 #[.val (.ref b), .val (.int x), .val (.int (Int32.ofNat cs.length)), .unset] [(.int (Int32.ofNat (own_isz x))), (.int (Int32.ofNat cs.length))])
  refine w_iadd (q := 11) C rfl d36_10 rfl ?_
  rw [show ((Int32.ofNat cs.length) + (Int32.ofNat (own_isz x))) = (Int32.ofNat (cs.length + own_isz x)) from own_add _ _]
  refine w_istoreN (q := 12) (L' := #[.val (.ref b), .val (.int x), .val (.int (Int32.ofNat cs.length)), .val (.int (Int32.ofNat (cs.length + own_isz x)))]) C rfl d36_11 rfl ?_
  refine w_aloadN (q := 13) C rfl rfl d36_12 rfl ?_
  refine w_iloadN (q := 14) C rfl d36_13 rfl ?_
  refine w_callP (q := 17) (argsL := [(.int (Int32.ofNat (cs.length + own_isz x)))]) (S := []) (W := 0) (cells' := 1) (slots' := 70) (a := b) C E (G.1 _ (List.mem_of_getElem? (i := 142) rfl)) (G.1 _ (List.mem_of_getElem? (i := 143) rfl)) (NI.of_sel (args := #[]) (z := ({ cls := "java/lang/AbstractStringBuilder", name := "ensureCapacityInternal", desc := "(I)V" } : Jvm.MethodName)) (mvT C.2.2.2.1 (G.1 _ (List.mem_of_getElem? (i := 145) rfl)))) (G.1 _ (List.mem_of_getElem? (i := 144) rfl)) (G.1 _ (List.mem_of_getElem? (i := 120) rfl)) (G.1 _ (List.mem_of_getElem? (i := 146) rfl)) (by decide) (rm_ensGrow G O b t cs cap (cs.length + own_isz x) B hfit hge) rfl (lenOf pd_19 rfl) rfl (by decide) (own_leb rfl) (by decide) rfl rfl (by decide) (by decide) d36_14 rfl ?_
  rintro _ h57 ⟨Kh57, rfl, u, cap', hu, hcp, B'⟩
  show AtW p l e _ s m _ below meth c n0 _ h57 1 70 (mkF m 17 #[.val (.ref b), .val (.int x), .val (.int (Int32.ofNat cs.length)), .val (.int (Int32.ofNat (cs.length + own_isz x)))] [])
  have hgu : n0 ≤ u := hu.elim (fun q => by rw [q]; exact hgt) (fun q => Nat.le_trans (Old_le O) q)
  have O0 := O
  replace O := O.keep Kh57 (allS hge all0)
  have hfit' : cs.length + own_isz x ≤ cap' := by rw [hcp]; split <;> omega
  clear E hlc FC FN FV E2 A
  obtain ⟨E, hr, hlc, FC, FN, FV, E2, A⟩ := id B'
  refine w_aloadN (q := 18) C rfl rfl d36_17 rfl ?_
  refine w_callV (q := 21) (argsL := []) (S := []) (W := 0) (cells' := 1) (slots' := 70) (a := b) C E (G.1 _ (List.mem_of_getElem? (i := 209) rfl)) (G.1 _ (List.mem_of_getElem? (i := 210) rfl)) (w_nf C (G.1 _ (List.mem_of_getElem? (i := 212) rfl))) (G.1 _ (List.mem_of_getElem? (i := 212) rfl)) (G.1 _ (List.mem_of_getElem? (i := 211) rfl)) (G.1 _ (List.mem_of_getElem? (i := 120) rfl)) (G.1 _ (List.mem_of_getElem? (i := 213) rfl)) (by decide) (rm_asbLatin1 G O b u cs cap' B') rfl (lenOf pd_10 rfl) rfl (by decide) (own_leb rfl) (by decide) rfl rfl (by decide) (by decide) d36_18 rfl ?_
  rintro _ h58 ⟨eh59, rfl⟩
  rw [eh59]
  show AtW p l e _ s m _ below meth c n0 _ h57 1 70 (mkF m 21 #[.val (.ref b), .val (.int x), .val (.int (Int32.ofNat cs.length)), .val (.int (Int32.ofNat (cs.length + own_isz x)))] [(.int (1 : Int32))])
  refine w_if_eq_f (q := 24) C d36_21 rfl (by decide) ?_
  refine w_iloadN (q := 25) C rfl d36_24 rfl ?_
  refine w_iloadN (q := 26) C rfl d36_25 rfl ?_
  refine w_aloadN (q := 27) C rfl rfl d36_26 rfl ?_
  refine w_getF (q := 30) (host := "") C (Or.inl (G.1 _ (List.mem_of_getElem? (i := 124) rfl))) Via.refl FV d36_27 rfl ?_
  refine w_callS (q := 33) (argsL := [(.int x), (.int (Int32.ofNat (cs.length + own_isz x))), (.ref u)]) (S := []) (W := 0) (cells' := 1) (slots' := 70) C (G.1 _ (List.mem_of_getElem? (i := 214) rfl)) (G.1 _ (List.mem_of_getElem? (i := 215) rfl)) (G.1 _ (List.mem_of_getElem? (i := 207) rfl)) (G.1 _ (List.mem_of_getElem? (i := 216) rfl)) (by decide) (rm_getChars G O x (cs.length + own_isz x) u _ A (by omega) (by simp only [List.length_append, own_bs_len, List.length_replicate]; omega) hgu) rfl (lenOf pd_30 rfl) rfl (by decide) (own_leb rfl) (by decide) rfl rfl (by decide) (by decide) d36_30 rfl ?_
  rintro _ h60 ⟨Kh60, zr, rfl, V⟩
  show AtW p l e _ s m _ below meth c n0 _ h60 1 70 (mkF m 33 #[.val (.ref b), .val (.int x), .val (.int (Int32.ofNat cs.length)), .val (.int (Int32.ofNat (cs.length + own_isz x)))] [(.int zr)])
  have hbt := B'.ne
  replace E := E.keep Kh60
  replace FC := FC.keep Kh60 (ninS hbt nin0)
  replace FN := FN.keep Kh60 (ninS hbt nin0)
  replace FV := FV.keep Kh60 (ninS hbt nin0)
  replace E2 := E2.keep Kh60
  have hL2 : L1 (cs ++ own_istr x) := hr.app (own_istr_L1 x)
  rw [show cs.length + own_isz x - own_isz x = cs.length by omega, ← hdl, own_appd cs (own_istr x) cap' (by rw [hdl]; exact hfit')] at V
  refine w_pop (q := 34) C rfl d36_33 rfl ?_
  refine w_goto (q := 48) C d36_34 (by decide) (by decide) ?_
  refine w_aloadN (q := 49) C rfl rfl d36_48 rfl ?_
  refine w_iloadN (q := 50) C rfl d36_49 rfl ?_
  rw [show (Int32.ofNat (cs.length + own_isz x)) = (Int32.ofNat (cs ++ own_istr x).length) from (by rw [List.length_append, hdl])]
  refine w_putF (q := 53) (host := "") (v' := (.int (Int32.ofNat (cs ++ own_istr x).length))) C (G.1 _ (List.mem_of_getElem? (i := 140) rfl)) Via.refl FN E (Or.inl (G.1 _ (List.mem_of_getElem? (i := 141) rfl))) (G.1 _ (List.mem_of_getElem? (i := 111) rfl)) (ty := .int) (by decide) rfl rfl hge d36_50 rfl ?_
  intro h61 Wh61
  replace FN := FN.same Wh61
  replace FC := FC.other Wh61 (Or.inr (slot_ne (Or.inl (G.1 _ (List.mem_of_getElem? (i := 127) rfl))) (Or.inl (G.1 _ (List.mem_of_getElem? (i := 141) rfl))) (by decide) (t := .byte) (t' := .int) (by decide) (by decide)))
  replace FV := FV.other Wh61 (Or.inr (slot_ne (Or.inl (G.1 _ (List.mem_of_getElem? (i := 125) rfl))) (Or.inl (G.1 _ (List.mem_of_getElem? (i := 141) rfl))) (by decide) (t := (.array .byte)) (t' := .int) (by decide) (by decide)))
  replace E := E.wr Wh61
  replace E2 := E2.wr Wh61
  replace V := V.other Wh61 (Ne.symm hbt)
  refine w_aloadN (q := 54) C rfl rfl d36_53 rfl ?_
  exact w_retA C rfl rfl rfl d36_54 (by decide) (by decide) ⟨(((Keep.refl h0 [b, t]).trans Kh57 (allS (P := fun x => x ∈ [b, t] ∨ h0.size ≤ x) (Or.inl (by simp)) all0)).trans Kh60 (allS (P := fun x => x ∈ [b, t] ∨ h0.size ≤ x) (hu.elim (fun q => Or.inl (by simp [q])) Or.inr) all0)).wr Wh61 (Or.inl (by simp)), rfl, u, cap', hu, hcp, E, hL2, by rw [List.length_append, hdl]; exact hfit', FC, FN, FV, E2, V⟩
theorem d35_0 : decode jdk_67_method_15_code 0 = .ok (.aload_n 0, 1) := by decide +kernel
theorem d35_1 : decode jdk_67_method_15_code 1 = .ok (.iload_n 1, 1) := by decide +kernel
theorem d35_2 : decode jdk_67_method_15_code 2 = .ok (.invokespecial 53, 3) := by decide +kernel
theorem d35_5 : decode jdk_67_method_15_code 5 = .ok (.pop, 1) := by decide +kernel
theorem d35_6 : decode jdk_67_method_15_code 6 = .ok (.aload_n 0, 1) := by decide +kernel
theorem d35_7 : decode jdk_67_method_15_code 7 = .ok (.areturn, 1) := by decide +kernel
theorem pf35 : plainFor (⟨"java/lang/StringBuilder", "append", "(I)Ljava/lang/StringBuilder;"⟩ : MethodName) = true := by first | exact plainFor_of_name (by first | (simp [plainName, overriddenIn]; done) | decide +kernel) | decide +kernel
theorem ef_sbAppI (m : MethodId) (z0 : Addr) (z1 : Int32) : entryFrame m #[(.ref z0), (.int z1)] 2 = mkF m 0 #[.val (.ref z0), .val (.int z1)] [] := by first | rfl | (simp [entryFrame, mkF, argsToLocals, Value.category, *]; done) | rfl
set_option maxRecDepth 65536 in
set_option maxHeartbeats 40000000 in
theorem rm_sbAppI {l : Launch} {Z : State} {a0 : Array Value} {n0 : Nat} (G : Gl Z a0 n0) {h0 : Heap} (O : Old Z n0 h0) (b : Addr) (t : Addr) (cs : List Int32) (cap : Nat) (x : Int32) (B : Sb Z h0 b t cs cap) (hfit : cs.length + own_isz x ≤ cap ∨ (cs.length + own_isz x ≤ 2 * cap + 2 ∧ 2 * cap + 2 ≤ 70)) (hge : n0 ≤ b) (hgt : n0 ≤ t) :
    Ct [] l Z n0 (⟨"java/lang/StringBuilder", "append", "(I)Ljava/lang/StringBuilder;"⟩ : MethodName) jdk_67_method_15_code 2 (some (.object "java/lang/StringBuilder")) ({ frames := 5, cells := 1, slots := 70, locals := 77 } : Room) #[(.ref b), (.int x)] h0 (fun v h => Keep h0 h [b, t] ∧ v = some (.ref b) ∧ ∃ u cap', (u = t ∨ h0.size ≤ u) ∧ cap' = (if cs.length + own_isz x ≤ cap then cap else 2 * cap + 2) ∧ Sb Z h b u (cs ++ own_istr x) cap') := by
  refine Ct.intro pf35 ?_
  intro p e s m below meth c C
  refine AtW.cast ?_ (ef_sbAppI m b x)
  have E := B.1
  refine w_aloadN (q := 1) C rfl rfl d35_0 rfl ?_
  refine w_iloadN (q := 2) C rfl d35_1 rfl ?_
  refine w_callU (q := 5) (argsL := [(.int x)]) (S := []) (W := 0) (cells' := 1) (slots' := 70) (a := b) C E (G.1 _ (List.mem_of_getElem? (i := 201) rfl)) (G.1 _ (List.mem_of_getElem? (i := 202) rfl)) (NI.of_sel (z := ({ cls := "java/lang/AbstractStringBuilder", name := "ensureCapacityInternal", desc := "(I)V" } : Jvm.MethodName)) (G.1 _ (List.mem_of_getElem? (i := 145) rfl))) (G.1 _ (List.mem_of_getElem? (i := 136) rfl)) (G.1 _ (List.mem_of_getElem? (i := 120) rfl)) (G.1 _ (List.mem_of_getElem? (i := 204) rfl)) (by decide) (by decide) (rm_asbAppI G O b t cs cap x B hfit hge hgt) rfl (lenOf pd_29 rfl) rfl (by decide) (own_leb rfl) (by decide) rfl rfl (by decide) (by decide) d35_2 rfl ?_
  rintro _ h62 ⟨Kh62, rfl, R⟩
  show AtW p l e _ s m _ below meth c n0 _ h62 1 70 (mkF m 5 #[.val (.ref b), .val (.int x)] [(.ref b)])
  refine w_pop (q := 6) C rfl d35_5 rfl ?_
  refine w_aloadN (q := 7) C rfl rfl d35_6 rfl ?_
  exact w_retA C rfl rfl rfl d35_7 (by decide) (by decide) ⟨Kh62, rfl, R⟩
theorem d43_0 : decode jdk_68_method_64_code 0 = .ok (.aload_n 0, 1) := by decide +kernel
theorem d43_1 : decode jdk_68_method_64_code 1 = .ok (.getfield 15, 3) := by decide +kernel
theorem d43_4 : decode jdk_68_method_64_code 4 = .ok (.areturn, 1) := by decide +kernel
theorem pf43 : plainFor (⟨"java/lang/AbstractStringBuilder", "getValue", "()[B"⟩ : MethodName) = true := by first | exact plainFor_of_name (by first | (simp [plainName, overriddenIn]; done) | decide +kernel) | decide +kernel
theorem ef_asbValue (m : MethodId) (z0 : Addr) : entryFrame m #[(.ref z0)] 1 = mkF m 0 #[.val (.ref z0)] [] := by first | rfl | (simp [entryFrame, mkF, argsToLocals, Value.category, *]; done) | rfl
set_option maxRecDepth 65536 in
set_option maxHeartbeats 40000000 in
theorem rm_asbValue {l : Launch} {Z : State} {a0 : Array Value} {n0 : Nat} (G : Gl Z a0 n0) {h0 : Heap} (O : Old Z n0 h0) (b : Addr) (t : Addr) (cs : List Int32) (cap : Nat) (B : Sb Z h0 b t cs cap) :
    Ct [] l Z n0 (⟨"java/lang/AbstractStringBuilder", "getValue", "()[B"⟩ : MethodName) jdk_68_method_64_code 1 (some (.array .byte)) ({ frames := 0, cells := 0, slots := 0, locals := 0 } : Room) #[(.ref b)] h0 (fun v h => h = h0 ∧ v = some (.ref t)) := by
  refine Ct.intro pf43 ?_
  intro p e s m below meth c C
  refine AtW.cast ?_ (ef_asbValue m b)
  obtain ⟨E, hr, hlc, FC, FN, FV, E2, A⟩ := id B
  refine w_aloadN (q := 1) C rfl rfl d43_0 rfl ?_
  refine w_getF (q := 4) (host := "") C (Or.inl (G.1 _ (List.mem_of_getElem? (i := 124) rfl))) Via.refl FV d43_1 rfl ?_
  exact w_retA C rfl rfl rfl d43_4 (by decide) (by decide) ⟨rfl, rfl⟩
theorem d45_0 : decode jdk_68_method_6_code 0 = .ok (.aload_n 0, 1) := by decide +kernel
theorem d45_1 : decode jdk_68_method_6_code 1 = .ok (.getfield 79, 3) := by decide +kernel
theorem d45_4 : decode jdk_68_method_6_code 4 = .ok (.ireturn, 1) := by decide +kernel
theorem pf45 : plainFor (⟨"java/lang/AbstractStringBuilder", "length", "()I"⟩ : MethodName) = true := by first | exact plainFor_of_name (by first | (simp [plainName, overriddenIn]; done) | decide +kernel) | decide +kernel
theorem ef_asbLen (m : MethodId) (z0 : Addr) : entryFrame m #[(.ref z0)] 1 = mkF m 0 #[.val (.ref z0)] [] := by first | rfl | (simp [entryFrame, mkF, argsToLocals, Value.category, *]; done) | rfl
set_option maxRecDepth 65536 in
set_option maxHeartbeats 40000000 in
theorem rm_asbLen {l : Launch} {Z : State} {a0 : Array Value} {n0 : Nat} (G : Gl Z a0 n0) {h0 : Heap} (O : Old Z n0 h0) (b : Addr) (t : Addr) (cs : List Int32) (cap : Nat) (B : Sb Z h0 b t cs cap) :
    Ct [] l Z n0 (⟨"java/lang/AbstractStringBuilder", "length", "()I"⟩ : MethodName) jdk_68_method_6_code 1 (some .int) ({ frames := 0, cells := 0, slots := 0, locals := 0 } : Room) #[(.ref b)] h0 (fun v h => h = h0 ∧ v = some (.int (Int32.ofNat cs.length))) := by
  refine Ct.intro pf45 ?_
  intro p e s m below meth c C
  refine AtW.cast ?_ (ef_asbLen m b)
  obtain ⟨E, hr, hlc, FC, FN, FV, E2, A⟩ := id B
  refine w_aloadN (q := 1) C rfl rfl d45_0 rfl ?_
  refine w_getF (q := 4) (host := "") C (Or.inl (G.1 _ (List.mem_of_getElem? (i := 140) rfl))) Via.refl FN d45_1 rfl ?_
  exact w_retI C rfl d45_4 (by decide) (by decide) ⟨rfl, rfl⟩
theorem d44_0 : decode jdk_67_method_93_code 0 = .ok (.aload_n 0, 1) := by decide +kernel
theorem d44_1 : decode jdk_67_method_93_code 1 = .ok (.invokespecial 343, 3) := by decide +kernel
theorem d44_4 : decode jdk_67_method_93_code 4 = .ok (.ireturn, 1) := by decide +kernel
theorem pf44 : plainFor (⟨"java/lang/StringBuilder", "length", "()I"⟩ : MethodName) = true := by first | exact plainFor_of_name (by first | (simp [plainName, overriddenIn]; done) | decide +kernel) | decide +kernel
theorem ef_sbLen (m : MethodId) (z0 : Addr) : entryFrame m #[(.ref z0)] 1 = mkF m 0 #[.val (.ref z0)] [] := by first | rfl | (simp [entryFrame, mkF, argsToLocals, Value.category, *]; done) | rfl
set_option maxRecDepth 65536 in
set_option maxHeartbeats 40000000 in
theorem rm_sbLen {l : Launch} {Z : State} {a0 : Array Value} {n0 : Nat} (G : Gl Z a0 n0) {h0 : Heap} (O : Old Z n0 h0) (b : Addr) (t : Addr) (cs : List Int32) (cap : Nat) (B : Sb Z h0 b t cs cap) :
    Ct [] l Z n0 (⟨"java/lang/StringBuilder", "length", "()I"⟩ : MethodName) jdk_67_method_93_code 1 (some .int) ({ frames := 1, cells := 0, slots := 0, locals := 12 } : Room) #[(.ref b)] h0 (fun v h => h = h0 ∧ v = some (.int (Int32.ofNat cs.length))) := by
  refine Ct.intro pf44 ?_
  intro p e s m below meth c C
  refine AtW.cast ?_ (ef_sbLen m b)
  obtain ⟨E, hr, hlc, FC, FN, FV, E2, A⟩ := id B
  refine w_aloadN (q := 1) C rfl rfl d44_0 rfl ?_
  refine w_callU (q := 4) (argsL := []) (S := []) (W := 0) (cells' := 0) (slots' := 0) (a := b) C E (G.1 _ (List.mem_of_getElem? (i := 242) rfl)) (G.1 _ (List.mem_of_getElem? (i := 238) rfl)) (NI.of_sel (z := ({ cls := "java/lang/AbstractStringBuilder", name := "ensureCapacityInternal", desc := "(I)V" } : Jvm.MethodName)) (G.1 _ (List.mem_of_getElem? (i := 145) rfl))) (G.1 _ (List.mem_of_getElem? (i := 136) rfl)) (G.1 _ (List.mem_of_getElem? (i := 120) rfl)) (G.1 _ (List.mem_of_getElem? (i := 243) rfl)) (by decide) (by decide) (rm_asbLen G O b t cs cap B) rfl (lenOf pd_11 rfl) rfl (by decide) (own_leb rfl) (by decide) rfl rfl (by decide) (by decide) d44_1 rfl ?_
  rintro _ h63 ⟨eh64, rfl⟩
  rw [eh64]
  show AtW p l e _ s m _ below meth c n0 _ h0 0 0 (mkF m 4 #[.val (.ref b)] [(.int (Int32.ofNat cs.length))])
  exact w_retI C rfl d44_4 (by decide) (by decide) ⟨rfl, rfl⟩
theorem d48_0 : decode jdk_65_method_131_code 0 = .ok (.iload_n 1, 1) := by decide +kernel
theorem d48_1 : decode jdk_65_method_131_code 1 = .ok (.iload_n 0, 1) := by decide +kernel
theorem d48_2 : decode jdk_65_method_131_code 2 = .ok (.if_icmp .ge 35, 3) := by decide +kernel
theorem d48_5 : decode jdk_65_method_131_code 5 = .ok (.new 43, 3) := by decide +kernel
theorem d48_8 : decode jdk_65_method_131_code 8 = .ok (.dup, 1) := by decide +kernel
theorem d48_9 : decode jdk_65_method_131_code 9 = .ok (.new 45, 3) := by decide +kernel
theorem d48_12 : decode jdk_65_method_131_code 12 = .ok (.dup, 1) := by decide +kernel
theorem d48_13 : decode jdk_65_method_131_code 13 = .ok (.invokespecial 47, 3) := by decide +kernel
theorem d48_16 : decode jdk_65_method_131_code 16 = .ok (.iload_n 0, 1) := by decide +kernel
theorem d48_17 : decode jdk_65_method_131_code 17 = .ok (.invokevirtual 54, 3) := by decide +kernel
theorem d48_20 : decode jdk_65_method_131_code 20 = .ok (.ldc_w 337, 3) := by decide +kernel
theorem d48_23 : decode jdk_65_method_131_code 23 = .ok (.invokevirtual 50, 3) := by decide +kernel
theorem d48_26 : decode jdk_65_method_131_code 26 = .ok (.iload_n 1, 1) := by decide +kernel
theorem d48_27 : decode jdk_65_method_131_code 27 = .ok (.invokevirtual 54, 3) := by decide +kernel
theorem d48_30 : decode jdk_65_method_131_code 30 = .ok (.invokevirtual 61, 3) := by decide +kernel
theorem d48_33 : decode jdk_65_method_131_code 33 = .ok (.invokespecial 65, 3) := by decide +kernel
theorem d48_36 : decode jdk_65_method_131_code 36 = .ok (.athrow, 1) := by decide +kernel
theorem d48_37 : decode jdk_65_method_131_code 37 = .ok (.return_, 1) := by decide +kernel
theorem pf48 : plainFor (⟨"java/util/Arrays", "checkLength", "(II)V"⟩ : MethodName) = true := by first | exact plainFor_of_name (by first | (simp [plainName, overriddenIn]; done) | decide +kernel) | decide +kernel
theorem ef_checkLen (m : MethodId) (z0 : Int32) (z1 : Int32) : entryFrame m #[(.int z0), (.int z1)] 2 = mkF m 0 #[.val (.int z0), .val (.int z1)] [] := by first | rfl | (simp [entryFrame, mkF, argsToLocals, Value.category, *]; done) | rfl
set_option maxRecDepth 65536 in
set_option maxHeartbeats 40000000 in
theorem rm_checkLen {l : Launch} {Z : State} {a0 : Array Value} {n0 : Nat} (G : Gl Z a0 n0) {h0 : Heap} (O : Old Z n0 h0) (x : Int32) (y : Int32) (hxy : ¬ y < x) :
    Ct [] l Z n0 (⟨"java/util/Arrays", "checkLength", "(II)V"⟩ : MethodName) jdk_65_method_131_code 2 none ({ frames := 0, cells := 0, slots := 0, locals := 0 } : Room) #[(.int x), (.int y)] h0 (fun v h => h = h0 ∧ v = none) := by
  refine Ct.intro pf48 ?_
  intro p e s m below meth c C
  refine AtW.cast ?_ (ef_checkLen m x y)
  refine w_iloadN (q := 1) C rfl d48_0 rfl ?_
  refine w_iloadN (q := 2) C rfl d48_1 rfl ?_
  refine w_icmp_ge_t (q := 37) C d48_2 (by decide) (by decide) hxy ?_
  exact w_retV C rfl d48_37 (by decide) (by decide) ⟨rfl, rfl⟩
theorem d47_0 : decode jdk_65_method_133_code 0 = .ok (.iload_n 1, 1) := by decide +kernel
theorem d47_1 : decode jdk_65_method_133_code 1 = .ok (.iload_n 2, 1) := by decide +kernel
theorem d47_2 : decode jdk_65_method_133_code 2 = .ok (.invokestatic 343, 3) := by decide +kernel
theorem d47_5 : decode jdk_65_method_133_code 5 = .ok (.iload_n 2, 1) := by decide +kernel
theorem d47_6 : decode jdk_65_method_133_code 6 = .ok (.iload_n 1, 1) := by decide +kernel
theorem d47_7 : decode jdk_65_method_133_code 7 = .ok (.isub, 1) := by decide +kernel
theorem d47_8 : decode jdk_65_method_133_code 8 = .ok (.istore_n 3, 1) := by decide +kernel
theorem d47_9 : decode jdk_65_method_133_code 9 = .ok (.iload_n 3, 1) := by decide +kernel
theorem d47_10 : decode jdk_65_method_133_code 10 = .ok (.newarray .byte, 2) := by decide +kernel
theorem d47_12 : decode jdk_65_method_133_code 12 = .ok (.astore 4, 2) := by decide +kernel
theorem d47_14 : decode jdk_65_method_133_code 14 = .ok (.aload_n 0, 1) := by decide +kernel
theorem d47_15 : decode jdk_65_method_133_code 15 = .ok (.iload_n 1, 1) := by decide +kernel
theorem d47_16 : decode jdk_65_method_133_code 16 = .ok (.aload 4, 2) := by decide +kernel
theorem d47_18 : decode jdk_65_method_133_code 18 = .ok (.iconst 0, 1) := by decide +kernel
theorem d47_19 : decode jdk_65_method_133_code 19 = .ok (.aload_n 0, 1) := by decide +kernel
theorem d47_20 : decode jdk_65_method_133_code 20 = .ok (.arraylength, 1) := by decide +kernel
theorem d47_21 : decode jdk_65_method_133_code 21 = .ok (.iload_n 1, 1) := by decide +kernel
theorem d47_22 : decode jdk_65_method_133_code 22 = .ok (.isub, 1) := by decide +kernel
theorem d47_23 : decode jdk_65_method_133_code 23 = .ok (.iload_n 3, 1) := by decide +kernel
theorem d47_24 : decode jdk_65_method_133_code 24 = .ok (.invokestatic 304, 3) := by decide +kernel
theorem d47_27 : decode jdk_65_method_133_code 27 = .ok (.invokestatic 150, 3) := by decide +kernel
theorem d47_30 : decode jdk_65_method_133_code 30 = .ok (.aload 4, 2) := by decide +kernel
theorem d47_32 : decode jdk_65_method_133_code 32 = .ok (.areturn, 1) := by decide +kernel
theorem pf47 : plainFor (⟨"java/util/Arrays", "copyOfRangeByte", "([BII)[B"⟩ : MethodName) = true := by first | exact plainFor_of_name (by first | (simp [plainName, overriddenIn]; done) | decide +kernel) | decide +kernel
theorem ef_cpRangeB (m : MethodId) (z0 : Addr) (z1 : Int32) (z2 : Int32) : entryFrame m #[(.ref z0), (.int z1), (.int z2)] 5 = mkF m 0 #[.val (.ref z0), .val (.int z1), .val (.int z2), .unset, .unset] [] := by first | rfl | (simp [entryFrame, mkF, argsToLocals, Value.category, *]; done) | rfl
set_option maxRecDepth 65536 in
set_option maxHeartbeats 40000000 in
theorem rm_cpRangeB {l : Launch} {Z : State} {a0 : Array Value} {n0 : Nat} (G : Gl Z a0 n0) {h0 : Heap} (O : Old Z n0 h0) (t : Addr) (vs : List Value) (n : Nat) (A : Ar Z h0 t .byte vs) (hn : n ≤ vs.length) (hnc : n ≤ 37) :
    Ct [] l Z n0 (⟨"java/util/Arrays", "copyOfRangeByte", "([BII)[B"⟩ : MethodName) jdk_65_method_133_code 5 (some (.array .byte)) ({ frames := 1, cells := 1, slots := 37, locals := 18 } : Room) #[(.ref t), (.int (0 : Int32)), (.int (Int32.ofNat n))] h0 (fun v h => Keep h0 h [] ∧ ∃ u, v = some (.ref u) ∧ h0.size ≤ u ∧ Ar Z h u .byte (vs.take n)) := by
  refine Ct.intro pf47 ?_
  intro p e s m below meth c C
  refine AtW.cast ?_ (ef_cpRangeB m t (0 : Int32) (Int32.ofNat n))
  have hvl := A.1
  refine w_iloadN (q := 1) C rfl d47_0 rfl ?_
  refine w_iloadN (q := 2) C rfl d47_1 rfl ?_
  refine w_callS (q := 5) (argsL := [(.int (0 : Int32)), (.int (Int32.ofNat n))]) (S := []) (W := 0) (cells' := 0) (slots' := 0) C (G.1 _ (List.mem_of_getElem? (i := 251) rfl)) (G.1 _ (List.mem_of_getElem? (i := 252) rfl)) (G.1 _ (List.mem_of_getElem? (i := 189) rfl)) (G.1 _ (List.mem_of_getElem? (i := 253) rfl)) (by decide) (rm_checkLen G O 0 _ (ofNat_neg (by omega))) rfl (lenOf pd_14 rfl) rfl (by decide) (own_leb rfl) (by decide) rfl rfl (by decide) (by decide) d47_2 rfl ?_
  rintro _ h65 ⟨eh66, rfl⟩
  rw [eh66]
  show AtW p l e _ s m _ below meth c n0 _ h0 0 0 (mkF m 5 #[.val (.ref t), .val (.int (0 : Int32)), .val (.int (Int32.ofNat n)), .unset, .unset] [])
  refine w_iloadN (q := 6) C rfl d47_5 rfl ?_
  refine w_iloadN (q := 7) C rfl d47_6 rfl ?_
  refine w_isub (q := 8) C rfl d47_7 rfl ?_
  rw [show ((Int32.ofNat n) - (0 : Int32)) = (Int32.ofNat n) from Int32.sub_zero _]
  refine w_istoreN (q := 9) (L' := #[.val (.ref t), .val (.int (0 : Int32)), .val (.int (Int32.ofNat n)), .val (.int (Int32.ofNat n)), .unset]) C rfl d47_8 rfl ?_
  refine w_iloadN (q := 10) C rfl d47_9 rfl ?_
  refine w_newArrE (q := 12) (cap := 37) (cells' := 1) (slots' := 37) (ad := "[B") C (G.1 _ (List.mem_of_getElem? (i := 27) rfl)) rfl (ofNat_neg (by omega)) (by rw [ofNat_nat (by omega)]; exact hnc) (by decide) rfl rfl (by decide) (by decide) rfl d47_10 rfl ?_
  intro h67 u g_u Eh67 V_u X_u
  rw [ofNat_nat (by omega)] at V_u
  have K1 : Keep h0 h67 [] := Keep.of_ext Eh67
  have hg0 : h0.size ≤ u := Nat.le_of_eq g_u.symm
  have ge : n0 ≤ u := Nat.le_trans (Old_le O) hg0
  replace O := Old_k0 O K1
  replace A := Ar_k0 A K1
  refine w_astore (q := 14) (L' := #[.val (.ref t), .val (.int (0 : Int32)), .val (.int (Int32.ofNat n)), .val (.int (Int32.ofNat n)), .val (.ref u)]) C rfl rfl d47_12 rfl ?_
  refine w_aloadN (q := 15) C rfl rfl d47_14 rfl ?_
  refine w_iloadN (q := 16) C rfl d47_15 rfl ?_
  refine w_aload (q := 18) C rfl rfl d47_16 rfl ?_
  refine w_iconst (q := 19) (v := (0 : Int32)) C (by rfl) d47_18 rfl ?_
  refine w_aloadN (q := 20) C rfl rfl d47_19 rfl ?_
  refine w_len (q := 21) (z := (Int32.ofNat vs.length)) C A rfl d47_20 rfl ?_
  refine w_iloadN (q := 22) C rfl d47_21 rfl ?_
  refine w_isub (q := 23) C rfl d47_22 rfl ?_
  rw [show ((Int32.ofNat vs.length) - (0 : Int32)) = (Int32.ofNat vs.length) from Int32.sub_zero _]
  refine w_iloadN (q := 24) C rfl d47_23 rfl ?_
  refine w_callS (q := 27) (argsL := [(.int (Int32.ofNat vs.length)), (.int (Int32.ofNat n))]) (S := [(.int (0 : Int32)), (.ref u), (.int (0 : Int32)), (.ref t)]) (W := 4) (cells' := 1) (slots' := 37) C (G.1 _ (List.mem_of_getElem? (i := 191) rfl)) (G.1 _ (List.mem_of_getElem? (i := 192) rfl)) (G.1 _ (List.mem_of_getElem? (i := 183) rfl)) (G.1 _ (List.mem_of_getElem? (i := 193) rfl)) (by decide) (rm_mmin G O _ _) rfl (lenOf pd_26 rfl) rfl (by decide) (own_leb rfl) (by decide) rfl rfl (by decide) (by decide) d47_24 rfl ?_
  rintro _ h68 ⟨eh69, rfl⟩
  rw [eh69]
  show AtW p l e _ s m _ below meth c n0 _ h67 1 37 (mkF m 27 #[.val (.ref t), .val (.int (0 : Int32)), .val (.int (Int32.ofNat n)), .val (.int (Int32.ofNat n)), .val (.ref u)] [(.int (if (Int32.ofNat n) < (Int32.ofNat vs.length) then (Int32.ofNat n) else (Int32.ofNat vs.length))), (.int (0 : Int32)), (.ref u), (.int (0 : Int32)), (.ref t)])
  rw [show (if (Int32.ofNat n) < (Int32.ofNat vs.length) then (Int32.ofNat n) else (Int32.ofNat vs.length)) = (Int32.ofNat n) from by split; rfl; rename_i q; rw [own_nlt (by omega) hvl] at q; congr 1; omega]
  refine w_copy (q := 30) (S := []) (sp := 0) (dp := 0) (nn := n) (W := 0) C (G.1 _ (List.mem_of_getElem? (i := 194) rfl)) (G.1 _ (List.mem_of_getElem? (i := 166) rfl)) (G.1 _ (List.mem_of_getElem? (i := 164) rfl)) (G.1 _ (List.mem_of_getElem? (i := 165) rfl)) A V_u rfl (by omega) (by rw [List.length_replicate]; omega) ge rfl (by decide) (own_leb rfl) (by decide) rfl d47_27 rfl ?_
  intro h70 Kh70 Vh70
  refine w_aload (q := 32) C rfl rfl d47_30 rfl ?_
  exact w_retA C rfl rfl rfl d47_32 (by decide) (by decide) ⟨own_K1 K1 Kh70 hg0, u, rfl, hg0, by simpa using Vh70⟩
theorem d46_0 : decode jdk_65_method_132_code 0 = .ok (.iload_n 1, 1) := by decide +kernel
theorem d46_1 : decode jdk_65_method_132_code 1 = .ok (.ifCond .ne 9, 3) := by decide +kernel
theorem d46_4 : decode jdk_65_method_132_code 4 = .ok (.iload_n 2, 1) := by decide +kernel
theorem d46_5 : decode jdk_65_method_132_code 5 = .ok (.aload_n 0, 1) := by decide +kernel
theorem d46_6 : decode jdk_65_method_132_code 6 = .ok (.arraylength, 1) := by decide +kernel
theorem d46_7 : decode jdk_65_method_132_code 7 = .ok (.if_icmp .eq 10, 3) := by decide +kernel
theorem d46_10 : decode jdk_65_method_132_code 10 = .ok (.aload_n 0, 1) := by decide +kernel
theorem d46_11 : decode jdk_65_method_132_code 11 = .ok (.iload_n 1, 1) := by decide +kernel
theorem d46_12 : decode jdk_65_method_132_code 12 = .ok (.iload_n 2, 1) := by decide +kernel
theorem d46_13 : decode jdk_65_method_132_code 13 = .ok (.invokestatic 339, 3) := by decide +kernel
theorem d46_16 : decode jdk_65_method_132_code 16 = .ok (.areturn, 1) := by decide +kernel
theorem d46_17 : decode jdk_65_method_132_code 17 = .ok (.aload_n 0, 1) := by decide +kernel
theorem d46_18 : decode jdk_65_method_132_code 18 = .ok (.invokevirtual 310, 3) := by decide +kernel
theorem d46_21 : decode jdk_65_method_132_code 21 = .ok (.checkcast 311, 3) := by decide +kernel
theorem d46_24 : decode jdk_65_method_132_code 24 = .ok (.areturn, 1) := by decide +kernel
theorem pf46 : plainFor (⟨"java/util/Arrays", "copyOfRange", "([BII)[B"⟩ : MethodName) = true := by first | exact plainFor_of_name (by first | (simp [plainName, overriddenIn]; done) | decide +kernel) | decide +kernel
theorem ef_cpRange (m : MethodId) (z0 : Addr) (z1 : Int32) (z2 : Int32) : entryFrame m #[(.ref z0), (.int z1), (.int z2)] 3 = mkF m 0 #[.val (.ref z0), .val (.int z1), .val (.int z2)] [] := by first | rfl | (simp [entryFrame, mkF, argsToLocals, Value.category, *]; done) | rfl
set_option maxRecDepth 65536 in
set_option maxHeartbeats 40000000 in
theorem rm_cpRange {l : Launch} {Z : State} {a0 : Array Value} {n0 : Nat} (G : Gl Z a0 n0) {h0 : Heap} (O : Old Z n0 h0) (t : Addr) (vs : List Value) (n : Nat) (A : Ar Z h0 t .byte vs) (X : Exa Z h0 t "[B") (hn : n ≤ vs.length) (hnc : n ≤ 37) :
    Ct [] l Z n0 (⟨"java/util/Arrays", "copyOfRange", "([BII)[B"⟩ : MethodName) jdk_65_method_132_code 3 (some (.array .byte)) ({ frames := 2, cells := 1, slots := 37, locals := 34 } : Room) #[(.ref t), (.int (0 : Int32)), (.int (Int32.ofNat n))] h0 (fun v h => Keep h0 h [] ∧ ∃ u, v = some (.ref u) ∧ h0.size ≤ u ∧ Ar Z h u .byte (vs.take n)) := by
  refine Ct.intro pf46 ?_
  intro p e s m below meth c C
  refine AtW.cast ?_ (ef_cpRange m t (0 : Int32) (Int32.ofNat n))
  have hvl := A.1
  refine w_iloadN (q := 1) C rfl d46_0 rfl ?_
  refine w_if_ne_f (q := 4) C d46_1 rfl (by decide) ?_
  refine w_iloadN (q := 5) C rfl d46_4 rfl ?_
  refine w_aloadN (q := 6) C rfl rfl d46_5 rfl ?_
  refine w_len (q := 7) (z := (Int32.ofNat vs.length)) C A rfl d46_6 rfl ?_
  by_cases q1 : (Int32.ofNat n) = (Int32.ofNat vs.length)
  · refine w_icmp_eq_t (q := 17) C d46_7 (by decide) (by decide) q1 ?_
    rw [own_neq (by omega) hvl] at q1
    refine w_aloadN (q := 18) C rfl rfl d46_17 rfl ?_
    refine w_clone (q := 21) (cap := 37) (W := 0) (cells' := 1) (slots' := 37) C (G.1 _ (List.mem_of_getElem? (i := 293) rfl)) (G.1 _ (List.mem_of_getElem? (i := 294) rfl)) (G.1 _ (List.mem_of_getElem? (i := 298) rfl)) (G.1 _ (List.mem_of_getElem? (i := 296) rfl)) (G.1 _ (List.mem_of_getElem? (i := 297) rfl)) (G.1 _ (List.mem_of_getElem? (i := 299) rfl)) A X rfl (by decide) (own_leb rfl) (by decide) (by omega) rfl rfl (by decide) (by decide) d46_18 rfl ?_
    intro h71 u g_u Eh71 V_u X_u
    refine w_cast (q := 24) C (G.1 _ (List.mem_of_getElem? (i := 300) rfl)) (Ins.self X_u) d46_21 rfl ?_
    exact w_retA C rfl rfl rfl d46_24 (by decide) (by decide) ⟨Keep.of_ext Eh71, u, rfl, Nat.le_of_eq g_u.symm, by rw [q1, List.take_length]; exact V_u⟩
  · refine w_icmp_eq_f (q := 10) C d46_7 rfl q1 ?_
    refine w_aloadN (q := 11) C rfl rfl d46_10 rfl ?_
    refine w_iloadN (q := 12) C rfl d46_11 rfl ?_
    refine w_iloadN (q := 13) C rfl d46_12 rfl ?_
    refine w_callS (q := 16) (argsL := [(.ref t), (.int (0 : Int32)), (.int (Int32.ofNat n))]) (S := []) (W := 0) (cells' := 1) (slots' := 37) C (G.1 _ (List.mem_of_getElem? (i := 248) rfl)) (G.1 _ (List.mem_of_getElem? (i := 249) rfl)) (G.1 _ (List.mem_of_getElem? (i := 189) rfl)) (G.1 _ (List.mem_of_getElem? (i := 250) rfl)) (by decide) (rm_cpRangeB G O t vs n A (by omega) hnc) rfl (lenOf pd_34 rfl) rfl (by decide) (own_leb rfl) (by decide) rfl rfl (by decide) (by decide) d46_13 rfl ?_
    rintro _ h72 ⟨Kh72, u, rfl, hg, V⟩
    show AtW p l e _ s m _ below meth c n0 _ h72 1 37 (mkF m 16 #[.val (.ref t), .val (.int (0 : Int32)), .val (.int (Int32.ofNat n))] [(.ref u)])
    exact w_retA C rfl rfl rfl d46_16 (by decide) (by decide) ⟨Kh72, u, rfl, hg, V⟩
theorem d42_0 : decode jdk_42_method_150_code 0 = .ok (.aload_n 0, 1) := by decide +kernel
theorem d42_1 : decode jdk_42_method_150_code 1 = .ok (.invokespecial 1, 3) := by decide +kernel
theorem d42_4 : decode jdk_42_method_150_code 4 = .ok (.aload_n 1, 1) := by decide +kernel
theorem d42_5 : decode jdk_42_method_150_code 5 = .ok (.invokevirtual 552, 3) := by decide +kernel
theorem d42_8 : decode jdk_42_method_150_code 8 = .ok (.astore_n 3, 1) := by decide +kernel
theorem d42_9 : decode jdk_42_method_150_code 9 = .ok (.aload_n 1, 1) := by decide +kernel
theorem d42_10 : decode jdk_42_method_150_code 10 = .ok (.invokevirtual 549, 3) := by decide +kernel
theorem d42_13 : decode jdk_42_method_150_code 13 = .ok (.istore 4, 2) := by decide +kernel
theorem d42_15 : decode jdk_42_method_150_code 15 = .ok (.aload_n 1, 1) := by decide +kernel
theorem d42_16 : decode jdk_42_method_150_code 16 = .ok (.invokevirtual 1047, 3) := by decide +kernel
theorem d42_19 : decode jdk_42_method_150_code 19 = .ok (.ifCond .eq 22, 3) := by decide +kernel
theorem d42_22 : decode jdk_42_method_150_code 22 = .ok (.aload_n 0, 1) := by decide +kernel
theorem d42_23 : decode jdk_42_method_150_code 23 = .ok (.iconst 0, 1) := by decide +kernel
theorem d42_24 : decode jdk_42_method_150_code 24 = .ok (.putfield 15, 3) := by decide +kernel
theorem d42_27 : decode jdk_42_method_150_code 27 = .ok (.aload_n 0, 1) := by decide +kernel
theorem d42_28 : decode jdk_42_method_150_code 28 = .ok (.aload_n 3, 1) := by decide +kernel
theorem d42_29 : decode jdk_42_method_150_code 29 = .ok (.iconst 0, 1) := by decide +kernel
theorem d42_30 : decode jdk_42_method_150_code 30 = .ok (.iload 4, 2) := by decide +kernel
theorem d42_32 : decode jdk_42_method_150_code 32 = .ok (.invokestatic 54, 3) := by decide +kernel
theorem d42_35 : decode jdk_42_method_150_code 35 = .ok (.putfield 9, 3) := by decide +kernel
theorem d42_38 : decode jdk_42_method_150_code 38 = .ok (.goto 59, 3) := by decide +kernel
theorem d42_41 : decode jdk_42_method_150_code 41 = .ok (.getstatic 38, 3) := by decide +kernel
theorem d42_44 : decode jdk_42_method_150_code 44 = .ok (.ifCond .eq 35, 3) := by decide +kernel
theorem d42_47 : decode jdk_42_method_150_code 47 = .ok (.aload_n 1, 1) := by decide +kernel
theorem d42_48 : decode jdk_42_method_150_code 48 = .ok (.getfield 1048, 3) := by decide +kernel
theorem d42_51 : decode jdk_42_method_150_code 51 = .ok (.ifCond .eq 28, 3) := by decide +kernel
theorem d42_54 : decode jdk_42_method_150_code 54 = .ok (.aload_n 0, 1) := by decide +kernel
theorem d42_55 : decode jdk_42_method_150_code 55 = .ok (.aload_n 3, 1) := by decide +kernel
theorem d42_56 : decode jdk_42_method_150_code 56 = .ok (.iconst 0, 1) := by decide +kernel
theorem d42_57 : decode jdk_42_method_150_code 57 = .ok (.iload 4, 2) := by decide +kernel
theorem d42_59 : decode jdk_42_method_150_code 59 = .ok (.invokestatic 1051, 3) := by decide +kernel
theorem d42_62 : decode jdk_42_method_150_code 62 = .ok (.putfield 9, 3) := by decide +kernel
theorem d42_65 : decode jdk_42_method_150_code 65 = .ok (.aload_n 0, 1) := by decide +kernel
theorem d42_66 : decode jdk_42_method_150_code 66 = .ok (.aload_n 0, 1) := by decide +kernel
theorem d42_67 : decode jdk_42_method_150_code 67 = .ok (.getfield 9, 3) := by decide +kernel
theorem d42_70 : decode jdk_42_method_150_code 70 = .ok (.iload 4, 2) := by decide +kernel
theorem d42_72 : decode jdk_42_method_150_code 72 = .ok (.invokestatic 47, 3) := by decide +kernel
theorem d42_75 : decode jdk_42_method_150_code 75 = .ok (.putfield 15, 3) := by decide +kernel
theorem d42_78 : decode jdk_42_method_150_code 78 = .ok (.return_, 1) := by decide +kernel
theorem d42_79 : decode jdk_42_method_150_code 79 = .ok (.aload_n 0, 1) := by decide +kernel
theorem d42_80 : decode jdk_42_method_150_code 80 = .ok (.iconst 1, 1) := by decide +kernel
theorem d42_81 : decode jdk_42_method_150_code 81 = .ok (.putfield 15, 3) := by decide +kernel
theorem d42_84 : decode jdk_42_method_150_code 84 = .ok (.aload_n 0, 1) := by decide +kernel
theorem d42_85 : decode jdk_42_method_150_code 85 = .ok (.aload_n 3, 1) := by decide +kernel
theorem d42_86 : decode jdk_42_method_150_code 86 = .ok (.iconst 0, 1) := by decide +kernel
theorem d42_87 : decode jdk_42_method_150_code 87 = .ok (.iload 4, 2) := by decide +kernel
theorem d42_89 : decode jdk_42_method_150_code 89 = .ok (.iconst 1, 1) := by decide +kernel
theorem d42_90 : decode jdk_42_method_150_code 90 = .ok (.ishl, 1) := by decide +kernel
theorem d42_91 : decode jdk_42_method_150_code 91 = .ok (.invokestatic 54, 3) := by decide +kernel
theorem d42_94 : decode jdk_42_method_150_code 94 = .ok (.putfield 9, 3) := by decide +kernel
theorem d42_97 : decode jdk_42_method_150_code 97 = .ok (.return_, 1) := by decide +kernel
theorem pf42 : plainFor (⟨"java/lang/String", "<init>", "(Ljava/lang/AbstractStringBuilder;Ljava/lang/Void;)V"⟩ : MethodName) = true := by first | exact plainFor_of_name (by first | (simp [plainName, overriddenIn]; done) | decide +kernel) | decide +kernel
theorem ef_strinitASB (m : MethodId) (z0 : Addr) (z1 : Addr) : entryFrame m #[(.ref z0), (.ref z1), .null] 5 = mkF m 0 #[.val (.ref z0), .val (.ref z1), .val .null, .unset, .unset] [] := by first | rfl | (simp [entryFrame, mkF, argsToLocals, Value.category, *]; done) | rfl
set_option maxRecDepth 65536 in
set_option maxHeartbeats 40000000 in
theorem rm_strinitASB {l : Launch} {Z : State} {a0 : Array Value} {n0 : Nat} (G : Gl Z a0 n0) {h0 : Heap} (O : Old Z n0 h0) (a : Addr) (b : Addr) (t : Addr) (cs : List Int32) (cap : Nat) (E : Exa Z h0 a "java/lang/String") (FV : Fld Z h0 a "java/lang/String" "value" "[B" .null) (FC : Fld Z h0 a "java/lang/String" "coder" "B" (.int (0 : Int32))) (hge : n0 ≤ a) (B : Sb Z h0 b t cs cap) (htc : cs.length ≤ 37) :
    Ct [] l Z n0 (⟨"java/lang/String", "<init>", "(Ljava/lang/AbstractStringBuilder;Ljava/lang/Void;)V"⟩ : MethodName) jdk_42_method_150_code 5 none ({ frames := 3, cells := 1, slots := 37, locals := 49 } : Room) #[(.ref a), (.ref b), .null] h0 (fun v h => Keep h0 h [a] ∧ v = none ∧ Str Z h a cs) := by
  refine Ct.intro pf42 ?_
  intro p e s m below meth c C
  refine AtW.cast ?_ (ef_strinitASB m a b)
  obtain ⟨E', hr, hlc, FC', FN', FV', E2, A⟩ := id B
  have hcl := B.capl
  have hAlt := E.lt
  refine w_aloadN (q := 1) C rfl rfl d42_0 rfl ?_
  refine w_initO (q := 4) (W := 0) C (G.1 _ (List.mem_of_getElem? (i := 19) rfl)) (G.1 _ (List.mem_of_getElem? (i := 20) rfl)) (G.1 _ (List.mem_of_getElem? (i := 21) rfl)) rfl (by decide) (own_leb rfl) (by decide) d42_1 rfl ?_
  refine w_aloadN (q := 5) C rfl rfl d42_4 rfl ?_
  refine w_callV (q := 8) (argsL := []) (S := []) (W := 0) (cells' := 0) (slots' := 0) (a := b) C E' (G.1 _ (List.mem_of_getElem? (i := 231) rfl)) (G.1 _ (List.mem_of_getElem? (i := 232) rfl)) (w_nf C (G.1 _ (List.mem_of_getElem? (i := 234) rfl))) (G.1 _ (List.mem_of_getElem? (i := 234) rfl)) (G.1 _ (List.mem_of_getElem? (i := 233) rfl)) (G.1 _ (List.mem_of_getElem? (i := 120) rfl)) (G.1 _ (List.mem_of_getElem? (i := 235) rfl)) (by decide) (rm_asbValue G O b t cs cap B) rfl (lenOf pd_33 rfl) rfl (by decide) (own_leb rfl) (by decide) rfl rfl (by decide) (by decide) d42_5 rfl ?_
  rintro _ h73 ⟨eh74, rfl⟩
  rw [eh74]
  show AtW p l e _ s m _ below meth c n0 _ h0 0 0 (mkF m 8 #[.val (.ref a), .val (.ref b), .val .null, .unset, .unset] [(.ref t)])
  refine w_astoreN (q := 9) (L' := #[.val (.ref a), .val (.ref b), .val .null, .val (.ref t), .unset]) C rfl rfl d42_8 rfl ?_
  refine w_aloadN (q := 10) C rfl rfl d42_9 rfl ?_
  refine w_callV (q := 13) (argsL := []) (S := []) (W := 0) (cells' := 0) (slots' := 0) (a := b) C E' (G.1 _ (List.mem_of_getElem? (i := 236) rfl)) (G.1 _ (List.mem_of_getElem? (i := 237) rfl)) (NI.nf (NI.of_sel (args := #[]) (z := ({ cls := "java/lang/AbstractStringBuilder", name := "ensureCapacityInternal", desc := "(I)V" } : Jvm.MethodName)) (mvT C.2.2.2.1 (G.1 _ (List.mem_of_getElem? (i := 145) rfl))))) (G.1 _ (List.mem_of_getElem? (i := 239) rfl)) (G.1 _ (List.mem_of_getElem? (i := 240) rfl)) (G.1 _ (List.mem_of_getElem? (i := 112) rfl)) (G.1 _ (List.mem_of_getElem? (i := 241) rfl)) (by decide) (rm_sbLen G O b t cs cap B) rfl (lenOf pd_11 rfl) rfl (by decide) (own_leb rfl) (by decide) rfl rfl (by decide) (by decide) d42_10 rfl ?_
  rintro _ h75 ⟨eh76, rfl⟩
  rw [eh76]
  show AtW p l e _ s m _ below meth c n0 _ h0 0 0 (mkF m 13 #[.val (.ref a), .val (.ref b), .val .null, .val (.ref t), .unset] [(.int (Int32.ofNat cs.length))])
  refine w_istore (q := 15) (L' := #[.val (.ref a), .val (.ref b), .val .null, .val (.ref t), .val (.int (Int32.ofNat cs.length))]) C rfl d42_13 rfl ?_
  refine w_aloadN (q := 16) C rfl rfl d42_15 rfl ?_
  refine w_callV (q := 19) (argsL := []) (S := []) (W := 0) (cells' := 0) (slots' := 0) (a := b) C E' (G.1 _ (List.mem_of_getElem? (i := 244) rfl)) (G.1 _ (List.mem_of_getElem? (i := 210) rfl)) (w_nf C (G.1 _ (List.mem_of_getElem? (i := 212) rfl))) (G.1 _ (List.mem_of_getElem? (i := 212) rfl)) (G.1 _ (List.mem_of_getElem? (i := 211) rfl)) (G.1 _ (List.mem_of_getElem? (i := 120) rfl)) (G.1 _ (List.mem_of_getElem? (i := 213) rfl)) (by decide) (rm_asbLatin1 G O b t cs cap B) rfl (lenOf pd_10 rfl) rfl (by decide) (own_leb rfl) (by decide) rfl rfl (by decide) (by decide) d42_16 rfl ?_
  rintro _ h77 ⟨eh78, rfl⟩
  rw [eh78]
  show AtW p l e _ s m _ below meth c n0 _ h0 0 0 (mkF m 19 #[.val (.ref a), .val (.ref b), .val .null, .val (.ref t), .val (.int (Int32.ofNat cs.length))] [(.int (1 : Int32))])
  refine w_if_eq_f (q := 22) C d42_19 rfl (by decide) ?_
  refine w_aloadN (q := 23) C rfl rfl d42_22 rfl ?_
  refine w_iconst (q := 24) (v := (0 : Int32)) C (by rfl) d42_23 rfl ?_
  have hta : t ≠ a := Ne.symm (ne_exa E E2 (by decide))
  refine w_putF (q := 27) (host := "") (v' := (.int (0 : Int32))) C (G.1 _ (List.mem_of_getElem? (i := 34) rfl)) Via.refl FC E (Or.inr ⟨(G.1 _ (List.mem_of_getElem? (i := 35) rfl)), rfl, rfl⟩) (G.1 _ (List.mem_of_getElem? (i := 9) rfl)) (ty := .byte) (by decide) rfl rfl hge d42_24 rfl ?_
  intro h79 Wh79
  have K2 : Keep h0 h79 [a] := (Keep.refl h0 [a]).wr Wh79 (Or.inl (List.mem_cons_self ..))
  replace FC := FC.same Wh79
  replace FV := FV.other Wh79 (Or.inr (slot_ne (Or.inr (G.1 _ (List.mem_of_getElem? (i := 37) rfl))) (Or.inr (G.1 _ (List.mem_of_getElem? (i := 35) rfl))) (by decide) (t := .array .byte) (t' := .byte) (by decide) (by decide)))
  replace E := E.wr Wh79
  replace A := A.other Wh79 hta
  replace E2 := E2.wr Wh79
  replace O := O.wr Wh79 hge
  refine w_aloadN (q := 28) C rfl rfl d42_27 rfl ?_
  refine w_aloadN (q := 29) C rfl rfl d42_28 rfl ?_
  refine w_iconst (q := 30) (v := (0 : Int32)) C (by rfl) d42_29 rfl ?_
  refine w_iload (q := 32) C rfl d42_30 rfl ?_
  refine w_callS (q := 35) (argsL := [(.ref t), (.int (0 : Int32)), (.int (Int32.ofNat cs.length))]) (S := [(.ref a)]) (W := 1) (cells' := 1) (slots' := 37) C (G.1 _ (List.mem_of_getElem? (i := 245) rfl)) (G.1 _ (List.mem_of_getElem? (i := 246) rfl)) (G.1 _ (List.mem_of_getElem? (i := 189) rfl)) (G.1 _ (List.mem_of_getElem? (i := 247) rfl)) (by decide) (rm_cpRange G O t _ cs.length A E2 (by simp only [List.length_append, own_bs_len, List.length_replicate]; omega) htc) rfl (lenOf pd_34 rfl) rfl (by decide) (own_leb rfl) (by decide) rfl rfl (by decide) (by decide) d42_32 rfl ?_
  rintro _ h80 ⟨Kh80, u, rfl, hgu, V⟩
  show AtW p l e _ s m _ below meth c n0 _ h80 1 37 (mkF m 35 #[.val (.ref a), .val (.ref b), .val .null, .val (.ref t), .val (.int (Int32.ofNat cs.length))] [(.ref u), (.ref a)])
  rw [List.take_left' (own_bs_len cs)] at V
  replace E := Exa_k0 E Kh80
  replace FC := Fld_k0 FC Kh80
  replace FV := Fld_k0 FV Kh80
  have hua : u ≠ a := Ne.symm (Nat.ne_of_lt (Nat.lt_of_lt_of_le hAlt (Nat.le_trans K2.1 hgu)))
  refine w_putF (q := 38) (host := "") (v' := (.ref u)) C (G.1 _ (List.mem_of_getElem? (i := 36) rfl)) Via.refl FV E (Or.inr ⟨(G.1 _ (List.mem_of_getElem? (i := 37) rfl)), rfl, rfl⟩) (G.1 _ (List.mem_of_getElem? (i := 9) rfl)) (ty := (.array .byte)) (by decide) rfl rfl hge d42_35 rfl ?_
  intro h81 Wh81
  replace FV := FV.same Wh81
  replace FC := FC.other Wh81 (Or.inr (slot_ne (Or.inr (G.1 _ (List.mem_of_getElem? (i := 35) rfl))) (Or.inr (G.1 _ (List.mem_of_getElem? (i := 37) rfl))) (by decide) (t := .byte) (t' := .array .byte) (by decide) (by decide)))
  replace E := E.wr Wh81
  replace V := V.other Wh81 hua
  refine w_goto (q := 97) C d42_38 (by decide) (by decide) ?_
  exact w_retV C rfl d42_97 (by decide) (by decide) ⟨(own_K0 K2 Kh80).wr Wh81 (Or.inl (List.mem_cons_self ..)), rfl, E, hr, u, FC, FV, V⟩
theorem d41_0 : decode jdk_42_method_53_code 0 = .ok (.aload_n 0, 1) := by decide +kernel
theorem d41_1 : decode jdk_42_method_53_code 1 = .ok (.aload_n 1, 1) := by decide +kernel
theorem d41_2 : decode jdk_42_method_53_code 2 = .ok (.aconst_null, 1) := by decide +kernel
theorem d41_3 : decode jdk_42_method_53_code 3 = .ok (.invokespecial 489, 3) := by decide +kernel
theorem d41_6 : decode jdk_42_method_53_code 6 = .ok (.return_, 1) := by decide +kernel
theorem pf41 : plainFor (⟨"java/lang/String", "<init>", "(Ljava/lang/StringBuilder;)V"⟩ : MethodName) = true := by first | exact plainFor_of_name (by first | (simp [plainName, overriddenIn]; done) | decide +kernel) | decide +kernel
theorem ef_strinitSB (m : MethodId) (z0 : Addr) (z1 : Addr) : entryFrame m #[(.ref z0), (.ref z1)] 2 = mkF m 0 #[.val (.ref z0), .val (.ref z1)] [] := by first | rfl | (simp [entryFrame, mkF, argsToLocals, Value.category, *]; done) | rfl
set_option maxRecDepth 65536 in
set_option maxHeartbeats 40000000 in
theorem rm_strinitSB {l : Launch} {Z : State} {a0 : Array Value} {n0 : Nat} (G : Gl Z a0 n0) {h0 : Heap} (O : Old Z n0 h0) (a : Addr) (b : Addr) (t : Addr) (cs : List Int32) (cap : Nat) (E : Exa Z h0 a "java/lang/String") (FV : Fld Z h0 a "java/lang/String" "value" "[B" .null) (FC : Fld Z h0 a "java/lang/String" "coder" "B" (.int (0 : Int32))) (hge : n0 ≤ a) (B : Sb Z h0 b t cs cap) (htc : cs.length ≤ 37) :
    Ct [] l Z n0 (⟨"java/lang/String", "<init>", "(Ljava/lang/StringBuilder;)V"⟩ : MethodName) jdk_42_method_53_code 2 none ({ frames := 4, cells := 1, slots := 37, locals := 65 } : Room) #[(.ref a), (.ref b)] h0 (fun v h => Keep h0 h [a] ∧ v = none ∧ Str Z h a cs) := by
  refine Ct.intro pf41 ?_
  intro p e s m below meth c C
  refine AtW.cast ?_ (ef_strinitSB m a b)
  refine w_aloadN (q := 1) C rfl rfl d41_0 rfl ?_
  refine w_aloadN (q := 2) C rfl rfl d41_1 rfl ?_
  refine w_aconst_null (q := 3) C d41_2 rfl ?_
  refine w_callI (q := 6) (argsL := [(.ref b), .null]) (S := []) (W := 0) (cells' := 1) (slots' := 37) (a := a) C rfl (G.1 _ (List.mem_of_getElem? (i := 228) rfl)) (G.1 _ (List.mem_of_getElem? (i := 229) rfl)) (G.1 _ (List.mem_of_getElem? (i := 10) rfl)) (G.1 _ (List.mem_of_getElem? (i := 230) rfl)) (by decide) (rm_strinitASB G O a b t cs cap E FV FC hge B htc) rfl (lenOf pd_32 rfl) rfl (by decide) (own_leb rfl) (by decide) rfl rfl (by decide) (by decide) d41_3 rfl ?_
  rintro _ h82 ⟨Kh82, rfl, S⟩
  show AtW p l e _ s m _ below meth c n0 _ h82 1 37 (mkF m 6 #[.val (.ref a), .val (.ref b)] [])
  exact w_retV C rfl d41_6 (by decide) (by decide) ⟨Kh82, rfl, S⟩
theorem d40_0 : decode jdk_67_method_42_code 0 = .ok (.new 18, 3) := by decide +kernel
theorem d40_3 : decode jdk_67_method_42_code 3 = .ok (.dup, 1) := by decide +kernel
theorem d40_4 : decode jdk_67_method_42_code 4 = .ok (.aload_n 0, 1) := by decide +kernel
theorem d40_5 : decode jdk_67_method_42_code 5 = .ok (.invokespecial 137, 3) := by decide +kernel
theorem d40_8 : decode jdk_67_method_42_code 8 = .ok (.areturn, 1) := by decide +kernel
theorem pf40 : plainFor (⟨"java/lang/StringBuilder", "toString", "()Ljava/lang/String;"⟩ : MethodName) = true := by first | exact plainFor_of_name (by first | (simp [plainName, overriddenIn]; done) | decide +kernel) | decide +kernel
theorem ef_sbStr (m : MethodId) (z0 : Addr) : entryFrame m #[(.ref z0)] 1 = mkF m 0 #[.val (.ref z0)] [] := by first | rfl | (simp [entryFrame, mkF, argsToLocals, Value.category, *]; done) | rfl
set_option maxRecDepth 65536 in
set_option maxHeartbeats 40000000 in
theorem rm_sbStr {l : Launch} {Z : State} {a0 : Array Value} {n0 : Nat} (G : Gl Z a0 n0) {h0 : Heap} (O : Old Z n0 h0) (b : Addr) (t : Addr) (cs : List Int32) (cap : Nat) (B : Sb Z h0 b t cs cap) (htc : cs.length ≤ 37) :
    Ct [] l Z n0 (⟨"java/lang/StringBuilder", "toString", "()Ljava/lang/String;"⟩ : MethodName) jdk_67_method_42_code 1 (some (.object "java/lang/String")) ({ frames := 5, cells := 2, slots := 41, locals := 79 } : Room) #[(.ref b)] h0 (fun v h => Keep h0 h [] ∧ ∃ a, v = some (.ref a) ∧ h0.size ≤ a ∧ Str Z h a cs) := by
  refine Ct.intro pf40 ?_
  intro p e s m below meth c C
  refine AtW.cast ?_ (ef_sbStr m b)
  refine w_new (q := 3) (cells' := 1) (slots' := 4) C (G.1 _ (List.mem_of_getElem? (i := 224) rfl)) (G.1 _ (List.mem_of_getElem? (i := 9) rfl)) (G.1 _ (List.mem_of_getElem? (i := 10) rfl)) rfl rfl (by decide) (by decide) d40_0 rfl ?_
  intro h83 a g_a Eh83 A_a D_a
  have F_coder_a : Fld Z h83 a "java/lang/String" "coder" "B" (.int (0 : Int32)) := D_a (Or.inr (G.1 _ (List.mem_of_getElem? (i := 35) rfl))) (ty := .byte) (by decide)
  have F_value_a : Fld Z h83 a "java/lang/String" "value" "[B" .null := D_a (Or.inr (G.1 _ (List.mem_of_getElem? (i := 37) rfl))) (ty := (.array .byte)) (by decide)
  have hge : n0 ≤ a := by rw [g_a]; exact Old_le O
  have hg0 : h0.size ≤ a := Nat.le_of_eq g_a.symm
  have K1 : Keep h0 h83 [] := Keep.of_ext Eh83
  replace O := Old_k0 O K1
  refine w_dup (q := 4) C rfl d40_3 rfl ?_
  refine w_aloadN (q := 5) C rfl rfl d40_4 rfl ?_
  refine w_callI (q := 8) (argsL := [(.ref b)]) (S := [(.ref a)]) (W := 1) (cells' := 2) (slots' := 41) (a := a) C rfl (G.1 _ (List.mem_of_getElem? (i := 225) rfl)) (G.1 _ (List.mem_of_getElem? (i := 226) rfl)) (G.1 _ (List.mem_of_getElem? (i := 10) rfl)) (G.1 _ (List.mem_of_getElem? (i := 227) rfl)) (by decide) (rm_strinitSB G O a b t cs cap A_a F_value_a F_coder_a hge (Sb_k0 B K1) htc) rfl (lenOf pd_31 rfl) rfl (by decide) (own_leb rfl) (by decide) rfl rfl (by decide) (by decide) d40_5 rfl ?_
  rintro _ h84 ⟨Kh84, rfl, S⟩
  show AtW p l e _ s m _ below meth c n0 _ h84 2 41 (mkF m 8 #[.val (.ref b)] [(.ref a)])
  exact w_retA C rfl rfl rfl d40_8 (by decide) (by decide) ⟨own_K1 K1 Kh84 hg0, a, rfl, hg0, S⟩
theorem AtS.addOr {p : Program} {l : Launch} {e : Env} {R : Room} {s : State} {m : MethodId} {args : Array Value} {below : List Frame} {meth : Method} {c : Code} {n0 : Nat} {Q : Option Value → Heap → Prop} {h : Heap} {cells slots : Nat} {Z : State} {own : String} {EL : List (String × Nat)} {mk : Nat} {sf : List Addr} {g : JFrame} {x : Addr} (q : x ∈ sf ∨ mk ≤ x) (h2 : x < h.size) (K : AtS p l e R s m args below meth c Z EL own n0 Q mk (x :: sf) h cells slots g) : AtS p l e R s m args below meth c Z EL own n0 Q mk sf h cells slots g :=
  q.elim (fun q => AtS.weak K (Nat.le_refl _) (fun y hy => (List.mem_cons.mp hy).elim (fun e => e ▸ q) id)) (fun q => AtS.add q h2 K)

def own_cap (n : Nat) : Nat := if n ≤ 16 then 16 else if n ≤ 34 then 34 else 70
theorem own_cap_step {n d cap cap' : Nat} (h : cap = own_cap n) (hd : d ≤ 18) (hn : n + d ≤ 70) (hc : cap' = if n + d ≤ cap then cap else 2 * cap + 2) : cap' = own_cap (n + d) := by
  unfold own_cap at *; (repeat' split at h) <;> subst h <;> (repeat' split) <;> (repeat' split at hc) <;> omega
theorem own_cap_fit {n d cap : Nat} (h : cap = own_cap n) (hd : d ≤ 18) (hn : n + d ≤ 70) : n + d ≤ cap ∨ (n + d ≤ 2 * cap + 2 ∧ 2 * cap + 2 ≤ 70) := by
  unfold own_cap at h; (repeat' split at h) <;> subst h <;> omega

theorem own_fldinj {Z : State} {h : Heap} {a : Addr} {C n d : String} {v w : Value} (F : Fld Z h a C n d v) (G : Fld Z h a C n d w) : v = w := by
  obtain ⟨c1, cf1, k1, i1, f1, a1, a2, -, -, -, -, a7⟩ := F
  obtain ⟨c2, cf2, k2, i2, f2, b1, b2, -, -, -, -, b7⟩ := G
  cases a1.symm.trans b1
  cases a2.symm.trans b2
  exact Option.some.inj (a7.symm.trans b7)
theorem own_hst {Z : State} {h : Heap} {a b : Addr} {cs : List Int32} {a0 : Array Value} {n : Nat} (S : Str Z h a cs) (E : Exa Z h b "java/lang/StringBuilder") (wi : (Jvm.Cond.instantiable "java/lang/StringBuilder" n).before a0 Z = true) : ∀ x, Fld Z h a "java/lang/String" "value" "[B" (.ref x) → x ≠ b := fun x F => by
  obtain ⟨-, -, t, -, f2, A⟩ := S
  have e : Value.ref x = .ref t := own_fldinj F f2
  obtain rfl : x = t := by injection e
  obtain ⟨l, k, V⟩ := A
  exact Ne.symm (E.neArv V wi)

def own_al (c : Int32) : Int32 := if (¬ c < 65 ∧ ¬ 90 < c) ∨ (¬ c < 97 ∧ ¬ 122 < c) ∨ (¬ c < 48 ∧ ¬ 57 < c) ∨ c = 45 ∨ c = 95 ∨ c = 46 then 1 else 0
def own_ok (c : Int32) : Prop := (¬ c < 0 ∧ ¬ 255 < c) ∧ own_al c = 1
theorem own_nc1 : ∀ k : Fin 26, (¬ Int32.ofNat (65 + k.val) < 0 ∧ ¬ 255 < Int32.ofNat (65 + k.val)) ∧ own_al (Int32.ofNat (65 + k.val)) = 1 := by decide +kernel
theorem own_nc2 : ∀ k : Fin 26, (¬ Int32.ofNat (97 + k.val) < 0 ∧ ¬ 255 < Int32.ofNat (97 + k.val)) ∧ own_al (Int32.ofNat (97 + k.val)) = 1 := by decide +kernel
theorem own_nc3 : ∀ k : Fin 10, (¬ Int32.ofNat (48 + k.val) < 0 ∧ ¬ 255 < Int32.ofNat (48 + k.val)) ∧ own_al (Int32.ofNat (48 + k.val)) = 1 := by decide +kernel
theorem own_m65 (x : Int32) : ∃ k : Nat, k < 65 ∧ (x &&& (2147483647 : Int32)) % (65 : Int32) = Int32.ofNat k := by
  have e := c_mask x 2147483647 31 (by decide) (by decide)
  have r := c_irem (x &&& 2147483647) 65 65 rfl
  have h0 : 0 ≤ (x &&& 2147483647).toInt := by rw [e]; omega
  have r1 := r.1 h0
  refine ⟨((x &&& 2147483647) % 65).toInt.toNat, by rw [r1]; omega, ?_⟩
  rw [own_eq, own_nat (by rw [r1]; omega), r1]
  omega
theorem own_and8 {x : Int32} (h0 : ¬ x < 0) (h1 : ¬ 255 < x) : x.toInt8.toInt32 &&& 255 = x := own_b8 (P := fun x => x.toInt8.toInt32 &&& 255 = x) (by decide +kernel) h0 h1

theorem d1_0 : decode method_4_code 0 = .ok (.iload_n 0, 1) := by decide +kernel
theorem d1_1 : decode method_4_code 1 = .ok (.ldc 57, 2) := by decide +kernel
theorem d1_3 : decode method_4_code 3 = .ok (.iand, 1) := by decide +kernel
theorem d1_4 : decode method_4_code 4 = .ok (.bipush 65, 2) := by decide +kernel
theorem d1_6 : decode method_4_code 6 = .ok (.irem, 1) := by decide +kernel
theorem d1_7 : decode method_4_code 7 = .ok (.istore_n 1, 1) := by decide +kernel
theorem d1_8 : decode method_4_code 8 = .ok (.iload_n 1, 1) := by decide +kernel
theorem d1_9 : decode method_4_code 9 = .ok (.bipush 26, 2) := by decide +kernel
theorem d1_11 : decode method_4_code 11 = .ok (.if_icmp .ge 9, 3) := by decide +kernel
theorem d1_14 : decode method_4_code 14 = .ok (.bipush 65, 2) := by decide +kernel
theorem d1_16 : decode method_4_code 16 = .ok (.iload_n 1, 1) := by decide +kernel
theorem d1_17 : decode method_4_code 17 = .ok (.iadd, 1) := by decide +kernel
theorem d1_18 : decode method_4_code 18 = .ok (.i2c, 1) := by decide +kernel
theorem d1_19 : decode method_4_code 19 = .ok (.ireturn, 1) := by decide +kernel
theorem d1_20 : decode method_4_code 20 = .ok (.iload_n 1, 1) := by decide +kernel
theorem d1_21 : decode method_4_code 21 = .ok (.bipush 52, 2) := by decide +kernel
theorem d1_23 : decode method_4_code 23 = .ok (.if_icmp .ge 12, 3) := by decide +kernel
theorem d1_26 : decode method_4_code 26 = .ok (.bipush 97, 2) := by decide +kernel
theorem d1_28 : decode method_4_code 28 = .ok (.iload_n 1, 1) := by decide +kernel
theorem d1_29 : decode method_4_code 29 = .ok (.bipush 26, 2) := by decide +kernel
theorem d1_31 : decode method_4_code 31 = .ok (.isub, 1) := by decide +kernel
theorem d1_32 : decode method_4_code 32 = .ok (.iadd, 1) := by decide +kernel
theorem d1_33 : decode method_4_code 33 = .ok (.i2c, 1) := by decide +kernel
theorem d1_34 : decode method_4_code 34 = .ok (.ireturn, 1) := by decide +kernel
theorem d1_35 : decode method_4_code 35 = .ok (.iload_n 1, 1) := by decide +kernel
theorem d1_36 : decode method_4_code 36 = .ok (.bipush 62, 2) := by decide +kernel
theorem d1_38 : decode method_4_code 38 = .ok (.if_icmp .ge 12, 3) := by decide +kernel
theorem d1_41 : decode method_4_code 41 = .ok (.bipush 48, 2) := by decide +kernel
theorem d1_43 : decode method_4_code 43 = .ok (.iload_n 1, 1) := by decide +kernel
theorem d1_44 : decode method_4_code 44 = .ok (.bipush 52, 2) := by decide +kernel
theorem d1_46 : decode method_4_code 46 = .ok (.isub, 1) := by decide +kernel
theorem d1_47 : decode method_4_code 47 = .ok (.iadd, 1) := by decide +kernel
theorem d1_48 : decode method_4_code 48 = .ok (.i2c, 1) := by decide +kernel
theorem d1_49 : decode method_4_code 49 = .ok (.ireturn, 1) := by decide +kernel
theorem d1_50 : decode method_4_code 50 = .ok (.iload_n 1, 1) := by decide +kernel
theorem d1_51 : decode method_4_code 51 = .ok (.bipush 62, 2) := by decide +kernel
theorem d1_53 : decode method_4_code 53 = .ok (.if_icmp .ne 6, 3) := by decide +kernel
theorem d1_56 : decode method_4_code 56 = .ok (.bipush 45, 2) := by decide +kernel
theorem d1_58 : decode method_4_code 58 = .ok (.ireturn, 1) := by decide +kernel
theorem d1_59 : decode method_4_code 59 = .ok (.iload_n 1, 1) := by decide +kernel
theorem d1_60 : decode method_4_code 60 = .ok (.bipush 63, 2) := by decide +kernel
theorem d1_62 : decode method_4_code 62 = .ok (.if_icmp .ne 6, 3) := by decide +kernel
theorem d1_65 : decode method_4_code 65 = .ok (.bipush 95, 2) := by decide +kernel
theorem d1_67 : decode method_4_code 67 = .ok (.ireturn, 1) := by decide +kernel
theorem d1_68 : decode method_4_code 68 = .ok (.bipush 46, 2) := by decide +kernel
theorem d1_70 : decode method_4_code 70 = .ok (.ireturn, 1) := by decide +kernel
theorem pf1 : plainFor (⟨"com/example/condo/condo/tenant/NewKeyToStringPinLaw", "nameChar", "(I)C"⟩ : MethodName) = true := by first | exact plainFor_of_name (by first | (simp [plainName, overriddenIn]; done) | decide +kernel) | decide +kernel
theorem ef_nameChar (m : MethodId) (z0 : Int32) : entryFrame m #[(.int z0)] 2 = mkF m 0 #[.val (.int z0), .unset] [] := by first | rfl | (simp [entryFrame, mkF, argsToLocals, Value.category, *]; done) | rfl
set_option maxRecDepth 65536 in
set_option maxHeartbeats 40000000 in
theorem rm_nameChar {l : Launch} {Z : State} {a0 : Array Value} {n0 : Nat} (G : Gl Z a0 n0) {h0 : Heap} (O : Old Z n0 h0) (x : Int32) :
    Ct [] l Z n0 (⟨"com/example/condo/condo/tenant/NewKeyToStringPinLaw", "nameChar", "(I)C"⟩ : MethodName) method_4_code 2 (some .char) ({ frames := 0, cells := 0, slots := 0, locals := 0 } : Room) #[(.int x)] h0 (fun v h => h = h0 ∧ ∃ c : Int32, v = some (.int c) ∧ own_ok c) := by
  refine Ct.intro pf1 ?_
  intro p e s m below meth c C
  refine AtW.cast ?_ (ef_nameChar m x)
  refine w_iloadN (q := 1) C rfl d1_0 rfl ?_
  refine w_ldcI (q := 3) C (G.1 _ (List.mem_of_getElem? (i := 4) rfl)) d1_1 rfl ?_
  refine w_iand (q := 4) C rfl d1_3 rfl ?_
  refine w_bipush (q := 6) (v := (65 : Int32)) C (by rfl) d1_4 rfl ?_
  refine w_irem (q := 7) C (by decide) rfl d1_6 rfl ?_
  obtain ⟨k, hk, ek⟩ := own_m65 x
  rw [show ((x &&& (2147483647 : Int32)) % (65 : Int32)) = (Int32.ofNat k) from ek]
  refine w_istoreN (q := 8) (L' := #[.val (.int x), .val (.int (Int32.ofNat k))]) C rfl d1_7 rfl ?_
  refine w_iloadN (q := 9) C rfl d1_8 rfl ?_
  refine w_bipush (q := 11) (v := (26 : Int32)) C (by rfl) d1_9 rfl ?_
  by_cases q1 : (Int32.ofNat k) < (26 : Int32)
  · refine w_icmp_ge_f (q := 14) C d1_11 rfl q1 ?_
    rw [show (26 : Int32) = Int32.ofNat 26 from rfl, own_nlt (by omega) (by omega)] at q1
    have hp := own_nc1 ⟨k, q1⟩
    refine w_bipush (q := 16) (v := (65 : Int32)) C (by rfl) d1_14 rfl ?_
    refine w_iloadN (q := 17) C rfl d1_16 rfl ?_
    refine w_iadd (q := 18) C rfl d1_17 rfl ?_
    rw [show ((65 : Int32) + (Int32.ofNat k)) = (Int32.ofNat (65 + k)) from own_add 65 k]
    refine w_i2c (q := 19) C rfl d1_18 rfl ?_
    rw [show ((Int32.ofNat (65 + k)).toUInt32.toUInt16.toUInt32.toInt32) = (Int32.ofNat (65 + k)) from own_i2c hp.1]
    exact w_retZ (z := (Int32.ofNat (65 + k))) C (t := .char) rfl (by simp) (own_nar hp.1.1 hp.1.2) d1_19 (by decide) (by decide) ⟨rfl, _, rfl, hp⟩
  · refine w_icmp_ge_t (q := 20) C d1_11 (by decide) (by decide) q1 ?_
    refine w_iloadN (q := 21) C rfl d1_20 rfl ?_
    refine w_bipush (q := 23) (v := (52 : Int32)) C (by rfl) d1_21 rfl ?_
    by_cases q2 : (Int32.ofNat k) < (52 : Int32)
    · refine w_icmp_ge_f (q := 26) C d1_23 rfl q2 ?_
      rw [show (52 : Int32) = Int32.ofNat 52 from rfl, own_nlt (by omega) (by omega)] at q2
      rw [show (26 : Int32) = Int32.ofNat 26 from rfl, own_nlt (by omega) (by omega)] at q1
      have hp := own_nc2 ⟨k - 26, by omega⟩
      refine w_bipush (q := 28) (v := (97 : Int32)) C (by rfl) d1_26 rfl ?_
      refine w_iloadN (q := 29) C rfl d1_28 rfl ?_
      refine w_bipush (q := 31) (v := (26 : Int32)) C (by rfl) d1_29 rfl ?_
      refine w_isub (q := 32) C rfl d1_31 rfl ?_
      rw [show ((Int32.ofNat k) - (26 : Int32)) = (Int32.ofNat (k - 26)) from own_sub (b := 26) (by omega)]
      refine w_iadd (q := 33) C rfl d1_32 rfl ?_
      rw [show ((97 : Int32) + (Int32.ofNat (k - 26))) = (Int32.ofNat (97 + (k - 26))) from own_add 97 (k - 26)]
      refine w_i2c (q := 34) C rfl d1_33 rfl ?_
      rw [show ((Int32.ofNat (97 + (k - 26))).toUInt32.toUInt16.toUInt32.toInt32) = (Int32.ofNat (97 + (k - 26))) from own_i2c hp.1]
      exact w_retZ (z := (Int32.ofNat (97 + (k - 26)))) C (t := .char) rfl (by simp) (own_nar hp.1.1 hp.1.2) d1_34 (by decide) (by decide) ⟨rfl, _, rfl, hp⟩
    · refine w_icmp_ge_t (q := 35) C d1_23 (by decide) (by decide) q2 ?_
      refine w_iloadN (q := 36) C rfl d1_35 rfl ?_
      refine w_bipush (q := 38) (v := (62 : Int32)) C (by rfl) d1_36 rfl ?_
      by_cases q3 : (Int32.ofNat k) < (62 : Int32)
      · refine w_icmp_ge_f (q := 41) C d1_38 rfl q3 ?_
        rw [show (62 : Int32) = Int32.ofNat 62 from rfl, own_nlt (by omega) (by omega)] at q3
        rw [show (52 : Int32) = Int32.ofNat 52 from rfl, own_nlt (by omega) (by omega)] at q2
        have hp := own_nc3 ⟨k - 52, by omega⟩
        refine w_bipush (q := 43) (v := (48 : Int32)) C (by rfl) d1_41 rfl ?_
        refine w_iloadN (q := 44) C rfl d1_43 rfl ?_
        refine w_bipush (q := 46) (v := (52 : Int32)) C (by rfl) d1_44 rfl ?_
        refine w_isub (q := 47) C rfl d1_46 rfl ?_
        rw [show ((Int32.ofNat k) - (52 : Int32)) = (Int32.ofNat (k - 52)) from own_sub (b := 52) (by omega)]
        refine w_iadd (q := 48) C rfl d1_47 rfl ?_
        rw [show ((48 : Int32) + (Int32.ofNat (k - 52))) = (Int32.ofNat (48 + (k - 52))) from own_add 48 (k - 52)]
        refine w_i2c (q := 49) C rfl d1_48 rfl ?_
        rw [show ((Int32.ofNat (48 + (k - 52))).toUInt32.toUInt16.toUInt32.toInt32) = (Int32.ofNat (48 + (k - 52))) from own_i2c hp.1]
        exact w_retZ (z := (Int32.ofNat (48 + (k - 52)))) C (t := .char) rfl (by simp) (own_nar hp.1.1 hp.1.2) d1_49 (by decide) (by decide) ⟨rfl, _, rfl, hp⟩
      · refine w_icmp_ge_t (q := 50) C d1_38 (by decide) (by decide) q3 ?_
        refine w_iloadN (q := 51) C rfl d1_50 rfl ?_
        refine w_bipush (q := 53) (v := (62 : Int32)) C (by rfl) d1_51 rfl ?_
        by_cases q4 : (Int32.ofNat k) = (62 : Int32)
        · refine w_icmp_ne_f (q := 56) C d1_53 rfl q4 ?_
          refine w_bipush (q := 58) (v := (45 : Int32)) C (by rfl) d1_56 rfl ?_
          exact w_retZ (z := (45 : Int32)) C (t := .char) rfl (by simp) (by decide) d1_58 (by decide) (by decide) ⟨rfl, 45, rfl, by unfold own_ok; decide⟩
        · refine w_icmp_ne_t (q := 59) C d1_53 (by decide) (by decide) q4 ?_
          refine w_iloadN (q := 60) C rfl d1_59 rfl ?_
          refine w_bipush (q := 62) (v := (63 : Int32)) C (by rfl) d1_60 rfl ?_
          by_cases q5 : (Int32.ofNat k) = (63 : Int32)
          · refine w_icmp_ne_f (q := 65) C d1_62 rfl q5 ?_
            refine w_bipush (q := 67) (v := (95 : Int32)) C (by rfl) d1_65 rfl ?_
            exact w_retZ (z := (95 : Int32)) C (t := .char) rfl (by simp) (by decide) d1_67 (by decide) (by decide) ⟨rfl, 95, rfl, by unfold own_ok; decide⟩
          · refine w_icmp_ne_t (q := 68) C d1_62 (by decide) (by decide) q5 ?_
            refine w_bipush (q := 70) (v := (46 : Int32)) C (by rfl) d1_68 rfl ?_
            exact w_retZ (z := (46 : Int32)) C (t := .char) rfl (by simp) (by decide) d1_70 (by decide) (by decide) ⟨rfl, 46, rfl, by unfold own_ok; decide⟩
theorem d18_0 : decode prog_25_method_2_code 0 = .ok (.iload_n 0, 1) := by decide +kernel
theorem d18_1 : decode prog_25_method_2_code 1 = .ok (.bipush 65, 2) := by decide +kernel
theorem d18_3 : decode prog_25_method_2_code 3 = .ok (.if_icmp .lt 9, 3) := by decide +kernel
theorem d18_6 : decode prog_25_method_2_code 6 = .ok (.iload_n 0, 1) := by decide +kernel
theorem d18_7 : decode prog_25_method_2_code 7 = .ok (.bipush 90, 2) := by decide +kernel
theorem d18_9 : decode prog_25_method_2_code 9 = .ok (.if_icmp .le 45, 3) := by decide +kernel
theorem d18_12 : decode prog_25_method_2_code 12 = .ok (.iload_n 0, 1) := by decide +kernel
theorem d18_13 : decode prog_25_method_2_code 13 = .ok (.bipush 97, 2) := by decide +kernel
theorem d18_15 : decode prog_25_method_2_code 15 = .ok (.if_icmp .lt 9, 3) := by decide +kernel
theorem d18_18 : decode prog_25_method_2_code 18 = .ok (.iload_n 0, 1) := by decide +kernel
theorem d18_19 : decode prog_25_method_2_code 19 = .ok (.bipush 122, 2) := by decide +kernel
theorem d18_21 : decode prog_25_method_2_code 21 = .ok (.if_icmp .le 33, 3) := by decide +kernel
theorem d18_24 : decode prog_25_method_2_code 24 = .ok (.iload_n 0, 1) := by decide +kernel
theorem d18_25 : decode prog_25_method_2_code 25 = .ok (.bipush 48, 2) := by decide +kernel
theorem d18_27 : decode prog_25_method_2_code 27 = .ok (.if_icmp .lt 9, 3) := by decide +kernel
theorem d18_30 : decode prog_25_method_2_code 30 = .ok (.iload_n 0, 1) := by decide +kernel
theorem d18_31 : decode prog_25_method_2_code 31 = .ok (.bipush 57, 2) := by decide +kernel
theorem d18_33 : decode prog_25_method_2_code 33 = .ok (.if_icmp .le 21, 3) := by decide +kernel
theorem d18_36 : decode prog_25_method_2_code 36 = .ok (.iload_n 0, 1) := by decide +kernel
theorem d18_37 : decode prog_25_method_2_code 37 = .ok (.bipush 45, 2) := by decide +kernel
theorem d18_39 : decode prog_25_method_2_code 39 = .ok (.if_icmp .eq 15, 3) := by decide +kernel
theorem d18_42 : decode prog_25_method_2_code 42 = .ok (.iload_n 0, 1) := by decide +kernel
theorem d18_43 : decode prog_25_method_2_code 43 = .ok (.bipush 95, 2) := by decide +kernel
theorem d18_45 : decode prog_25_method_2_code 45 = .ok (.if_icmp .eq 9, 3) := by decide +kernel
theorem d18_48 : decode prog_25_method_2_code 48 = .ok (.iload_n 0, 1) := by decide +kernel
theorem d18_49 : decode prog_25_method_2_code 49 = .ok (.bipush 46, 2) := by decide +kernel
theorem d18_51 : decode prog_25_method_2_code 51 = .ok (.if_icmp .ne 7, 3) := by decide +kernel
theorem d18_54 : decode prog_25_method_2_code 54 = .ok (.iconst 1, 1) := by decide +kernel
theorem d18_55 : decode prog_25_method_2_code 55 = .ok (.goto 4, 3) := by decide +kernel
theorem d18_58 : decode prog_25_method_2_code 58 = .ok (.iconst 0, 1) := by decide +kernel
theorem d18_59 : decode prog_25_method_2_code 59 = .ok (.ireturn, 1) := by decide +kernel
theorem pf18 : plainFor (⟨"com/example/condo/condo/tenant/TenantName", "isAllowed", "(I)Z"⟩ : MethodName) = true := by first | exact plainFor_of_name (by first | (simp [plainName, overriddenIn]; done) | decide +kernel) | decide +kernel
theorem ef_isAl (m : MethodId) (z0 : Int32) : entryFrame m #[(.int z0)] 1 = mkF m 0 #[.val (.int z0)] [] := by first | rfl | (simp [entryFrame, mkF, argsToLocals, Value.category, *]; done) | rfl
set_option maxRecDepth 65536 in
set_option maxHeartbeats 40000000 in
theorem rm_isAl {l : Launch} {Z : State} {a0 : Array Value} {n0 : Nat} (G : Gl Z a0 n0) {h0 : Heap} (O : Old Z n0 h0) (ch : Int32) :
    Ct [] l Z n0 (⟨"com/example/condo/condo/tenant/TenantName", "isAllowed", "(I)Z"⟩ : MethodName) prog_25_method_2_code 1 (some .boolean) ({ frames := 0, cells := 0, slots := 0, locals := 0 } : Room) #[(.int ch)] h0 (fun v h => h = h0 ∧ v = some (.int (own_al ch))) := by
  refine Ct.intro pf18 ?_
  intro p e s m below meth c C
  refine AtW.cast ?_ (ef_isAl m ch)
  refine w_iloadN (q := 1) C rfl d18_0 rfl ?_
  refine w_bipush (q := 3) (v := (65 : Int32)) C (by rfl) d18_1 rfl ?_
  by_cases hc85 : ch < (65 : Int32)
  · refine w_icmp_lt_t (q := 12) C d18_3 (by decide) (by decide) hc85 ?_
    refine w_iloadN (q := 13) C rfl d18_12 rfl ?_
    refine w_bipush (q := 15) (v := (97 : Int32)) C (by rfl) d18_13 rfl ?_
    by_cases hc86 : ch < (97 : Int32)
    · refine w_icmp_lt_t (q := 24) C d18_15 (by decide) (by decide) hc86 ?_
      refine w_iloadN (q := 25) C rfl d18_24 rfl ?_
      refine w_bipush (q := 27) (v := (48 : Int32)) C (by rfl) d18_25 rfl ?_
      by_cases hc87 : ch < (48 : Int32)
      · refine w_icmp_lt_t (q := 36) C d18_27 (by decide) (by decide) hc87 ?_
        refine w_iloadN (q := 37) C rfl d18_36 rfl ?_
        refine w_bipush (q := 39) (v := (45 : Int32)) C (by rfl) d18_37 rfl ?_
        by_cases hc88 : ch = (45 : Int32)
        · refine w_icmp_eq_t (q := 54) C d18_39 (by decide) (by decide) hc88 ?_
          refine w_iconst (q := 55) (v := (1 : Int32)) C (by rfl) d18_54 rfl ?_
          refine w_goto (q := 59) C d18_55 (by decide) (by decide) ?_
          exact w_retZ (z := (1 : Int32)) C (t := .boolean) rfl (by simp) (by decide) d18_59 (by decide) (by decide) ⟨rfl, by simp [own_al, *]⟩
        · refine w_icmp_eq_f (q := 42) C d18_39 rfl hc88 ?_
          refine w_iloadN (q := 43) C rfl d18_42 rfl ?_
          refine w_bipush (q := 45) (v := (95 : Int32)) C (by rfl) d18_43 rfl ?_
          by_cases hc89 : ch = (95 : Int32)
          · refine w_icmp_eq_t (q := 54) C d18_45 (by decide) (by decide) hc89 ?_
            refine w_iconst (q := 55) (v := (1 : Int32)) C (by rfl) d18_54 rfl ?_
            refine w_goto (q := 59) C d18_55 (by decide) (by decide) ?_
            exact w_retZ (z := (1 : Int32)) C (t := .boolean) rfl (by simp) (by decide) d18_59 (by decide) (by decide) ⟨rfl, by simp [own_al, *]⟩
          · refine w_icmp_eq_f (q := 48) C d18_45 rfl hc89 ?_
            refine w_iloadN (q := 49) C rfl d18_48 rfl ?_
            refine w_bipush (q := 51) (v := (46 : Int32)) C (by rfl) d18_49 rfl ?_
            by_cases hc90 : ch = (46 : Int32)
            · refine w_icmp_ne_f (q := 54) C d18_51 rfl hc90 ?_
              refine w_iconst (q := 55) (v := (1 : Int32)) C (by rfl) d18_54 rfl ?_
              refine w_goto (q := 59) C d18_55 (by decide) (by decide) ?_
              exact w_retZ (z := (1 : Int32)) C (t := .boolean) rfl (by simp) (by decide) d18_59 (by decide) (by decide) ⟨rfl, by simp [own_al, *]⟩
            · refine w_icmp_ne_t (q := 58) C d18_51 (by decide) (by decide) hc90 ?_
              refine w_iconst (q := 59) (v := (0 : Int32)) C (by rfl) d18_58 rfl ?_
              exact w_retZ (z := (0 : Int32)) C (t := .boolean) rfl (by simp) (by decide) d18_59 (by decide) (by decide) ⟨rfl, by simp [own_al, *]⟩
      · refine w_icmp_lt_f (q := 30) C d18_27 rfl hc87 ?_
        refine w_iloadN (q := 31) C rfl d18_30 rfl ?_
        refine w_bipush (q := 33) (v := (57 : Int32)) C (by rfl) d18_31 rfl ?_
        by_cases hc91 : (57 : Int32) < ch
        · refine w_icmp_le_f (q := 36) C d18_33 rfl hc91 ?_
          refine w_iloadN (q := 37) C rfl d18_36 rfl ?_
          refine w_bipush (q := 39) (v := (45 : Int32)) C (by rfl) d18_37 rfl ?_
          by_cases hc92 : ch = (45 : Int32)
          · refine w_icmp_eq_t (q := 54) C d18_39 (by decide) (by decide) hc92 ?_
            refine w_iconst (q := 55) (v := (1 : Int32)) C (by rfl) d18_54 rfl ?_
            refine w_goto (q := 59) C d18_55 (by decide) (by decide) ?_
            exact w_retZ (z := (1 : Int32)) C (t := .boolean) rfl (by simp) (by decide) d18_59 (by decide) (by decide) ⟨rfl, by simp [own_al, *]⟩
          · refine w_icmp_eq_f (q := 42) C d18_39 rfl hc92 ?_
            refine w_iloadN (q := 43) C rfl d18_42 rfl ?_
            refine w_bipush (q := 45) (v := (95 : Int32)) C (by rfl) d18_43 rfl ?_
            by_cases hc93 : ch = (95 : Int32)
            · refine w_icmp_eq_t (q := 54) C d18_45 (by decide) (by decide) hc93 ?_
              refine w_iconst (q := 55) (v := (1 : Int32)) C (by rfl) d18_54 rfl ?_
              refine w_goto (q := 59) C d18_55 (by decide) (by decide) ?_
              exact w_retZ (z := (1 : Int32)) C (t := .boolean) rfl (by simp) (by decide) d18_59 (by decide) (by decide) ⟨rfl, by simp [own_al, *]⟩
            · refine w_icmp_eq_f (q := 48) C d18_45 rfl hc93 ?_
              refine w_iloadN (q := 49) C rfl d18_48 rfl ?_
              refine w_bipush (q := 51) (v := (46 : Int32)) C (by rfl) d18_49 rfl ?_
              by_cases hc94 : ch = (46 : Int32)
              · refine w_icmp_ne_f (q := 54) C d18_51 rfl hc94 ?_
                refine w_iconst (q := 55) (v := (1 : Int32)) C (by rfl) d18_54 rfl ?_
                refine w_goto (q := 59) C d18_55 (by decide) (by decide) ?_
                exact w_retZ (z := (1 : Int32)) C (t := .boolean) rfl (by simp) (by decide) d18_59 (by decide) (by decide) ⟨rfl, by simp [own_al, *]⟩
              · refine w_icmp_ne_t (q := 58) C d18_51 (by decide) (by decide) hc94 ?_
                refine w_iconst (q := 59) (v := (0 : Int32)) C (by rfl) d18_58 rfl ?_
                exact w_retZ (z := (0 : Int32)) C (t := .boolean) rfl (by simp) (by decide) d18_59 (by decide) (by decide) ⟨rfl, by simp [own_al, *]⟩
        · refine w_icmp_le_t (q := 54) C d18_33 (by decide) (by decide) hc91 ?_
          refine w_iconst (q := 55) (v := (1 : Int32)) C (by rfl) d18_54 rfl ?_
          refine w_goto (q := 59) C d18_55 (by decide) (by decide) ?_
          exact w_retZ (z := (1 : Int32)) C (t := .boolean) rfl (by simp) (by decide) d18_59 (by decide) (by decide) ⟨rfl, by simp [own_al, *]⟩
    · refine w_icmp_lt_f (q := 18) C d18_15 rfl hc86 ?_
      refine w_iloadN (q := 19) C rfl d18_18 rfl ?_
      refine w_bipush (q := 21) (v := (122 : Int32)) C (by rfl) d18_19 rfl ?_
      by_cases hc95 : (122 : Int32) < ch
      · refine w_icmp_le_f (q := 24) C d18_21 rfl hc95 ?_
        refine w_iloadN (q := 25) C rfl d18_24 rfl ?_
        refine w_bipush (q := 27) (v := (48 : Int32)) C (by rfl) d18_25 rfl ?_
        by_cases hc96 : ch < (48 : Int32)
        · refine w_icmp_lt_t (q := 36) C d18_27 (by decide) (by decide) hc96 ?_
          refine w_iloadN (q := 37) C rfl d18_36 rfl ?_
          refine w_bipush (q := 39) (v := (45 : Int32)) C (by rfl) d18_37 rfl ?_
          by_cases hc97 : ch = (45 : Int32)
          · refine w_icmp_eq_t (q := 54) C d18_39 (by decide) (by decide) hc97 ?_
            refine w_iconst (q := 55) (v := (1 : Int32)) C (by rfl) d18_54 rfl ?_
            refine w_goto (q := 59) C d18_55 (by decide) (by decide) ?_
            exact w_retZ (z := (1 : Int32)) C (t := .boolean) rfl (by simp) (by decide) d18_59 (by decide) (by decide) ⟨rfl, by simp [own_al, *]⟩
          · refine w_icmp_eq_f (q := 42) C d18_39 rfl hc97 ?_
            refine w_iloadN (q := 43) C rfl d18_42 rfl ?_
            refine w_bipush (q := 45) (v := (95 : Int32)) C (by rfl) d18_43 rfl ?_
            by_cases hc98 : ch = (95 : Int32)
            · refine w_icmp_eq_t (q := 54) C d18_45 (by decide) (by decide) hc98 ?_
              refine w_iconst (q := 55) (v := (1 : Int32)) C (by rfl) d18_54 rfl ?_
              refine w_goto (q := 59) C d18_55 (by decide) (by decide) ?_
              exact w_retZ (z := (1 : Int32)) C (t := .boolean) rfl (by simp) (by decide) d18_59 (by decide) (by decide) ⟨rfl, by simp [own_al, *]⟩
            · refine w_icmp_eq_f (q := 48) C d18_45 rfl hc98 ?_
              refine w_iloadN (q := 49) C rfl d18_48 rfl ?_
              refine w_bipush (q := 51) (v := (46 : Int32)) C (by rfl) d18_49 rfl ?_
              by_cases hc99 : ch = (46 : Int32)
              · refine w_icmp_ne_f (q := 54) C d18_51 rfl hc99 ?_
                refine w_iconst (q := 55) (v := (1 : Int32)) C (by rfl) d18_54 rfl ?_
                refine w_goto (q := 59) C d18_55 (by decide) (by decide) ?_
                exact w_retZ (z := (1 : Int32)) C (t := .boolean) rfl (by simp) (by decide) d18_59 (by decide) (by decide) ⟨rfl, by simp [own_al, *]⟩
              · refine w_icmp_ne_t (q := 58) C d18_51 (by decide) (by decide) hc99 ?_
                refine w_iconst (q := 59) (v := (0 : Int32)) C (by rfl) d18_58 rfl ?_
                exact w_retZ (z := (0 : Int32)) C (t := .boolean) rfl (by simp) (by decide) d18_59 (by decide) (by decide) ⟨rfl, by simp [own_al, *]⟩
        · refine w_icmp_lt_f (q := 30) C d18_27 rfl hc96 ?_
          refine w_iloadN (q := 31) C rfl d18_30 rfl ?_
          refine w_bipush (q := 33) (v := (57 : Int32)) C (by rfl) d18_31 rfl ?_
          by_cases hc100 : (57 : Int32) < ch
          · refine w_icmp_le_f (q := 36) C d18_33 rfl hc100 ?_
            refine w_iloadN (q := 37) C rfl d18_36 rfl ?_
            refine w_bipush (q := 39) (v := (45 : Int32)) C (by rfl) d18_37 rfl ?_
            by_cases hc101 : ch = (45 : Int32)
            · refine w_icmp_eq_t (q := 54) C d18_39 (by decide) (by decide) hc101 ?_
              refine w_iconst (q := 55) (v := (1 : Int32)) C (by rfl) d18_54 rfl ?_
              refine w_goto (q := 59) C d18_55 (by decide) (by decide) ?_
              exact w_retZ (z := (1 : Int32)) C (t := .boolean) rfl (by simp) (by decide) d18_59 (by decide) (by decide) ⟨rfl, by simp [own_al, *]⟩
            · refine w_icmp_eq_f (q := 42) C d18_39 rfl hc101 ?_
              refine w_iloadN (q := 43) C rfl d18_42 rfl ?_
              refine w_bipush (q := 45) (v := (95 : Int32)) C (by rfl) d18_43 rfl ?_
              by_cases hc102 : ch = (95 : Int32)
              · refine w_icmp_eq_t (q := 54) C d18_45 (by decide) (by decide) hc102 ?_
                refine w_iconst (q := 55) (v := (1 : Int32)) C (by rfl) d18_54 rfl ?_
                refine w_goto (q := 59) C d18_55 (by decide) (by decide) ?_
                exact w_retZ (z := (1 : Int32)) C (t := .boolean) rfl (by simp) (by decide) d18_59 (by decide) (by decide) ⟨rfl, by simp [own_al, *]⟩
              · refine w_icmp_eq_f (q := 48) C d18_45 rfl hc102 ?_
                refine w_iloadN (q := 49) C rfl d18_48 rfl ?_
                refine w_bipush (q := 51) (v := (46 : Int32)) C (by rfl) d18_49 rfl ?_
                by_cases hc103 : ch = (46 : Int32)
                · refine w_icmp_ne_f (q := 54) C d18_51 rfl hc103 ?_
                  refine w_iconst (q := 55) (v := (1 : Int32)) C (by rfl) d18_54 rfl ?_
                  refine w_goto (q := 59) C d18_55 (by decide) (by decide) ?_
                  exact w_retZ (z := (1 : Int32)) C (t := .boolean) rfl (by simp) (by decide) d18_59 (by decide) (by decide) ⟨rfl, by simp [own_al, *]⟩
                · refine w_icmp_ne_t (q := 58) C d18_51 (by decide) (by decide) hc103 ?_
                  refine w_iconst (q := 59) (v := (0 : Int32)) C (by rfl) d18_58 rfl ?_
                  exact w_retZ (z := (0 : Int32)) C (t := .boolean) rfl (by simp) (by decide) d18_59 (by decide) (by decide) ⟨rfl, by simp [own_al, *]⟩
          · refine w_icmp_le_t (q := 54) C d18_33 (by decide) (by decide) hc100 ?_
            refine w_iconst (q := 55) (v := (1 : Int32)) C (by rfl) d18_54 rfl ?_
            refine w_goto (q := 59) C d18_55 (by decide) (by decide) ?_
            exact w_retZ (z := (1 : Int32)) C (t := .boolean) rfl (by simp) (by decide) d18_59 (by decide) (by decide) ⟨rfl, by simp [own_al, *]⟩
      · refine w_icmp_le_t (q := 54) C d18_21 (by decide) (by decide) hc95 ?_
        refine w_iconst (q := 55) (v := (1 : Int32)) C (by rfl) d18_54 rfl ?_
        refine w_goto (q := 59) C d18_55 (by decide) (by decide) ?_
        exact w_retZ (z := (1 : Int32)) C (t := .boolean) rfl (by simp) (by decide) d18_59 (by decide) (by decide) ⟨rfl, by simp [own_al, *]⟩
  · refine w_icmp_lt_f (q := 6) C d18_3 rfl hc85 ?_
    refine w_iloadN (q := 7) C rfl d18_6 rfl ?_
    refine w_bipush (q := 9) (v := (90 : Int32)) C (by rfl) d18_7 rfl ?_
    by_cases hc104 : (90 : Int32) < ch
    · refine w_icmp_le_f (q := 12) C d18_9 rfl hc104 ?_
      refine w_iloadN (q := 13) C rfl d18_12 rfl ?_
      refine w_bipush (q := 15) (v := (97 : Int32)) C (by rfl) d18_13 rfl ?_
      by_cases hc105 : ch < (97 : Int32)
      · refine w_icmp_lt_t (q := 24) C d18_15 (by decide) (by decide) hc105 ?_
        refine w_iloadN (q := 25) C rfl d18_24 rfl ?_
        refine w_bipush (q := 27) (v := (48 : Int32)) C (by rfl) d18_25 rfl ?_
        by_cases hc106 : ch < (48 : Int32)
        · refine w_icmp_lt_t (q := 36) C d18_27 (by decide) (by decide) hc106 ?_
          refine w_iloadN (q := 37) C rfl d18_36 rfl ?_
          refine w_bipush (q := 39) (v := (45 : Int32)) C (by rfl) d18_37 rfl ?_
          by_cases hc107 : ch = (45 : Int32)
          · refine w_icmp_eq_t (q := 54) C d18_39 (by decide) (by decide) hc107 ?_
            refine w_iconst (q := 55) (v := (1 : Int32)) C (by rfl) d18_54 rfl ?_
            refine w_goto (q := 59) C d18_55 (by decide) (by decide) ?_
            exact w_retZ (z := (1 : Int32)) C (t := .boolean) rfl (by simp) (by decide) d18_59 (by decide) (by decide) ⟨rfl, by simp [own_al, *]⟩
          · refine w_icmp_eq_f (q := 42) C d18_39 rfl hc107 ?_
            refine w_iloadN (q := 43) C rfl d18_42 rfl ?_
            refine w_bipush (q := 45) (v := (95 : Int32)) C (by rfl) d18_43 rfl ?_
            by_cases hc108 : ch = (95 : Int32)
            · refine w_icmp_eq_t (q := 54) C d18_45 (by decide) (by decide) hc108 ?_
              refine w_iconst (q := 55) (v := (1 : Int32)) C (by rfl) d18_54 rfl ?_
              refine w_goto (q := 59) C d18_55 (by decide) (by decide) ?_
              exact w_retZ (z := (1 : Int32)) C (t := .boolean) rfl (by simp) (by decide) d18_59 (by decide) (by decide) ⟨rfl, by simp [own_al, *]⟩
            · refine w_icmp_eq_f (q := 48) C d18_45 rfl hc108 ?_
              refine w_iloadN (q := 49) C rfl d18_48 rfl ?_
              refine w_bipush (q := 51) (v := (46 : Int32)) C (by rfl) d18_49 rfl ?_
              by_cases hc109 : ch = (46 : Int32)
              · refine w_icmp_ne_f (q := 54) C d18_51 rfl hc109 ?_
                refine w_iconst (q := 55) (v := (1 : Int32)) C (by rfl) d18_54 rfl ?_
                refine w_goto (q := 59) C d18_55 (by decide) (by decide) ?_
                exact w_retZ (z := (1 : Int32)) C (t := .boolean) rfl (by simp) (by decide) d18_59 (by decide) (by decide) ⟨rfl, by simp [own_al, *]⟩
              · refine w_icmp_ne_t (q := 58) C d18_51 (by decide) (by decide) hc109 ?_
                refine w_iconst (q := 59) (v := (0 : Int32)) C (by rfl) d18_58 rfl ?_
                exact w_retZ (z := (0 : Int32)) C (t := .boolean) rfl (by simp) (by decide) d18_59 (by decide) (by decide) ⟨rfl, by simp [own_al, *]⟩
        · refine w_icmp_lt_f (q := 30) C d18_27 rfl hc106 ?_
          refine w_iloadN (q := 31) C rfl d18_30 rfl ?_
          refine w_bipush (q := 33) (v := (57 : Int32)) C (by rfl) d18_31 rfl ?_
          by_cases hc110 : (57 : Int32) < ch
          · refine w_icmp_le_f (q := 36) C d18_33 rfl hc110 ?_
            refine w_iloadN (q := 37) C rfl d18_36 rfl ?_
            refine w_bipush (q := 39) (v := (45 : Int32)) C (by rfl) d18_37 rfl ?_
            by_cases hc111 : ch = (45 : Int32)
            · refine w_icmp_eq_t (q := 54) C d18_39 (by decide) (by decide) hc111 ?_
              refine w_iconst (q := 55) (v := (1 : Int32)) C (by rfl) d18_54 rfl ?_
              refine w_goto (q := 59) C d18_55 (by decide) (by decide) ?_
              exact w_retZ (z := (1 : Int32)) C (t := .boolean) rfl (by simp) (by decide) d18_59 (by decide) (by decide) ⟨rfl, by simp [own_al, *]⟩
            · refine w_icmp_eq_f (q := 42) C d18_39 rfl hc111 ?_
              refine w_iloadN (q := 43) C rfl d18_42 rfl ?_
              refine w_bipush (q := 45) (v := (95 : Int32)) C (by rfl) d18_43 rfl ?_
              by_cases hc112 : ch = (95 : Int32)
              · refine w_icmp_eq_t (q := 54) C d18_45 (by decide) (by decide) hc112 ?_
                refine w_iconst (q := 55) (v := (1 : Int32)) C (by rfl) d18_54 rfl ?_
                refine w_goto (q := 59) C d18_55 (by decide) (by decide) ?_
                exact w_retZ (z := (1 : Int32)) C (t := .boolean) rfl (by simp) (by decide) d18_59 (by decide) (by decide) ⟨rfl, by simp [own_al, *]⟩
              · refine w_icmp_eq_f (q := 48) C d18_45 rfl hc112 ?_
                refine w_iloadN (q := 49) C rfl d18_48 rfl ?_
                refine w_bipush (q := 51) (v := (46 : Int32)) C (by rfl) d18_49 rfl ?_
                by_cases hc113 : ch = (46 : Int32)
                · refine w_icmp_ne_f (q := 54) C d18_51 rfl hc113 ?_
                  refine w_iconst (q := 55) (v := (1 : Int32)) C (by rfl) d18_54 rfl ?_
                  refine w_goto (q := 59) C d18_55 (by decide) (by decide) ?_
                  exact w_retZ (z := (1 : Int32)) C (t := .boolean) rfl (by simp) (by decide) d18_59 (by decide) (by decide) ⟨rfl, by simp [own_al, *]⟩
                · refine w_icmp_ne_t (q := 58) C d18_51 (by decide) (by decide) hc113 ?_
                  refine w_iconst (q := 59) (v := (0 : Int32)) C (by rfl) d18_58 rfl ?_
                  exact w_retZ (z := (0 : Int32)) C (t := .boolean) rfl (by simp) (by decide) d18_59 (by decide) (by decide) ⟨rfl, by simp [own_al, *]⟩
          · refine w_icmp_le_t (q := 54) C d18_33 (by decide) (by decide) hc110 ?_
            refine w_iconst (q := 55) (v := (1 : Int32)) C (by rfl) d18_54 rfl ?_
            refine w_goto (q := 59) C d18_55 (by decide) (by decide) ?_
            exact w_retZ (z := (1 : Int32)) C (t := .boolean) rfl (by simp) (by decide) d18_59 (by decide) (by decide) ⟨rfl, by simp [own_al, *]⟩
      · refine w_icmp_lt_f (q := 18) C d18_15 rfl hc105 ?_
        refine w_iloadN (q := 19) C rfl d18_18 rfl ?_
        refine w_bipush (q := 21) (v := (122 : Int32)) C (by rfl) d18_19 rfl ?_
        by_cases hc114 : (122 : Int32) < ch
        · refine w_icmp_le_f (q := 24) C d18_21 rfl hc114 ?_
          refine w_iloadN (q := 25) C rfl d18_24 rfl ?_
          refine w_bipush (q := 27) (v := (48 : Int32)) C (by rfl) d18_25 rfl ?_
          by_cases hc115 : ch < (48 : Int32)
          · refine w_icmp_lt_t (q := 36) C d18_27 (by decide) (by decide) hc115 ?_
            refine w_iloadN (q := 37) C rfl d18_36 rfl ?_
            refine w_bipush (q := 39) (v := (45 : Int32)) C (by rfl) d18_37 rfl ?_
            by_cases hc116 : ch = (45 : Int32)
            · refine w_icmp_eq_t (q := 54) C d18_39 (by decide) (by decide) hc116 ?_
              refine w_iconst (q := 55) (v := (1 : Int32)) C (by rfl) d18_54 rfl ?_
              refine w_goto (q := 59) C d18_55 (by decide) (by decide) ?_
              exact w_retZ (z := (1 : Int32)) C (t := .boolean) rfl (by simp) (by decide) d18_59 (by decide) (by decide) ⟨rfl, by simp [own_al, *]⟩
            · refine w_icmp_eq_f (q := 42) C d18_39 rfl hc116 ?_
              refine w_iloadN (q := 43) C rfl d18_42 rfl ?_
              refine w_bipush (q := 45) (v := (95 : Int32)) C (by rfl) d18_43 rfl ?_
              by_cases hc117 : ch = (95 : Int32)
              · refine w_icmp_eq_t (q := 54) C d18_45 (by decide) (by decide) hc117 ?_
                refine w_iconst (q := 55) (v := (1 : Int32)) C (by rfl) d18_54 rfl ?_
                refine w_goto (q := 59) C d18_55 (by decide) (by decide) ?_
                exact w_retZ (z := (1 : Int32)) C (t := .boolean) rfl (by simp) (by decide) d18_59 (by decide) (by decide) ⟨rfl, by simp [own_al, *]⟩
              · refine w_icmp_eq_f (q := 48) C d18_45 rfl hc117 ?_
                refine w_iloadN (q := 49) C rfl d18_48 rfl ?_
                refine w_bipush (q := 51) (v := (46 : Int32)) C (by rfl) d18_49 rfl ?_
                by_cases hc118 : ch = (46 : Int32)
                · refine w_icmp_ne_f (q := 54) C d18_51 rfl hc118 ?_
                  refine w_iconst (q := 55) (v := (1 : Int32)) C (by rfl) d18_54 rfl ?_
                  refine w_goto (q := 59) C d18_55 (by decide) (by decide) ?_
                  exact w_retZ (z := (1 : Int32)) C (t := .boolean) rfl (by simp) (by decide) d18_59 (by decide) (by decide) ⟨rfl, by simp [own_al, *]⟩
                · refine w_icmp_ne_t (q := 58) C d18_51 (by decide) (by decide) hc118 ?_
                  refine w_iconst (q := 59) (v := (0 : Int32)) C (by rfl) d18_58 rfl ?_
                  exact w_retZ (z := (0 : Int32)) C (t := .boolean) rfl (by simp) (by decide) d18_59 (by decide) (by decide) ⟨rfl, by simp [own_al, *]⟩
          · refine w_icmp_lt_f (q := 30) C d18_27 rfl hc115 ?_
            refine w_iloadN (q := 31) C rfl d18_30 rfl ?_
            refine w_bipush (q := 33) (v := (57 : Int32)) C (by rfl) d18_31 rfl ?_
            by_cases hc119 : (57 : Int32) < ch
            · refine w_icmp_le_f (q := 36) C d18_33 rfl hc119 ?_
              refine w_iloadN (q := 37) C rfl d18_36 rfl ?_
              refine w_bipush (q := 39) (v := (45 : Int32)) C (by rfl) d18_37 rfl ?_
              by_cases hc120 : ch = (45 : Int32)
              · refine w_icmp_eq_t (q := 54) C d18_39 (by decide) (by decide) hc120 ?_
                refine w_iconst (q := 55) (v := (1 : Int32)) C (by rfl) d18_54 rfl ?_
                refine w_goto (q := 59) C d18_55 (by decide) (by decide) ?_
                exact w_retZ (z := (1 : Int32)) C (t := .boolean) rfl (by simp) (by decide) d18_59 (by decide) (by decide) ⟨rfl, by simp [own_al, *]⟩
              · refine w_icmp_eq_f (q := 42) C d18_39 rfl hc120 ?_
                refine w_iloadN (q := 43) C rfl d18_42 rfl ?_
                refine w_bipush (q := 45) (v := (95 : Int32)) C (by rfl) d18_43 rfl ?_
                by_cases hc121 : ch = (95 : Int32)
                · refine w_icmp_eq_t (q := 54) C d18_45 (by decide) (by decide) hc121 ?_
                  refine w_iconst (q := 55) (v := (1 : Int32)) C (by rfl) d18_54 rfl ?_
                  refine w_goto (q := 59) C d18_55 (by decide) (by decide) ?_
                  exact w_retZ (z := (1 : Int32)) C (t := .boolean) rfl (by simp) (by decide) d18_59 (by decide) (by decide) ⟨rfl, by simp [own_al, *]⟩
                · refine w_icmp_eq_f (q := 48) C d18_45 rfl hc121 ?_
                  refine w_iloadN (q := 49) C rfl d18_48 rfl ?_
                  refine w_bipush (q := 51) (v := (46 : Int32)) C (by rfl) d18_49 rfl ?_
                  by_cases hc122 : ch = (46 : Int32)
                  · refine w_icmp_ne_f (q := 54) C d18_51 rfl hc122 ?_
                    refine w_iconst (q := 55) (v := (1 : Int32)) C (by rfl) d18_54 rfl ?_
                    refine w_goto (q := 59) C d18_55 (by decide) (by decide) ?_
                    exact w_retZ (z := (1 : Int32)) C (t := .boolean) rfl (by simp) (by decide) d18_59 (by decide) (by decide) ⟨rfl, by simp [own_al, *]⟩
                  · refine w_icmp_ne_t (q := 58) C d18_51 (by decide) (by decide) hc122 ?_
                    refine w_iconst (q := 59) (v := (0 : Int32)) C (by rfl) d18_58 rfl ?_
                    exact w_retZ (z := (0 : Int32)) C (t := .boolean) rfl (by simp) (by decide) d18_59 (by decide) (by decide) ⟨rfl, by simp [own_al, *]⟩
            · refine w_icmp_le_t (q := 54) C d18_33 (by decide) (by decide) hc119 ?_
              refine w_iconst (q := 55) (v := (1 : Int32)) C (by rfl) d18_54 rfl ?_
              refine w_goto (q := 59) C d18_55 (by decide) (by decide) ?_
              exact w_retZ (z := (1 : Int32)) C (t := .boolean) rfl (by simp) (by decide) d18_59 (by decide) (by decide) ⟨rfl, by simp [own_al, *]⟩
        · refine w_icmp_le_t (q := 54) C d18_21 (by decide) (by decide) hc114 ?_
          refine w_iconst (q := 55) (v := (1 : Int32)) C (by rfl) d18_54 rfl ?_
          refine w_goto (q := 59) C d18_55 (by decide) (by decide) ?_
          exact w_retZ (z := (1 : Int32)) C (t := .boolean) rfl (by simp) (by decide) d18_59 (by decide) (by decide) ⟨rfl, by simp [own_al, *]⟩
    · refine w_icmp_le_t (q := 54) C d18_9 (by decide) (by decide) hc104 ?_
      refine w_iconst (q := 55) (v := (1 : Int32)) C (by rfl) d18_54 rfl ?_
      refine w_goto (q := 59) C d18_55 (by decide) (by decide) ?_
      exact w_retZ (z := (1 : Int32)) C (t := .boolean) rfl (by simp) (by decide) d18_59 (by decide) (by decide) ⟨rfl, by simp [own_al, *]⟩
theorem d10_0 : decode jdk_31_method_11_code 0 = .ok (.aload_n 0, 1) := by decide +kernel
theorem d10_1 : decode jdk_31_method_11_code 1 = .ok (.ifnonnull 12, 3) := by decide +kernel
theorem d10_4 : decode jdk_31_method_11_code 4 = .ok (.new 84, 3) := by decide +kernel
theorem d10_7 : decode jdk_31_method_11_code 7 = .ok (.dup, 1) := by decide +kernel
theorem d10_8 : decode jdk_31_method_11_code 8 = .ok (.aload_n 1, 1) := by decide +kernel
theorem d10_9 : decode jdk_31_method_11_code 9 = .ok (.invokespecial 87, 3) := by decide +kernel
theorem d10_12 : decode jdk_31_method_11_code 12 = .ok (.athrow, 1) := by decide +kernel
theorem d10_13 : decode jdk_31_method_11_code 13 = .ok (.aload_n 0, 1) := by decide +kernel
theorem d10_14 : decode jdk_31_method_11_code 14 = .ok (.areturn, 1) := by decide +kernel
theorem pf10 : plainFor (⟨"java/util/Objects", "requireNonNull", "(Ljava/lang/Object;Ljava/lang/String;)Ljava/lang/Object;"⟩ : MethodName) = true := by first | exact plainFor_of_name (by first | (simp [plainName, overriddenIn]; done) | decide +kernel) | decide +kernel
theorem ef_reqNN2 (m : MethodId) (z0 : Addr) (z1 : Addr) : entryFrame m #[(.ref z0), (.ref z1)] 2 = mkF m 0 #[.val (.ref z0), .val (.ref z1)] [] := by first | rfl | (simp [entryFrame, mkF, argsToLocals, Value.category, *]; done) | rfl
set_option maxRecDepth 65536 in
set_option maxHeartbeats 40000000 in
theorem rm_reqNN2 {l : Launch} {Z : State} {a0 : Array Value} {n0 : Nat} (G : Gl Z a0 n0) {h0 : Heap} (O : Old Z n0 h0) (a : Addr) (b : Addr) :
    Ct [] l Z n0 (⟨"java/util/Objects", "requireNonNull", "(Ljava/lang/Object;Ljava/lang/String;)Ljava/lang/Object;"⟩ : MethodName) jdk_31_method_11_code 2 (some (.object "java/lang/Object")) ({ frames := 0, cells := 0, slots := 0, locals := 0 } : Room) #[(.ref a), (.ref b)] h0 (fun v h => h = h0 ∧ v = some (.ref a)) := by
  refine Ct.intro pf10 ?_
  intro p e s m below meth c C
  refine AtW.cast ?_ (ef_reqNN2 m a b)
  refine w_aloadN (q := 1) C rfl rfl d10_0 rfl ?_
  refine w_ifnonnull_t (q := 13) C d10_1 (by decide) (by decide) ?_
  refine w_aloadN (q := 14) C rfl rfl d10_13 rfl ?_
  exact w_retA C rfl rfl rfl d10_14 (by decide) (by decide) ⟨rfl, rfl⟩
theorem d11_0 : decode jdk_42_method_55_code 0 = .ok (.aload_n 0, 1) := by decide +kernel
theorem d11_1 : decode jdk_42_method_55_code 1 = .ok (.getfield 9, 3) := by decide +kernel
theorem d11_4 : decode jdk_42_method_55_code 4 = .ok (.arraylength, 1) := by decide +kernel
theorem d11_5 : decode jdk_42_method_55_code 5 = .ok (.ifCond .ne 7, 3) := by decide +kernel
theorem d11_8 : decode jdk_42_method_55_code 8 = .ok (.iconst 1, 1) := by decide +kernel
theorem d11_9 : decode jdk_42_method_55_code 9 = .ok (.goto 4, 3) := by decide +kernel
theorem d11_12 : decode jdk_42_method_55_code 12 = .ok (.iconst 0, 1) := by decide +kernel
theorem d11_13 : decode jdk_42_method_55_code 13 = .ok (.ireturn, 1) := by decide +kernel
theorem pf11 : plainFor (⟨"java/lang/String", "isEmpty", "()Z"⟩ : MethodName) = true := by first | exact plainFor_of_name (by first | (simp [plainName, overriddenIn]; done) | decide +kernel) | decide +kernel
theorem ef_isEmpty (m : MethodId) (z0 : Addr) : entryFrame m #[(.ref z0)] 1 = mkF m 0 #[.val (.ref z0)] [] := by first | rfl | (simp [entryFrame, mkF, argsToLocals, Value.category, *]; done) | rfl
set_option maxRecDepth 65536 in
set_option maxHeartbeats 40000000 in
theorem rm_isEmpty {l : Launch} {Z : State} {a0 : Array Value} {n0 : Nat} (G : Gl Z a0 n0) {h0 : Heap} (O : Old Z n0 h0) (a : Addr) (cs : List Int32) (S : Str Z h0 a cs) :
    Ct [] l Z n0 (⟨"java/lang/String", "isEmpty", "()Z"⟩ : MethodName) jdk_42_method_55_code 1 (some .boolean) ({ frames := 0, cells := 0, slots := 0, locals := 0 } : Room) #[(.ref a)] h0 (fun v h => h = h0 ∧ v = some (.int (if cs.length = 0 then 1 else 0))) := by
  refine Ct.intro pf11 ?_
  intro p e s m below meth c C
  refine AtW.cast ?_ (ef_isEmpty m a)
  obtain ⟨E, hr, t, FC, FV, A⟩ := id S
  have hl := A.1
  rw [own_bs_len] at hl
  refine w_aloadN (q := 1) C rfl rfl d11_0 rfl ?_
  refine w_getF (q := 4) (host := "") C (Or.inl (G.1 _ (List.mem_of_getElem? (i := 36) rfl))) Via.refl FV d11_1 rfl ?_
  refine w_len (q := 5) (z := (Int32.ofNat cs.length)) C A (by rw [own_bs_len]) d11_4 rfl ?_
  by_cases hc : (Int32.ofNat cs.length) = 0
  · refine w_if_ne_f (q := 8) C d11_5 rfl hc ?_
    refine w_iconst (q := 9) (v := (1 : Int32)) C (by rfl) d11_8 rfl ?_
    refine w_goto (q := 13) C d11_9 (by decide) (by decide) ?_
    exact w_retZ (z := (1 : Int32)) C (t := .boolean) rfl (by simp) (by decide) d11_13 (by decide) (by decide) ⟨rfl, by rw [if_pos ((own_neq (n := 0) hl (by omega)).mp hc)]⟩
  · refine w_if_ne_t (q := 12) C d11_5 (by decide) (by decide) hc ?_
    refine w_iconst (q := 13) (v := (0 : Int32)) C (by rfl) d11_12 rfl ?_
    exact w_retZ (z := (0 : Int32)) C (t := .boolean) rfl (by simp) (by decide) d11_13 (by decide) (by decide) ⟨rfl, by rw [if_neg (fun q => hc ((own_neq (n := 0) hl (by omega)).mpr q))]⟩
theorem d9_0 : decode jdk_30_method_1_code 0 = .ok (.aload_n 0, 1) := by decide +kernel
theorem d9_1 : decode jdk_30_method_1_code 1 = .ok (.invokespecial 1, 3) := by decide +kernel
theorem d9_4 : decode jdk_30_method_1_code 4 = .ok (.return_, 1) := by decide +kernel
theorem pf9 : plainFor (⟨"java/lang/Record", "<init>", "()V"⟩ : MethodName) = true := by first | exact plainFor_of_name (by first | (simp [plainName, overriddenIn]; done) | decide +kernel) | decide +kernel
theorem ef_record (m : MethodId) (z0 : Addr) : entryFrame m #[(.ref z0)] 1 = mkF m 0 #[.val (.ref z0)] [] := by first | rfl | (simp [entryFrame, mkF, argsToLocals, Value.category, *]; done) | rfl
set_option maxRecDepth 65536 in
set_option maxHeartbeats 40000000 in
theorem rm_record {l : Launch} {Z : State} {a0 : Array Value} {n0 : Nat} (G : Gl Z a0 n0) {h0 : Heap} (O : Old Z n0 h0) (a : Addr) :
    Ct [] l Z n0 (⟨"java/lang/Record", "<init>", "()V"⟩ : MethodName) jdk_30_method_1_code 1 none ({ frames := 1, cells := 0, slots := 0, locals := 12 } : Room) #[(.ref a)] h0 (fun v h => h = h0 ∧ v = none) := by
  refine Ct.intro pf9 ?_
  intro p e s m below meth c C
  refine AtW.cast ?_ (ef_record m a)
  refine w_aloadN (q := 1) C rfl rfl d9_0 rfl ?_
  refine w_initO (q := 4) (W := 0) C (G.1 _ (List.mem_of_getElem? (i := 46) rfl)) (G.1 _ (List.mem_of_getElem? (i := 20) rfl)) (G.1 _ (List.mem_of_getElem? (i := 21) rfl)) rfl (by decide) (own_leb rfl) (by decide) d9_1 rfl ?_
  exact w_retV C rfl d9_4 (by decide) (by decide) ⟨rfl, rfl⟩
theorem d14_0 : decode jdk_42_method_57_code 0 = .ok (.aload_n 0, 1) := by decide +kernel
theorem d14_1 : decode jdk_42_method_57_code 1 = .ok (.invokevirtual 492, 3) := by decide +kernel
theorem d14_4 : decode jdk_42_method_57_code 4 = .ok (.ifCond .eq 23, 3) := by decide +kernel
theorem d14_7 : decode jdk_42_method_57_code 7 = .ok (.iload_n 1, 1) := by decide +kernel
theorem d14_8 : decode jdk_42_method_57_code 8 = .ok (.aload_n 0, 1) := by decide +kernel
theorem d14_9 : decode jdk_42_method_57_code 9 = .ok (.getfield 9, 3) := by decide +kernel
theorem d14_12 : decode jdk_42_method_57_code 12 = .ok (.arraylength, 1) := by decide +kernel
theorem d14_13 : decode jdk_42_method_57_code 13 = .ok (.invokestatic 499, 3) := by decide +kernel
theorem d14_16 : decode jdk_42_method_57_code 16 = .ok (.aload_n 0, 1) := by decide +kernel
theorem d14_17 : decode jdk_42_method_57_code 17 = .ok (.getfield 9, 3) := by decide +kernel
theorem d14_20 : decode jdk_42_method_57_code 20 = .ok (.iload_n 1, 1) := by decide +kernel
theorem d14_21 : decode jdk_42_method_57_code 21 = .ok (.baload, 1) := by decide +kernel
theorem d14_22 : decode jdk_42_method_57_code 22 = .ok (.sipush 255, 3) := by decide +kernel
theorem d14_25 : decode jdk_42_method_57_code 25 = .ok (.iand, 1) := by decide +kernel
theorem d14_26 : decode jdk_42_method_57_code 26 = .ok (.ireturn, 1) := by decide +kernel
theorem d14_27 : decode jdk_42_method_57_code 27 = .ok (.aload_n 0, 1) := by decide +kernel
theorem d14_28 : decode jdk_42_method_57_code 28 = .ok (.getfield 9, 3) := by decide +kernel
theorem d14_31 : decode jdk_42_method_57_code 31 = .ok (.arraylength, 1) := by decide +kernel
theorem d14_32 : decode jdk_42_method_57_code 32 = .ok (.iconst 1, 1) := by decide +kernel
theorem d14_33 : decode jdk_42_method_57_code 33 = .ok (.ishr, 1) := by decide +kernel
theorem d14_34 : decode jdk_42_method_57_code 34 = .ok (.istore_n 2, 1) := by decide +kernel
theorem d14_35 : decode jdk_42_method_57_code 35 = .ok (.iload_n 1, 1) := by decide +kernel
theorem d14_36 : decode jdk_42_method_57_code 36 = .ok (.iload_n 2, 1) := by decide +kernel
theorem d14_37 : decode jdk_42_method_57_code 37 = .ok (.invokestatic 499, 3) := by decide +kernel
theorem d14_40 : decode jdk_42_method_57_code 40 = .ok (.aload_n 0, 1) := by decide +kernel
theorem d14_41 : decode jdk_42_method_57_code 41 = .ok (.getfield 9, 3) := by decide +kernel
theorem d14_44 : decode jdk_42_method_57_code 44 = .ok (.iload_n 1, 1) := by decide +kernel
theorem d14_45 : decode jdk_42_method_57_code 45 = .ok (.iload_n 2, 1) := by decide +kernel
theorem d14_46 : decode jdk_42_method_57_code 46 = .ok (.invokestatic 502, 3) := by decide +kernel
theorem d14_49 : decode jdk_42_method_57_code 49 = .ok (.ireturn, 1) := by decide +kernel
theorem pf14 : plainFor (⟨"java/lang/String", "codePointAt", "(I)I"⟩ : MethodName) = true := by first | exact plainFor_of_name (by first | (simp [plainName, overriddenIn]; done) | decide +kernel) | decide +kernel
theorem ef_cpAt (m : MethodId) (z0 : Addr) (z1 : Int32) : entryFrame m #[(.ref z0), (.int z1)] 3 = mkF m 0 #[.val (.ref z0), .val (.int z1), .unset] [] := by first | rfl | (simp [entryFrame, mkF, argsToLocals, Value.category, *]; done) | rfl
set_option maxRecDepth 65536 in
set_option maxHeartbeats 40000000 in
theorem rm_cpAt {l : Launch} {Z : State} {a0 : Array Value} {n0 : Nat} (G : Gl Z a0 n0) {h0 : Heap} (O : Old Z n0 h0) (a : Addr) (cs : List Int32) (i : Nat) (ch : Int32) (S : Str Z h0 a cs) (hi : cs[i]? = some ch) :
    Ct [] l Z n0 (⟨"java/lang/String", "codePointAt", "(I)I"⟩ : MethodName) jdk_42_method_57_code 3 (some .int) ({ frames := 2, cells := 0, slots := 0, locals := 27 } : Room) #[(.ref a), (.int (Int32.ofNat i))] h0 (fun v h => h = h0 ∧ v = some (.int ch)) := by
  refine Ct.intro pf14 ?_
  intro p e s m below meth c C
  refine AtW.cast ?_ (ef_cpAt m a (Int32.ofNat i))
  obtain ⟨E, hr, t, FC, FV, A⟩ := id S
  have hc := hr.get hi
  have hl := A.1
  rw [own_bs_len] at hl
  have hil : i < cs.length := (List.getElem?_eq_some_iff.mp hi).1
  refine w_aloadN (q := 1) C rfl rfl d14_0 rfl ?_
  refine w_callV (q := 4) (argsL := []) (S := []) (W := 0) (cells' := 0) (slots' := 0) (a := a) C E (G.1 _ (List.mem_of_getElem? (i := 74) rfl)) (G.1 _ (List.mem_of_getElem? (i := 75) rfl)) (w_nf C (G.1 _ (List.mem_of_getElem? (i := 77) rfl))) (G.1 _ (List.mem_of_getElem? (i := 77) rfl)) (G.1 _ (List.mem_of_getElem? (i := 76) rfl)) (G.1 _ (List.mem_of_getElem? (i := 10) rfl)) (G.1 _ (List.mem_of_getElem? (i := 78) rfl)) (by decide) (rm_isLatin1 G O a cs S) rfl (lenOf pd_10 rfl) rfl (by decide) (own_leb rfl) (by decide) rfl rfl (by decide) (by decide) d14_1 rfl ?_
  rintro _ h123 ⟨eh124, rfl⟩
  rw [eh124]
  show AtW p l e _ s m _ below meth c n0 _ h0 0 0 (mkF m 4 #[.val (.ref a), .val (.int (Int32.ofNat i)), .unset] [(.int (1 : Int32))])
  refine w_if_eq_f (q := 7) C d14_4 rfl (by decide) ?_
  refine w_iloadN (q := 8) C rfl d14_7 rfl ?_
  refine w_aloadN (q := 9) C rfl rfl d14_8 rfl ?_
  refine w_getF (q := 12) (host := "") C (Or.inl (G.1 _ (List.mem_of_getElem? (i := 36) rfl))) Via.refl FV d14_9 rfl ?_
  refine w_len (q := 13) (z := (Int32.ofNat cs.length)) C A (by rw [own_bs_len]) d14_12 rfl ?_
  refine w_callS (q := 16) (argsL := [(.int (Int32.ofNat i)), (.int (Int32.ofNat cs.length))]) (S := []) (W := 0) (cells' := 0) (slots' := 0) C (G.1 _ (List.mem_of_getElem? (i := 79) rfl)) (G.1 _ (List.mem_of_getElem? (i := 80) rfl)) (G.1 _ (List.mem_of_getElem? (i := 10) rfl)) (G.1 _ (List.mem_of_getElem? (i := 81) rfl)) (by decide) (rm_scheck G O _ _ (ofNat_neg (by omega)) ((own_nlt (by omega) hl).mpr hil)) rfl (lenOf pd_14 rfl) rfl (by decide) (own_leb rfl) (by decide) rfl rfl (by decide) (by decide) d14_13 rfl ?_
  rintro _ h125 ⟨eh126, rfl⟩
  rw [eh126]
  show AtW p l e _ s m _ below meth c n0 _ h0 0 0 (mkF m 16 #[.val (.ref a), .val (.int (Int32.ofNat i)), .unset] [])
  refine w_aloadN (q := 17) C rfl rfl d14_16 rfl ?_
  refine w_getF (q := 20) (host := "") C (Or.inl (G.1 _ (List.mem_of_getElem? (i := 36) rfl))) Via.refl FV d14_17 rfl ?_
  refine w_iloadN (q := 21) C rfl d14_20 rfl ?_
  refine w_baload (q := 22) (i := i) (v := (.int ch.toInt8.toInt32)) C A rfl (own_bs_get hi) d14_21 rfl ?_
  refine w_sipush (q := 25) (v := (255 : Int32)) C (by rfl) d14_22 rfl ?_
  refine w_iand (q := 26) C rfl d14_25 rfl ?_
  rw [show (ch.toInt8.toInt32 &&& (255 : Int32)) = ch from own_and8 hc.1 hc.2]
  exact w_retI C rfl d14_26 (by decide) (by decide) ⟨rfl, rfl⟩
theorem Str.wrO {Z : State} {h h' : Heap} {s a : Addr} {cs : List Int32} {C : String} {a0 : Array Value} {n sl : Nat} {v : Value} (F : Str Z h s cs) (E : Exa Z h a C) (hC : C ≠ "java/lang/String") (wi : (Jvm.Cond.instantiable C n).before a0 Z = true) (W : Wr h h' a sl v) : Str Z h' s cs := by
  obtain ⟨e, L, t, f1, f2, A⟩ := F
  have q1 : s ≠ a := ne_exa e E (Ne.symm hC)
  have q2 : t ≠ a := by obtain ⟨l, k, V⟩ := A; exact Ne.symm (E.neArv V wi)
  exact ⟨e.wr W, L, t, f1.other W (Or.inl q1), f2.other W (Or.inl q1), A.other W q2⟩
theorem d8_0 : decode prog_25_method_1_code 0 = .ok (.aload_n 0, 1) := by decide +kernel
theorem d8_1 : decode prog_25_method_1_code 1 = .ok (.invokespecial 1, 3) := by decide +kernel
theorem d8_4 : decode prog_25_method_1_code 4 = .ok (.aload_n 1, 1) := by decide +kernel
theorem d8_5 : decode prog_25_method_1_code 5 = .ok (.ldc 7, 2) := by decide +kernel
theorem d8_7 : decode prog_25_method_1_code 7 = .ok (.invokestatic 9, 3) := by decide +kernel
theorem d8_10 : decode prog_25_method_1_code 10 = .ok (.pop, 1) := by decide +kernel
theorem d8_11 : decode prog_25_method_1_code 11 = .ok (.aload_n 1, 1) := by decide +kernel
theorem d8_12 : decode prog_25_method_1_code 12 = .ok (.invokevirtual 15, 3) := by decide +kernel
theorem d8_15 : decode prog_25_method_1_code 15 = .ok (.ifCond .eq 13, 3) := by decide +kernel
theorem d8_18 : decode prog_25_method_1_code 18 = .ok (.new 21, 3) := by decide +kernel
theorem d8_21 : decode prog_25_method_1_code 21 = .ok (.dup, 1) := by decide +kernel
theorem d8_22 : decode prog_25_method_1_code 22 = .ok (.ldc 23, 2) := by decide +kernel
theorem d8_24 : decode prog_25_method_1_code 24 = .ok (.invokespecial 25, 3) := by decide +kernel
theorem d8_27 : decode prog_25_method_1_code 27 = .ok (.athrow, 1) := by decide +kernel
theorem d8_28 : decode prog_25_method_1_code 28 = .ok (.iconst 0, 1) := by decide +kernel
theorem d8_29 : decode prog_25_method_1_code 29 = .ok (.istore_n 2, 1) := by decide +kernel
theorem d8_30 : decode prog_25_method_1_code 30 = .ok (.iload_n 2, 1) := by decide +kernel
theorem d8_31 : decode prog_25_method_1_code 31 = .ok (.aload_n 1, 1) := by decide +kernel
theorem d8_32 : decode prog_25_method_1_code 32 = .ok (.invokevirtual 28, 3) := by decide +kernel
theorem d8_35 : decode prog_25_method_1_code 35 = .ok (.if_icmp .ge 55, 3) := by decide +kernel
theorem d8_38 : decode prog_25_method_1_code 38 = .ok (.aload_n 1, 1) := by decide +kernel
theorem d8_39 : decode prog_25_method_1_code 39 = .ok (.iload_n 2, 1) := by decide +kernel
theorem d8_40 : decode prog_25_method_1_code 40 = .ok (.invokevirtual 32, 3) := by decide +kernel
theorem d8_43 : decode prog_25_method_1_code 43 = .ok (.istore_n 3, 1) := by decide +kernel
theorem d8_44 : decode prog_25_method_1_code 44 = .ok (.iload_n 3, 1) := by decide +kernel
theorem d8_45 : decode prog_25_method_1_code 45 = .ok (.invokestatic 36, 3) := by decide +kernel
theorem d8_48 : decode prog_25_method_1_code 48 = .ok (.ifCond .ne 36, 3) := by decide +kernel
theorem d8_51 : decode prog_25_method_1_code 51 = .ok (.new 21, 3) := by decide +kernel
theorem d8_54 : decode prog_25_method_1_code 54 = .ok (.dup, 1) := by decide +kernel
theorem d8_55 : decode prog_25_method_1_code 55 = .ok (.ldc 42, 2) := by decide +kernel
theorem d8_57 : decode prog_25_method_1_code 57 = .ok (.iconst 2, 1) := by decide +kernel
theorem d8_58 : decode prog_25_method_1_code 58 = .ok (.anewarray 44, 3) := by decide +kernel
theorem d8_61 : decode prog_25_method_1_code 61 = .ok (.dup, 1) := by decide +kernel
theorem d8_62 : decode prog_25_method_1_code 62 = .ok (.iconst 0, 1) := by decide +kernel
theorem d8_63 : decode prog_25_method_1_code 63 = .ok (.iload_n 3, 1) := by decide +kernel
theorem d8_64 : decode prog_25_method_1_code 64 = .ok (.invokestatic 46, 3) := by decide +kernel
theorem d8_67 : decode prog_25_method_1_code 67 = .ok (.aastore, 1) := by decide +kernel
theorem d8_68 : decode prog_25_method_1_code 68 = .ok (.dup, 1) := by decide +kernel
theorem d8_69 : decode prog_25_method_1_code 69 = .ok (.iconst 1, 1) := by decide +kernel
theorem d8_70 : decode prog_25_method_1_code 70 = .ok (.iload_n 2, 1) := by decide +kernel
theorem d8_71 : decode prog_25_method_1_code 71 = .ok (.iconst 1, 1) := by decide +kernel
theorem d8_72 : decode prog_25_method_1_code 72 = .ok (.iadd, 1) := by decide +kernel
theorem d8_73 : decode prog_25_method_1_code 73 = .ok (.invokestatic 46, 3) := by decide +kernel
theorem d8_76 : decode prog_25_method_1_code 76 = .ok (.aastore, 1) := by decide +kernel
theorem d8_77 : decode prog_25_method_1_code 77 = .ok (.invokestatic 52, 3) := by decide +kernel
theorem d8_80 : decode prog_25_method_1_code 80 = .ok (.invokespecial 25, 3) := by decide +kernel
theorem d8_83 : decode prog_25_method_1_code 83 = .ok (.athrow, 1) := by decide +kernel
theorem d8_84 : decode prog_25_method_1_code 84 = .ok (.iinc 2 1, 3) := by decide +kernel
theorem d8_87 : decode prog_25_method_1_code 87 = .ok (.goto (-57), 3) := by decide +kernel
theorem d8_90 : decode prog_25_method_1_code 90 = .ok (.aload_n 1, 1) := by decide +kernel
theorem d8_91 : decode prog_25_method_1_code 91 = .ok (.invokevirtual 28, 3) := by decide +kernel
theorem d8_94 : decode prog_25_method_1_code 94 = .ok (.bipush 36, 2) := by decide +kernel
theorem d8_96 : decode prog_25_method_1_code 96 = .ok (.if_icmp .le 38, 3) := by decide +kernel
theorem d8_99 : decode prog_25_method_1_code 99 = .ok (.new 21, 3) := by decide +kernel
theorem d8_102 : decode prog_25_method_1_code 102 = .ok (.dup, 1) := by decide +kernel
theorem d8_103 : decode prog_25_method_1_code 103 = .ok (.ldc 56, 2) := by decide +kernel
theorem d8_105 : decode prog_25_method_1_code 105 = .ok (.iconst 2, 1) := by decide +kernel
theorem d8_106 : decode prog_25_method_1_code 106 = .ok (.anewarray 44, 3) := by decide +kernel
theorem d8_109 : decode prog_25_method_1_code 109 = .ok (.dup, 1) := by decide +kernel
theorem d8_110 : decode prog_25_method_1_code 110 = .ok (.iconst 0, 1) := by decide +kernel
theorem d8_111 : decode prog_25_method_1_code 111 = .ok (.aload_n 1, 1) := by decide +kernel
theorem d8_112 : decode prog_25_method_1_code 112 = .ok (.invokevirtual 28, 3) := by decide +kernel
theorem d8_115 : decode prog_25_method_1_code 115 = .ok (.invokestatic 46, 3) := by decide +kernel
theorem d8_118 : decode prog_25_method_1_code 118 = .ok (.aastore, 1) := by decide +kernel
theorem d8_119 : decode prog_25_method_1_code 119 = .ok (.dup, 1) := by decide +kernel
theorem d8_120 : decode prog_25_method_1_code 120 = .ok (.iconst 1, 1) := by decide +kernel
theorem d8_121 : decode prog_25_method_1_code 121 = .ok (.bipush 36, 2) := by decide +kernel
theorem d8_123 : decode prog_25_method_1_code 123 = .ok (.invokestatic 46, 3) := by decide +kernel
theorem d8_126 : decode prog_25_method_1_code 126 = .ok (.aastore, 1) := by decide +kernel
theorem d8_127 : decode prog_25_method_1_code 127 = .ok (.invokestatic 52, 3) := by decide +kernel
theorem d8_130 : decode prog_25_method_1_code 130 = .ok (.invokespecial 25, 3) := by decide +kernel
theorem d8_133 : decode prog_25_method_1_code 133 = .ok (.athrow, 1) := by decide +kernel
theorem d8_134 : decode prog_25_method_1_code 134 = .ok (.aload_n 0, 1) := by decide +kernel
theorem d8_135 : decode prog_25_method_1_code 135 = .ok (.aload_n 1, 1) := by decide +kernel
theorem d8_136 : decode prog_25_method_1_code 136 = .ok (.putfield 58, 3) := by decide +kernel
theorem d8_139 : decode prog_25_method_1_code 139 = .ok (.return_, 1) := by decide +kernel
theorem pf8 : plainFor (⟨"com/example/condo/condo/tenant/TenantName", "<init>", "(Ljava/lang/String;)V"⟩ : MethodName) = true := by first | exact plainFor_of_name (by first | (simp [plainName, overriddenIn]; done) | decide +kernel) | decide +kernel
theorem ef_tninit (m : MethodId) (z0 : Addr) (z1 : Addr) : entryFrame m #[(.ref z0), (.ref z1)] 4 = mkF m 0 #[.val (.ref z0), .val (.ref z1), .unset, .unset] [] := by first | rfl | (simp [entryFrame, mkF, argsToLocals, Value.category, *]; done) | rfl
set_option maxRecDepth 65536 in
set_option maxHeartbeats 40000000 in
theorem rm_tninit {l : Launch} {Z : State} {a0 : Array Value} {n0 : Nat} (G : Gl Z a0 n0) {h0 : Heap} (O : Old Z n0 h0) (a : Addr) (s9 : Addr) (cs : List Int32) (E : Exa Z h0 a "com/example/condo/condo/tenant/TenantName") (F : Fld Z h0 a "com/example/condo/condo/tenant/TenantName" "value" "Ljava/lang/String;" .null) (hge : n0 ≤ a) (S : Str Z h0 s9 cs) (hal : ∀ c ∈ cs, own_al c = 1) (hn : cs.length ≠ 0) (hm : cs.length ≤ 36) :
    Cs [] l Z consts_1 n0 (⟨"com/example/condo/condo/tenant/TenantName", "<init>", "(Ljava/lang/String;)V"⟩ : MethodName) prog_25_method_1_code 4 none ({ frames := 3, cells := 2, slots := 48, locals := 41 } : Room) #[(.ref a), (.ref s9)] h0 (fun v h => Keep h0 h [a] ∧ v = none ∧ Exa Z h a "com/example/condo/condo/tenant/TenantName" ∧ Fld Z h a "com/example/condo/condo/tenant/TenantName" "value" "Ljava/lang/String;" (.ref s9) ∧ Str Z h s9 cs) := by
  refine Cs.intro pf8 ?_
  intro p e s m below meth c C
  refine AtS.cast ?_ (ef_tninit m a s9)
  have hl := S.len
  refine s_aloadN (q := 1) C rfl rfl d8_0 rfl ?_
  refine s_callI1 (q := 4) (argsL := []) (S := []) (W := 0) (cells' := 0) (slots' := 0) (a := a) C rfl (G.1 _ (List.mem_of_getElem? (i := 41) rfl)) (G.1 _ (List.mem_of_getElem? (i := 42) rfl)) (G.1 _ (List.mem_of_getElem? (i := 44) rfl)) (G.1 _ (List.mem_of_getElem? (i := 45) rfl)) (by decide) (rm_record G O a) rfl (lenOf pd_4 rfl) rfl (by decide) (own_leb rfl) (by decide) rfl rfl (by decide) (by decide) (wl := []) (fun _ _ q => by rw [q.1]; exact Keep.refl _ _) all0 d8_1 rfl ?_
  rintro _ h127 ⟨eh128, rfl⟩
  rw [eh128]
  show AtS p l e _ s m _ below meth c Z _ _ n0 _ _ _ h0 0 0 (mkF m 4 #[.val (.ref a), .val (.ref s9), .unset, .unset] [])
  refine s_aloadN (q := 5) C rfl rfl d8_4 rfl ?_
  refine s_ldc (q := 7) (n := 44) (cells' := 2) (slots' := 48) (vs := [(.int (116 : Int32)), (.int (101 : Int32)), (.int (110 : Int32)), (.int (97 : Int32)), (.int (110 : Int32)), (.int (116 : Int32)), (.int (32 : Int32)), (.int (110 : Int32)), (.int (97 : Int32)), (.int (109 : Int32)), (.int (101 : Int32))]) C G.el G.sa (G.1 _ (List.mem_of_getElem? (i := 47) rfl)) (by decide) (by decide +kernel) (by decide) (by decide +kernel) (by decide) rfl rfl (by decide) (by decide) d8_5 rfl ?_
  intro h129 s130 t131 Eh129 e1_s130 e2_s130 e3_s130 e4_s130 hne_s130
  have S_s130 : Str Z h129 s130 [(116 : Int32), (101 : Int32), (110 : Int32), (97 : Int32), (110 : Int32), (116 : Int32), (32 : Int32), (110 : Int32), (97 : Int32), (109 : Int32), (101 : Int32)] := ⟨e1_s130, (own_L1c (by decide) (own_L1c (by decide) (own_L1c (by decide) (own_L1c (by decide) (own_L1c (by decide) (own_L1c (by decide) (own_L1c (by decide) (own_L1c (by decide) (own_L1c (by decide) (own_L1c (by decide) (own_L1c (by decide) (fun c hc => absurd hc List.not_mem_nil)))))))))))), t131, e2_s130, e3_s130, e4_s130⟩
  have K1 : Keep h0 h129 [] := Keep.of_ext Eh129
  replace E := Exa_k0 E K1
  replace F := Fld_k0 F K1
  replace S := Str_k0 S K1
  replace O := Old_k0 O K1
  refine s_callS1 (q := 10) (argsL := [(.ref s9), (.ref s130)]) (S := []) (W := 0) (cells' := 2) (slots' := 48) C (G.1 _ (List.mem_of_getElem? (i := 50) rfl)) (G.1 _ (List.mem_of_getElem? (i := 51) rfl)) (G.1 _ (List.mem_of_getElem? (i := 52) rfl)) (G.1 _ (List.mem_of_getElem? (i := 53) rfl)) (by decide) (rm_reqNN2 G O s9 s130) rfl (lenOf pd_9 rfl) rfl (by decide) (own_leb rfl) (by decide) rfl rfl (by decide) (by decide) (wl := []) (fun _ _ q => by rw [q.1]; exact Keep.refl _ _) all0 d8_7 rfl ?_
  rintro _ h132 ⟨eh133, rfl⟩
  rw [eh133]
  show AtS p l e _ s m _ below meth c Z _ _ n0 _ _ _ h129 2 48 (mkF m 10 #[.val (.ref a), .val (.ref s9), .unset, .unset] [(.ref s9)])
  refine s_pop (q := 11) C rfl d8_10 rfl ?_
  refine s_aloadN (q := 12) C rfl rfl d8_11 rfl ?_
  refine s_callV1 (q := 15) (argsL := []) (S := []) (W := 0) (cells' := 2) (slots' := 48) (a := s9) C S.1 (G.1 _ (List.mem_of_getElem? (i := 54) rfl)) (G.1 _ (List.mem_of_getElem? (i := 55) rfl)) (s_nf (G.1 _ (List.mem_of_getElem? (i := 57) rfl))) (G.1 _ (List.mem_of_getElem? (i := 57) rfl)) (G.1 _ (List.mem_of_getElem? (i := 56) rfl)) (G.1 _ (List.mem_of_getElem? (i := 10) rfl)) (G.1 _ (List.mem_of_getElem? (i := 58) rfl)) (by decide) (rm_isEmpty G O s9 cs S) rfl (lenOf pd_10 rfl) rfl (by decide) (own_leb rfl) (by decide) rfl rfl (by decide) (by decide) (wl := []) (fun _ _ q => by rw [q.1]; exact Keep.refl _ _) all0 d8_12 rfl ?_
  rintro _ h134 ⟨eh135, rfl⟩
  rw [eh135]
  show AtS p l e _ s m _ below meth c Z _ _ n0 _ _ _ h129 2 48 (mkF m 15 #[.val (.ref a), .val (.ref s9), .unset, .unset] [(.int (if cs.length = 0 then 1 else 0))])
  rw [show (if cs.length = 0 then 1 else 0) = (0 : Int32) from if_neg hn]
  refine s_if_eq_t (q := 28) C d8_15 (by decide) (by decide) (by decide) ?_
  refine s_iconst (q := 29) (v := (0 : Int32)) C (by rfl) d8_28 rfl ?_
  refine s_istoreN (q := 30) (L' := #[.val (.ref a), .val (.ref s9), .val (.int (0 : Int32)), .unset]) C rfl d8_29 rfl ?_
  have LOOP : ∀ (k i : Nat) (s3 : Slot), i + k = cs.length → One s3 → AtS p l e ({ frames := 3, cells := 2, slots := 48, locals := 41 } : Room) s m #[(.ref a), (.ref s9)] below meth c Z consts_1 "com/example/condo/condo/tenant/TenantName" n0 (fun v h => Keep h0 h [a] ∧ v = none ∧ Exa Z h a "com/example/condo/condo/tenant/TenantName" ∧ Fld Z h a "com/example/condo/condo/tenant/TenantName" "value" "Ljava/lang/String;" (.ref s9) ∧ Str Z h s9 cs) h129.size [] h129 2 48 (mkF m 30 #[.val (.ref a), .val (.ref s9), .val (.int (Int32.ofNat i)), s3] []) := by
    intro k
    induction k with
    | zero =>
      intro i s3 hik o3
      obtain rfl : i = cs.length := by omega
      refine s_iloadN (q := 31) C rfl d8_30 rfl ?_
      refine s_aloadN (q := 32) C rfl rfl d8_31 rfl ?_
      refine s_callV1 (q := 35) (argsL := []) (S := [(.int (Int32.ofNat cs.length))]) (W := 1) (cells' := 2) (slots' := 48) (a := s9) C S.1 (G.1 _ (List.mem_of_getElem? (i := 59) rfl)) (G.1 _ (List.mem_of_getElem? (i := 60) rfl)) (s_nf (G.1 _ (List.mem_of_getElem? (i := 62) rfl))) (G.1 _ (List.mem_of_getElem? (i := 62) rfl)) (G.1 _ (List.mem_of_getElem? (i := 61) rfl)) (G.1 _ (List.mem_of_getElem? (i := 10) rfl)) (G.1 _ (List.mem_of_getElem? (i := 63) rfl)) (by decide) (rm_length G O s9 cs S) rfl (lenOf pd_11 rfl) rfl (by decide) (own_leb rfl) (by decide) rfl rfl (by decide) (by decide) (wl := []) (fun _ _ q => by rw [q.1]; exact Keep.refl _ _) all0 d8_32 rfl ?_
      rintro _ h136 ⟨eh137, rfl⟩
      rw [eh137]
      show AtS p l e _ s m _ below meth c Z _ _ n0 _ _ _ h129 2 48 (mkF m 35 #[.val (.ref a), .val (.ref s9), .val (.int (Int32.ofNat cs.length)), s3] [(.int (Int32.ofNat cs.length)), (.int (Int32.ofNat cs.length))])
      refine s_icmp_ge_t (q := 90) C d8_35 (by decide) (by decide) (fun q => Nat.lt_irrefl _ ((own_nlt hl hl).mp q)) ?_
      refine s_aloadN (q := 91) C rfl rfl d8_90 rfl ?_
      refine s_callV1 (q := 94) (argsL := []) (S := []) (W := 0) (cells' := 2) (slots' := 48) (a := s9) C S.1 (G.1 _ (List.mem_of_getElem? (i := 59) rfl)) (G.1 _ (List.mem_of_getElem? (i := 60) rfl)) (s_nf (G.1 _ (List.mem_of_getElem? (i := 62) rfl))) (G.1 _ (List.mem_of_getElem? (i := 62) rfl)) (G.1 _ (List.mem_of_getElem? (i := 61) rfl)) (G.1 _ (List.mem_of_getElem? (i := 10) rfl)) (G.1 _ (List.mem_of_getElem? (i := 63) rfl)) (by decide) (rm_length G O s9 cs S) rfl (lenOf pd_11 rfl) rfl (by decide) (own_leb rfl) (by decide) rfl rfl (by decide) (by decide) (wl := []) (fun _ _ q => by rw [q.1]; exact Keep.refl _ _) all0 d8_91 rfl ?_
      rintro _ h138 ⟨eh139, rfl⟩
      rw [eh139]
      show AtS p l e _ s m _ below meth c Z _ _ n0 _ _ _ h129 2 48 (mkF m 94 #[.val (.ref a), .val (.ref s9), .val (.int (Int32.ofNat cs.length)), s3] [(.int (Int32.ofNat cs.length))])
      refine s_bipush (q := 96) (v := (36 : Int32)) C (by rfl) d8_94 rfl ?_
      refine s_icmp_le_t (q := 134) C d8_96 (by decide) (by decide) (fun q => by rw [show (36 : Int32) = Int32.ofNat 36 from rfl, own_nlt (by omega) hl] at q; omega) ?_
      refine s_aloadN (q := 135) C rfl rfl d8_134 rfl ?_
      refine s_aloadN (q := 136) C rfl rfl d8_135 rfl ?_
      refine s_putF (q := 139) (host := "") (v' := (.ref s9)) C (G.1 _ (List.mem_of_getElem? (i := 90) rfl)) Via.refl F E (Or.inr ⟨(G.1 _ (List.mem_of_getElem? (i := 91) rfl)), rfl, rfl⟩) (G.1 _ (List.mem_of_getElem? (i := 6) rfl)) (ty := (.object "java/lang/String")) (by decide) rfl rfl hge (SfOk.exa E (by decide)) d8_136 rfl ?_
      intro h140 Wh140
      exact s_retV C G.el rfl d8_139 (by decide) (by decide) ⟨((Keep.refl h0 [a]).trans K1 (all0 (P := fun x => x ∈ [a] ∨ h0.size ≤ x))).wr Wh140 (Or.inl (List.mem_cons_self ..)), rfl, E.wr Wh140, F.same Wh140, S.wrO E (by decide) (G.1 _ (List.mem_of_getElem? (i := 6) rfl)) Wh140⟩
    | succ k ih =>
      intro i s3 hik o3
      have hil : i < cs.length := by omega
      obtain ⟨c1, hc1⟩ : ∃ c1, cs[i]? = some c1 := ⟨_, List.getElem?_eq_getElem hil⟩
      have hal1 := hal c1 (List.mem_of_getElem? hc1)
      refine s_iloadN (q := 31) C rfl d8_30 rfl ?_
      refine s_aloadN (q := 32) C rfl rfl d8_31 rfl ?_
      refine s_callV1 (q := 35) (argsL := []) (S := [(.int (Int32.ofNat i))]) (W := 1) (cells' := 2) (slots' := 48) (a := s9) C S.1 (G.1 _ (List.mem_of_getElem? (i := 59) rfl)) (G.1 _ (List.mem_of_getElem? (i := 60) rfl)) (s_nf (G.1 _ (List.mem_of_getElem? (i := 62) rfl))) (G.1 _ (List.mem_of_getElem? (i := 62) rfl)) (G.1 _ (List.mem_of_getElem? (i := 61) rfl)) (G.1 _ (List.mem_of_getElem? (i := 10) rfl)) (G.1 _ (List.mem_of_getElem? (i := 63) rfl)) (by decide) (rm_length G O s9 cs S) rfl (lenOf pd_11 rfl) rfl (by decide) (own_leb rfl) (by decide) rfl rfl (by decide) (by decide) (wl := []) (fun _ _ q => by rw [q.1]; exact Keep.refl _ _) all0 d8_32 rfl ?_
      rintro _ h141 ⟨eh142, rfl⟩
      rw [eh142]
      show AtS p l e _ s m _ below meth c Z _ _ n0 _ _ _ h129 2 48 (mkF m 35 #[.val (.ref a), .val (.ref s9), .val (.int (Int32.ofNat i)), s3] [(.int (Int32.ofNat cs.length)), (.int (Int32.ofNat i))])
      refine s_icmp_ge_f (q := 38) C d8_35 rfl ((own_nlt (by omega) hl).mpr hil) ?_
      refine s_aloadN (q := 39) C rfl rfl d8_38 rfl ?_
      refine s_iloadN (q := 40) C rfl d8_39 rfl ?_
      refine s_callV1 (q := 43) (argsL := [(.int (Int32.ofNat i))]) (S := []) (W := 0) (cells' := 2) (slots' := 48) (a := s9) C S.1 (G.1 _ (List.mem_of_getElem? (i := 69) rfl)) (G.1 _ (List.mem_of_getElem? (i := 70) rfl)) (s_nf (G.1 _ (List.mem_of_getElem? (i := 72) rfl))) (G.1 _ (List.mem_of_getElem? (i := 72) rfl)) (G.1 _ (List.mem_of_getElem? (i := 71) rfl)) (G.1 _ (List.mem_of_getElem? (i := 10) rfl)) (G.1 _ (List.mem_of_getElem? (i := 73) rfl)) (by decide) (rm_cpAt G O s9 cs i c1 S hc1) rfl (lenOf pd_13 rfl) rfl (by decide) (own_leb rfl) (by decide) rfl rfl (by decide) (by decide) (wl := []) (fun _ _ q => by rw [q.1]; exact Keep.refl _ _) all0 d8_40 rfl ?_
      rintro _ h143 ⟨eh144, rfl⟩
      rw [eh144]
      show AtS p l e _ s m _ below meth c Z _ _ n0 _ _ _ h129 2 48 (mkF m 43 #[.val (.ref a), .val (.ref s9), .val (.int (Int32.ofNat i)), s3] [(.int c1)])
      refine s_istoreN (q := 44) (L' := #[.val (.ref a), .val (.ref s9), .val (.int (Int32.ofNat i)), .val (.int c1)]) C (Jvm.Free.XS.store1 (o := s3) rfl o3 rfl) d8_43 rfl ?_
      refine s_iloadN (q := 45) C rfl d8_44 rfl ?_
      refine s_callS1 (q := 48) (argsL := [(.int c1)]) (S := []) (W := 0) (cells' := 2) (slots' := 48) C (G.1 _ (List.mem_of_getElem? (i := 87) rfl)) (G.1 _ (List.mem_of_getElem? (i := 88) rfl)) (G.1 _ (List.mem_of_getElem? (i := 7) rfl)) (G.1 _ (List.mem_of_getElem? (i := 89) rfl)) (by decide) (rm_isAl G O c1) rfl (lenOf pd_16 rfl) rfl (by decide) (own_leb rfl) (by decide) rfl rfl (by decide) (by decide) (wl := []) (fun _ _ q => by rw [q.1]; exact Keep.refl _ _) all0 d8_45 rfl ?_
      rintro _ h145 ⟨eh146, rfl⟩
      rw [eh146]
      show AtS p l e _ s m _ below meth c Z _ _ n0 _ _ _ h129 2 48 (mkF m 48 #[.val (.ref a), .val (.ref s9), .val (.int (Int32.ofNat i)), .val (.int c1)] [(.int (own_al c1))])
      rw [show (own_al c1) = (1 : Int32) from hal1]
      refine s_if_ne_t (q := 84) C d8_48 (by decide) (by decide) (by decide) ?_
      refine s_iinc (q := 87) (L' := #[.val (.ref a), .val (.ref s9), .val (.int (Int32.ofNat (i + 1))), .val (.int c1)]) C rfl (own_one i) rfl d8_84 rfl ?_
      refine s_goto (q := 30) C d8_87 (by decide) (by decide) ?_
      exact ih (i + 1) _ (by omega) (One.val rfl)
  exact LOOP cs.length 0 .unset (by omega) One.u
theorem d29_0 : decode prog_25_method_6_code 0 = .ok (.aload_n 0, 1) := by decide +kernel
theorem d29_1 : decode prog_25_method_6_code 1 = .ok (.getfield 58, 3) := by decide +kernel
theorem d29_4 : decode prog_25_method_6_code 4 = .ok (.areturn, 1) := by decide +kernel
theorem pf29 : plainFor (⟨"com/example/condo/condo/tenant/TenantName", "value", "()Ljava/lang/String;"⟩ : MethodName) = true := by first | exact plainFor_of_name (by first | (simp [plainName, overriddenIn]; done) | decide +kernel) | decide +kernel
theorem ef_tnval (m : MethodId) (z0 : Addr) : entryFrame m #[(.ref z0)] 1 = mkF m 0 #[.val (.ref z0)] [] := by first | rfl | (simp [entryFrame, mkF, argsToLocals, Value.category, *]; done) | rfl
set_option maxRecDepth 65536 in
set_option maxHeartbeats 40000000 in
theorem rm_tnval {l : Launch} {Z : State} {a0 : Array Value} {n0 : Nat} (G : Gl Z a0 n0) {h0 : Heap} (O : Old Z n0 h0) (a : Addr) (r : Addr) (F : Fld Z h0 a "com/example/condo/condo/tenant/TenantName" "value" "Ljava/lang/String;" (.ref r)) :
    Ct [] l Z n0 (⟨"com/example/condo/condo/tenant/TenantName", "value", "()Ljava/lang/String;"⟩ : MethodName) prog_25_method_6_code 1 (some (.object "java/lang/String")) ({ frames := 0, cells := 0, slots := 0, locals := 0 } : Room) #[(.ref a)] h0 (fun v h => h = h0 ∧ v = some (.ref r)) := by
  refine Ct.intro pf29 ?_
  intro p e s m below meth c C
  refine AtW.cast ?_ (ef_tnval m a)
  refine w_aloadN (q := 1) C rfl rfl d29_0 rfl ?_
  refine w_getF (q := 4) (host := "") C (Or.inl (G.1 _ (List.mem_of_getElem? (i := 90) rfl))) Via.refl F d29_1 rfl ?_
  exact w_retA C rfl rfl rfl d29_4 (by decide) (by decide) ⟨rfl, rfl⟩
theorem d19_0 : decode prog_18_method_1_code 0 = .ok (.aload_n 0, 1) := by decide +kernel
theorem d19_1 : decode prog_18_method_1_code 1 = .ok (.invokespecial 1, 3) := by decide +kernel
theorem d19_4 : decode prog_18_method_1_code 4 = .ok (.aload_n 0, 1) := by decide +kernel
theorem d19_5 : decode prog_18_method_1_code 5 = .ok (.aload_n 1, 1) := by decide +kernel
theorem d19_6 : decode prog_18_method_1_code 6 = .ok (.putfield 7, 3) := by decide +kernel
theorem d19_9 : decode prog_18_method_1_code 9 = .ok (.aload_n 0, 1) := by decide +kernel
theorem d19_10 : decode prog_18_method_1_code 10 = .ok (.iload_n 2, 1) := by decide +kernel
theorem d19_11 : decode prog_18_method_1_code 11 = .ok (.putfield 13, 3) := by decide +kernel
theorem d19_14 : decode prog_18_method_1_code 14 = .ok (.aload_n 0, 1) := by decide +kernel
theorem d19_15 : decode prog_18_method_1_code 15 = .ok (.aload_n 3, 1) := by decide +kernel
theorem d19_16 : decode prog_18_method_1_code 16 = .ok (.putfield 17, 3) := by decide +kernel
theorem d19_19 : decode prog_18_method_1_code 19 = .ok (.return_, 1) := by decide +kernel
theorem pf19 : plainFor (⟨"com/example/condo/condo/tenant/NewKey", "<init>", "(Lcom/example/condo/condo/tenant/TenantName;ILjava/lang/String;)V"⟩ : MethodName) = true := by first | exact plainFor_of_name (by first | (simp [plainName, overriddenIn]; done) | decide +kernel) | decide +kernel
theorem ef_nkinit (m : MethodId) (z0 : Addr) (z1 : Addr) (z2 : Int32) (z3 : Addr) : entryFrame m #[(.ref z0), (.ref z1), (.int z2), (.ref z3)] 4 = mkF m 0 #[.val (.ref z0), .val (.ref z1), .val (.int z2), .val (.ref z3)] [] := by first | rfl | (simp [entryFrame, mkF, argsToLocals, Value.category, *]; done) | rfl
set_option maxRecDepth 65536 in
set_option maxHeartbeats 40000000 in
theorem rm_nkinit {l : Launch} {Z : State} {a0 : Array Value} {n0 : Nat} (G : Gl Z a0 n0) {h0 : Heap} (O : Old Z n0 h0) (a : Addr) (tn : Addr) (nb : Int32) (ky : Addr) (E : Exa Z h0 a "com/example/condo/condo/tenant/NewKey") (F_tenant : Fld Z h0 a "com/example/condo/condo/tenant/NewKey" "tenant" "Lcom/example/condo/condo/tenant/TenantName;" .null) (F_keyId : Fld Z h0 a "com/example/condo/condo/tenant/NewKey" "keyId" "I" (.int (0 : Int32))) (F_key : Fld Z h0 a "com/example/condo/condo/tenant/NewKey" "key" "Ljava/lang/String;" .null) (hge : n0 ≤ a) :
    Ct [] l Z n0 (⟨"com/example/condo/condo/tenant/NewKey", "<init>", "(Lcom/example/condo/condo/tenant/TenantName;ILjava/lang/String;)V"⟩ : MethodName) prog_18_method_1_code 4 none ({ frames := 2, cells := 0, slots := 0, locals := 24 } : Room) #[(.ref a), (.ref tn), (.int nb), (.ref ky)] h0 (fun v h => Keep h0 h [a] ∧ v = none ∧ Exa Z h a "com/example/condo/condo/tenant/NewKey" ∧ Fld Z h a "com/example/condo/condo/tenant/NewKey" "tenant" "Lcom/example/condo/condo/tenant/TenantName;" (.ref tn) ∧ Fld Z h a "com/example/condo/condo/tenant/NewKey" "keyId" "I" (.int nb) ∧ Fld Z h a "com/example/condo/condo/tenant/NewKey" "key" "Ljava/lang/String;" (.ref ky)) := by
  refine Ct.intro pf19 ?_
  intro p e s m below meth c C
  refine AtW.cast ?_ (ef_nkinit m a tn nb ky)
  refine w_aloadN (q := 1) C rfl rfl d19_0 rfl ?_
  refine w_callI (q := 4) (argsL := []) (S := []) (W := 0) (cells' := 0) (slots' := 0) (a := a) C rfl (G.1 _ (List.mem_of_getElem? (i := 98) rfl)) (G.1 _ (List.mem_of_getElem? (i := 42) rfl)) (G.1 _ (List.mem_of_getElem? (i := 44) rfl)) (G.1 _ (List.mem_of_getElem? (i := 45) rfl)) (by decide) (rm_record G O a) rfl (lenOf pd_4 rfl) rfl (by decide) (own_leb rfl) (by decide) rfl rfl (by decide) (by decide) d19_1 rfl ?_
  rintro _ h147 ⟨eh148, rfl⟩
  rw [eh148]
  show AtW p l e _ s m _ below meth c n0 _ h0 0 0 (mkF m 4 #[.val (.ref a), .val (.ref tn), .val (.int nb), .val (.ref ky)] [])
  refine w_aloadN (q := 5) C rfl rfl d19_4 rfl ?_
  refine w_aloadN (q := 6) C rfl rfl d19_5 rfl ?_
  refine w_putF (q := 9) (host := "") (v' := (.ref tn)) C (G.1 _ (List.mem_of_getElem? (i := 99) rfl)) Via.refl F_tenant E (Or.inr ⟨(G.1 _ (List.mem_of_getElem? (i := 100) rfl)), rfl, rfl⟩) (G.1 _ (List.mem_of_getElem? (i := 93) rfl)) (ty := (.object "com/example/condo/condo/tenant/TenantName")) (by decide) rfl rfl hge d19_6 rfl ?_
  intro h149 Wh149
  replace E := E.wr Wh149
  replace F_tenant := F_tenant.same Wh149
  replace F_keyId := F_keyId.other Wh149 (Or.inr (slot_ne (Or.inr (G.1 _ (List.mem_of_getElem? (i := 102) rfl))) (Or.inr (G.1 _ (List.mem_of_getElem? (i := 100) rfl))) (by decide) (t := .int) (t' := (.object "com/example/condo/condo/tenant/TenantName")) (by decide) (by decide)))
  replace F_key := F_key.other Wh149 (Or.inr (slot_ne (Or.inr (G.1 _ (List.mem_of_getElem? (i := 104) rfl))) (Or.inr (G.1 _ (List.mem_of_getElem? (i := 100) rfl))) (by decide) (t := (.object "java/lang/String")) (t' := (.object "com/example/condo/condo/tenant/TenantName")) (by decide) (by decide)))
  have K150 : Keep h0 h149 [a] := (Keep.refl h0 [a]).wr Wh149 (Or.inl (List.mem_cons_self ..))
  refine w_aloadN (q := 10) C rfl rfl d19_9 rfl ?_
  refine w_iloadN (q := 11) C rfl d19_10 rfl ?_
  refine w_putF (q := 14) (host := "") (v' := (.int nb)) C (G.1 _ (List.mem_of_getElem? (i := 101) rfl)) Via.refl F_keyId E (Or.inr ⟨(G.1 _ (List.mem_of_getElem? (i := 102) rfl)), rfl, rfl⟩) (G.1 _ (List.mem_of_getElem? (i := 93) rfl)) (ty := .int) (by decide) rfl rfl hge d19_11 rfl ?_
  intro h151 Wh151
  replace E := E.wr Wh151
  replace F_tenant := F_tenant.other Wh151 (Or.inr (slot_ne (Or.inr (G.1 _ (List.mem_of_getElem? (i := 100) rfl))) (Or.inr (G.1 _ (List.mem_of_getElem? (i := 102) rfl))) (by decide) (t := (.object "com/example/condo/condo/tenant/TenantName")) (t' := .int) (by decide) (by decide)))
  replace F_keyId := F_keyId.same Wh151
  replace F_key := F_key.other Wh151 (Or.inr (slot_ne (Or.inr (G.1 _ (List.mem_of_getElem? (i := 104) rfl))) (Or.inr (G.1 _ (List.mem_of_getElem? (i := 102) rfl))) (by decide) (t := (.object "java/lang/String")) (t' := .int) (by decide) (by decide)))
  have K152 : Keep h0 h151 [a] := K150.wr Wh151 (Or.inl (List.mem_cons_self ..))
  refine w_aloadN (q := 15) C rfl rfl d19_14 rfl ?_
  refine w_aloadN (q := 16) C rfl rfl d19_15 rfl ?_
  refine w_putF (q := 19) (host := "") (v' := (.ref ky)) C (G.1 _ (List.mem_of_getElem? (i := 103) rfl)) Via.refl F_key E (Or.inr ⟨(G.1 _ (List.mem_of_getElem? (i := 104) rfl)), rfl, rfl⟩) (G.1 _ (List.mem_of_getElem? (i := 93) rfl)) (ty := (.object "java/lang/String")) (by decide) rfl rfl hge d19_16 rfl ?_
  intro h153 Wh153
  replace E := E.wr Wh153
  replace F_tenant := F_tenant.other Wh153 (Or.inr (slot_ne (Or.inr (G.1 _ (List.mem_of_getElem? (i := 100) rfl))) (Or.inr (G.1 _ (List.mem_of_getElem? (i := 104) rfl))) (by decide) (t := (.object "com/example/condo/condo/tenant/TenantName")) (t' := (.object "java/lang/String")) (by decide) (by decide)))
  replace F_keyId := F_keyId.other Wh153 (Or.inr (slot_ne (Or.inr (G.1 _ (List.mem_of_getElem? (i := 102) rfl))) (Or.inr (G.1 _ (List.mem_of_getElem? (i := 104) rfl))) (by decide) (t := .int) (t' := (.object "java/lang/String")) (by decide) (by decide)))
  replace F_key := F_key.same Wh153
  have K154 : Keep h0 h153 [a] := K152.wr Wh153 (Or.inl (List.mem_cons_self ..))
  exact w_retV C rfl d19_19 (by decide) (by decide) ⟨K154, rfl, E, F_tenant, F_keyId, F_key⟩
theorem d20_0 : decode prog_18_method_2_code 0 = .ok (.new 21, 3) := by decide +kernel
theorem d20_3 : decode prog_18_method_2_code 3 = .ok (.dup, 1) := by decide +kernel
theorem d20_4 : decode prog_18_method_2_code 4 = .ok (.invokespecial 23, 3) := by decide +kernel
theorem d20_7 : decode prog_18_method_2_code 7 = .ok (.ldc 24, 2) := by decide +kernel
theorem d20_9 : decode prog_18_method_2_code 9 = .ok (.invokevirtual 26, 3) := by decide +kernel
theorem d20_12 : decode prog_18_method_2_code 12 = .ok (.aload_n 0, 1) := by decide +kernel
theorem d20_13 : decode prog_18_method_2_code 13 = .ok (.getfield 7, 3) := by decide +kernel
theorem d20_16 : decode prog_18_method_2_code 16 = .ok (.invokevirtual 30, 3) := by decide +kernel
theorem d20_19 : decode prog_18_method_2_code 19 = .ok (.invokevirtual 26, 3) := by decide +kernel
theorem d20_22 : decode prog_18_method_2_code 22 = .ok (.ldc 36, 2) := by decide +kernel
theorem d20_24 : decode prog_18_method_2_code 24 = .ok (.invokevirtual 26, 3) := by decide +kernel
theorem d20_27 : decode prog_18_method_2_code 27 = .ok (.aload_n 0, 1) := by decide +kernel
theorem d20_28 : decode prog_18_method_2_code 28 = .ok (.getfield 13, 3) := by decide +kernel
theorem d20_31 : decode prog_18_method_2_code 31 = .ok (.invokevirtual 38, 3) := by decide +kernel
theorem d20_34 : decode prog_18_method_2_code 34 = .ok (.ldc 41, 2) := by decide +kernel
theorem d20_36 : decode prog_18_method_2_code 36 = .ok (.invokevirtual 26, 3) := by decide +kernel
theorem d20_39 : decode prog_18_method_2_code 39 = .ok (.invokevirtual 43, 3) := by decide +kernel
theorem d20_42 : decode prog_18_method_2_code 42 = .ok (.areturn, 1) := by decide +kernel
theorem pf20 : plainFor (⟨"com/example/condo/condo/tenant/NewKey", "toString", "()Ljava/lang/String;"⟩ : MethodName) = true := by first | exact plainFor_of_name (by first | (simp [plainName, overriddenIn]; done) | decide +kernel) | decide +kernel
theorem ef_toStr (m : MethodId) (z0 : Addr) : entryFrame m #[(.ref z0)] 1 = mkF m 0 #[.val (.ref z0)] [] := by first | rfl | (simp [entryFrame, mkF, argsToLocals, Value.category, *]; done) | rfl
set_option maxRecDepth 65536 in
set_option maxHeartbeats 40000000 in
theorem rm_toStr {l : Launch} {Z : State} {a0 : Array Value} {n0 : Nat} (G : Gl Z a0 n0) {h0 : Heap} (O : Old Z n0 h0) (a : Addr) (d : Addr) (d2 : Addr) (cs : List Int32) (x : Int32) (F : Fld Z h0 a "com/example/condo/condo/tenant/NewKey" "tenant" "Lcom/example/condo/condo/tenant/TenantName;" (.ref d)) (E1 : Exa Z h0 d "com/example/condo/condo/tenant/TenantName") (F1 : Fld Z h0 d "com/example/condo/condo/tenant/TenantName" "value" "Ljava/lang/String;" (.ref d2)) (FX : Fld Z h0 a "com/example/condo/condo/tenant/NewKey" "keyId" "I" (.int x)) (S : Str Z h0 d2 cs) (hlen : cs.length ≤ 3) :
    Cs [] l Z consts_1 n0 (⟨"com/example/condo/condo/tenant/NewKey", "toString", "()Ljava/lang/String;"⟩ : MethodName) prog_18_method_2_code 1 (some (.object "java/lang/String")) ({ frames := 6, cells := 15, slots := 515, locals := 91 } : Room) #[(.ref a)] h0 (fun v h => Keep h0 h [] ∧ ∃ r, v = some (.ref r) ∧ Str Z h r (((([(78 : Int32), (101 : Int32), (119 : Int32), (75 : Int32), (101 : Int32), (121 : Int32), (91 : Int32), (116 : Int32), (101 : Int32), (110 : Int32), (97 : Int32), (110 : Int32), (116 : Int32), (61 : Int32)] ++ cs) ++ [(44 : Int32), (32 : Int32), (107 : Int32), (101 : Int32), (121 : Int32), (73 : Int32), (100 : Int32), (61 : Int32)]) ++ own_istr x) ++ [(93 : Int32)])) := by
  refine Cs.intro pf20 ?_
  intro p e s m below meth c C
  refine AtS.cast ?_ (ef_toStr m a)
  have hiz := own_isz_le x
  have hil := own_istr_len x
  refine s_new (q := 3) (cells' := 1) (slots' := 4) C (G.1 _ (List.mem_of_getElem? (i := 110) rfl)) (G.1 _ (List.mem_of_getElem? (i := 111) rfl)) (G.1 _ (List.mem_of_getElem? (i := 112) rfl)) rfl rfl (by decide) (by decide) d20_0 rfl ?_
  intro h155 o156 g_o156 Eh155 A_o156 D_o156
  have F_value_o156 : Fld Z h155 o156 "java/lang/AbstractStringBuilder" "value" "[B" .null := D_o156 (Or.inl (G.1 _ (List.mem_of_getElem? (i := 125) rfl))) (ty := (.array .byte)) (by decide)
  have F_coder_o156 : Fld Z h155 o156 "java/lang/AbstractStringBuilder" "coder" "B" (.int (0 : Int32)) := D_o156 (Or.inl (G.1 _ (List.mem_of_getElem? (i := 127) rfl))) (ty := .byte) (by decide)
  have F_count_o156 : Fld Z h155 o156 "java/lang/AbstractStringBuilder" "count" "I" (.int (0 : Int32)) := D_o156 (Or.inl (G.1 _ (List.mem_of_getElem? (i := 141) rfl))) (ty := .int) (by decide)
  have ge_o156 : n0 ≤ o156 := by rw [g_o156]; exact Old_le O
  have sz_o156 : h0.size ≤ o156 := Nat.le_of_eq g_o156.symm
  have K157 : Keep h0 h155 [] := Keep.of_ext Eh155
  have O158 := Old_k0 O K157
  refine s_dup (q := 4) C rfl d20_3 rfl ?_
  refine AtS.mark ?_
  refine s_callI1 (q := 7) (argsL := []) (S := [(.ref o156)]) (W := 1) (cells' := 2) (slots' := 20) (a := o156) C rfl (G.1 _ (List.mem_of_getElem? (i := 113) rfl)) (G.1 _ (List.mem_of_getElem? (i := 114) rfl)) (G.1 _ (List.mem_of_getElem? (i := 112) rfl)) (G.1 _ (List.mem_of_getElem? (i := 115) rfl)) (by decide) (rm_sbinit G O158 o156 A_o156 F_value_o156 F_coder_o156 F_count_o156 ge_o156) rfl (lenOf pd_4 rfl) rfl (by decide) (own_leb rfl) (by decide) rfl rfl (by decide) (by decide) (wl := [o156]) (fun _ _ q => q.1) (allS (SfOk.exa A_o156 (by decide)) (all0)) d20_4 rfl ?_
  rintro _ h161 ⟨Kh161, rfl, t159, hg_t159, B160⟩
  show AtS p l e _ s m _ below meth c Z _ _ n0 _ _ _ h161 2 20 (mkF m 7 #[.val (.ref a)] [(.ref o156)])
  have K162 : Keep h0 h161 [] := own_K1 K157 Kh161 sz_o156
  have O163 := Old_k0 O K162
  have sz_t159 : h0.size ≤ t159 := Nat.le_trans K157.1 hg_t159
  have ge_t159 : n0 ≤ t159 := Nat.le_trans (Old_le O) sz_t159
  refine AtS.add (x := t159) hg_t159 B160.tlt ?_
  show AtS p l e _ s m _ below meth c Z _ _ n0 _ _ _ h161 2 20 (mkF m 7 #[.val (.ref a)] [(.ref o156)])
  have hc164 : (16 : Nat) = own_cap ([] : List Int32).length := by decide
  refine s_ldc (q := 9) (n := 56) (cells' := 4) (slots' := 80) (vs := [(.int (78 : Int32)), (.int (101 : Int32)), (.int (119 : Int32)), (.int (75 : Int32)), (.int (101 : Int32)), (.int (121 : Int32)), (.int (91 : Int32)), (.int (116 : Int32)), (.int (101 : Int32)), (.int (110 : Int32)), (.int (97 : Int32)), (.int (110 : Int32)), (.int (116 : Int32)), (.int (61 : Int32))]) C G.el G.sa (G.1 _ (List.mem_of_getElem? (i := 128) rfl)) (by decide) (by decide +kernel) (by decide) (by decide +kernel) (by decide) rfl rfl (by decide) (by decide) d20_7 rfl ?_
  intro h165 s166 t167 Eh165 e1_s166 e2_s166 e3_s166 e4_s166 hne_s166
  have S_s166 : Str Z h165 s166 [(78 : Int32), (101 : Int32), (119 : Int32), (75 : Int32), (101 : Int32), (121 : Int32), (91 : Int32), (116 : Int32), (101 : Int32), (110 : Int32), (97 : Int32), (110 : Int32), (116 : Int32), (61 : Int32)] := ⟨e1_s166, (own_L1c (by decide) (own_L1c (by decide) (own_L1c (by decide) (own_L1c (by decide) (own_L1c (by decide) (own_L1c (by decide) (own_L1c (by decide) (own_L1c (by decide) (own_L1c (by decide) (own_L1c (by decide) (own_L1c (by decide) (own_L1c (by decide) (own_L1c (by decide) (own_L1c (by decide) (fun c hc => absurd hc List.not_mem_nil))))))))))))))), t167, e2_s166, e3_s166, e4_s166⟩
  have K168 : Keep h0 h165 [] := own_K0 K162 (Keep.of_ext Eh165)
  have O169 := Old_k0 O K168
  have B170 := Sb_k0 B160 (Keep.of_ext Eh165)
  have SX171 := S_s166
  refine AtS.mark ?_
  refine s_callV1 (q := 12) (argsL := [(.ref s166)]) (S := []) (W := 0) (cells' := 5) (slots' := 150) (a := o156) C B170.1 (G.1 _ (List.mem_of_getElem? (i := 129) rfl)) (G.1 _ (List.mem_of_getElem? (i := 130) rfl)) (s_nf (G.1 _ (List.mem_of_getElem? (i := 132) rfl))) (G.1 _ (List.mem_of_getElem? (i := 132) rfl)) (G.1 _ (List.mem_of_getElem? (i := 131) rfl)) (G.1 _ (List.mem_of_getElem? (i := 112) rfl)) (G.1 _ (List.mem_of_getElem? (i := 133) rfl)) (by decide) (rm_sbApp G O169 o156 t159 [] 16 s166 [(78 : Int32), (101 : Int32), (119 : Int32), (75 : Int32), (101 : Int32), (121 : Int32), (91 : Int32), (116 : Int32), (101 : Int32), (110 : Int32), (97 : Int32), (110 : Int32), (116 : Int32), (61 : Int32)] B170 SX171 (own_cap_fit hc164 (by first | omega | (simp only [List.length_append, List.length_cons, List.length_nil, own_istr_len]; omega)) (by first | omega | (simp only [List.length_append, List.length_cons, List.length_nil, own_istr_len]; omega))) ge_o156 ge_t159 (ne_exa SX171.1 B170.1 (by decide)) (own_hst SX171 B170.1 (G.1 _ (List.mem_of_getElem? (i := 111) rfl)))) rfl (lenOf pd_20 rfl) rfl (by decide) (own_leb rfl) (by decide) rfl rfl (by decide) (by decide) (wl := [o156, t159]) (fun _ _ q => q.1) (allS (SfOk.exa B170.1 (by decide)) (allS (SfOk.mem (by simp)) (all0))) d20_9 rfl ?_
  rintro _ h177 ⟨Kh177, rfl, u173, cap174, hu175, hcp176, B172⟩
  show AtS p l e _ s m _ below meth c Z _ _ n0 _ _ _ h177 5 150 (mkF m 12 #[.val (.ref a)] [(.ref o156)])
  have K178 : Keep h0 h177 [] := K168.trans Kh177 (allS (P := fun x => x ∈ [] ∨ h0.size ≤ x) (Or.inr sz_o156) (allS (Or.inr sz_t159) all0))
  have O179 := Old_k0 O K178
  replace B172 : Sb Z h177 o156 u173 [(78 : Int32), (101 : Int32), (119 : Int32), (75 : Int32), (101 : Int32), (121 : Int32), (91 : Int32), (116 : Int32), (101 : Int32), (110 : Int32), (97 : Int32), (110 : Int32), (116 : Int32), (61 : Int32)] cap174 := B172
  have sz_u173 : h0.size ≤ u173 := hu175.elim (fun q => by rw [q]; exact sz_t159) (fun q => Nat.le_trans K168.1 q)
  have ge_u173 : n0 ≤ u173 := Nat.le_trans (Old_le O) sz_u173
  have hc180 : cap174 = own_cap [(78 : Int32), (101 : Int32), (119 : Int32), (75 : Int32), (101 : Int32), (121 : Int32), (91 : Int32), (116 : Int32), (101 : Int32), (110 : Int32), (97 : Int32), (110 : Int32), (116 : Int32), (61 : Int32)].length := (own_cap_step hc164 (by first | omega | (simp only [List.length_append, List.length_cons, List.length_nil, own_istr_len]; omega)) (by first | omega | (simp only [List.length_append, List.length_cons, List.length_nil, own_istr_len]; omega)) hcp176).trans (by first | rfl | (simp only [List.length_append, own_istr_len]; done) | (congr 1; simp only [List.length_append, List.length_cons, List.length_nil]; omega))
  refine AtS.addOr (x := u173) (hu175.elim (fun q => Or.inl (by rw [q]; simp)) Or.inr) B172.tlt ?_
  show AtS p l e _ s m _ below meth c Z _ _ n0 _ _ _ h177 5 150 (mkF m 12 #[.val (.ref a)] [(.ref o156)])
  refine s_aloadN (q := 13) C rfl rfl d20_12 rfl ?_
  refine s_getF (q := 16) (host := "") C (Or.inl (G.1 _ (List.mem_of_getElem? (i := 99) rfl))) Via.refl (Fld_k0 F K178) d20_13 rfl ?_
  refine s_callV1 (q := 19) (argsL := []) (S := [(.ref o156)]) (W := 1) (cells' := 5) (slots' := 150) (a := d) C (Exa_k0 E1 K178) (G.1 _ (List.mem_of_getElem? (i := 167) rfl)) (G.1 _ (List.mem_of_getElem? (i := 168) rfl)) (s_nf (G.1 _ (List.mem_of_getElem? (i := 170) rfl))) (G.1 _ (List.mem_of_getElem? (i := 170) rfl)) (G.1 _ (List.mem_of_getElem? (i := 169) rfl)) (G.1 _ (List.mem_of_getElem? (i := 7) rfl)) (G.1 _ (List.mem_of_getElem? (i := 171) rfl)) (by decide) (rm_tnval G O179 d d2 (Fld_k0 F1 K178)) rfl (lenOf pd_18 rfl) rfl (by decide) (own_leb rfl) (by decide) rfl rfl (by decide) (by decide) (wl := []) (fun _ _ q => by rw [q.1]; exact Keep.refl _ _) all0 d20_16 rfl ?_
  rintro _ h181 ⟨eh182, rfl⟩
  rw [eh182]
  show AtS p l e _ s m _ below meth c Z _ _ n0 _ _ _ h177 5 150 (mkF m 19 #[.val (.ref a)] [(.ref d2), (.ref o156)])
  have SX183 := (Str_k0 S K178)
  refine AtS.mark ?_
  refine s_callV1 (q := 22) (argsL := [(.ref d2)]) (S := []) (W := 0) (cells' := 6) (slots' := 220) (a := o156) C B172.1 (G.1 _ (List.mem_of_getElem? (i := 129) rfl)) (G.1 _ (List.mem_of_getElem? (i := 130) rfl)) (s_nf (G.1 _ (List.mem_of_getElem? (i := 132) rfl))) (G.1 _ (List.mem_of_getElem? (i := 132) rfl)) (G.1 _ (List.mem_of_getElem? (i := 131) rfl)) (G.1 _ (List.mem_of_getElem? (i := 112) rfl)) (G.1 _ (List.mem_of_getElem? (i := 133) rfl)) (by decide) (rm_sbApp G O179 o156 u173 [(78 : Int32), (101 : Int32), (119 : Int32), (75 : Int32), (101 : Int32), (121 : Int32), (91 : Int32), (116 : Int32), (101 : Int32), (110 : Int32), (97 : Int32), (110 : Int32), (116 : Int32), (61 : Int32)] cap174 d2 cs B172 SX183 (own_cap_fit hc180 (by first | omega | (simp only [List.length_append, List.length_cons, List.length_nil, own_istr_len]; omega)) (by first | omega | (simp only [List.length_append, List.length_cons, List.length_nil, own_istr_len]; omega))) ge_o156 ge_u173 (ne_exa SX183.1 B172.1 (by decide)) (own_hst SX183 B172.1 (G.1 _ (List.mem_of_getElem? (i := 111) rfl)))) rfl (lenOf pd_20 rfl) rfl (by decide) (own_leb rfl) (by decide) rfl rfl (by decide) (by decide) (wl := [o156, u173]) (fun _ _ q => q.1) (allS (SfOk.exa B172.1 (by decide)) (allS (SfOk.mem (by simp)) (all0))) d20_19 rfl ?_
  rintro _ h189 ⟨Kh189, rfl, u185, cap186, hu187, hcp188, B184⟩
  show AtS p l e _ s m _ below meth c Z _ _ n0 _ _ _ h189 6 220 (mkF m 22 #[.val (.ref a)] [(.ref o156)])
  have K190 : Keep h0 h189 [] := K178.trans Kh189 (allS (P := fun x => x ∈ [] ∨ h0.size ≤ x) (Or.inr sz_o156) (allS (Or.inr sz_u173) all0))
  have O191 := Old_k0 O K190
  replace B184 : Sb Z h189 o156 u185 ([(78 : Int32), (101 : Int32), (119 : Int32), (75 : Int32), (101 : Int32), (121 : Int32), (91 : Int32), (116 : Int32), (101 : Int32), (110 : Int32), (97 : Int32), (110 : Int32), (116 : Int32), (61 : Int32)] ++ cs) cap186 := B184
  have sz_u185 : h0.size ≤ u185 := hu187.elim (fun q => by rw [q]; exact sz_u173) (fun q => Nat.le_trans K178.1 q)
  have ge_u185 : n0 ≤ u185 := Nat.le_trans (Old_le O) sz_u185
  have hc192 : cap186 = own_cap ([(78 : Int32), (101 : Int32), (119 : Int32), (75 : Int32), (101 : Int32), (121 : Int32), (91 : Int32), (116 : Int32), (101 : Int32), (110 : Int32), (97 : Int32), (110 : Int32), (116 : Int32), (61 : Int32)] ++ cs).length := (own_cap_step hc180 (by first | omega | (simp only [List.length_append, List.length_cons, List.length_nil, own_istr_len]; omega)) (by first | omega | (simp only [List.length_append, List.length_cons, List.length_nil, own_istr_len]; omega)) hcp188).trans (by first | rfl | (simp only [List.length_append, own_istr_len]; done) | (congr 1; simp only [List.length_append, List.length_cons, List.length_nil]; omega))
  refine AtS.addOr (x := u185) (hu187.elim (fun q => Or.inl (by rw [q]; simp)) Or.inr) B184.tlt ?_
  show AtS p l e _ s m _ below meth c Z _ _ n0 _ _ _ h189 6 220 (mkF m 22 #[.val (.ref a)] [(.ref o156)])
  refine s_ldc (q := 24) (n := 32) (cells' := 8) (slots' := 256) (vs := [(.int (44 : Int32)), (.int (32 : Int32)), (.int (107 : Int32)), (.int (101 : Int32)), (.int (121 : Int32)), (.int (73 : Int32)), (.int (100 : Int32)), (.int (61 : Int32))]) C G.el G.sa (G.1 _ (List.mem_of_getElem? (i := 195) rfl)) (by decide) (by decide +kernel) (by decide) (by decide +kernel) (by decide) rfl rfl (by decide) (by decide) d20_22 rfl ?_
  intro h193 s194 t195 Eh193 e1_s194 e2_s194 e3_s194 e4_s194 hne_s194
  have S_s194 : Str Z h193 s194 [(44 : Int32), (32 : Int32), (107 : Int32), (101 : Int32), (121 : Int32), (73 : Int32), (100 : Int32), (61 : Int32)] := ⟨e1_s194, (own_L1c (by decide) (own_L1c (by decide) (own_L1c (by decide) (own_L1c (by decide) (own_L1c (by decide) (own_L1c (by decide) (own_L1c (by decide) (own_L1c (by decide) (fun c hc => absurd hc List.not_mem_nil))))))))), t195, e2_s194, e3_s194, e4_s194⟩
  have K196 : Keep h0 h193 [] := own_K0 K190 (Keep.of_ext Eh193)
  have O197 := Old_k0 O K196
  have B198 := Sb_k0 B184 (Keep.of_ext Eh193)
  have SX199 := S_s194
  refine AtS.mark ?_
  refine s_callV1 (q := 27) (argsL := [(.ref s194)]) (S := []) (W := 0) (cells' := 9) (slots' := 326) (a := o156) C B198.1 (G.1 _ (List.mem_of_getElem? (i := 129) rfl)) (G.1 _ (List.mem_of_getElem? (i := 130) rfl)) (s_nf (G.1 _ (List.mem_of_getElem? (i := 132) rfl))) (G.1 _ (List.mem_of_getElem? (i := 132) rfl)) (G.1 _ (List.mem_of_getElem? (i := 131) rfl)) (G.1 _ (List.mem_of_getElem? (i := 112) rfl)) (G.1 _ (List.mem_of_getElem? (i := 133) rfl)) (by decide) (rm_sbApp G O197 o156 u185 ([(78 : Int32), (101 : Int32), (119 : Int32), (75 : Int32), (101 : Int32), (121 : Int32), (91 : Int32), (116 : Int32), (101 : Int32), (110 : Int32), (97 : Int32), (110 : Int32), (116 : Int32), (61 : Int32)] ++ cs) cap186 s194 [(44 : Int32), (32 : Int32), (107 : Int32), (101 : Int32), (121 : Int32), (73 : Int32), (100 : Int32), (61 : Int32)] B198 SX199 (own_cap_fit hc192 (by first | omega | (simp only [List.length_append, List.length_cons, List.length_nil, own_istr_len]; omega)) (by first | omega | (simp only [List.length_append, List.length_cons, List.length_nil, own_istr_len]; omega))) ge_o156 ge_u185 (ne_exa SX199.1 B198.1 (by decide)) (own_hst SX199 B198.1 (G.1 _ (List.mem_of_getElem? (i := 111) rfl)))) rfl (lenOf pd_20 rfl) rfl (by decide) (own_leb rfl) (by decide) rfl rfl (by decide) (by decide) (wl := [o156, u185]) (fun _ _ q => q.1) (allS (SfOk.exa B198.1 (by decide)) (allS (SfOk.mem (by simp)) (all0))) d20_24 rfl ?_
  rintro _ h205 ⟨Kh205, rfl, u201, cap202, hu203, hcp204, B200⟩
  show AtS p l e _ s m _ below meth c Z _ _ n0 _ _ _ h205 9 326 (mkF m 27 #[.val (.ref a)] [(.ref o156)])
  have K206 : Keep h0 h205 [] := K196.trans Kh205 (allS (P := fun x => x ∈ [] ∨ h0.size ≤ x) (Or.inr sz_o156) (allS (Or.inr sz_u185) all0))
  have O207 := Old_k0 O K206
  replace B200 : Sb Z h205 o156 u201 (([(78 : Int32), (101 : Int32), (119 : Int32), (75 : Int32), (101 : Int32), (121 : Int32), (91 : Int32), (116 : Int32), (101 : Int32), (110 : Int32), (97 : Int32), (110 : Int32), (116 : Int32), (61 : Int32)] ++ cs) ++ [(44 : Int32), (32 : Int32), (107 : Int32), (101 : Int32), (121 : Int32), (73 : Int32), (100 : Int32), (61 : Int32)]) cap202 := B200
  have sz_u201 : h0.size ≤ u201 := hu203.elim (fun q => by rw [q]; exact sz_u185) (fun q => Nat.le_trans K196.1 q)
  have ge_u201 : n0 ≤ u201 := Nat.le_trans (Old_le O) sz_u201
  have hc208 : cap202 = own_cap (([(78 : Int32), (101 : Int32), (119 : Int32), (75 : Int32), (101 : Int32), (121 : Int32), (91 : Int32), (116 : Int32), (101 : Int32), (110 : Int32), (97 : Int32), (110 : Int32), (116 : Int32), (61 : Int32)] ++ cs) ++ [(44 : Int32), (32 : Int32), (107 : Int32), (101 : Int32), (121 : Int32), (73 : Int32), (100 : Int32), (61 : Int32)]).length := (own_cap_step hc192 (by first | omega | (simp only [List.length_append, List.length_cons, List.length_nil, own_istr_len]; omega)) (by first | omega | (simp only [List.length_append, List.length_cons, List.length_nil, own_istr_len]; omega)) hcp204).trans (by first | rfl | (simp only [List.length_append, own_istr_len]; done) | (congr 1; simp only [List.length_append, List.length_cons, List.length_nil]; omega))
  refine AtS.addOr (x := u201) (hu203.elim (fun q => Or.inl (by rw [q]; simp)) Or.inr) B200.tlt ?_
  show AtS p l e _ s m _ below meth c Z _ _ n0 _ _ _ h205 9 326 (mkF m 27 #[.val (.ref a)] [(.ref o156)])
  refine s_aloadN (q := 28) C rfl rfl d20_27 rfl ?_
  refine s_getF (q := 31) (host := "") C (Or.inl (G.1 _ (List.mem_of_getElem? (i := 101) rfl))) Via.refl (Fld_k0 FX K206) d20_28 rfl ?_
  refine AtS.mark ?_
  refine s_callV1 (q := 34) (argsL := [(.int x)]) (S := []) (W := 0) (cells' := 10) (slots' := 396) (a := o156) C B200.1 (G.1 _ (List.mem_of_getElem? (i := 196) rfl)) (G.1 _ (List.mem_of_getElem? (i := 197) rfl)) (s_nf (G.1 _ (List.mem_of_getElem? (i := 199) rfl))) (G.1 _ (List.mem_of_getElem? (i := 199) rfl)) (G.1 _ (List.mem_of_getElem? (i := 198) rfl)) (G.1 _ (List.mem_of_getElem? (i := 112) rfl)) (G.1 _ (List.mem_of_getElem? (i := 200) rfl)) (by decide) (rm_sbAppI G O207 o156 u201 (([(78 : Int32), (101 : Int32), (119 : Int32), (75 : Int32), (101 : Int32), (121 : Int32), (91 : Int32), (116 : Int32), (101 : Int32), (110 : Int32), (97 : Int32), (110 : Int32), (116 : Int32), (61 : Int32)] ++ cs) ++ [(44 : Int32), (32 : Int32), (107 : Int32), (101 : Int32), (121 : Int32), (73 : Int32), (100 : Int32), (61 : Int32)]) cap202 x B200 (own_cap_fit hc208 (by first | omega | (simp only [List.length_append, List.length_cons, List.length_nil, own_istr_len]; omega)) (by first | omega | (simp only [List.length_append, List.length_cons, List.length_nil, own_istr_len]; omega))) ge_o156 ge_u201) rfl (lenOf pd_28 rfl) rfl (by decide) (own_leb rfl) (by decide) rfl rfl (by decide) (by decide) (wl := [o156, u201]) (fun _ _ q => q.1) (allS (SfOk.exa B200.1 (by decide)) (allS (SfOk.mem (by simp)) (all0))) d20_31 rfl ?_
  rintro _ h214 ⟨Kh214, rfl, u210, cap211, hu212, hcp213, B209⟩
  show AtS p l e _ s m _ below meth c Z _ _ n0 _ _ _ h214 10 396 (mkF m 34 #[.val (.ref a)] [(.ref o156)])
  have K215 : Keep h0 h214 [] := K206.trans Kh214 (allS (P := fun x => x ∈ [] ∨ h0.size ≤ x) (Or.inr sz_o156) (allS (Or.inr sz_u201) all0))
  have O216 := Old_k0 O K215
  replace B209 : Sb Z h214 o156 u210 ((([(78 : Int32), (101 : Int32), (119 : Int32), (75 : Int32), (101 : Int32), (121 : Int32), (91 : Int32), (116 : Int32), (101 : Int32), (110 : Int32), (97 : Int32), (110 : Int32), (116 : Int32), (61 : Int32)] ++ cs) ++ [(44 : Int32), (32 : Int32), (107 : Int32), (101 : Int32), (121 : Int32), (73 : Int32), (100 : Int32), (61 : Int32)]) ++ (own_istr x)) cap211 := B209
  have sz_u210 : h0.size ≤ u210 := hu212.elim (fun q => by rw [q]; exact sz_u201) (fun q => Nat.le_trans K206.1 q)
  have ge_u210 : n0 ≤ u210 := Nat.le_trans (Old_le O) sz_u210
  have hc217 : cap211 = own_cap ((([(78 : Int32), (101 : Int32), (119 : Int32), (75 : Int32), (101 : Int32), (121 : Int32), (91 : Int32), (116 : Int32), (101 : Int32), (110 : Int32), (97 : Int32), (110 : Int32), (116 : Int32), (61 : Int32)] ++ cs) ++ [(44 : Int32), (32 : Int32), (107 : Int32), (101 : Int32), (121 : Int32), (73 : Int32), (100 : Int32), (61 : Int32)]) ++ (own_istr x)).length := (own_cap_step hc208 (by first | omega | (simp only [List.length_append, List.length_cons, List.length_nil, own_istr_len]; omega)) (by first | omega | (simp only [List.length_append, List.length_cons, List.length_nil, own_istr_len]; omega)) hcp213).trans (by first | rfl | (simp only [List.length_append, own_istr_len]; done) | (congr 1; simp only [List.length_append, List.length_cons, List.length_nil]; omega))
  refine AtS.addOr (x := u210) (hu212.elim (fun q => Or.inl (by rw [q]; simp)) Or.inr) B209.tlt ?_
  show AtS p l e _ s m _ below meth c Z _ _ n0 _ _ _ h214 10 396 (mkF m 34 #[.val (.ref a)] [(.ref o156)])
  refine s_ldc (q := 36) (n := 4) (cells' := 12) (slots' := 404) (vs := [(.int (93 : Int32))]) C G.el G.sa (G.1 _ (List.mem_of_getElem? (i := 218) rfl)) (by decide) (by decide +kernel) (by decide) (by decide +kernel) (by decide) rfl rfl (by decide) (by decide) d20_34 rfl ?_
  intro h218 s219 t220 Eh218 e1_s219 e2_s219 e3_s219 e4_s219 hne_s219
  have S_s219 : Str Z h218 s219 [(93 : Int32)] := ⟨e1_s219, (own_L1c (by decide) (fun c hc => absurd hc List.not_mem_nil)), t220, e2_s219, e3_s219, e4_s219⟩
  have K221 : Keep h0 h218 [] := own_K0 K215 (Keep.of_ext Eh218)
  have O222 := Old_k0 O K221
  have B223 := Sb_k0 B209 (Keep.of_ext Eh218)
  have SX224 := S_s219
  refine AtS.mark ?_
  refine s_callV1 (q := 39) (argsL := [(.ref s219)]) (S := []) (W := 0) (cells' := 13) (slots' := 474) (a := o156) C B223.1 (G.1 _ (List.mem_of_getElem? (i := 129) rfl)) (G.1 _ (List.mem_of_getElem? (i := 130) rfl)) (s_nf (G.1 _ (List.mem_of_getElem? (i := 132) rfl))) (G.1 _ (List.mem_of_getElem? (i := 132) rfl)) (G.1 _ (List.mem_of_getElem? (i := 131) rfl)) (G.1 _ (List.mem_of_getElem? (i := 112) rfl)) (G.1 _ (List.mem_of_getElem? (i := 133) rfl)) (by decide) (rm_sbApp G O222 o156 u210 ((([(78 : Int32), (101 : Int32), (119 : Int32), (75 : Int32), (101 : Int32), (121 : Int32), (91 : Int32), (116 : Int32), (101 : Int32), (110 : Int32), (97 : Int32), (110 : Int32), (116 : Int32), (61 : Int32)] ++ cs) ++ [(44 : Int32), (32 : Int32), (107 : Int32), (101 : Int32), (121 : Int32), (73 : Int32), (100 : Int32), (61 : Int32)]) ++ (own_istr x)) cap211 s219 [(93 : Int32)] B223 SX224 (own_cap_fit hc217 (by first | omega | (simp only [List.length_append, List.length_cons, List.length_nil, own_istr_len]; omega)) (by first | omega | (simp only [List.length_append, List.length_cons, List.length_nil, own_istr_len]; omega))) ge_o156 ge_u210 (ne_exa SX224.1 B223.1 (by decide)) (own_hst SX224 B223.1 (G.1 _ (List.mem_of_getElem? (i := 111) rfl)))) rfl (lenOf pd_20 rfl) rfl (by decide) (own_leb rfl) (by decide) rfl rfl (by decide) (by decide) (wl := [o156, u210]) (fun _ _ q => q.1) (allS (SfOk.exa B223.1 (by decide)) (allS (SfOk.mem (by simp)) (all0))) d20_36 rfl ?_
  rintro _ h230 ⟨Kh230, rfl, u226, cap227, hu228, hcp229, B225⟩
  show AtS p l e _ s m _ below meth c Z _ _ n0 _ _ _ h230 13 474 (mkF m 39 #[.val (.ref a)] [(.ref o156)])
  have K231 : Keep h0 h230 [] := K221.trans Kh230 (allS (P := fun x => x ∈ [] ∨ h0.size ≤ x) (Or.inr sz_o156) (allS (Or.inr sz_u210) all0))
  have O232 := Old_k0 O K231
  replace B225 : Sb Z h230 o156 u226 (((([(78 : Int32), (101 : Int32), (119 : Int32), (75 : Int32), (101 : Int32), (121 : Int32), (91 : Int32), (116 : Int32), (101 : Int32), (110 : Int32), (97 : Int32), (110 : Int32), (116 : Int32), (61 : Int32)] ++ cs) ++ [(44 : Int32), (32 : Int32), (107 : Int32), (101 : Int32), (121 : Int32), (73 : Int32), (100 : Int32), (61 : Int32)]) ++ (own_istr x)) ++ [(93 : Int32)]) cap227 := B225
  have sz_u226 : h0.size ≤ u226 := hu228.elim (fun q => by rw [q]; exact sz_u210) (fun q => Nat.le_trans K221.1 q)
  have ge_u226 : n0 ≤ u226 := Nat.le_trans (Old_le O) sz_u226
  have hc233 : cap227 = own_cap (((([(78 : Int32), (101 : Int32), (119 : Int32), (75 : Int32), (101 : Int32), (121 : Int32), (91 : Int32), (116 : Int32), (101 : Int32), (110 : Int32), (97 : Int32), (110 : Int32), (116 : Int32), (61 : Int32)] ++ cs) ++ [(44 : Int32), (32 : Int32), (107 : Int32), (101 : Int32), (121 : Int32), (73 : Int32), (100 : Int32), (61 : Int32)]) ++ (own_istr x)) ++ [(93 : Int32)]).length := (own_cap_step hc217 (by first | omega | (simp only [List.length_append, List.length_cons, List.length_nil, own_istr_len]; omega)) (by first | omega | (simp only [List.length_append, List.length_cons, List.length_nil, own_istr_len]; omega)) hcp229).trans (by first | rfl | (simp only [List.length_append, own_istr_len]; done) | (congr 1; simp only [List.length_append, List.length_cons, List.length_nil]; omega))
  refine AtS.addOr (x := u226) (hu228.elim (fun q => Or.inl (by rw [q]; simp)) Or.inr) B225.tlt ?_
  show AtS p l e _ s m _ below meth c Z _ _ n0 _ _ _ h230 13 474 (mkF m 39 #[.val (.ref a)] [(.ref o156)])
  refine s_callV1 (q := 42) (argsL := []) (S := []) (W := 0) (cells' := 15) (slots' := 515) (a := o156) C B225.1 (G.1 _ (List.mem_of_getElem? (i := 219) rfl)) (G.1 _ (List.mem_of_getElem? (i := 220) rfl)) (s_nf (G.1 _ (List.mem_of_getElem? (i := 222) rfl))) (G.1 _ (List.mem_of_getElem? (i := 222) rfl)) (G.1 _ (List.mem_of_getElem? (i := 221) rfl)) (G.1 _ (List.mem_of_getElem? (i := 112) rfl)) (G.1 _ (List.mem_of_getElem? (i := 223) rfl)) (by decide) (rm_sbStr G O232 o156 u226 (((([(78 : Int32), (101 : Int32), (119 : Int32), (75 : Int32), (101 : Int32), (121 : Int32), (91 : Int32), (116 : Int32), (101 : Int32), (110 : Int32), (97 : Int32), (110 : Int32), (116 : Int32), (61 : Int32)] ++ cs) ++ [(44 : Int32), (32 : Int32), (107 : Int32), (101 : Int32), (121 : Int32), (73 : Int32), (100 : Int32), (61 : Int32)]) ++ (own_istr x)) ++ [(93 : Int32)]) cap227 B225 (by first | omega | (simp only [List.length_append, List.length_cons, List.length_nil, own_istr_len]; omega))) rfl (lenOf pd_18 rfl) rfl (by decide) (own_leb rfl) (by decide) rfl rfl (by decide) (by decide) (wl := []) (fun _ _ q => q.1) all0 d20_39 rfl ?_
  rintro _ h235 ⟨Kh235, r234, rfl, hg_r234, S1⟩
  show AtS p l e _ s m _ below meth c Z _ _ n0 _ _ _ h235 15 515 (mkF m 42 #[.val (.ref a)] [(.ref r234)])
  have K236 : Keep h0 h235 [] := own_K0 K231 Kh235
  have sz_r234 : h0.size ≤ r234 := Nat.le_trans K231.1 hg_r234
  replace O := Old_k0 O K236
  exact s_retA C G.el rfl rfl rfl d20_42 (by decide) (by decide) ⟨K236, r234, rfl, S1⟩
theorem own_i64 {x y : Int64} : x < y ↔ x.toInt < y.toInt := Int64.lt_iff_toInt_lt
theorem own_absm (x : Int32) : (x < 0 → (-x.toInt64).toInt = (own_mag x : Int)) ∧ (¬ x < 0 → x.toInt64.toInt = (own_mag x : Int)) := by
  have r := rng32 x
  have c1 := c_i2l x
  have c2 := c_lneg x.toInt64
  have e0 : (0 : Int32).toInt = 0 := rfl
  have r2 := Int64.le_toInt (-x.toInt64)
  have r3 := Int64.toInt_lt (-x.toInt64)
  rw [own_lt, e0, c1] at *
  unfold own_mag
  constructor <;> intro h <;> omega
theorem own_dig64 {m p : Int64} {N P : Nat} (hm : m.toInt = N) (hp : p.toInt = P) (hP : 0 < P) (hN : N ≤ 2 ^ 31) : ((m / p) % 10).toInt32 = Int32.ofNat (N / P % 10) := by
  have hp1 : p ≠ -1 := fun q => by rw [q] at hp; have e : (-1 : Int64).toInt = -1 := rfl; omega
  have d := (c_ldiv m p P hp hp1).1 (by omega)
  have hd : (m / p).toInt = ((N / P : Nat) : Int) := by rw [d, hm]; rfl
  have r : ((m / p) % 10).toInt = ((N / P % 10 : Nat) : Int) := by
    rw [Int64.toInt_mod, hd, show (10 : Int64).toInt = 10 from rfl, Int.tmod_eq_emod_of_nonneg (Int.natCast_nonneg _)]; rfl
  rw [own_eq, own_nat (by omega), Int64.toInt_toInt32, r]
  exact Int.bmod_eq_of_le (by omega) (by omega)

theorem d50_0 : decode method_8_code 0 = .ok (.lload_n 0, 1) := by decide +kernel
theorem d50_1 : decode method_8_code 1 = .ok (.ldc2_w 66, 3) := by decide +kernel
theorem d50_4 : decode method_8_code 4 = .ok (.lcmp, 1) := by decide +kernel
theorem d50_5 : decode method_8_code 5 = .ok (.ifCond .ge 5, 3) := by decide +kernel
theorem d50_8 : decode method_8_code 8 = .ok (.iconst 1, 1) := by decide +kernel
theorem d50_9 : decode method_8_code 9 = .ok (.ireturn, 1) := by decide +kernel
theorem d50_10 : decode method_8_code 10 = .ok (.lload_n 0, 1) := by decide +kernel
theorem d50_11 : decode method_8_code 11 = .ok (.ldc2_w 68, 3) := by decide +kernel
theorem d50_14 : decode method_8_code 14 = .ok (.lcmp, 1) := by decide +kernel
theorem d50_15 : decode method_8_code 15 = .ok (.ifCond .ge 5, 3) := by decide +kernel
theorem d50_18 : decode method_8_code 18 = .ok (.iconst 2, 1) := by decide +kernel
theorem d50_19 : decode method_8_code 19 = .ok (.ireturn, 1) := by decide +kernel
theorem d50_20 : decode method_8_code 20 = .ok (.lload_n 0, 1) := by decide +kernel
theorem d50_21 : decode method_8_code 21 = .ok (.ldc2_w 70, 3) := by decide +kernel
theorem d50_24 : decode method_8_code 24 = .ok (.lcmp, 1) := by decide +kernel
theorem d50_25 : decode method_8_code 25 = .ok (.ifCond .ge 5, 3) := by decide +kernel
theorem d50_28 : decode method_8_code 28 = .ok (.iconst 3, 1) := by decide +kernel
theorem d50_29 : decode method_8_code 29 = .ok (.ireturn, 1) := by decide +kernel
theorem d50_30 : decode method_8_code 30 = .ok (.lload_n 0, 1) := by decide +kernel
theorem d50_31 : decode method_8_code 31 = .ok (.ldc2_w 72, 3) := by decide +kernel
theorem d50_34 : decode method_8_code 34 = .ok (.lcmp, 1) := by decide +kernel
theorem d50_35 : decode method_8_code 35 = .ok (.ifCond .ge 5, 3) := by decide +kernel
theorem d50_38 : decode method_8_code 38 = .ok (.iconst 4, 1) := by decide +kernel
theorem d50_39 : decode method_8_code 39 = .ok (.ireturn, 1) := by decide +kernel
theorem d50_40 : decode method_8_code 40 = .ok (.lload_n 0, 1) := by decide +kernel
theorem d50_41 : decode method_8_code 41 = .ok (.ldc2_w 74, 3) := by decide +kernel
theorem d50_44 : decode method_8_code 44 = .ok (.lcmp, 1) := by decide +kernel
theorem d50_45 : decode method_8_code 45 = .ok (.ifCond .ge 5, 3) := by decide +kernel
theorem d50_48 : decode method_8_code 48 = .ok (.iconst 5, 1) := by decide +kernel
theorem d50_49 : decode method_8_code 49 = .ok (.ireturn, 1) := by decide +kernel
theorem d50_50 : decode method_8_code 50 = .ok (.lload_n 0, 1) := by decide +kernel
theorem d50_51 : decode method_8_code 51 = .ok (.ldc2_w 76, 3) := by decide +kernel
theorem d50_54 : decode method_8_code 54 = .ok (.lcmp, 1) := by decide +kernel
theorem d50_55 : decode method_8_code 55 = .ok (.ifCond .ge 6, 3) := by decide +kernel
theorem d50_58 : decode method_8_code 58 = .ok (.bipush 6, 2) := by decide +kernel
theorem d50_60 : decode method_8_code 60 = .ok (.ireturn, 1) := by decide +kernel
theorem d50_61 : decode method_8_code 61 = .ok (.lload_n 0, 1) := by decide +kernel
theorem d50_62 : decode method_8_code 62 = .ok (.ldc2_w 78, 3) := by decide +kernel
theorem d50_65 : decode method_8_code 65 = .ok (.lcmp, 1) := by decide +kernel
theorem d50_66 : decode method_8_code 66 = .ok (.ifCond .ge 6, 3) := by decide +kernel
theorem d50_69 : decode method_8_code 69 = .ok (.bipush 7, 2) := by decide +kernel
theorem d50_71 : decode method_8_code 71 = .ok (.ireturn, 1) := by decide +kernel
theorem d50_72 : decode method_8_code 72 = .ok (.lload_n 0, 1) := by decide +kernel
theorem d50_73 : decode method_8_code 73 = .ok (.ldc2_w 80, 3) := by decide +kernel
theorem d50_76 : decode method_8_code 76 = .ok (.lcmp, 1) := by decide +kernel
theorem d50_77 : decode method_8_code 77 = .ok (.ifCond .ge 6, 3) := by decide +kernel
theorem d50_80 : decode method_8_code 80 = .ok (.bipush 8, 2) := by decide +kernel
theorem d50_82 : decode method_8_code 82 = .ok (.ireturn, 1) := by decide +kernel
theorem d50_83 : decode method_8_code 83 = .ok (.lload_n 0, 1) := by decide +kernel
theorem d50_84 : decode method_8_code 84 = .ok (.ldc2_w 82, 3) := by decide +kernel
theorem d50_87 : decode method_8_code 87 = .ok (.lcmp, 1) := by decide +kernel
theorem d50_88 : decode method_8_code 88 = .ok (.ifCond .ge 6, 3) := by decide +kernel
theorem d50_91 : decode method_8_code 91 = .ok (.bipush 9, 2) := by decide +kernel
theorem d50_93 : decode method_8_code 93 = .ok (.ireturn, 1) := by decide +kernel
theorem d50_94 : decode method_8_code 94 = .ok (.bipush 10, 2) := by decide +kernel
theorem d50_96 : decode method_8_code 96 = .ok (.ireturn, 1) := by decide +kernel
theorem pf50 : plainFor (⟨"com/example/condo/condo/tenant/NewKeyToStringPinLaw", "numDigits", "(J)I"⟩ : MethodName) = true := by first | exact plainFor_of_name (by first | (simp [plainName, overriddenIn]; done) | decide +kernel) | decide +kernel
theorem ef_digitsf (m : MethodId) (z0 : Int64) : entryFrame m #[(.long z0)] 2 = mkF m 0 #[.val (.long z0), .second] [] := by first | (simp [entryFrame, mkF, argsToLocals, Value.category, *]; done) | rfl
set_option maxRecDepth 65536 in
set_option maxHeartbeats 40000000 in
theorem rm_digitsf {l : Launch} {Z : State} {a0 : Array Value} {n0 : Nat} (G : Gl Z a0 n0) {h0 : Heap} (O : Old Z n0 h0) (mm : Int64) (N : Nat) (hm : mm.toInt = (N : Int)) (hN : N ≤ 2 ^ 31) :
    Ct [] l Z n0 (⟨"com/example/condo/condo/tenant/NewKeyToStringPinLaw", "numDigits", "(J)I"⟩ : MethodName) method_8_code 2 (some .int) ({ frames := 0, cells := 0, slots := 0, locals := 0 } : Room) #[(.long mm)] h0 (fun v h => h = h0 ∧ v = some (.int (Int32.ofNat (SBG.digits N)))) := by
  refine Ct.intro pf50 ?_
  intro p e s m below meth c C
  refine AtW.cast ?_ (ef_digitsf m mm)
  have lt1 : lcmpW mm (10 : Int64) < 0 ↔ N < 10 := by rw [lw_lt, own_i64, hm, show (10 : Int64).toInt = 10 from rfl]; omega
  have lt2 : lcmpW mm (100 : Int64) < 0 ↔ N < 100 := by rw [lw_lt, own_i64, hm, show (100 : Int64).toInt = 100 from rfl]; omega
  have lt3 : lcmpW mm (1000 : Int64) < 0 ↔ N < 1000 := by rw [lw_lt, own_i64, hm, show (1000 : Int64).toInt = 1000 from rfl]; omega
  have lt4 : lcmpW mm (10000 : Int64) < 0 ↔ N < 10000 := by rw [lw_lt, own_i64, hm, show (10000 : Int64).toInt = 10000 from rfl]; omega
  have lt5 : lcmpW mm (100000 : Int64) < 0 ↔ N < 100000 := by rw [lw_lt, own_i64, hm, show (100000 : Int64).toInt = 100000 from rfl]; omega
  have lt6 : lcmpW mm (1000000 : Int64) < 0 ↔ N < 1000000 := by rw [lw_lt, own_i64, hm, show (1000000 : Int64).toInt = 1000000 from rfl]; omega
  have lt7 : lcmpW mm (10000000 : Int64) < 0 ↔ N < 10000000 := by rw [lw_lt, own_i64, hm, show (10000000 : Int64).toInt = 10000000 from rfl]; omega
  have lt8 : lcmpW mm (100000000 : Int64) < 0 ↔ N < 100000000 := by rw [lw_lt, own_i64, hm, show (100000000 : Int64).toInt = 100000000 from rfl]; omega
  have lt9 : lcmpW mm (1000000000 : Int64) < 0 ↔ N < 1000000000 := by rw [lw_lt, own_i64, hm, show (1000000000 : Int64).toInt = 1000000000 from rfl]; omega
  refine w_lloadN (q := 1) C rfl d50_0 rfl ?_
  refine w_ldc2J (q := 4) C (G.1 _ (List.mem_of_getElem? (i := 260) rfl)) d50_1 rfl ?_
  refine w_lcmp (q := 5) C rfl d50_4 rfl ?_
  by_cases q1 : (lcmpW mm (10 : Int64)) < 0
  · refine w_if_ge_f (q := 8) C d50_5 rfl q1 ?_
    rw [lt1] at q1
    refine w_iconst (q := 9) (v := (1 : Int32)) C (by rfl) d50_8 rfl ?_
    exact w_retI C rfl d50_9 (by decide) (by decide) ⟨rfl, by rw [show SBG.digits N = 1 by unfold SBG.digits; (repeat' split) <;> omega]; rfl⟩
  · refine w_if_ge_t (q := 10) C d50_5 (by decide) (by decide) q1 ?_
    rw [lt1] at q1
    refine w_lloadN (q := 11) C rfl d50_10 rfl ?_
    refine w_ldc2J (q := 14) C (G.1 _ (List.mem_of_getElem? (i := 285) rfl)) d50_11 rfl ?_
    refine w_lcmp (q := 15) C rfl d50_14 rfl ?_
    by_cases q2 : (lcmpW mm (100 : Int64)) < 0
    · refine w_if_ge_f (q := 18) C d50_15 rfl q2 ?_
      rw [lt2] at q2
      refine w_iconst (q := 19) (v := (2 : Int32)) C (by rfl) d50_18 rfl ?_
      exact w_retI C rfl d50_19 (by decide) (by decide) ⟨rfl, by rw [show SBG.digits N = 2 by unfold SBG.digits; (repeat' split) <;> omega]; rfl⟩
    · refine w_if_ge_t (q := 20) C d50_15 (by decide) (by decide) q2 ?_
      rw [lt2] at q2
      refine w_lloadN (q := 21) C rfl d50_20 rfl ?_
      refine w_ldc2J (q := 24) C (G.1 _ (List.mem_of_getElem? (i := 286) rfl)) d50_21 rfl ?_
      refine w_lcmp (q := 25) C rfl d50_24 rfl ?_
      by_cases q3 : (lcmpW mm (1000 : Int64)) < 0
      · refine w_if_ge_f (q := 28) C d50_25 rfl q3 ?_
        rw [lt3] at q3
        refine w_iconst (q := 29) (v := (3 : Int32)) C (by rfl) d50_28 rfl ?_
        exact w_retI C rfl d50_29 (by decide) (by decide) ⟨rfl, by rw [show SBG.digits N = 3 by unfold SBG.digits; (repeat' split) <;> omega]; rfl⟩
      · refine w_if_ge_t (q := 30) C d50_25 (by decide) (by decide) q3 ?_
        rw [lt3] at q3
        refine w_lloadN (q := 31) C rfl d50_30 rfl ?_
        refine w_ldc2J (q := 34) C (G.1 _ (List.mem_of_getElem? (i := 287) rfl)) d50_31 rfl ?_
        refine w_lcmp (q := 35) C rfl d50_34 rfl ?_
        by_cases q4 : (lcmpW mm (10000 : Int64)) < 0
        · refine w_if_ge_f (q := 38) C d50_35 rfl q4 ?_
          rw [lt4] at q4
          refine w_iconst (q := 39) (v := (4 : Int32)) C (by rfl) d50_38 rfl ?_
          exact w_retI C rfl d50_39 (by decide) (by decide) ⟨rfl, by rw [show SBG.digits N = 4 by unfold SBG.digits; (repeat' split) <;> omega]; rfl⟩
        · refine w_if_ge_t (q := 40) C d50_35 (by decide) (by decide) q4 ?_
          rw [lt4] at q4
          refine w_lloadN (q := 41) C rfl d50_40 rfl ?_
          refine w_ldc2J (q := 44) C (G.1 _ (List.mem_of_getElem? (i := 288) rfl)) d50_41 rfl ?_
          refine w_lcmp (q := 45) C rfl d50_44 rfl ?_
          by_cases q5 : (lcmpW mm (100000 : Int64)) < 0
          · refine w_if_ge_f (q := 48) C d50_45 rfl q5 ?_
            rw [lt5] at q5
            refine w_iconst (q := 49) (v := (5 : Int32)) C (by rfl) d50_48 rfl ?_
            exact w_retI C rfl d50_49 (by decide) (by decide) ⟨rfl, by rw [show SBG.digits N = 5 by unfold SBG.digits; (repeat' split) <;> omega]; rfl⟩
          · refine w_if_ge_t (q := 50) C d50_45 (by decide) (by decide) q5 ?_
            rw [lt5] at q5
            refine w_lloadN (q := 51) C rfl d50_50 rfl ?_
            refine w_ldc2J (q := 54) C (G.1 _ (List.mem_of_getElem? (i := 289) rfl)) d50_51 rfl ?_
            refine w_lcmp (q := 55) C rfl d50_54 rfl ?_
            by_cases q6 : (lcmpW mm (1000000 : Int64)) < 0
            · refine w_if_ge_f (q := 58) C d50_55 rfl q6 ?_
              rw [lt6] at q6
              refine w_bipush (q := 60) (v := (6 : Int32)) C (by rfl) d50_58 rfl ?_
              exact w_retI C rfl d50_60 (by decide) (by decide) ⟨rfl, by rw [show SBG.digits N = 6 by unfold SBG.digits; (repeat' split) <;> omega]; rfl⟩
            · refine w_if_ge_t (q := 61) C d50_55 (by decide) (by decide) q6 ?_
              rw [lt6] at q6
              refine w_lloadN (q := 62) C rfl d50_61 rfl ?_
              refine w_ldc2J (q := 65) C (G.1 _ (List.mem_of_getElem? (i := 290) rfl)) d50_62 rfl ?_
              refine w_lcmp (q := 66) C rfl d50_65 rfl ?_
              by_cases q7 : (lcmpW mm (10000000 : Int64)) < 0
              · refine w_if_ge_f (q := 69) C d50_66 rfl q7 ?_
                rw [lt7] at q7
                refine w_bipush (q := 71) (v := (7 : Int32)) C (by rfl) d50_69 rfl ?_
                exact w_retI C rfl d50_71 (by decide) (by decide) ⟨rfl, by rw [show SBG.digits N = 7 by unfold SBG.digits; (repeat' split) <;> omega]; rfl⟩
              · refine w_if_ge_t (q := 72) C d50_66 (by decide) (by decide) q7 ?_
                rw [lt7] at q7
                refine w_lloadN (q := 73) C rfl d50_72 rfl ?_
                refine w_ldc2J (q := 76) C (G.1 _ (List.mem_of_getElem? (i := 291) rfl)) d50_73 rfl ?_
                refine w_lcmp (q := 77) C rfl d50_76 rfl ?_
                by_cases q8 : (lcmpW mm (100000000 : Int64)) < 0
                · refine w_if_ge_f (q := 80) C d50_77 rfl q8 ?_
                  rw [lt8] at q8
                  refine w_bipush (q := 82) (v := (8 : Int32)) C (by rfl) d50_80 rfl ?_
                  exact w_retI C rfl d50_82 (by decide) (by decide) ⟨rfl, by rw [show SBG.digits N = 8 by unfold SBG.digits; (repeat' split) <;> omega]; rfl⟩
                · refine w_if_ge_t (q := 83) C d50_77 (by decide) (by decide) q8 ?_
                  rw [lt8] at q8
                  refine w_lloadN (q := 84) C rfl d50_83 rfl ?_
                  refine w_ldc2J (q := 87) C (G.1 _ (List.mem_of_getElem? (i := 292) rfl)) d50_84 rfl ?_
                  refine w_lcmp (q := 88) C rfl d50_87 rfl ?_
                  by_cases q9 : (lcmpW mm (1000000000 : Int64)) < 0
                  · refine w_if_ge_f (q := 91) C d50_88 rfl q9 ?_
                    rw [lt9] at q9
                    refine w_bipush (q := 93) (v := (9 : Int32)) C (by rfl) d50_91 rfl ?_
                    exact w_retI C rfl d50_93 (by decide) (by decide) ⟨rfl, by rw [show SBG.digits N = 9 by unfold SBG.digits; (repeat' split) <;> omega]; rfl⟩
                  · refine w_if_ge_t (q := 94) C d50_88 (by decide) (by decide) q9 ?_
                    rw [lt9] at q9
                    refine w_bipush (q := 96) (v := (10 : Int32)) C (by rfl) d50_94 rfl ?_
                    exact w_retI C rfl d50_96 (by decide) (by decide) ⟨rfl, by rw [show SBG.digits N = 10 by unfold SBG.digits; (repeat' split) <;> omega]; rfl⟩
theorem d49_0 : decode jdk_29_method_61_code 0 = .ok (.lload_n 0, 1) := by decide +kernel
theorem d49_1 : decode jdk_29_method_61_code 1 = .ok (.lconst 0, 1) := by decide +kernel
theorem d49_2 : decode jdk_29_method_61_code 2 = .ok (.lcmp, 1) := by decide +kernel
theorem d49_3 : decode jdk_29_method_61_code 3 = .ok (.ifCond .ge 8, 3) := by decide +kernel
theorem d49_6 : decode jdk_29_method_61_code 6 = .ok (.lload_n 0, 1) := by decide +kernel
theorem d49_7 : decode jdk_29_method_61_code 7 = .ok (.lneg, 1) := by decide +kernel
theorem d49_8 : decode jdk_29_method_61_code 8 = .ok (.goto 4, 3) := by decide +kernel
theorem d49_11 : decode jdk_29_method_61_code 11 = .ok (.lload_n 0, 1) := by decide +kernel
theorem d49_12 : decode jdk_29_method_61_code 12 = .ok (.lreturn, 1) := by decide +kernel
theorem pf49 : plainFor (⟨"java/lang/Math", "abs", "(J)J"⟩ : MethodName) = true := by first | exact plainFor_of_name (by first | (simp [plainName, overriddenIn]; done) | decide +kernel) | decide +kernel
theorem ef_absL (m : MethodId) (z0 : Int64) : entryFrame m #[(.long z0)] 2 = mkF m 0 #[.val (.long z0), .second] [] := by first | (simp [entryFrame, mkF, argsToLocals, Value.category, *]; done) | rfl
set_option maxRecDepth 65536 in
set_option maxHeartbeats 40000000 in
theorem rm_absL {l : Launch} {Z : State} {a0 : Array Value} {n0 : Nat} (G : Gl Z a0 n0) {h0 : Heap} (O : Old Z n0 h0) (x : Int32) :
    Ct [] l Z n0 (⟨"java/lang/Math", "abs", "(J)J"⟩ : MethodName) jdk_29_method_61_code 2 (some .long) ({ frames := 0, cells := 0, slots := 0, locals := 0 } : Room) #[(.long x.toInt64)] h0 (fun v h => h = h0 ∧ ∃ m : Int64, v = some (.long m) ∧ m.toInt = (own_mag x : Int)) := by
  refine Ct.intro pf49 ?_
  intro p e s m below meth c C
  refine AtW.cast ?_ (ef_absL m x.toInt64)
  have habs := own_absm x
  have hlt : lcmpW x.toInt64 (0 : Int64) < 0 ↔ x < 0 := by rw [lw_lt, own_i64, own_lt, c_i2l]; rfl
  refine w_lloadN (q := 1) C rfl d49_0 rfl ?_
  refine w_lconst (q := 2) (v := (0 : Int64)) C (by rfl) d49_1 rfl ?_
  refine w_lcmp (q := 3) C rfl d49_2 rfl ?_
  by_cases q1 : (lcmpW x.toInt64 (0 : Int64)) < 0
  · refine w_if_ge_f (q := 6) C d49_3 rfl q1 ?_
    refine w_lloadN (q := 7) C rfl d49_6 rfl ?_
    refine w_lneg (q := 8) C rfl d49_7 rfl ?_
    refine w_goto (q := 12) C d49_8 (by decide) (by decide) ?_
    exact w_retJ C rfl d49_12 (by decide) (by decide) ⟨rfl, _, rfl, habs.1 (hlt.mp q1)⟩
  · refine w_if_ge_t (q := 11) C d49_3 (by decide) (by decide) q1 ?_
    refine w_lloadN (q := 12) C rfl d49_11 rfl ?_
    exact w_retJ C rfl d49_12 (by decide) (by decide) ⟨rfl, _, rfl, habs.2 (fun q => q1 (hlt.mpr q))⟩
def own_pw : List Int64 := [1, 10, 100, 1000, 10000, 100000, 1000000, 10000000, 100000000, 1000000000]
theorem own_pwt : ∀ j : Fin 10, (own_pw.getD j.val 0).toInt = ((10 ^ j.val : Nat) : Int) := by decide +kernel
def own_tl (x : Int32) (j : Nat) : Int32 := ((own_istr x ++ [(93 : Int32)])[j]?).getD 63
theorem own_sg1 {x : Int32} (h : ¬ Int32.ofNat (own_sg x) = 0) : Int32.ofNat (own_sg x) = 1 := by
  unfold own_sg at *; split
  · rfl
  · rename_i q; rw [if_neg q] at h; exact absurd rfl h
theorem own_tlr (x : Int32) (j : Nat) : ¬ own_tl x j < 0 ∧ ¬ 255 < own_tl x j := by
  unfold own_tl
  cases h : (own_istr x ++ [(93 : Int32)])[j]? with
  | none => decide
  | some c => exact (L1.app (own_istr_L1 x) (own_L1c (by decide) (fun c hc => absurd hc List.not_mem_nil))).get h
theorem d53_0 : decode method_7_code 0 = .ok (.iload_n 0, 1) := by decide +kernel
theorem d53_1 : decode method_7_code 1 = .ok (.ifCond .gt 5, 3) := by decide +kernel
theorem d53_4 : decode method_7_code 4 = .ok (.lconst 1, 1) := by decide +kernel
theorem d53_5 : decode method_7_code 5 = .ok (.lreturn, 1) := by decide +kernel
theorem d53_6 : decode method_7_code 6 = .ok (.iload_n 0, 1) := by decide +kernel
theorem d53_7 : decode method_7_code 7 = .ok (.iconst 1, 1) := by decide +kernel
theorem d53_8 : decode method_7_code 8 = .ok (.if_icmp .ne 7, 3) := by decide +kernel
theorem d53_11 : decode method_7_code 11 = .ok (.ldc2_w 66, 3) := by decide +kernel
theorem d53_14 : decode method_7_code 14 = .ok (.lreturn, 1) := by decide +kernel
theorem d53_15 : decode method_7_code 15 = .ok (.iload_n 0, 1) := by decide +kernel
theorem d53_16 : decode method_7_code 16 = .ok (.iconst 2, 1) := by decide +kernel
theorem d53_17 : decode method_7_code 17 = .ok (.if_icmp .ne 7, 3) := by decide +kernel
theorem d53_20 : decode method_7_code 20 = .ok (.ldc2_w 68, 3) := by decide +kernel
theorem d53_23 : decode method_7_code 23 = .ok (.lreturn, 1) := by decide +kernel
theorem d53_24 : decode method_7_code 24 = .ok (.iload_n 0, 1) := by decide +kernel
theorem d53_25 : decode method_7_code 25 = .ok (.iconst 3, 1) := by decide +kernel
theorem d53_26 : decode method_7_code 26 = .ok (.if_icmp .ne 7, 3) := by decide +kernel
theorem d53_29 : decode method_7_code 29 = .ok (.ldc2_w 70, 3) := by decide +kernel
theorem d53_32 : decode method_7_code 32 = .ok (.lreturn, 1) := by decide +kernel
theorem d53_33 : decode method_7_code 33 = .ok (.iload_n 0, 1) := by decide +kernel
theorem d53_34 : decode method_7_code 34 = .ok (.iconst 4, 1) := by decide +kernel
theorem d53_35 : decode method_7_code 35 = .ok (.if_icmp .ne 7, 3) := by decide +kernel
theorem d53_38 : decode method_7_code 38 = .ok (.ldc2_w 72, 3) := by decide +kernel
theorem d53_41 : decode method_7_code 41 = .ok (.lreturn, 1) := by decide +kernel
theorem d53_42 : decode method_7_code 42 = .ok (.iload_n 0, 1) := by decide +kernel
theorem d53_43 : decode method_7_code 43 = .ok (.iconst 5, 1) := by decide +kernel
theorem d53_44 : decode method_7_code 44 = .ok (.if_icmp .ne 7, 3) := by decide +kernel
theorem d53_47 : decode method_7_code 47 = .ok (.ldc2_w 74, 3) := by decide +kernel
theorem d53_50 : decode method_7_code 50 = .ok (.lreturn, 1) := by decide +kernel
theorem d53_51 : decode method_7_code 51 = .ok (.iload_n 0, 1) := by decide +kernel
theorem d53_52 : decode method_7_code 52 = .ok (.bipush 6, 2) := by decide +kernel
theorem d53_54 : decode method_7_code 54 = .ok (.if_icmp .ne 7, 3) := by decide +kernel
theorem d53_57 : decode method_7_code 57 = .ok (.ldc2_w 76, 3) := by decide +kernel
theorem d53_60 : decode method_7_code 60 = .ok (.lreturn, 1) := by decide +kernel
theorem d53_61 : decode method_7_code 61 = .ok (.iload_n 0, 1) := by decide +kernel
theorem d53_62 : decode method_7_code 62 = .ok (.bipush 7, 2) := by decide +kernel
theorem d53_64 : decode method_7_code 64 = .ok (.if_icmp .ne 7, 3) := by decide +kernel
theorem d53_67 : decode method_7_code 67 = .ok (.ldc2_w 78, 3) := by decide +kernel
theorem d53_70 : decode method_7_code 70 = .ok (.lreturn, 1) := by decide +kernel
theorem d53_71 : decode method_7_code 71 = .ok (.iload_n 0, 1) := by decide +kernel
theorem d53_72 : decode method_7_code 72 = .ok (.bipush 8, 2) := by decide +kernel
theorem d53_74 : decode method_7_code 74 = .ok (.if_icmp .ne 7, 3) := by decide +kernel
theorem d53_77 : decode method_7_code 77 = .ok (.ldc2_w 80, 3) := by decide +kernel
theorem d53_80 : decode method_7_code 80 = .ok (.lreturn, 1) := by decide +kernel
theorem d53_81 : decode method_7_code 81 = .ok (.ldc2_w 82, 3) := by decide +kernel
theorem d53_84 : decode method_7_code 84 = .ok (.lreturn, 1) := by decide +kernel
theorem pf53 : plainFor (⟨"com/example/condo/condo/tenant/NewKeyToStringPinLaw", "pow10", "(I)J"⟩ : MethodName) = true := by first | exact plainFor_of_name (by first | (simp [plainName, overriddenIn]; done) | decide +kernel) | decide +kernel
theorem ef_powf (m : MethodId) (z0 : Int32) : entryFrame m #[(.int z0)] 1 = mkF m 0 #[.val (.int z0)] [] := by first | rfl | (simp [entryFrame, mkF, argsToLocals, Value.category, *]; done) | rfl
set_option maxRecDepth 65536 in
set_option maxHeartbeats 40000000 in
theorem rm_powf {l : Launch} {Z : State} {a0 : Array Value} {n0 : Nat} (G : Gl Z a0 n0) {h0 : Heap} (O : Old Z n0 h0) (p10 : Nat) (hp : p10 ≤ 9) :
    Ct [] l Z n0 (⟨"com/example/condo/condo/tenant/NewKeyToStringPinLaw", "pow10", "(I)J"⟩ : MethodName) method_7_code 1 (some .long) ({ frames := 0, cells := 0, slots := 0, locals := 0 } : Room) #[(.int (Int32.ofNat p10))] h0 (fun v h => h = h0 ∧ v = some (.long (own_pw.getD p10 0))) := by
  refine Ct.intro pf53 ?_
  intro p e s m below meth c C
  refine AtW.cast ?_ (ef_powf m (Int32.ofNat p10))
  rcases p10 with _ | _ | _ | _ | _ | _ | _ | _ | _ | _ | p10
  · show AtW p l e _ s m _ below meth c n0 _ h0 0 0 (mkF m 0 #[.val (.int (0 : Int32))] [])
    refine w_iloadN (q := 1) C rfl d53_0 rfl ?_
    refine w_if_gt_f (q := 4) C d53_1 rfl (by decide) ?_
    refine w_lconst (q := 5) (v := (1 : Int64)) C (by rfl) d53_4 rfl ?_
    exact w_retJ C rfl d53_5 (by decide) (by decide) ⟨rfl, rfl⟩
  · show AtW p l e _ s m _ below meth c n0 _ h0 0 0 (mkF m 0 #[.val (.int (1 : Int32))] [])
    refine w_iloadN (q := 1) C rfl d53_0 rfl ?_
    refine w_if_gt_t (q := 6) C d53_1 (by decide) (by decide) (by decide) ?_
    refine w_iloadN (q := 7) C rfl d53_6 rfl ?_
    refine w_iconst (q := 8) (v := (1 : Int32)) C (by rfl) d53_7 rfl ?_
    refine w_icmp_ne_f (q := 11) C d53_8 rfl (by decide) ?_
    refine w_ldc2J (q := 14) C (G.1 _ (List.mem_of_getElem? (i := 260) rfl)) d53_11 rfl ?_
    exact w_retJ C rfl d53_14 (by decide) (by decide) ⟨rfl, rfl⟩
  · show AtW p l e _ s m _ below meth c n0 _ h0 0 0 (mkF m 0 #[.val (.int (2 : Int32))] [])
    refine w_iloadN (q := 1) C rfl d53_0 rfl ?_
    refine w_if_gt_t (q := 6) C d53_1 (by decide) (by decide) (by decide) ?_
    refine w_iloadN (q := 7) C rfl d53_6 rfl ?_
    refine w_iconst (q := 8) (v := (1 : Int32)) C (by rfl) d53_7 rfl ?_
    refine w_icmp_ne_t (q := 15) C d53_8 (by decide) (by decide) (by decide) ?_
    refine w_iloadN (q := 16) C rfl d53_15 rfl ?_
    refine w_iconst (q := 17) (v := (2 : Int32)) C (by rfl) d53_16 rfl ?_
    refine w_icmp_ne_f (q := 20) C d53_17 rfl (by decide) ?_
    refine w_ldc2J (q := 23) C (G.1 _ (List.mem_of_getElem? (i := 285) rfl)) d53_20 rfl ?_
    exact w_retJ C rfl d53_23 (by decide) (by decide) ⟨rfl, rfl⟩
  · show AtW p l e _ s m _ below meth c n0 _ h0 0 0 (mkF m 0 #[.val (.int (3 : Int32))] [])
    refine w_iloadN (q := 1) C rfl d53_0 rfl ?_
    refine w_if_gt_t (q := 6) C d53_1 (by decide) (by decide) (by decide) ?_
    refine w_iloadN (q := 7) C rfl d53_6 rfl ?_
    refine w_iconst (q := 8) (v := (1 : Int32)) C (by rfl) d53_7 rfl ?_
    refine w_icmp_ne_t (q := 15) C d53_8 (by decide) (by decide) (by decide) ?_
    refine w_iloadN (q := 16) C rfl d53_15 rfl ?_
    refine w_iconst (q := 17) (v := (2 : Int32)) C (by rfl) d53_16 rfl ?_
    refine w_icmp_ne_t (q := 24) C d53_17 (by decide) (by decide) (by decide) ?_
    refine w_iloadN (q := 25) C rfl d53_24 rfl ?_
    refine w_iconst (q := 26) (v := (3 : Int32)) C (by rfl) d53_25 rfl ?_
    refine w_icmp_ne_f (q := 29) C d53_26 rfl (by decide) ?_
    refine w_ldc2J (q := 32) C (G.1 _ (List.mem_of_getElem? (i := 286) rfl)) d53_29 rfl ?_
    exact w_retJ C rfl d53_32 (by decide) (by decide) ⟨rfl, rfl⟩
  · show AtW p l e _ s m _ below meth c n0 _ h0 0 0 (mkF m 0 #[.val (.int (4 : Int32))] [])
    refine w_iloadN (q := 1) C rfl d53_0 rfl ?_
    refine w_if_gt_t (q := 6) C d53_1 (by decide) (by decide) (by decide) ?_
    refine w_iloadN (q := 7) C rfl d53_6 rfl ?_
    refine w_iconst (q := 8) (v := (1 : Int32)) C (by rfl) d53_7 rfl ?_
    refine w_icmp_ne_t (q := 15) C d53_8 (by decide) (by decide) (by decide) ?_
    refine w_iloadN (q := 16) C rfl d53_15 rfl ?_
    refine w_iconst (q := 17) (v := (2 : Int32)) C (by rfl) d53_16 rfl ?_
    refine w_icmp_ne_t (q := 24) C d53_17 (by decide) (by decide) (by decide) ?_
    refine w_iloadN (q := 25) C rfl d53_24 rfl ?_
    refine w_iconst (q := 26) (v := (3 : Int32)) C (by rfl) d53_25 rfl ?_
    refine w_icmp_ne_t (q := 33) C d53_26 (by decide) (by decide) (by decide) ?_
    refine w_iloadN (q := 34) C rfl d53_33 rfl ?_
    refine w_iconst (q := 35) (v := (4 : Int32)) C (by rfl) d53_34 rfl ?_
    refine w_icmp_ne_f (q := 38) C d53_35 rfl (by decide) ?_
    refine w_ldc2J (q := 41) C (G.1 _ (List.mem_of_getElem? (i := 287) rfl)) d53_38 rfl ?_
    exact w_retJ C rfl d53_41 (by decide) (by decide) ⟨rfl, rfl⟩
  · show AtW p l e _ s m _ below meth c n0 _ h0 0 0 (mkF m 0 #[.val (.int (5 : Int32))] [])
    refine w_iloadN (q := 1) C rfl d53_0 rfl ?_
    refine w_if_gt_t (q := 6) C d53_1 (by decide) (by decide) (by decide) ?_
    refine w_iloadN (q := 7) C rfl d53_6 rfl ?_
    refine w_iconst (q := 8) (v := (1 : Int32)) C (by rfl) d53_7 rfl ?_
    refine w_icmp_ne_t (q := 15) C d53_8 (by decide) (by decide) (by decide) ?_
    refine w_iloadN (q := 16) C rfl d53_15 rfl ?_
    refine w_iconst (q := 17) (v := (2 : Int32)) C (by rfl) d53_16 rfl ?_
    refine w_icmp_ne_t (q := 24) C d53_17 (by decide) (by decide) (by decide) ?_
    refine w_iloadN (q := 25) C rfl d53_24 rfl ?_
    refine w_iconst (q := 26) (v := (3 : Int32)) C (by rfl) d53_25 rfl ?_
    refine w_icmp_ne_t (q := 33) C d53_26 (by decide) (by decide) (by decide) ?_
    refine w_iloadN (q := 34) C rfl d53_33 rfl ?_
    refine w_iconst (q := 35) (v := (4 : Int32)) C (by rfl) d53_34 rfl ?_
    refine w_icmp_ne_t (q := 42) C d53_35 (by decide) (by decide) (by decide) ?_
    refine w_iloadN (q := 43) C rfl d53_42 rfl ?_
    refine w_iconst (q := 44) (v := (5 : Int32)) C (by rfl) d53_43 rfl ?_
    refine w_icmp_ne_f (q := 47) C d53_44 rfl (by decide) ?_
    refine w_ldc2J (q := 50) C (G.1 _ (List.mem_of_getElem? (i := 288) rfl)) d53_47 rfl ?_
    exact w_retJ C rfl d53_50 (by decide) (by decide) ⟨rfl, rfl⟩
  · show AtW p l e _ s m _ below meth c n0 _ h0 0 0 (mkF m 0 #[.val (.int (6 : Int32))] [])
    refine w_iloadN (q := 1) C rfl d53_0 rfl ?_
    refine w_if_gt_t (q := 6) C d53_1 (by decide) (by decide) (by decide) ?_
    refine w_iloadN (q := 7) C rfl d53_6 rfl ?_
    refine w_iconst (q := 8) (v := (1 : Int32)) C (by rfl) d53_7 rfl ?_
    refine w_icmp_ne_t (q := 15) C d53_8 (by decide) (by decide) (by decide) ?_
    refine w_iloadN (q := 16) C rfl d53_15 rfl ?_
    refine w_iconst (q := 17) (v := (2 : Int32)) C (by rfl) d53_16 rfl ?_
    refine w_icmp_ne_t (q := 24) C d53_17 (by decide) (by decide) (by decide) ?_
    refine w_iloadN (q := 25) C rfl d53_24 rfl ?_
    refine w_iconst (q := 26) (v := (3 : Int32)) C (by rfl) d53_25 rfl ?_
    refine w_icmp_ne_t (q := 33) C d53_26 (by decide) (by decide) (by decide) ?_
    refine w_iloadN (q := 34) C rfl d53_33 rfl ?_
    refine w_iconst (q := 35) (v := (4 : Int32)) C (by rfl) d53_34 rfl ?_
    refine w_icmp_ne_t (q := 42) C d53_35 (by decide) (by decide) (by decide) ?_
    refine w_iloadN (q := 43) C rfl d53_42 rfl ?_
    refine w_iconst (q := 44) (v := (5 : Int32)) C (by rfl) d53_43 rfl ?_
    refine w_icmp_ne_t (q := 51) C d53_44 (by decide) (by decide) (by decide) ?_
    refine w_iloadN (q := 52) C rfl d53_51 rfl ?_
    refine w_bipush (q := 54) (v := (6 : Int32)) C (by rfl) d53_52 rfl ?_
    refine w_icmp_ne_f (q := 57) C d53_54 rfl (by decide) ?_
    refine w_ldc2J (q := 60) C (G.1 _ (List.mem_of_getElem? (i := 289) rfl)) d53_57 rfl ?_
    exact w_retJ C rfl d53_60 (by decide) (by decide) ⟨rfl, rfl⟩
  · show AtW p l e _ s m _ below meth c n0 _ h0 0 0 (mkF m 0 #[.val (.int (7 : Int32))] [])
    refine w_iloadN (q := 1) C rfl d53_0 rfl ?_
    refine w_if_gt_t (q := 6) C d53_1 (by decide) (by decide) (by decide) ?_
    refine w_iloadN (q := 7) C rfl d53_6 rfl ?_
    refine w_iconst (q := 8) (v := (1 : Int32)) C (by rfl) d53_7 rfl ?_
    refine w_icmp_ne_t (q := 15) C d53_8 (by decide) (by decide) (by decide) ?_
    refine w_iloadN (q := 16) C rfl d53_15 rfl ?_
    refine w_iconst (q := 17) (v := (2 : Int32)) C (by rfl) d53_16 rfl ?_
    refine w_icmp_ne_t (q := 24) C d53_17 (by decide) (by decide) (by decide) ?_
    refine w_iloadN (q := 25) C rfl d53_24 rfl ?_
    refine w_iconst (q := 26) (v := (3 : Int32)) C (by rfl) d53_25 rfl ?_
    refine w_icmp_ne_t (q := 33) C d53_26 (by decide) (by decide) (by decide) ?_
    refine w_iloadN (q := 34) C rfl d53_33 rfl ?_
    refine w_iconst (q := 35) (v := (4 : Int32)) C (by rfl) d53_34 rfl ?_
    refine w_icmp_ne_t (q := 42) C d53_35 (by decide) (by decide) (by decide) ?_
    refine w_iloadN (q := 43) C rfl d53_42 rfl ?_
    refine w_iconst (q := 44) (v := (5 : Int32)) C (by rfl) d53_43 rfl ?_
    refine w_icmp_ne_t (q := 51) C d53_44 (by decide) (by decide) (by decide) ?_
    refine w_iloadN (q := 52) C rfl d53_51 rfl ?_
    refine w_bipush (q := 54) (v := (6 : Int32)) C (by rfl) d53_52 rfl ?_
    refine w_icmp_ne_t (q := 61) C d53_54 (by decide) (by decide) (by decide) ?_
    refine w_iloadN (q := 62) C rfl d53_61 rfl ?_
    refine w_bipush (q := 64) (v := (7 : Int32)) C (by rfl) d53_62 rfl ?_
    refine w_icmp_ne_f (q := 67) C d53_64 rfl (by decide) ?_
    refine w_ldc2J (q := 70) C (G.1 _ (List.mem_of_getElem? (i := 290) rfl)) d53_67 rfl ?_
    exact w_retJ C rfl d53_70 (by decide) (by decide) ⟨rfl, rfl⟩
  · show AtW p l e _ s m _ below meth c n0 _ h0 0 0 (mkF m 0 #[.val (.int (8 : Int32))] [])
    refine w_iloadN (q := 1) C rfl d53_0 rfl ?_
    refine w_if_gt_t (q := 6) C d53_1 (by decide) (by decide) (by decide) ?_
    refine w_iloadN (q := 7) C rfl d53_6 rfl ?_
    refine w_iconst (q := 8) (v := (1 : Int32)) C (by rfl) d53_7 rfl ?_
    refine w_icmp_ne_t (q := 15) C d53_8 (by decide) (by decide) (by decide) ?_
    refine w_iloadN (q := 16) C rfl d53_15 rfl ?_
    refine w_iconst (q := 17) (v := (2 : Int32)) C (by rfl) d53_16 rfl ?_
    refine w_icmp_ne_t (q := 24) C d53_17 (by decide) (by decide) (by decide) ?_
    refine w_iloadN (q := 25) C rfl d53_24 rfl ?_
    refine w_iconst (q := 26) (v := (3 : Int32)) C (by rfl) d53_25 rfl ?_
    refine w_icmp_ne_t (q := 33) C d53_26 (by decide) (by decide) (by decide) ?_
    refine w_iloadN (q := 34) C rfl d53_33 rfl ?_
    refine w_iconst (q := 35) (v := (4 : Int32)) C (by rfl) d53_34 rfl ?_
    refine w_icmp_ne_t (q := 42) C d53_35 (by decide) (by decide) (by decide) ?_
    refine w_iloadN (q := 43) C rfl d53_42 rfl ?_
    refine w_iconst (q := 44) (v := (5 : Int32)) C (by rfl) d53_43 rfl ?_
    refine w_icmp_ne_t (q := 51) C d53_44 (by decide) (by decide) (by decide) ?_
    refine w_iloadN (q := 52) C rfl d53_51 rfl ?_
    refine w_bipush (q := 54) (v := (6 : Int32)) C (by rfl) d53_52 rfl ?_
    refine w_icmp_ne_t (q := 61) C d53_54 (by decide) (by decide) (by decide) ?_
    refine w_iloadN (q := 62) C rfl d53_61 rfl ?_
    refine w_bipush (q := 64) (v := (7 : Int32)) C (by rfl) d53_62 rfl ?_
    refine w_icmp_ne_t (q := 71) C d53_64 (by decide) (by decide) (by decide) ?_
    refine w_iloadN (q := 72) C rfl d53_71 rfl ?_
    refine w_bipush (q := 74) (v := (8 : Int32)) C (by rfl) d53_72 rfl ?_
    refine w_icmp_ne_f (q := 77) C d53_74 rfl (by decide) ?_
    refine w_ldc2J (q := 80) C (G.1 _ (List.mem_of_getElem? (i := 291) rfl)) d53_77 rfl ?_
    exact w_retJ C rfl d53_80 (by decide) (by decide) ⟨rfl, rfl⟩
  · show AtW p l e _ s m _ below meth c n0 _ h0 0 0 (mkF m 0 #[.val (.int (9 : Int32))] [])
    refine w_iloadN (q := 1) C rfl d53_0 rfl ?_
    refine w_if_gt_t (q := 6) C d53_1 (by decide) (by decide) (by decide) ?_
    refine w_iloadN (q := 7) C rfl d53_6 rfl ?_
    refine w_iconst (q := 8) (v := (1 : Int32)) C (by rfl) d53_7 rfl ?_
    refine w_icmp_ne_t (q := 15) C d53_8 (by decide) (by decide) (by decide) ?_
    refine w_iloadN (q := 16) C rfl d53_15 rfl ?_
    refine w_iconst (q := 17) (v := (2 : Int32)) C (by rfl) d53_16 rfl ?_
    refine w_icmp_ne_t (q := 24) C d53_17 (by decide) (by decide) (by decide) ?_
    refine w_iloadN (q := 25) C rfl d53_24 rfl ?_
    refine w_iconst (q := 26) (v := (3 : Int32)) C (by rfl) d53_25 rfl ?_
    refine w_icmp_ne_t (q := 33) C d53_26 (by decide) (by decide) (by decide) ?_
    refine w_iloadN (q := 34) C rfl d53_33 rfl ?_
    refine w_iconst (q := 35) (v := (4 : Int32)) C (by rfl) d53_34 rfl ?_
    refine w_icmp_ne_t (q := 42) C d53_35 (by decide) (by decide) (by decide) ?_
    refine w_iloadN (q := 43) C rfl d53_42 rfl ?_
    refine w_iconst (q := 44) (v := (5 : Int32)) C (by rfl) d53_43 rfl ?_
    refine w_icmp_ne_t (q := 51) C d53_44 (by decide) (by decide) (by decide) ?_
    refine w_iloadN (q := 52) C rfl d53_51 rfl ?_
    refine w_bipush (q := 54) (v := (6 : Int32)) C (by rfl) d53_52 rfl ?_
    refine w_icmp_ne_t (q := 61) C d53_54 (by decide) (by decide) (by decide) ?_
    refine w_iloadN (q := 62) C rfl d53_61 rfl ?_
    refine w_bipush (q := 64) (v := (7 : Int32)) C (by rfl) d53_62 rfl ?_
    refine w_icmp_ne_t (q := 71) C d53_64 (by decide) (by decide) (by decide) ?_
    refine w_iloadN (q := 72) C rfl d53_71 rfl ?_
    refine w_bipush (q := 74) (v := (8 : Int32)) C (by rfl) d53_72 rfl ?_
    refine w_icmp_ne_t (q := 81) C d53_74 (by decide) (by decide) (by decide) ?_
    refine w_ldc2J (q := 84) C (G.1 _ (List.mem_of_getElem? (i := 292) rfl)) d53_81 rfl ?_
    exact w_retJ C rfl d53_84 (by decide) (by decide) ⟨rfl, rfl⟩
  · exact absurd hp (by omega)
theorem d52_0 : decode method_6_code 0 = .ok (.lload_n 0, 1) := by decide +kernel
theorem d52_1 : decode method_6_code 1 = .ok (.iload_n 2, 1) := by decide +kernel
theorem d52_2 : decode method_6_code 2 = .ok (.invokestatic 62, 3) := by decide +kernel
theorem d52_5 : decode method_6_code 5 = .ok (.ldiv, 1) := by decide +kernel
theorem d52_6 : decode method_6_code 6 = .ok (.ldc2_w 66, 3) := by decide +kernel
theorem d52_9 : decode method_6_code 9 = .ok (.lrem, 1) := by decide +kernel
theorem d52_10 : decode method_6_code 10 = .ok (.l2i, 1) := by decide +kernel
theorem d52_11 : decode method_6_code 11 = .ok (.ireturn, 1) := by decide +kernel
theorem pf52 : plainFor (⟨"com/example/condo/condo/tenant/NewKeyToStringPinLaw", "digit", "(JI)I"⟩ : MethodName) = true := by first | exact plainFor_of_name (by first | (simp [plainName, overriddenIn]; done) | decide +kernel) | decide +kernel
theorem ef_digf (m : MethodId) (z0 : Int64) (z1 : Int32) : entryFrame m #[(.long z0), (.int z1)] 3 = mkF m 0 #[.val (.long z0), .second, .val (.int z1)] [] := by first | (simp [entryFrame, mkF, argsToLocals, Value.category, *]; done) | rfl
set_option maxRecDepth 65536 in
set_option maxHeartbeats 40000000 in
theorem rm_digf {l : Launch} {Z : State} {a0 : Array Value} {n0 : Nat} (G : Gl Z a0 n0) {h0 : Heap} (O : Old Z n0 h0) (mm : Int64) (N : Nat) (p10 : Nat) (hm : mm.toInt = (N : Int)) (hN : N ≤ 2 ^ 31) (hp : p10 ≤ 9) :
    Ct [] l Z n0 (⟨"com/example/condo/condo/tenant/NewKeyToStringPinLaw", "digit", "(JI)I"⟩ : MethodName) method_6_code 3 (some .int) ({ frames := 1, cells := 0, slots := 0, locals := 14 } : Room) #[(.long mm), (.int (Int32.ofNat p10))] h0 (fun v h => h = h0 ∧ v = some (.int (Int32.ofNat (N / 10 ^ p10 % 10)))) := by
  refine Ct.intro pf52 ?_
  intro p e s m below meth c C
  refine AtW.cast ?_ (ef_digf m mm (Int32.ofNat p10))
  have hpw : (own_pw.getD p10 0).toInt = ((10 ^ p10 : Nat) : Int) := own_pwt ⟨p10, by omega⟩
  have hpz : 0 < 10 ^ p10 := Nat.pow_pos (by decide)
  refine w_lloadN (q := 1) C rfl d52_0 rfl ?_
  refine w_iloadN (q := 2) C rfl d52_1 rfl ?_
  refine w_callS (q := 5) (argsL := [(.int (Int32.ofNat p10))]) (S := [(.long mm)]) (W := 2) (cells' := 0) (slots' := 0) C (G.1 _ (List.mem_of_getElem? (i := 268) rfl)) (G.1 _ (List.mem_of_getElem? (i := 269) rfl)) (G.1 _ (List.mem_of_getElem? (i := 2) rfl)) (G.1 _ (List.mem_of_getElem? (i := 270) rfl)) (by decide) (rm_powf G O p10 hp) rfl (lenOf pd_39 rfl) rfl (by decide) (own_leb rfl) (by decide) rfl rfl (by decide) (by decide) d52_2 rfl ?_
  rintro _ h237 ⟨eh238, rfl⟩
  rw [eh238]
  show AtW p l e _ s m _ below meth c n0 _ h0 0 0 (mkF m 5 #[.val (.long mm), .second, .val (.int (Int32.ofNat p10))] [(.long (own_pw.getD p10 0)), (.long mm)])
  refine w_ldiv (q := 6) C (fun q => by rw [q] at hpw; have e : (0 : Int64).toInt = 0 := rfl; omega) rfl d52_5 rfl ?_
  refine w_ldc2J (q := 9) C (G.1 _ (List.mem_of_getElem? (i := 260) rfl)) d52_6 rfl ?_
  refine w_lrem (q := 10) C (by decide) rfl d52_9 rfl ?_
  refine w_l2i (q := 11) C rfl d52_10 rfl ?_
  rw [show (((mm / (own_pw.getD p10 0)) % (10 : Int64)).toInt32) = (Int32.ofNat (N / 10 ^ p10 % 10)) from own_dig64 hm hpw hpz hN]
  exact w_retI C rfl d52_11 (by decide) (by decide) ⟨rfl, rfl⟩
theorem d51_0 : decode method_5_code 0 = .ok (.iload_n 0, 1) := by decide +kernel
theorem d51_1 : decode method_5_code 1 = .ok (.istore 5, 2) := by decide +kernel
theorem d51_3 : decode method_5_code 3 = .ok (.iload_n 1, 1) := by decide +kernel
theorem d51_4 : decode method_5_code 4 = .ok (.ifCond .eq 15, 3) := by decide +kernel
theorem d51_7 : decode method_5_code 7 = .ok (.iload_n 0, 1) := by decide +kernel
theorem d51_8 : decode method_5_code 8 = .ok (.ifCond .ne 6, 3) := by decide +kernel
theorem d51_11 : decode method_5_code 11 = .ok (.bipush 45, 2) := by decide +kernel
theorem d51_13 : decode method_5_code 13 = .ok (.ireturn, 1) := by decide +kernel
theorem d51_14 : decode method_5_code 14 = .ok (.iload_n 0, 1) := by decide +kernel
theorem d51_15 : decode method_5_code 15 = .ok (.iconst 1, 1) := by decide +kernel
theorem d51_16 : decode method_5_code 16 = .ok (.isub, 1) := by decide +kernel
theorem d51_17 : decode method_5_code 17 = .ok (.istore 5, 2) := by decide +kernel
theorem d51_19 : decode method_5_code 19 = .ok (.iload 5, 2) := by decide +kernel
theorem d51_21 : decode method_5_code 21 = .ok (.iload 4, 2) := by decide +kernel
theorem d51_23 : decode method_5_code 23 = .ok (.if_icmp .ge 19, 3) := by decide +kernel
theorem d51_26 : decode method_5_code 26 = .ok (.bipush 48, 2) := by decide +kernel
theorem d51_28 : decode method_5_code 28 = .ok (.lload_n 2, 1) := by decide +kernel
theorem d51_29 : decode method_5_code 29 = .ok (.iload 4, 2) := by decide +kernel
theorem d51_31 : decode method_5_code 31 = .ok (.iconst 1, 1) := by decide +kernel
theorem d51_32 : decode method_5_code 32 = .ok (.isub, 1) := by decide +kernel
theorem d51_33 : decode method_5_code 33 = .ok (.iload 5, 2) := by decide +kernel
theorem d51_35 : decode method_5_code 35 = .ok (.isub, 1) := by decide +kernel
theorem d51_36 : decode method_5_code 36 = .ok (.invokestatic 58, 3) := by decide +kernel
theorem d51_39 : decode method_5_code 39 = .ok (.iadd, 1) := by decide +kernel
theorem d51_40 : decode method_5_code 40 = .ok (.i2c, 1) := by decide +kernel
theorem d51_41 : decode method_5_code 41 = .ok (.ireturn, 1) := by decide +kernel
theorem d51_42 : decode method_5_code 42 = .ok (.iload 5, 2) := by decide +kernel
theorem d51_44 : decode method_5_code 44 = .ok (.iload 4, 2) := by decide +kernel
theorem d51_46 : decode method_5_code 46 = .ok (.if_icmp .ne 6, 3) := by decide +kernel
theorem d51_49 : decode method_5_code 49 = .ok (.bipush 93, 2) := by decide +kernel
theorem d51_51 : decode method_5_code 51 = .ok (.ireturn, 1) := by decide +kernel
theorem d51_52 : decode method_5_code 52 = .ok (.bipush 63, 2) := by decide +kernel
theorem d51_54 : decode method_5_code 54 = .ok (.ireturn, 1) := by decide +kernel
theorem pf51 : plainFor (⟨"com/example/condo/condo/tenant/NewKeyToStringPinLaw", "tail", "(IZJI)C"⟩ : MethodName) = true := by first | exact plainFor_of_name (by first | (simp [plainName, overriddenIn]; done) | decide +kernel) | decide +kernel
theorem ef_tailf (m : MethodId) (z0 : Int32) (z1 : Int32) (z2 : Int64) (z3 : Int32) : entryFrame m #[(.int z0), (.int z1), (.long z2), (.int z3)] 6 = mkF m 0 #[.val (.int z0), .val (.int z1), .val (.long z2), .second, .val (.int z3), .unset] [] := by first | (simp [entryFrame, mkF, argsToLocals, Value.category, *]; done) | rfl
set_option maxRecDepth 65536 in
set_option maxHeartbeats 40000000 in
theorem rm_tailf {l : Launch} {Z : State} {a0 : Array Value} {n0 : Nat} (G : Gl Z a0 n0) {h0 : Heap} (O : Old Z n0 h0) (x : Int32) (j : Nat) (mm : Int64) (hm : mm.toInt = (own_mag x : Int)) (hj : j ≤ 11) :
    Ct [] l Z n0 (⟨"com/example/condo/condo/tenant/NewKeyToStringPinLaw", "tail", "(IZJI)C"⟩ : MethodName) method_5_code 6 (some .char) ({ frames := 2, cells := 0, slots := 0, locals := 29 } : Room) #[(.int (Int32.ofNat j)), (.int (Int32.ofNat (own_sg x))), (.long mm), (.int (Int32.ofNat (SBG.digits (own_mag x))))] h0 (fun v h => h = h0 ∧ v = some (.int (own_tl x j))) := by
  refine Ct.intro pf51 ?_
  intro p e s m below meth c C
  refine AtW.cast ?_ (ef_tailf m (Int32.ofNat j) (Int32.ofNat (own_sg x)) mm (Int32.ofNat (SBG.digits (own_mag x))))
  have hN := own_mag_le x
  have hdp := SBG.digits_pos (own_mag x)
  have hil := own_istr_len x
  have hsz : own_isz x = (SBG.digits (own_mag x)) + own_sg x := rfl
  by_cases hx : x < 0
  · have hs1 : own_sg x = 1 := by unfold own_sg; rw [if_pos hx]
    rw [show (Int32.ofNat (own_sg x)) = (1 : Int32) from by rw [hs1]; rfl]
    refine w_iloadN (q := 1) C rfl d51_0 rfl ?_
    refine w_istore (q := 3) (L' := #[.val (.int (Int32.ofNat j)), .val (.int (1 : Int32)), .val (.long mm), .second, .val (.int (Int32.ofNat (SBG.digits (own_mag x)))), .val (.int (Int32.ofNat j))]) C rfl d51_1 rfl ?_
    refine w_iloadN (q := 4) C rfl d51_3 rfl ?_
    refine w_if_eq_f (q := 7) C d51_4 rfl (by decide) ?_
    refine w_iloadN (q := 8) C rfl d51_7 rfl ?_
    by_cases q2 : (Int32.ofNat j) = 0
    · refine w_if_ne_f (q := 11) C d51_8 rfl q2 ?_
      obtain rfl : j = 0 := (own_neq (n := 0) (by omega) (by omega)).mp q2
      have htl : own_tl x 0 = 45 := by unfold own_tl; rw [List.getElem?_append_left (by omega), own_istr_neg hx]; rfl
      refine w_bipush (q := 13) (v := (45 : Int32)) C (by rfl) d51_11 rfl ?_
      exact w_retZ (z := (45 : Int32)) C (t := .char) rfl (by simp) (by decide) d51_13 (by decide) (by decide) ⟨rfl, by rw [htl]⟩
    · refine w_if_ne_t (q := 14) C d51_8 (by decide) (by decide) q2 ?_
      have hj0 : j ≠ 0 := fun q => q2 (by rw [q]; rfl)
      refine w_iloadN (q := 15) C rfl d51_14 rfl ?_
      refine w_iconst (q := 16) (v := (1 : Int32)) C (by rfl) d51_15 rfl ?_
      refine w_isub (q := 17) C rfl d51_16 rfl ?_
      rw [show ((Int32.ofNat j) - (1 : Int32)) = (Int32.ofNat (j - 1)) from own_sub (b := 1) (by omega)]
      refine w_istore (q := 19) (L' := #[.val (.int (Int32.ofNat j)), .val (.int (1 : Int32)), .val (.long mm), .second, .val (.int (Int32.ofNat (SBG.digits (own_mag x)))), .val (.int (Int32.ofNat (j - 1)))]) C rfl d51_17 rfl ?_
      refine w_iload (q := 21) C rfl d51_19 rfl ?_
      refine w_iload (q := 23) C rfl d51_21 rfl ?_
      by_cases q3 : (Int32.ofNat (j - 1)) < (Int32.ofNat (SBG.digits (own_mag x)))
      · refine w_icmp_ge_f (q := 26) C d51_23 rfl q3 ?_
        rw [own_nlt (by omega) (by omega)] at q3
        have h10 : own_mag x / 10 ^ ((SBG.digits (own_mag x)) - 1 - (j - 1)) % 10 < 10 := Nat.mod_lt _ (by decide)
        have hcx := own_d48 _ h10
        have htl : own_tl x j = Int32.ofNat (48 + own_mag x / 10 ^ ((SBG.digits (own_mag x)) - 1 - (j - 1)) % 10) := by unfold own_tl; rw [List.getElem?_append_left (by omega), own_istr_get (by omega) (fun q => hj0 q.2), show own_isz x - 1 - j = (SBG.digits (own_mag x)) - 1 - (j - 1) by omega]; rfl
        refine w_bipush (q := 28) (v := (48 : Int32)) C (by rfl) d51_26 rfl ?_
        refine w_lloadN (q := 29) C rfl d51_28 rfl ?_
        refine w_iload (q := 31) C rfl d51_29 rfl ?_
        refine w_iconst (q := 32) (v := (1 : Int32)) C (by rfl) d51_31 rfl ?_
        refine w_isub (q := 33) C rfl d51_32 rfl ?_
        rw [show ((Int32.ofNat (SBG.digits (own_mag x))) - (1 : Int32)) = (Int32.ofNat ((SBG.digits (own_mag x)) - 1)) from own_sub (b := 1) (by omega)]
        refine w_iload (q := 35) C rfl d51_33 rfl ?_
        refine w_isub (q := 36) C rfl d51_35 rfl ?_
        rw [show ((Int32.ofNat ((SBG.digits (own_mag x)) - 1)) - (Int32.ofNat (j - 1))) = (Int32.ofNat ((SBG.digits (own_mag x)) - 1 - (j - 1))) from own_sub (by omega)]
        refine w_callS (q := 39) (argsL := [(.long mm), (.int (Int32.ofNat ((SBG.digits (own_mag x)) - 1 - (j - 1))))]) (S := [(.int (48 : Int32))]) (W := 1) (cells' := 0) (slots' := 0) C (G.1 _ (List.mem_of_getElem? (i := 265) rfl)) (G.1 _ (List.mem_of_getElem? (i := 266) rfl)) (G.1 _ (List.mem_of_getElem? (i := 2) rfl)) (G.1 _ (List.mem_of_getElem? (i := 267) rfl)) (by decide) (rm_digf G O mm (own_mag x) ((SBG.digits (own_mag x)) - 1 - (j - 1)) hm hN (by omega)) rfl (lenOf pd_38 rfl) rfl (by decide) (own_leb rfl) (by decide) rfl rfl (by decide) (by decide) d51_36 rfl ?_
        rintro _ h239 ⟨eh240, rfl⟩
        rw [eh240]
        show AtW p l e _ s m _ below meth c n0 _ h0 0 0 (mkF m 39 #[.val (.int (Int32.ofNat j)), .val (.int (1 : Int32)), .val (.long mm), .second, .val (.int (Int32.ofNat (SBG.digits (own_mag x)))), .val (.int (Int32.ofNat (j - 1)))] [(.int (Int32.ofNat (own_mag x / 10 ^ ((SBG.digits (own_mag x)) - 1 - (j - 1)) % 10))), (.int (48 : Int32))])
        refine w_iadd (q := 40) C rfl d51_39 rfl ?_
        rw [show ((48 : Int32) + (Int32.ofNat (own_mag x / 10 ^ ((SBG.digits (own_mag x)) - 1 - (j - 1)) % 10))) = (Int32.ofNat (48 + (own_mag x / 10 ^ ((SBG.digits (own_mag x)) - 1 - (j - 1)) % 10))) from own_add 48 _]
        refine w_i2c (q := 41) C rfl d51_40 rfl ?_
        rw [show ((Int32.ofNat (48 + (own_mag x / 10 ^ ((SBG.digits (own_mag x)) - 1 - (j - 1)) % 10))).toUInt32.toUInt16.toUInt32.toInt32) = (Int32.ofNat (48 + (own_mag x / 10 ^ ((SBG.digits (own_mag x)) - 1 - (j - 1)) % 10))) from own_i2c hcx]
        exact w_retZ (z := (Int32.ofNat (48 + (own_mag x / 10 ^ ((SBG.digits (own_mag x)) - 1 - (j - 1)) % 10)))) C (t := .char) rfl (by simp) (own_nar hcx.1 hcx.2) d51_41 (by decide) (by decide) ⟨rfl, by rw [htl]⟩
      · refine w_icmp_ge_t (q := 42) C d51_23 (by decide) (by decide) q3 ?_
        rw [own_nlt (by omega) (by omega)] at q3
        refine w_iload (q := 44) C rfl d51_42 rfl ?_
        refine w_iload (q := 46) C rfl d51_44 rfl ?_
        by_cases q4 : (Int32.ofNat (j - 1)) = (Int32.ofNat (SBG.digits (own_mag x)))
        · refine w_icmp_ne_f (q := 49) C d51_46 rfl q4 ?_
          rw [own_neq (by omega) (by omega)] at q4
          have htl : own_tl x j = 93 := by unfold own_tl; rw [List.getElem?_append_right (by omega), show j - (own_istr x).length = 0 by omega]; rfl
          refine w_bipush (q := 51) (v := (93 : Int32)) C (by rfl) d51_49 rfl ?_
          exact w_retZ (z := (93 : Int32)) C (t := .char) rfl (by simp) (by decide) d51_51 (by decide) (by decide) ⟨rfl, by rw [htl]⟩
        · refine w_icmp_ne_t (q := 52) C d51_46 (by decide) (by decide) q4 ?_
          rw [own_neq (by omega) (by omega)] at q4
          have htl : own_tl x j = 63 := by unfold own_tl; rw [List.getElem?_eq_none (by rw [List.length_append, hil, List.length_singleton]; omega)]; rfl
          refine w_bipush (q := 54) (v := (63 : Int32)) C (by rfl) d51_52 rfl ?_
          exact w_retZ (z := (63 : Int32)) C (t := .char) rfl (by simp) (by decide) d51_54 (by decide) (by decide) ⟨rfl, by rw [htl]⟩
  · have hs1 : own_sg x = 0 := by unfold own_sg; rw [if_neg hx]
    rw [show (Int32.ofNat (own_sg x)) = (0 : Int32) from by rw [hs1]; rfl]
    refine w_iloadN (q := 1) C rfl d51_0 rfl ?_
    refine w_istore (q := 3) (L' := #[.val (.int (Int32.ofNat j)), .val (.int (0 : Int32)), .val (.long mm), .second, .val (.int (Int32.ofNat (SBG.digits (own_mag x)))), .val (.int (Int32.ofNat j))]) C rfl d51_1 rfl ?_
    refine w_iloadN (q := 4) C rfl d51_3 rfl ?_
    refine w_if_eq_t (q := 19) C d51_4 (by decide) (by decide) (by decide) ?_
    refine w_iload (q := 21) C rfl d51_19 rfl ?_
    refine w_iload (q := 23) C rfl d51_21 rfl ?_
    by_cases q3 : (Int32.ofNat j) < (Int32.ofNat (SBG.digits (own_mag x)))
    · refine w_icmp_ge_f (q := 26) C d51_23 rfl q3 ?_
      rw [own_nlt (by omega) (by omega)] at q3
      have h10 : own_mag x / 10 ^ ((SBG.digits (own_mag x)) - 1 - j) % 10 < 10 := Nat.mod_lt _ (by decide)
      have hcx := own_d48 _ h10
      have htl : own_tl x j = Int32.ofNat (48 + own_mag x / 10 ^ ((SBG.digits (own_mag x)) - 1 - j) % 10) := by unfold own_tl; rw [List.getElem?_append_left (by omega), own_istr_get (by omega) (fun q => hx q.1), show own_isz x - 1 - j = (SBG.digits (own_mag x)) - 1 - j by omega]; rfl
      refine w_bipush (q := 28) (v := (48 : Int32)) C (by rfl) d51_26 rfl ?_
      refine w_lloadN (q := 29) C rfl d51_28 rfl ?_
      refine w_iload (q := 31) C rfl d51_29 rfl ?_
      refine w_iconst (q := 32) (v := (1 : Int32)) C (by rfl) d51_31 rfl ?_
      refine w_isub (q := 33) C rfl d51_32 rfl ?_
      rw [show ((Int32.ofNat (SBG.digits (own_mag x))) - (1 : Int32)) = (Int32.ofNat ((SBG.digits (own_mag x)) - 1)) from own_sub (b := 1) (by omega)]
      refine w_iload (q := 35) C rfl d51_33 rfl ?_
      refine w_isub (q := 36) C rfl d51_35 rfl ?_
      rw [show ((Int32.ofNat ((SBG.digits (own_mag x)) - 1)) - (Int32.ofNat j)) = (Int32.ofNat ((SBG.digits (own_mag x)) - 1 - j)) from own_sub (by omega)]
      refine w_callS (q := 39) (argsL := [(.long mm), (.int (Int32.ofNat ((SBG.digits (own_mag x)) - 1 - j)))]) (S := [(.int (48 : Int32))]) (W := 1) (cells' := 0) (slots' := 0) C (G.1 _ (List.mem_of_getElem? (i := 265) rfl)) (G.1 _ (List.mem_of_getElem? (i := 266) rfl)) (G.1 _ (List.mem_of_getElem? (i := 2) rfl)) (G.1 _ (List.mem_of_getElem? (i := 267) rfl)) (by decide) (rm_digf G O mm (own_mag x) ((SBG.digits (own_mag x)) - 1 - j) hm hN (by omega)) rfl (lenOf pd_38 rfl) rfl (by decide) (own_leb rfl) (by decide) rfl rfl (by decide) (by decide) d51_36 rfl ?_
      rintro _ h241 ⟨eh242, rfl⟩
      rw [eh242]
      show AtW p l e _ s m _ below meth c n0 _ h0 0 0 (mkF m 39 #[.val (.int (Int32.ofNat j)), .val (.int (0 : Int32)), .val (.long mm), .second, .val (.int (Int32.ofNat (SBG.digits (own_mag x)))), .val (.int (Int32.ofNat j))] [(.int (Int32.ofNat (own_mag x / 10 ^ ((SBG.digits (own_mag x)) - 1 - j) % 10))), (.int (48 : Int32))])
      refine w_iadd (q := 40) C rfl d51_39 rfl ?_
      rw [show ((48 : Int32) + (Int32.ofNat (own_mag x / 10 ^ ((SBG.digits (own_mag x)) - 1 - j) % 10))) = (Int32.ofNat (48 + (own_mag x / 10 ^ ((SBG.digits (own_mag x)) - 1 - j) % 10))) from own_add 48 _]
      refine w_i2c (q := 41) C rfl d51_40 rfl ?_
      rw [show ((Int32.ofNat (48 + (own_mag x / 10 ^ ((SBG.digits (own_mag x)) - 1 - j) % 10))).toUInt32.toUInt16.toUInt32.toInt32) = (Int32.ofNat (48 + (own_mag x / 10 ^ ((SBG.digits (own_mag x)) - 1 - j) % 10))) from own_i2c hcx]
      exact w_retZ (z := (Int32.ofNat (48 + (own_mag x / 10 ^ ((SBG.digits (own_mag x)) - 1 - j) % 10)))) C (t := .char) rfl (by simp) (own_nar hcx.1 hcx.2) d51_41 (by decide) (by decide) ⟨rfl, by rw [htl]⟩
    · refine w_icmp_ge_t (q := 42) C d51_23 (by decide) (by decide) q3 ?_
      rw [own_nlt (by omega) (by omega)] at q3
      refine w_iload (q := 44) C rfl d51_42 rfl ?_
      refine w_iload (q := 46) C rfl d51_44 rfl ?_
      by_cases q4 : (Int32.ofNat j) = (Int32.ofNat (SBG.digits (own_mag x)))
      · refine w_icmp_ne_f (q := 49) C d51_46 rfl q4 ?_
        rw [own_neq (by omega) (by omega)] at q4
        have htl : own_tl x j = 93 := by unfold own_tl; rw [List.getElem?_append_right (by omega), show j - (own_istr x).length = 0 by omega]; rfl
        refine w_bipush (q := 51) (v := (93 : Int32)) C (by rfl) d51_49 rfl ?_
        exact w_retZ (z := (93 : Int32)) C (t := .char) rfl (by simp) (by decide) d51_51 (by decide) (by decide) ⟨rfl, by rw [htl]⟩
      · refine w_icmp_ne_t (q := 52) C d51_46 (by decide) (by decide) q4 ?_
        rw [own_neq (by omega) (by omega)] at q4
        have htl : own_tl x j = 63 := by unfold own_tl; rw [List.getElem?_eq_none (by rw [List.length_append, hil, List.length_singleton]; omega)]; rfl
        refine w_bipush (q := 54) (v := (63 : Int32)) C (by rfl) d51_52 rfl ?_
        exact w_retZ (z := (63 : Int32)) C (t := .char) rfl (by simp) (by decide) d51_54 (by decide) (by decide) ⟨rfl, by rw [htl]⟩
theorem d54_0 : decode method_3_code 0 = .ok (.iload_n 3, 1) := by decide +kernel
theorem d54_1 : decode method_3_code 1 = .ok (.iload_n 2, 1) := by decide +kernel
theorem d54_2 : decode method_3_code 2 = .ok (.if_icmp .ge 14, 3) := by decide +kernel
theorem d54_5 : decode method_3_code 5 = .ok (.aload_n 0, 1) := by decide +kernel
theorem d54_6 : decode method_3_code 6 = .ok (.iload_n 3, 1) := by decide +kernel
theorem d54_7 : decode method_3_code 7 = .ok (.invokevirtual 54, 3) := by decide +kernel
theorem d54_10 : decode method_3_code 10 = .ok (.aload_n 1, 1) := by decide +kernel
theorem d54_11 : decode method_3_code 11 = .ok (.iload_n 3, 1) := by decide +kernel
theorem d54_12 : decode method_3_code 12 = .ok (.caload, 1) := by decide +kernel
theorem d54_13 : decode method_3_code 13 = .ok (.if_icmp .ne 7, 3) := by decide +kernel
theorem d54_16 : decode method_3_code 16 = .ok (.iconst 1, 1) := by decide +kernel
theorem d54_17 : decode method_3_code 17 = .ok (.goto 4, 3) := by decide +kernel
theorem d54_20 : decode method_3_code 20 = .ok (.iconst 0, 1) := by decide +kernel
theorem d54_21 : decode method_3_code 21 = .ok (.ireturn, 1) := by decide +kernel
theorem pf54 : plainFor (⟨"com/example/condo/condo/tenant/NewKeyToStringPinLaw", "at", "(Ljava/lang/String;[CII)Z"⟩ : MethodName) = true := by first | exact plainFor_of_name (by first | (simp [plainName, overriddenIn]; done) | decide +kernel) | decide +kernel
theorem ef_atc (m : MethodId) (z0 : Addr) (z1 : Addr) (z2 : Int32) (z3 : Int32) : entryFrame m #[(.ref z0), (.ref z1), (.int z2), (.int z3)] 4 = mkF m 0 #[.val (.ref z0), .val (.ref z1), .val (.int z2), .val (.int z3)] [] := by first | rfl | (simp [entryFrame, mkF, argsToLocals, Value.category, *]; done) | rfl
set_option maxRecDepth 65536 in
set_option maxHeartbeats 40000000 in
theorem rm_atc {l : Launch} {Z : State} {a0 : Array Value} {n0 : Nat} (G : Gl Z a0 n0) {h0 : Heap} (O : Old Z n0 h0) (s0 : Addr) (e0 : Addr) (cs : List Int32) (es : List Value) (i : Nat) (S : Str Z h0 s0 cs) (V : Ar Z h0 e0 .char es) (hi : i < 37) (hE : ∀ c, cs[i]? = some c → es[i]? = some (.int c)) :
    Ct [] l Z n0 (⟨"com/example/condo/condo/tenant/NewKeyToStringPinLaw", "at", "(Ljava/lang/String;[CII)Z"⟩ : MethodName) method_3_code 4 (some .boolean) ({ frames := 4, cells := 0, slots := 0, locals := 53 } : Room) #[(.ref s0), (.ref e0), (.int (Int32.ofNat cs.length)), (.int (Int32.ofNat i))] h0 (fun v h => h = h0 ∧ v = some (.int 1)) := by
  refine Ct.intro pf54 ?_
  intro p e s m below meth c C
  refine AtW.cast ?_ (ef_atc m s0 e0 (Int32.ofNat cs.length) (Int32.ofNat i))
  have hl := S.len
  refine w_iloadN (q := 1) C rfl d54_0 rfl ?_
  refine w_iloadN (q := 2) C rfl d54_1 rfl ?_
  by_cases q1 : (Int32.ofNat i) < (Int32.ofNat cs.length)
  · refine w_icmp_ge_f (q := 5) C d54_2 rfl q1 ?_
    rw [own_nlt (by omega) hl] at q1
    obtain ⟨c1, e1⟩ : ∃ c, cs[i]? = some c := ⟨_, List.getElem?_eq_getElem q1⟩
    refine w_aloadN (q := 6) C rfl rfl d54_5 rfl ?_
    refine w_iloadN (q := 7) C rfl d54_6 rfl ?_
    refine w_callV (q := 10) (argsL := [(.int (Int32.ofNat i))]) (S := []) (W := 0) (cells' := 0) (slots' := 0) (a := s0) C S.1 (G.1 _ (List.mem_of_getElem? (i := 274) rfl)) (G.1 _ (List.mem_of_getElem? (i := 275) rfl)) (w_nf C (G.1 _ (List.mem_of_getElem? (i := 277) rfl))) (G.1 _ (List.mem_of_getElem? (i := 277) rfl)) (G.1 _ (List.mem_of_getElem? (i := 276) rfl)) (G.1 _ (List.mem_of_getElem? (i := 10) rfl)) (G.1 _ (List.mem_of_getElem? (i := 278) rfl)) (by decide) (rm_charAt G O s0 cs i c1 S e1) rfl (lenOf pd_1 rfl) rfl (by decide) (own_leb rfl) (by decide) rfl rfl (by decide) (by decide) d54_7 rfl ?_
    rintro _ h243 ⟨eh244, rfl⟩
    rw [eh244]
    show AtW p l e _ s m _ below meth c n0 _ h0 0 0 (mkF m 10 #[.val (.ref s0), .val (.ref e0), .val (.int (Int32.ofNat cs.length)), .val (.int (Int32.ofNat i))] [(.int c1)])
    refine w_aloadN (q := 11) C rfl rfl d54_10 rfl ?_
    refine w_iloadN (q := 12) C rfl d54_11 rfl ?_
    refine w_caload (q := 13) (i := i) (v := (.int c1)) C V rfl (hE c1 e1) d54_12 rfl ?_
    refine w_icmp_ne_f (q := 16) C d54_13 rfl rfl ?_
    refine w_iconst (q := 17) (v := (1 : Int32)) C (by rfl) d54_16 rfl ?_
    refine w_goto (q := 21) C d54_17 (by decide) (by decide) ?_
    exact w_retZ (z := (1 : Int32)) C (t := .boolean) rfl (by simp) (by decide) d54_21 (by decide) (by decide) ⟨rfl, rfl⟩
  · refine w_icmp_ge_t (q := 16) C d54_2 (by decide) (by decide) q1 ?_
    refine w_iconst (q := 17) (v := (1 : Int32)) C (by rfl) d54_16 rfl ?_
    refine w_goto (q := 21) C d54_17 (by decide) (by decide) ?_
    exact w_retZ (z := (1 : Int32)) C (t := .boolean) rfl (by simp) (by decide) d54_21 (by decide) (by decide) ⟨rfl, rfl⟩
-- CUT
theorem pf0 : plainFor (⟨"com/example/condo/condo/tenant/NewKeyToStringPinLaw", "law", "(IIIII)Z"⟩ : MethodName) = true := by first | exact plainFor_of_name (by first | (simp [plainName, overriddenIn]; done) | decide +kernel) | decide +kernel
theorem ef_law (m : MethodId) (z0 : Int32) (z1 : Int32) (z2 : Int32) (z3 : Int32) (z4 : Int32) : entryFrame m #[(.int z0), (.int z1), (.int z2), (.int z3), (.int z4)] maxLocals = mkF m 0 #[.val (.int z0), .val (.int z1), .val (.int z2), .val (.int z3), .val (.int z4), .unset, .unset, .unset, .unset, .unset, .unset, .unset, .unset, .unset, .unset, .unset, .unset, .unset, .unset] [] := by first | (simp [entryFrame, mkF, argsToLocals, Value.category, *, maxLocals]; done) | rfl
set_option maxRecDepth 65536 in
set_option maxHeartbeats 40000000 in
theorem rm_law {l : Launch} {Z : State} {a0 : Array Value} {n0 : Nat} (G : Gl Z a0 n0) {h0 : Heap} (O : Old Z n0 h0) (i0 : Int32) (i1 : Int32) (i2 : Int32) (nb : Int32) (ky : Int32) :
    Cs tables_1 l Z consts_1 n0 x code maxLocals ret room_1 #[(.int i0), (.int i1), (.int i2), (.int nb), (.int ky)] h0 (fun v h => v = some (.int 1)) := by
  refine Cs.intro pf0 ?_
  intro p e s m below meth c C
  refine AtS.cast ?_ (ef_law m i0 i1 i2 nb ky)
  refine s_iloadN (q := 1) C rfl at_0 rfl ?_
  refine s_callS1 (q := 4) (argsL := [(.int i0)]) (S := []) (W := 0) (cells' := 0) (slots' := 0) C (G.1 _ (List.mem_of_getElem? (i := 0) rfl)) (G.1 _ (List.mem_of_getElem? (i := 1) rfl)) (G.1 _ (List.mem_of_getElem? (i := 2) rfl)) (G.1 _ (List.mem_of_getElem? (i := 3) rfl)) (by decide) (rm_nameChar G O i0) rfl (lenOf pd_1 rfl) rfl (by decide) (own_leb rfl) (by decide) rfl rfl (by decide) (by decide) (wl := []) (fun _ _ q => by rw [q.1]; exact Keep.refl _ _) all0 at_1 rfl ?_
  rintro _ h245 ⟨eh246, c0, rfl, hk0⟩
  rw [eh246]
  show AtS p l e _ s m _ below meth c Z _ _ n0 _ _ _ h0 0 0 (mkF m 4 #[.val (.int i0), .val (.int i1), .val (.int i2), .val (.int nb), .val (.int ky), .unset, .unset, .unset, .unset, .unset, .unset, .unset, .unset, .unset, .unset, .unset, .unset, .unset, .unset] [(.int c0)])
  have hc0 := hk0.1
  refine s_istore (q := 6) (L' := #[.val (.int i0), .val (.int i1), .val (.int i2), .val (.int nb), .val (.int ky), .val (.int c0), .unset, .unset, .unset, .unset, .unset, .unset, .unset, .unset, .unset, .unset, .unset, .unset, .unset]) C rfl at_4 rfl ?_
  refine s_iloadN (q := 7) C rfl at_6 rfl ?_
  refine s_callS1 (q := 10) (argsL := [(.int i1)]) (S := []) (W := 0) (cells' := 0) (slots' := 0) C (G.1 _ (List.mem_of_getElem? (i := 0) rfl)) (G.1 _ (List.mem_of_getElem? (i := 1) rfl)) (G.1 _ (List.mem_of_getElem? (i := 2) rfl)) (G.1 _ (List.mem_of_getElem? (i := 3) rfl)) (by decide) (rm_nameChar G O i1) rfl (lenOf pd_1 rfl) rfl (by decide) (own_leb rfl) (by decide) rfl rfl (by decide) (by decide) (wl := []) (fun _ _ q => by rw [q.1]; exact Keep.refl _ _) all0 at_7 rfl ?_
  rintro _ h247 ⟨eh248, c1, rfl, hk1⟩
  rw [eh248]
  show AtS p l e _ s m _ below meth c Z _ _ n0 _ _ _ h0 0 0 (mkF m 10 #[.val (.int i0), .val (.int i1), .val (.int i2), .val (.int nb), .val (.int ky), .val (.int c0), .unset, .unset, .unset, .unset, .unset, .unset, .unset, .unset, .unset, .unset, .unset, .unset, .unset] [(.int c1)])
  have hc1 := hk1.1
  refine s_istore (q := 12) (L' := #[.val (.int i0), .val (.int i1), .val (.int i2), .val (.int nb), .val (.int ky), .val (.int c0), .val (.int c1), .unset, .unset, .unset, .unset, .unset, .unset, .unset, .unset, .unset, .unset, .unset, .unset]) C rfl at_10 rfl ?_
  refine s_iloadN (q := 13) C rfl at_12 rfl ?_
  refine s_callS1 (q := 16) (argsL := [(.int i2)]) (S := []) (W := 0) (cells' := 0) (slots' := 0) C (G.1 _ (List.mem_of_getElem? (i := 0) rfl)) (G.1 _ (List.mem_of_getElem? (i := 1) rfl)) (G.1 _ (List.mem_of_getElem? (i := 2) rfl)) (G.1 _ (List.mem_of_getElem? (i := 3) rfl)) (by decide) (rm_nameChar G O i2) rfl (lenOf pd_1 rfl) rfl (by decide) (own_leb rfl) (by decide) rfl rfl (by decide) (by decide) (wl := []) (fun _ _ q => by rw [q.1]; exact Keep.refl _ _) all0 at_13 rfl ?_
  rintro _ h249 ⟨eh250, c2, rfl, hk2⟩
  rw [eh250]
  show AtS p l e _ s m _ below meth c Z _ _ n0 _ _ _ h0 0 0 (mkF m 16 #[.val (.int i0), .val (.int i1), .val (.int i2), .val (.int nb), .val (.int ky), .val (.int c0), .val (.int c1), .unset, .unset, .unset, .unset, .unset, .unset, .unset, .unset, .unset, .unset, .unset, .unset] [(.int c2)])
  have hc2 := hk2.1
  refine s_istore (q := 18) (L' := #[.val (.int i0), .val (.int i1), .val (.int i2), .val (.int nb), .val (.int ky), .val (.int c0), .val (.int c1), .val (.int c2), .unset, .unset, .unset, .unset, .unset, .unset, .unset, .unset, .unset, .unset, .unset]) C rfl at_16 rfl ?_
  refine s_new (q := 21) (cells' := 1) (slots' := 1) C (G.1 _ (List.mem_of_getElem? (i := 5) rfl)) (G.1 _ (List.mem_of_getElem? (i := 6) rfl)) (G.1 _ (List.mem_of_getElem? (i := 7) rfl)) rfl rfl (by decide) (by decide) at_18 rfl ?_
  intro h251 o252 g_o252 Eh251 A_o252 D_o252
  have F_value_o252 : Fld Z h251 o252 "com/example/condo/condo/tenant/TenantName" "value" "Ljava/lang/String;" .null := D_o252 (Or.inr (G.1 _ (List.mem_of_getElem? (i := 91) rfl))) (ty := (.object "java/lang/String")) (by decide)
  have ge_o252 : n0 ≤ o252 := by rw [g_o252]; exact Old_le O
  have sz_o252 : h0.size ≤ o252 := Nat.le_of_eq g_o252.symm
  have K1 : Keep h0 h251 [] := Keep.of_ext Eh251
  replace O := Old_k0 O K1
  refine s_dup (q := 22) C rfl at_21 rfl ?_
  refine s_new (q := 25) (cells' := 2) (slots' := 5) C (G.1 _ (List.mem_of_getElem? (i := 8) rfl)) (G.1 _ (List.mem_of_getElem? (i := 9) rfl)) (G.1 _ (List.mem_of_getElem? (i := 10) rfl)) rfl rfl (by decide) (by decide) at_22 rfl ?_
  intro h253 o254 g_o254 Eh253 A_o254 D_o254
  have F_coder_o254 : Fld Z h253 o254 "java/lang/String" "coder" "B" (.int (0 : Int32)) := D_o254 (Or.inr (G.1 _ (List.mem_of_getElem? (i := 35) rfl))) (ty := .byte) (by decide)
  have F_value_o254 : Fld Z h253 o254 "java/lang/String" "value" "[B" .null := D_o254 (Or.inr (G.1 _ (List.mem_of_getElem? (i := 37) rfl))) (ty := (.array .byte)) (by decide)
  have ge_o254 : n0 ≤ o254 := by rw [g_o254]; exact Old_le O
  refine s_dup (q := 26) C rfl at_25 rfl ?_
  refine s_iconst (q := 27) (v := (3 : Int32)) C (by rfl) at_26 rfl ?_
  refine s_newArr (q := 29) (cap := 3) (cells' := 3) (slots' := 8) C (G.1 _ (List.mem_of_getElem? (i := 11) rfl)) rfl (by decide) (by decide) (by decide) rfl rfl (by decide) (by decide) at_27 rfl ?_
  intro h255 o256 g_o256 Eh255 V_o256
  replace V_o256 : Ar Z h255 o256 .char [(.int (0 : Int32)), (.int (0 : Int32)), (.int (0 : Int32))] := V_o256
  have ge_o256 : n0 ≤ o256 := by rw [g_o256]; exact Nat.le_trans (Old_le O) Eh253.1
  have ne_o254 : o254 ≠ o256 := Nat.ne_of_lt (by rw [g_o256]; exact A_o254.lt)
  have sz_o256 : h251.size ≤ o256 := by rw [g_o256]; exact Eh253.1
  have K257 : Keep h251 h255 [] := (Keep.of_ext Eh253).ext Eh255
  replace A_o254 := A_o254.ext Eh255
  replace F_value_o254 := F_value_o254.ext Eh255
  replace F_coder_o254 := F_coder_o254.ext Eh255
  refine s_dup (q := 30) C rfl at_29 rfl ?_
  refine s_iconst (q := 31) (v := (0 : Int32)) C (by rfl) at_30 rfl ?_
  refine s_iload (q := 33) C rfl at_31 rfl ?_
  refine s_castore (q := 34) (z := c0) (i := 0) C (own_nar hc0.1 hc0.2) V_o256 rfl (own_ltb rfl) ge_o256 at_33 rfl ?_
  intro h258 Wh258 Vh258
  replace A_o254 := A_o254.wr Wh258
  replace F_value_o254 := F_value_o254.other Wh258 (Or.inl ne_o254)
  replace F_coder_o254 := F_coder_o254.other Wh258 (Or.inl ne_o254)
  have K259 := K257.wr Wh258 (Or.inr sz_o256)
  refine s_dup (q := 35) C rfl at_34 rfl ?_
  refine s_iconst (q := 36) (v := (1 : Int32)) C (by rfl) at_35 rfl ?_
  refine s_iload (q := 38) C rfl at_36 rfl ?_
  refine s_castore (q := 39) (z := c1) (i := 1) C (own_nar hc1.1 hc1.2) Vh258 rfl (own_ltb rfl) ge_o256 at_38 rfl ?_
  intro h260 Wh260 Vh260
  replace A_o254 := A_o254.wr Wh260
  replace F_value_o254 := F_value_o254.other Wh260 (Or.inl ne_o254)
  replace F_coder_o254 := F_coder_o254.other Wh260 (Or.inl ne_o254)
  have K261 := K259.wr Wh260 (Or.inr sz_o256)
  refine s_dup (q := 40) C rfl at_39 rfl ?_
  refine s_iconst (q := 41) (v := (2 : Int32)) C (by rfl) at_40 rfl ?_
  refine s_iload (q := 43) C rfl at_41 rfl ?_
  refine s_castore (q := 44) (z := c2) (i := 2) C (own_nar hc2.1 hc2.2) Vh260 rfl (own_ltb rfl) ge_o256 at_43 rfl ?_
  intro h262 Wh262 Vh262
  replace A_o254 := A_o254.wr Wh262
  replace F_value_o254 := F_value_o254.other Wh262 (Or.inl ne_o254)
  replace F_coder_o254 := F_coder_o254.other Wh262 (Or.inl ne_o254)
  have K263 := K261.wr Wh262 (Or.inr sz_o256)
  have O264 := Old_k0 O K263
  have hL_S1 : L1 [c0, c1, c2] := (own_L1c hc0 (own_L1c hc1 (own_L1c hc2 (fun c hc => absurd hc List.not_mem_nil))))
  have hA_S1 : Ar Z h262 o256 .char (List.map Value.int [c0, c1, c2]) := Vh262
  refine s_callI1 (q := 47) (argsL := [(.ref o256)]) (S := [(.ref o254), (.ref o252), (.ref o252)]) (W := 3) (cells' := 4) (slots' := 11) (a := o254) C rfl (G.1 _ (List.mem_of_getElem? (i := 12) rfl)) (G.1 _ (List.mem_of_getElem? (i := 13) rfl)) (G.1 _ (List.mem_of_getElem? (i := 10) rfl)) (G.1 _ (List.mem_of_getElem? (i := 14) rfl)) (by decide) (rm_strinit G O264 o254 o256 [c0, c1, c2] A_o254 F_value_o254 F_coder_o254 ge_o254 hA_S1 hL_S1 (own_leb rfl) (by simp)) rfl (lenOf pd_2 rfl) rfl (by decide) (own_leb rfl) (by decide) rfl rfl (by decide) (by decide) (wl := [o254]) (fun _ _ q => q.1) (allS (SfOk.mem (by simp)) (all0)) at_44 rfl ?_
  rintro _ h265 ⟨Kh265, rfl, S1⟩
  show AtS p l e _ s m _ below meth c Z _ _ n0 _ _ _ h265 4 11 (mkF m 47 #[.val (.int i0), .val (.int i1), .val (.int i2), .val (.int nb), .val (.int ky), .val (.int c0), .val (.int c1), .val (.int c2), .unset, .unset, .unset, .unset, .unset, .unset, .unset, .unset, .unset, .unset, .unset] [(.ref o254), (.ref o252), (.ref o252)])
  have K266 : Keep h251 h265 [] := own_K1 K263 Kh265 (Nat.le_of_eq g_o254.symm)
  replace A_o252 := Exa_k0 A_o252 K266
  replace F_value_o252 := Fld_k0 F_value_o252 K266
  replace O := Old_k0 O K266
  have K2 := own_K0 K1 K266
  refine s_callI2 (q := 50) (argsL := [(.ref o254)]) (S := [(.ref o252)]) (W := 1) (cells' := 6) (slots' := 59) (a := o252) C G.el rfl (G.1 _ (List.mem_of_getElem? (i := 38) rfl)) (G.1 _ (List.mem_of_getElem? (i := 39) rfl)) (G.1 _ (List.mem_of_getElem? (i := 7) rfl)) (G.1 _ (List.mem_of_getElem? (i := 40) rfl)) (by decide) (rm_tninit G O o252 o254 [c0, c1, c2] A_o252 F_value_o252 ge_o252 S1 (fun c hc => by simp only [List.mem_cons, List.not_mem_nil, or_false] at hc; rcases hc with hc | hc | hc <;> (rw [hc]; first | exact hk0.2 | exact hk1.2 | exact hk2.2)) (by simp) (by simp)) rfl (lenOf pd_8 rfl) rfl (by decide) (own_leb rfl) (by decide) rfl rfl (by decide) (by decide) at_47 rfl ?_
  rintro _ h267 ⟨Kh267, rfl, E1, F1, S3⟩
  show AtS p l e _ s m _ below meth c Z _ _ n0 _ _ _ h267 6 59 (mkF m 50 #[.val (.int i0), .val (.int i1), .val (.int i2), .val (.int nb), .val (.int ky), .val (.int c0), .val (.int c1), .val (.int c2), .unset, .unset, .unset, .unset, .unset, .unset, .unset, .unset, .unset, .unset, .unset] [(.ref o252)])
  have K3 : Keep h0 h267 [] := own_K1 K2 Kh267 sz_o252
  replace O := O.keep Kh267 (allS ge_o252 all0)
  refine s_astore (q := 52) (L' := #[.val (.int i0), .val (.int i1), .val (.int i2), .val (.int nb), .val (.int ky), .val (.int c0), .val (.int c1), .val (.int c2), .val (.ref o252), .unset, .unset, .unset, .unset, .unset, .unset, .unset, .unset, .unset, .unset]) C rfl rfl at_50 rfl ?_
  refine s_new (q := 55) (cells' := 7) (slots' := 63) C (G.1 _ (List.mem_of_getElem? (i := 8) rfl)) (G.1 _ (List.mem_of_getElem? (i := 9) rfl)) (G.1 _ (List.mem_of_getElem? (i := 10) rfl)) rfl rfl (by decide) (by decide) at_52 rfl ?_
  intro h268 o269 g_o269 Eh268 A_o269 D_o269
  have F_coder_o269 : Fld Z h268 o269 "java/lang/String" "coder" "B" (.int (0 : Int32)) := D_o269 (Or.inr (G.1 _ (List.mem_of_getElem? (i := 35) rfl))) (ty := .byte) (by decide)
  have F_value_o269 : Fld Z h268 o269 "java/lang/String" "value" "[B" .null := D_o269 (Or.inr (G.1 _ (List.mem_of_getElem? (i := 37) rfl))) (ty := (.array .byte)) (by decide)
  refine s_dup (q := 56) C rfl at_55 rfl ?_
  refine s_iconst (q := 57) (v := (2 : Int32)) C (by rfl) at_56 rfl ?_
  refine s_newArr (q := 59) (cap := 2) (cells' := 8) (slots' := 65) C (G.1 _ (List.mem_of_getElem? (i := 11) rfl)) rfl (by decide) (by decide) (by decide) rfl rfl (by decide) (by decide) at_57 rfl ?_
  intro h270 o271 g_o271 Eh270 V_o271
  replace V_o271 : Ar Z h270 o271 .char [(.int (0 : Int32)), (.int (0 : Int32))] := V_o271
  have ge_o269 : n0 ≤ o269 := by rw [g_o269]; exact Old_le O
  have ge_o271 : n0 ≤ o271 := by rw [g_o271]; exact Nat.le_trans (Old_le O) Eh268.1
  have ne_o269 : o269 ≠ o271 := Nat.ne_of_lt (by rw [g_o271]; exact A_o269.lt)
  have sz_o271 : h267.size ≤ o271 := by rw [g_o271]; exact Eh268.1
  have KS : Keep h267 h270 [] := (Keep.of_ext Eh268).ext Eh270
  replace A_o269 := A_o269.ext Eh270
  replace F_value_o269 := F_value_o269.ext Eh270
  replace F_coder_o269 := F_coder_o269.ext Eh270
  refine s_dup (q := 60) C rfl at_59 rfl ?_
  refine s_iconst (q := 61) (v := (0 : Int32)) C (by rfl) at_60 rfl ?_
  refine s_iload (q := 63) C rfl at_61 rfl ?_
  refine s_sipush (q := 66) (v := (255 : Int32)) C (by rfl) at_63 rfl ?_
  refine s_iand (q := 67) C rfl at_66 rfl ?_
  refine s_i2c (q := 68) C rfl at_67 rfl ?_
  rw [show ((ky &&& (255 : Int32)).toUInt32.toUInt16.toUInt32.toInt32) = (ky &&& (255 : Int32)) from own_i2c (own_255 _)]
  generalize hy0 : (ky &&& (255 : Int32)) = y0
  have hqy0 : ¬ y0 < 0 ∧ ¬ 255 < y0 := by rw [← hy0]; exact own_255 _
  refine s_castore (q := 69) (z := y0) (i := 0) C (own_nar hqy0.1 hqy0.2) V_o271 rfl (own_ltb rfl) ge_o271 at_68 rfl ?_
  intro h272 Wh272 Vh272
  replace A_o269 := A_o269.wr Wh272
  replace F_value_o269 := F_value_o269.other Wh272 (Or.inl ne_o269)
  replace F_coder_o269 := F_coder_o269.other Wh272 (Or.inl ne_o269)
  have K273 := KS.wr Wh272 (Or.inr sz_o271)
  refine s_dup (q := 70) C rfl at_69 rfl ?_
  refine s_iconst (q := 71) (v := (1 : Int32)) C (by rfl) at_70 rfl ?_
  refine s_iload (q := 73) C rfl at_71 rfl ?_
  refine s_bipush (q := 75) (v := (8 : Int32)) C (by rfl) at_73 rfl ?_
  refine s_iushr (q := 76) C rfl at_75 rfl ?_
  refine s_sipush (q := 79) (v := (255 : Int32)) C (by rfl) at_76 rfl ?_
  refine s_iand (q := 80) C rfl at_79 rfl ?_
  refine s_i2c (q := 81) C rfl at_80 rfl ?_
  rw [show ((((ky.toUInt32 >>> ((8 : Int32) &&& 31).toUInt32).toInt32) &&& (255 : Int32)).toUInt32.toUInt16.toUInt32.toInt32) = (((ky.toUInt32 >>> ((8 : Int32) &&& 31).toUInt32).toInt32) &&& (255 : Int32)) from own_i2c (own_255 _)]
  generalize hy1 : (((ky.toUInt32 >>> ((8 : Int32) &&& 31).toUInt32).toInt32) &&& (255 : Int32)) = y1
  have hqy1 : ¬ y1 < 0 ∧ ¬ 255 < y1 := by rw [← hy1]; exact own_255 _
  refine s_castore (q := 82) (z := y1) (i := 1) C (own_nar hqy1.1 hqy1.2) Vh272 rfl (own_ltb rfl) ge_o271 at_81 rfl ?_
  intro h274 Wh274 Vh274
  replace A_o269 := A_o269.wr Wh274
  replace F_value_o269 := F_value_o269.other Wh274 (Or.inl ne_o269)
  replace F_coder_o269 := F_coder_o269.other Wh274 (Or.inl ne_o269)
  have K275 := K273.wr Wh274 (Or.inr sz_o271)
  have O276 := Old_k0 O K275
  have hAk : Ar Z h274 o271 .char (List.map Value.int [y0, y1]) := Vh274
  refine s_callI1 (q := 85) (argsL := [(.ref o271)]) (S := [(.ref o269)]) (W := 1) (cells' := 9) (slots' := 68) (a := o269) C rfl (G.1 _ (List.mem_of_getElem? (i := 12) rfl)) (G.1 _ (List.mem_of_getElem? (i := 13) rfl)) (G.1 _ (List.mem_of_getElem? (i := 10) rfl)) (G.1 _ (List.mem_of_getElem? (i := 14) rfl)) (by decide) (rm_strinit G O276 o269 o271 [y0, y1] A_o269 F_value_o269 F_coder_o269 ge_o269 hAk (own_L1c hqy0 (own_L1c hqy1 (fun c hc => absurd hc List.not_mem_nil))) (by simp) (by simp)) rfl (lenOf pd_2 rfl) rfl (by decide) (own_leb rfl) (by decide) rfl rfl (by decide) (by decide) (wl := [o269]) (fun _ _ q => q.1) (allS (SfOk.mem (by simp)) (all0)) at_82 rfl ?_
  rintro _ h277 ⟨Kh277, rfl, SK⟩
  show AtS p l e _ s m _ below meth c Z _ _ n0 _ _ _ h277 9 68 (mkF m 85 #[.val (.int i0), .val (.int i1), .val (.int i2), .val (.int nb), .val (.int ky), .val (.int c0), .val (.int c1), .val (.int c2), .val (.ref o252), .unset, .unset, .unset, .unset, .unset, .unset, .unset, .unset, .unset, .unset] [(.ref o269)])
  have KK : Keep h267 h277 [] := own_K1 K275 Kh277 (Nat.le_of_eq g_o269.symm)
  replace E1 := Exa_k0 E1 KK
  replace F1 := Fld_k0 F1 KK
  replace S3 := Str_k0 S3 KK
  replace O := Old_k0 O KK
  refine s_astore (q := 87) (L' := #[.val (.int i0), .val (.int i1), .val (.int i2), .val (.int nb), .val (.int ky), .val (.int c0), .val (.int c1), .val (.int c2), .val (.ref o252), .val (.ref o269), .unset, .unset, .unset, .unset, .unset, .unset, .unset, .unset, .unset]) C rfl rfl at_85 rfl ?_
  refine s_new (q := 90) (cells' := 10) (slots' := 71) C (G.1 _ (List.mem_of_getElem? (i := 92) rfl)) (G.1 _ (List.mem_of_getElem? (i := 93) rfl)) (G.1 _ (List.mem_of_getElem? (i := 94) rfl)) rfl rfl (by decide) (by decide) at_87 rfl ?_
  intro h278 o279 g_o279 Eh278 A_o279 D_o279
  have F_tenant_o279 : Fld Z h278 o279 "com/example/condo/condo/tenant/NewKey" "tenant" "Lcom/example/condo/condo/tenant/TenantName;" .null := D_o279 (Or.inr (G.1 _ (List.mem_of_getElem? (i := 100) rfl))) (ty := (.object "com/example/condo/condo/tenant/TenantName")) (by decide)
  have F_keyId_o279 : Fld Z h278 o279 "com/example/condo/condo/tenant/NewKey" "keyId" "I" (.int (0 : Int32)) := D_o279 (Or.inr (G.1 _ (List.mem_of_getElem? (i := 102) rfl))) (ty := .int) (by decide)
  have F_key_o279 : Fld Z h278 o279 "com/example/condo/condo/tenant/NewKey" "key" "Ljava/lang/String;" .null := D_o279 (Or.inr (G.1 _ (List.mem_of_getElem? (i := 104) rfl))) (ty := (.object "java/lang/String")) (by decide)
  have ge : n0 ≤ o279 := by rw [g_o279]; exact Old_le O
  have KN : Keep h277 h278 [] := Keep.of_ext Eh278
  have OL : h277.size ≤ o279 := Nat.le_of_eq g_o279.symm
  have O9 := Old_k0 O KN
  refine s_dup (q := 91) C rfl at_90 rfl ?_
  refine s_aload (q := 93) C rfl rfl at_91 rfl ?_
  refine s_iloadN (q := 94) C rfl at_93 rfl ?_
  refine s_aload (q := 96) C rfl rfl at_94 rfl ?_
  refine s_callI1 (q := 99) (argsL := [(.ref o252), (.int nb), (.ref o269)]) (S := [(.ref o279)]) (W := 1) (cells' := 10) (slots' := 71) (a := o279) C rfl (G.1 _ (List.mem_of_getElem? (i := 95) rfl)) (G.1 _ (List.mem_of_getElem? (i := 96) rfl)) (G.1 _ (List.mem_of_getElem? (i := 94) rfl)) (G.1 _ (List.mem_of_getElem? (i := 97) rfl)) (by decide) (rm_nkinit G O9 o279 o252 nb o269 A_o279 F_tenant_o279 F_keyId_o279 F_key_o279 ge) rfl (lenOf pd_17 rfl) rfl (by decide) (own_leb rfl) (by decide) rfl rfl (by decide) (by decide) (wl := [o279]) (fun _ _ q => q.1) (allS (SfOk.exa A_o279 (by decide)) (all0)) at_96 rfl ?_
  rintro _ h280 ⟨Kh280, rfl, e0, e_tenant, e_keyId, e_key⟩
  show AtS p l e _ s m _ below meth c Z _ _ n0 _ _ _ h280 10 71 (mkF m 99 #[.val (.int i0), .val (.int i1), .val (.int i2), .val (.int nb), .val (.int ky), .val (.int c0), .val (.int c1), .val (.int c2), .val (.ref o252), .val (.ref o269), .unset, .unset, .unset, .unset, .unset, .unset, .unset, .unset, .unset] [(.ref o279)])
  have KM : Keep h277 h280 [] := own_K1 KN Kh280 OL
  replace E1 := Exa_k0 E1 KM
  replace F1 := Fld_k0 F1 KM
  replace S3 := Str_k0 S3 KM
  replace O := Old_k0 O KM
  refine s_callV2 (q := 102) (argsL := []) (S := []) (W := 0) (cells' := 25) (slots' := 586) (a := o279) C G.el e0 (G.1 _ (List.mem_of_getElem? (i := 105) rfl)) (G.1 _ (List.mem_of_getElem? (i := 106) rfl)) (s_nf (G.1 _ (List.mem_of_getElem? (i := 108) rfl))) (G.1 _ (List.mem_of_getElem? (i := 108) rfl)) (G.1 _ (List.mem_of_getElem? (i := 107) rfl)) (G.1 _ (List.mem_of_getElem? (i := 94) rfl)) (G.1 _ (List.mem_of_getElem? (i := 109) rfl)) (by decide) (rm_toStr G O o279 o252 o254 [c0, c1, c2] nb e_tenant E1 F1 e_keyId S3 (by simp)) rfl (lenOf pd_18 rfl) rfl (by decide) (own_leb rfl) (by decide) rfl rfl (by decide) (by decide) at_99 rfl ?_
  rintro _ h281 ⟨Kh281, r, rfl, T⟩
  show AtS p l e _ s m _ below meth c Z _ _ n0 _ _ _ h281 25 586 (mkF m 102 #[.val (.int i0), .val (.int i1), .val (.int i2), .val (.int nb), .val (.int ky), .val (.int c0), .val (.int c1), .val (.int c2), .val (.ref o252), .val (.ref o269), .unset, .unset, .unset, .unset, .unset, .unset, .unset, .unset, .unset] [(.ref r)])
  replace O := Old_k0 O Kh281
  have hN := own_mag_le nb
  have hdp := SBG.digits_pos (own_mag nb)
  have hil := own_istr_len nb
  have hlt : lcmpW nb.toInt64 (0 : Int64) < 0 ↔ nb < 0 := by rw [lw_lt, own_i64, own_lt, c_i2l]; rfl
  have hsz : own_isz nb = SBG.digits (own_mag nb) + own_sg nb := rfl
  have hFL : (((([(78 : Int32), (101 : Int32), (119 : Int32), (75 : Int32), (101 : Int32), (121 : Int32), (91 : Int32), (116 : Int32), (101 : Int32), (110 : Int32), (97 : Int32), (110 : Int32), (116 : Int32), (61 : Int32)] ++ [c0, c1, c2]) ++ [(44 : Int32), (32 : Int32), (107 : Int32), (101 : Int32), (121 : Int32), (73 : Int32), (100 : Int32), (61 : Int32)]) ++ own_istr nb) ++ [(93 : Int32)]).length = 25 + own_sg nb + SBG.digits (own_mag nb) + 1 := by simp only [List.length_append, List.length_cons, List.length_nil, own_istr_len, hsz]; first | done | omega
  refine s_astore (q := 104) (L' := #[.val (.int i0), .val (.int i1), .val (.int i2), .val (.int nb), .val (.int ky), .val (.int c0), .val (.int c1), .val (.int c2), .val (.ref o252), .val (.ref o269), .val (.ref r), .unset, .unset, .unset, .unset, .unset, .unset, .unset, .unset]) C rfl rfl at_102 rfl ?_
  refine s_iloadN (q := 105) C rfl at_104 rfl ?_
  refine s_i2l (q := 106) C rfl at_105 rfl ?_
  refine s_lstore (q := 108) (L' := #[.val (.int i0), .val (.int i1), .val (.int i2), .val (.int nb), .val (.int ky), .val (.int c0), .val (.int c1), .val (.int c2), .val (.ref o252), .val (.ref o269), .val (.ref r), .val (.long (nb.toInt64)), .second, .unset, .unset, .unset, .unset, .unset, .unset]) C rfl at_106 rfl ?_
  refine s_lload (q := 110) C rfl at_108 rfl ?_
  refine s_lconst (q := 111) (v := (0 : Int64)) C (by rfl) at_110 rfl ?_
  refine s_lcmp (q := 112) C rfl at_111 rfl ?_
  have J : ∀ sgz : Int32, sgz = (Int32.ofNat (own_sg nb)) → AtS p l e room_1 s m #[(.int i0), (.int i1), (.int i2), (.int nb), (.int ky)] below meth c Z consts_1 "com/example/condo/condo/tenant/NewKeyToStringPinLaw" n0 (fun v h => v = some (.int 1)) h281.size [o279, o271, o269, o256, o254, o252] h281 25 586 (mkF m 120 #[.val (.int i0), .val (.int i1), .val (.int i2), .val (.int nb), .val (.int ky), .val (.int c0), .val (.int c1), .val (.int c2), .val (.ref o252), .val (.ref o269), .val (.ref r), .val (.long (nb.toInt64)), .second, .unset, .unset, .unset, .unset, .unset, .unset] [(.int sgz)]) := by
    rintro _ rfl
    refine s_istore (q := 122) (L' := #[.val (.int i0), .val (.int i1), .val (.int i2), .val (.int nb), .val (.int ky), .val (.int c0), .val (.int c1), .val (.int c2), .val (.ref o252), .val (.ref o269), .val (.ref r), .val (.long (nb.toInt64)), .second, .val (.int (Int32.ofNat (own_sg nb))), .unset, .unset, .unset, .unset, .unset]) C rfl at_120 rfl ?_
    refine s_lload (q := 124) C rfl at_122 rfl ?_
    refine s_callS1 (q := 127) (argsL := [(.long (nb.toInt64))]) (S := []) (W := 0) (cells' := 25) (slots' := 586) C (G.1 _ (List.mem_of_getElem? (i := 254) rfl)) (G.1 _ (List.mem_of_getElem? (i := 255) rfl)) (G.1 _ (List.mem_of_getElem? (i := 183) rfl)) (G.1 _ (List.mem_of_getElem? (i := 256) rfl)) (by decide) (rm_absL G O nb) rfl (lenOf pd_35 rfl) rfl (by decide) (own_leb rfl) (by decide) rfl rfl (by decide) (by decide) (wl := []) (fun _ _ q => by rw [q.1]; exact Keep.refl _ _) all0 at_124 rfl ?_
    rintro _ h282 ⟨eh283, mm, rfl, hm⟩
    rw [eh283]
    show AtS p l e _ s m _ below meth c Z _ _ n0 _ _ _ h281 25 586 (mkF m 127 #[.val (.int i0), .val (.int i1), .val (.int i2), .val (.int nb), .val (.int ky), .val (.int c0), .val (.int c1), .val (.int c2), .val (.ref o252), .val (.ref o269), .val (.ref r), .val (.long (nb.toInt64)), .second, .val (.int (Int32.ofNat (own_sg nb))), .unset, .unset, .unset, .unset, .unset] [(.long mm)])
    refine s_lstore (q := 129) (L' := #[.val (.int i0), .val (.int i1), .val (.int i2), .val (.int nb), .val (.int ky), .val (.int c0), .val (.int c1), .val (.int c2), .val (.ref o252), .val (.ref o269), .val (.ref r), .val (.long (nb.toInt64)), .second, .val (.int (Int32.ofNat (own_sg nb))), .val (.long mm), .second, .unset, .unset, .unset]) C rfl at_127 rfl ?_
    refine s_lload (q := 131) C rfl at_129 rfl ?_
    refine s_callS1 (q := 134) (argsL := [(.long mm)]) (S := []) (W := 0) (cells' := 25) (slots' := 586) C (G.1 _ (List.mem_of_getElem? (i := 257) rfl)) (G.1 _ (List.mem_of_getElem? (i := 258) rfl)) (G.1 _ (List.mem_of_getElem? (i := 2) rfl)) (G.1 _ (List.mem_of_getElem? (i := 259) rfl)) (by decide) (rm_digitsf G O mm (own_mag nb) hm hN) rfl (lenOf pd_36 rfl) rfl (by decide) (own_leb rfl) (by decide) rfl rfl (by decide) (by decide) (wl := []) (fun _ _ q => by rw [q.1]; exact Keep.refl _ _) all0 at_131 rfl ?_
    rintro _ h284 ⟨eh285, rfl⟩
    rw [eh285]
    show AtS p l e _ s m _ below meth c Z _ _ n0 _ _ _ h281 25 586 (mkF m 134 #[.val (.int i0), .val (.int i1), .val (.int i2), .val (.int nb), .val (.int ky), .val (.int c0), .val (.int c1), .val (.int c2), .val (.ref o252), .val (.ref o269), .val (.ref r), .val (.long (nb.toInt64)), .second, .val (.int (Int32.ofNat (own_sg nb))), .val (.long mm), .second, .unset, .unset, .unset] [(.int (Int32.ofNat (SBG.digits (own_mag nb))))])
    refine s_istore (q := 136) (L' := #[.val (.int i0), .val (.int i1), .val (.int i2), .val (.int nb), .val (.int ky), .val (.int c0), .val (.int c1), .val (.int c2), .val (.ref o252), .val (.ref o269), .val (.ref r), .val (.long (nb.toInt64)), .second, .val (.int (Int32.ofNat (own_sg nb))), .val (.long mm), .second, .val (.int (Int32.ofNat (SBG.digits (own_mag nb)))), .unset, .unset]) C rfl at_134 rfl ?_
    refine s_bipush (q := 138) (v := (25 : Int32)) C (by rfl) at_136 rfl ?_
    refine s_iload (q := 140) C rfl at_138 rfl ?_
    have J2 : ∀ sgz : Int32, sgz = (Int32.ofNat (own_sg nb)) → AtS p l e room_1 s m #[(.int i0), (.int i1), (.int i2), (.int nb), (.int ky)] below meth c Z consts_1 "com/example/condo/condo/tenant/NewKeyToStringPinLaw" n0 (fun v h => v = some (.int 1)) h281.size [o279, o271, o269, o256, o254, o252] h281 25 586 (mkF m 148 #[.val (.int i0), .val (.int i1), .val (.int i2), .val (.int nb), .val (.int ky), .val (.int c0), .val (.int c1), .val (.int c2), .val (.ref o252), .val (.ref o269), .val (.ref r), .val (.long (nb.toInt64)), .second, .val (.int (Int32.ofNat (own_sg nb))), .val (.long mm), .second, .val (.int (Int32.ofNat (SBG.digits (own_mag nb)))), .unset, .unset] [(.int sgz), (.int (25 : Int32))]) := by
      rintro _ rfl
      refine s_iadd (q := 149) C rfl at_148 rfl ?_
      rw [show ((25 : Int32) + (Int32.ofNat (own_sg nb))) = (Int32.ofNat (25 + own_sg nb)) from own_add 25 _]
      refine s_iload (q := 151) C rfl at_149 rfl ?_
      refine s_iadd (q := 152) C rfl at_151 rfl ?_
      rw [show ((Int32.ofNat (25 + own_sg nb)) + (Int32.ofNat (SBG.digits (own_mag nb)))) = (Int32.ofNat (25 + own_sg nb + SBG.digits (own_mag nb))) from own_add _ _]
      refine s_iconst (q := 153) (v := (1 : Int32)) C (by rfl) at_152 rfl ?_
      refine s_iadd (q := 154) C rfl at_153 rfl ?_
      rw [show ((Int32.ofNat (25 + own_sg nb + SBG.digits (own_mag nb))) + (1 : Int32)) = (Int32.ofNat (((([(78 : Int32), (101 : Int32), (119 : Int32), (75 : Int32), (101 : Int32), (121 : Int32), (91 : Int32), (116 : Int32), (101 : Int32), (110 : Int32), (97 : Int32), (110 : Int32), (116 : Int32), (61 : Int32)] ++ [c0, c1, c2]) ++ [(44 : Int32), (32 : Int32), (107 : Int32), (101 : Int32), (121 : Int32), (73 : Int32), (100 : Int32), (61 : Int32)]) ++ own_istr nb) ++ [(93 : Int32)]).length) from (own_one _).trans (by rw [hFL])]
      refine s_istore (q := 156) (L' := #[.val (.int i0), .val (.int i1), .val (.int i2), .val (.int nb), .val (.int ky), .val (.int c0), .val (.int c1), .val (.int c2), .val (.ref o252), .val (.ref o269), .val (.ref r), .val (.long (nb.toInt64)), .second, .val (.int (Int32.ofNat (own_sg nb))), .val (.long mm), .second, .val (.int (Int32.ofNat (SBG.digits (own_mag nb)))), .val (.int (Int32.ofNat (((([(78 : Int32), (101 : Int32), (119 : Int32), (75 : Int32), (101 : Int32), (121 : Int32), (91 : Int32), (116 : Int32), (101 : Int32), (110 : Int32), (97 : Int32), (110 : Int32), (116 : Int32), (61 : Int32)] ++ [c0, c1, c2]) ++ [(44 : Int32), (32 : Int32), (107 : Int32), (101 : Int32), (121 : Int32), (73 : Int32), (100 : Int32), (61 : Int32)]) ++ own_istr nb) ++ [(93 : Int32)]).length)), .unset]) C rfl at_154 rfl ?_
      refine s_aload (q := 158) C rfl rfl at_156 rfl ?_
      refine s_callV1 (q := 161) (argsL := []) (S := []) (W := 0) (cells' := 25) (slots' := 586) (a := r) C T.1 (G.1 _ (List.mem_of_getElem? (i := 261) rfl)) (G.1 _ (List.mem_of_getElem? (i := 60) rfl)) (s_nf (G.1 _ (List.mem_of_getElem? (i := 62) rfl))) (G.1 _ (List.mem_of_getElem? (i := 62) rfl)) (G.1 _ (List.mem_of_getElem? (i := 61) rfl)) (G.1 _ (List.mem_of_getElem? (i := 10) rfl)) (G.1 _ (List.mem_of_getElem? (i := 63) rfl)) (by decide) (rm_length G O r _ T) rfl (lenOf pd_11 rfl) rfl (by decide) (own_leb rfl) (by decide) rfl rfl (by decide) (by decide) (wl := []) (fun _ _ q => by rw [q.1]; exact Keep.refl _ _) all0 at_158 rfl ?_
      rintro _ h286 ⟨eh287, rfl⟩
      rw [eh287]
      show AtS p l e _ s m _ below meth c Z _ _ n0 _ _ _ h281 25 586 (mkF m 161 #[.val (.int i0), .val (.int i1), .val (.int i2), .val (.int nb), .val (.int ky), .val (.int c0), .val (.int c1), .val (.int c2), .val (.ref o252), .val (.ref o269), .val (.ref r), .val (.long (nb.toInt64)), .second, .val (.int (Int32.ofNat (own_sg nb))), .val (.long mm), .second, .val (.int (Int32.ofNat (SBG.digits (own_mag nb)))), .val (.int (Int32.ofNat (((([(78 : Int32), (101 : Int32), (119 : Int32), (75 : Int32), (101 : Int32), (121 : Int32), (91 : Int32), (116 : Int32), (101 : Int32), (110 : Int32), (97 : Int32), (110 : Int32), (116 : Int32), (61 : Int32)] ++ [c0, c1, c2]) ++ [(44 : Int32), (32 : Int32), (107 : Int32), (101 : Int32), (121 : Int32), (73 : Int32), (100 : Int32), (61 : Int32)]) ++ own_istr nb) ++ [(93 : Int32)]).length)), .unset] [(.int (Int32.ofNat (((([(78 : Int32), (101 : Int32), (119 : Int32), (75 : Int32), (101 : Int32), (121 : Int32), (91 : Int32), (116 : Int32), (101 : Int32), (110 : Int32), (97 : Int32), (110 : Int32), (116 : Int32), (61 : Int32)] ++ [c0, c1, c2]) ++ [(44 : Int32), (32 : Int32), (107 : Int32), (101 : Int32), (121 : Int32), (73 : Int32), (100 : Int32), (61 : Int32)]) ++ own_istr nb) ++ [(93 : Int32)]).length))])
      refine s_iload (q := 163) C rfl at_161 rfl ?_
      refine s_icmp_eq_t (q := 168) C at_163 (by decide) (by decide) rfl ?_
      refine s_bipush (q := 170) (v := (37 : Int32)) C (by rfl) at_168 rfl ?_
      refine s_newArr (q := 172) (cap := 37) (cells' := 26) (slots' := 623) C (G.1 _ (List.mem_of_getElem? (i := 11) rfl)) rfl (by decide) (by decide) (by decide) rfl rfl (by decide) (by decide) at_170 rfl ?_
      intro h288 o289 g_o289 Eh288 V_o289
      replace V_o289 : Ar Z h288 o289 .char [(.int (0 : Int32)), (.int (0 : Int32)), (.int (0 : Int32)), (.int (0 : Int32)), (.int (0 : Int32)), (.int (0 : Int32)), (.int (0 : Int32)), (.int (0 : Int32)), (.int (0 : Int32)), (.int (0 : Int32)), (.int (0 : Int32)), (.int (0 : Int32)), (.int (0 : Int32)), (.int (0 : Int32)), (.int (0 : Int32)), (.int (0 : Int32)), (.int (0 : Int32)), (.int (0 : Int32)), (.int (0 : Int32)), (.int (0 : Int32)), (.int (0 : Int32)), (.int (0 : Int32)), (.int (0 : Int32)), (.int (0 : Int32)), (.int (0 : Int32)), (.int (0 : Int32)), (.int (0 : Int32)), (.int (0 : Int32)), (.int (0 : Int32)), (.int (0 : Int32)), (.int (0 : Int32)), (.int (0 : Int32)), (.int (0 : Int32)), (.int (0 : Int32)), (.int (0 : Int32)), (.int (0 : Int32)), (.int (0 : Int32))] := V_o289
      have ge_o289 : n0 ≤ o289 := by rw [g_o289]; exact Old_le O
      have sz_o289 : h281.size ≤ o289 := Nat.le_of_eq g_o289.symm
      have KP : Keep h281 h288 [] := Keep.of_ext Eh288
      have O290 := Old_k0 O KP
      refine s_dup (q := 173) C rfl at_172 rfl ?_
      refine s_iconst (q := 174) (v := (0 : Int32)) C (by rfl) at_173 rfl ?_
      refine s_bipush (q := 176) (v := (78 : Int32)) C (by rfl) at_174 rfl ?_
      refine s_castore (q := 177) (z := (78 : Int32)) (i := 0) C (by decide) V_o289 rfl (own_ltb rfl) ge_o289 at_176 rfl ?_
      intro h291 Wh291 Vh291
      have K292 := KP.wr Wh291 (Or.inr sz_o289)
      have O293 := Old_k0 O K292
      replace Vh291 : Ar Z h291 o289 .char (List.map Value.int [(78 : Int32), (0 : Int32), (0 : Int32), (0 : Int32), (0 : Int32), (0 : Int32), (0 : Int32), (0 : Int32), (0 : Int32), (0 : Int32), (0 : Int32), (0 : Int32), (0 : Int32), (0 : Int32), (0 : Int32), (0 : Int32), (0 : Int32), (0 : Int32), (0 : Int32), (0 : Int32), (0 : Int32), (0 : Int32), (0 : Int32), (0 : Int32), (0 : Int32), (0 : Int32), (0 : Int32), (0 : Int32), (0 : Int32), (0 : Int32), (0 : Int32), (0 : Int32), (0 : Int32), (0 : Int32), (0 : Int32), (0 : Int32), (0 : Int32)]) := Vh291
      refine s_dup (q := 178) C rfl at_177 rfl ?_
      refine s_iconst (q := 179) (v := (1 : Int32)) C (by rfl) at_178 rfl ?_
      refine s_bipush (q := 181) (v := (101 : Int32)) C (by rfl) at_179 rfl ?_
      refine s_castore (q := 182) (z := (101 : Int32)) (i := 1) C (by decide) Vh291 rfl (own_ltb rfl) ge_o289 at_181 rfl ?_
      intro h294 Wh294 Vh294
      have K295 := K292.wr Wh294 (Or.inr sz_o289)
      have O296 := Old_k0 O K295
      replace Vh294 : Ar Z h294 o289 .char (List.map Value.int [(78 : Int32), (101 : Int32), (0 : Int32), (0 : Int32), (0 : Int32), (0 : Int32), (0 : Int32), (0 : Int32), (0 : Int32), (0 : Int32), (0 : Int32), (0 : Int32), (0 : Int32), (0 : Int32), (0 : Int32), (0 : Int32), (0 : Int32), (0 : Int32), (0 : Int32), (0 : Int32), (0 : Int32), (0 : Int32), (0 : Int32), (0 : Int32), (0 : Int32), (0 : Int32), (0 : Int32), (0 : Int32), (0 : Int32), (0 : Int32), (0 : Int32), (0 : Int32), (0 : Int32), (0 : Int32), (0 : Int32), (0 : Int32), (0 : Int32)]) := Vh294
      refine s_dup (q := 183) C rfl at_182 rfl ?_
      refine s_iconst (q := 184) (v := (2 : Int32)) C (by rfl) at_183 rfl ?_
      refine s_bipush (q := 186) (v := (119 : Int32)) C (by rfl) at_184 rfl ?_
      refine s_castore (q := 187) (z := (119 : Int32)) (i := 2) C (by decide) Vh294 rfl (own_ltb rfl) ge_o289 at_186 rfl ?_
      intro h297 Wh297 Vh297
      have K298 := K295.wr Wh297 (Or.inr sz_o289)
      have O299 := Old_k0 O K298
      replace Vh297 : Ar Z h297 o289 .char (List.map Value.int [(78 : Int32), (101 : Int32), (119 : Int32), (0 : Int32), (0 : Int32), (0 : Int32), (0 : Int32), (0 : Int32), (0 : Int32), (0 : Int32), (0 : Int32), (0 : Int32), (0 : Int32), (0 : Int32), (0 : Int32), (0 : Int32), (0 : Int32), (0 : Int32), (0 : Int32), (0 : Int32), (0 : Int32), (0 : Int32), (0 : Int32), (0 : Int32), (0 : Int32), (0 : Int32), (0 : Int32), (0 : Int32), (0 : Int32), (0 : Int32), (0 : Int32), (0 : Int32), (0 : Int32), (0 : Int32), (0 : Int32), (0 : Int32), (0 : Int32)]) := Vh297
      refine s_dup (q := 188) C rfl at_187 rfl ?_
      refine s_iconst (q := 189) (v := (3 : Int32)) C (by rfl) at_188 rfl ?_
      refine s_bipush (q := 191) (v := (75 : Int32)) C (by rfl) at_189 rfl ?_
      refine s_castore (q := 192) (z := (75 : Int32)) (i := 3) C (by decide) Vh297 rfl (own_ltb rfl) ge_o289 at_191 rfl ?_
      intro h300 Wh300 Vh300
      have K301 := K298.wr Wh300 (Or.inr sz_o289)
      have O302 := Old_k0 O K301
      replace Vh300 : Ar Z h300 o289 .char (List.map Value.int [(78 : Int32), (101 : Int32), (119 : Int32), (75 : Int32), (0 : Int32), (0 : Int32), (0 : Int32), (0 : Int32), (0 : Int32), (0 : Int32), (0 : Int32), (0 : Int32), (0 : Int32), (0 : Int32), (0 : Int32), (0 : Int32), (0 : Int32), (0 : Int32), (0 : Int32), (0 : Int32), (0 : Int32), (0 : Int32), (0 : Int32), (0 : Int32), (0 : Int32), (0 : Int32), (0 : Int32), (0 : Int32), (0 : Int32), (0 : Int32), (0 : Int32), (0 : Int32), (0 : Int32), (0 : Int32), (0 : Int32), (0 : Int32), (0 : Int32)]) := Vh300
      refine s_dup (q := 193) C rfl at_192 rfl ?_
      refine s_iconst (q := 194) (v := (4 : Int32)) C (by rfl) at_193 rfl ?_
      refine s_bipush (q := 196) (v := (101 : Int32)) C (by rfl) at_194 rfl ?_
      refine s_castore (q := 197) (z := (101 : Int32)) (i := 4) C (by decide) Vh300 rfl (own_ltb rfl) ge_o289 at_196 rfl ?_
      intro h303 Wh303 Vh303
      have K304 := K301.wr Wh303 (Or.inr sz_o289)
      have O305 := Old_k0 O K304
      replace Vh303 : Ar Z h303 o289 .char (List.map Value.int [(78 : Int32), (101 : Int32), (119 : Int32), (75 : Int32), (101 : Int32), (0 : Int32), (0 : Int32), (0 : Int32), (0 : Int32), (0 : Int32), (0 : Int32), (0 : Int32), (0 : Int32), (0 : Int32), (0 : Int32), (0 : Int32), (0 : Int32), (0 : Int32), (0 : Int32), (0 : Int32), (0 : Int32), (0 : Int32), (0 : Int32), (0 : Int32), (0 : Int32), (0 : Int32), (0 : Int32), (0 : Int32), (0 : Int32), (0 : Int32), (0 : Int32), (0 : Int32), (0 : Int32), (0 : Int32), (0 : Int32), (0 : Int32), (0 : Int32)]) := Vh303
      refine s_dup (q := 198) C rfl at_197 rfl ?_
      refine s_iconst (q := 199) (v := (5 : Int32)) C (by rfl) at_198 rfl ?_
      refine s_bipush (q := 201) (v := (121 : Int32)) C (by rfl) at_199 rfl ?_
      refine s_castore (q := 202) (z := (121 : Int32)) (i := 5) C (by decide) Vh303 rfl (own_ltb rfl) ge_o289 at_201 rfl ?_
      intro h306 Wh306 Vh306
      have K307 := K304.wr Wh306 (Or.inr sz_o289)
      have O308 := Old_k0 O K307
      replace Vh306 : Ar Z h306 o289 .char (List.map Value.int [(78 : Int32), (101 : Int32), (119 : Int32), (75 : Int32), (101 : Int32), (121 : Int32), (0 : Int32), (0 : Int32), (0 : Int32), (0 : Int32), (0 : Int32), (0 : Int32), (0 : Int32), (0 : Int32), (0 : Int32), (0 : Int32), (0 : Int32), (0 : Int32), (0 : Int32), (0 : Int32), (0 : Int32), (0 : Int32), (0 : Int32), (0 : Int32), (0 : Int32), (0 : Int32), (0 : Int32), (0 : Int32), (0 : Int32), (0 : Int32), (0 : Int32), (0 : Int32), (0 : Int32), (0 : Int32), (0 : Int32), (0 : Int32), (0 : Int32)]) := Vh306
      refine s_dup (q := 203) C rfl at_202 rfl ?_
      refine s_bipush (q := 205) (v := (6 : Int32)) C (by rfl) at_203 rfl ?_
      refine s_bipush (q := 207) (v := (91 : Int32)) C (by rfl) at_205 rfl ?_
      refine s_castore (q := 208) (z := (91 : Int32)) (i := 6) C (by decide) Vh306 rfl (own_ltb rfl) ge_o289 at_207 rfl ?_
      intro h309 Wh309 Vh309
      have K310 := K307.wr Wh309 (Or.inr sz_o289)
      have O311 := Old_k0 O K310
      replace Vh309 : Ar Z h309 o289 .char (List.map Value.int [(78 : Int32), (101 : Int32), (119 : Int32), (75 : Int32), (101 : Int32), (121 : Int32), (91 : Int32), (0 : Int32), (0 : Int32), (0 : Int32), (0 : Int32), (0 : Int32), (0 : Int32), (0 : Int32), (0 : Int32), (0 : Int32), (0 : Int32), (0 : Int32), (0 : Int32), (0 : Int32), (0 : Int32), (0 : Int32), (0 : Int32), (0 : Int32), (0 : Int32), (0 : Int32), (0 : Int32), (0 : Int32), (0 : Int32), (0 : Int32), (0 : Int32), (0 : Int32), (0 : Int32), (0 : Int32), (0 : Int32), (0 : Int32), (0 : Int32)]) := Vh309
      refine s_dup (q := 209) C rfl at_208 rfl ?_
      refine s_bipush (q := 211) (v := (7 : Int32)) C (by rfl) at_209 rfl ?_
      refine s_bipush (q := 213) (v := (116 : Int32)) C (by rfl) at_211 rfl ?_
      refine s_castore (q := 214) (z := (116 : Int32)) (i := 7) C (by decide) Vh309 rfl (own_ltb rfl) ge_o289 at_213 rfl ?_
      intro h312 Wh312 Vh312
      have K313 := K310.wr Wh312 (Or.inr sz_o289)
      have O314 := Old_k0 O K313
      replace Vh312 : Ar Z h312 o289 .char (List.map Value.int [(78 : Int32), (101 : Int32), (119 : Int32), (75 : Int32), (101 : Int32), (121 : Int32), (91 : Int32), (116 : Int32), (0 : Int32), (0 : Int32), (0 : Int32), (0 : Int32), (0 : Int32), (0 : Int32), (0 : Int32), (0 : Int32), (0 : Int32), (0 : Int32), (0 : Int32), (0 : Int32), (0 : Int32), (0 : Int32), (0 : Int32), (0 : Int32), (0 : Int32), (0 : Int32), (0 : Int32), (0 : Int32), (0 : Int32), (0 : Int32), (0 : Int32), (0 : Int32), (0 : Int32), (0 : Int32), (0 : Int32), (0 : Int32), (0 : Int32)]) := Vh312
      refine s_dup (q := 215) C rfl at_214 rfl ?_
      refine s_bipush (q := 217) (v := (8 : Int32)) C (by rfl) at_215 rfl ?_
      refine s_bipush (q := 219) (v := (101 : Int32)) C (by rfl) at_217 rfl ?_
      refine s_castore (q := 220) (z := (101 : Int32)) (i := 8) C (by decide) Vh312 rfl (own_ltb rfl) ge_o289 at_219 rfl ?_
      intro h315 Wh315 Vh315
      have K316 := K313.wr Wh315 (Or.inr sz_o289)
      have O317 := Old_k0 O K316
      replace Vh315 : Ar Z h315 o289 .char (List.map Value.int [(78 : Int32), (101 : Int32), (119 : Int32), (75 : Int32), (101 : Int32), (121 : Int32), (91 : Int32), (116 : Int32), (101 : Int32), (0 : Int32), (0 : Int32), (0 : Int32), (0 : Int32), (0 : Int32), (0 : Int32), (0 : Int32), (0 : Int32), (0 : Int32), (0 : Int32), (0 : Int32), (0 : Int32), (0 : Int32), (0 : Int32), (0 : Int32), (0 : Int32), (0 : Int32), (0 : Int32), (0 : Int32), (0 : Int32), (0 : Int32), (0 : Int32), (0 : Int32), (0 : Int32), (0 : Int32), (0 : Int32), (0 : Int32), (0 : Int32)]) := Vh315
      refine s_dup (q := 221) C rfl at_220 rfl ?_
      refine s_bipush (q := 223) (v := (9 : Int32)) C (by rfl) at_221 rfl ?_
      refine s_bipush (q := 225) (v := (110 : Int32)) C (by rfl) at_223 rfl ?_
      refine s_castore (q := 226) (z := (110 : Int32)) (i := 9) C (by decide) Vh315 rfl (own_ltb rfl) ge_o289 at_225 rfl ?_
      intro h318 Wh318 Vh318
      have K319 := K316.wr Wh318 (Or.inr sz_o289)
      have O320 := Old_k0 O K319
      replace Vh318 : Ar Z h318 o289 .char (List.map Value.int [(78 : Int32), (101 : Int32), (119 : Int32), (75 : Int32), (101 : Int32), (121 : Int32), (91 : Int32), (116 : Int32), (101 : Int32), (110 : Int32), (0 : Int32), (0 : Int32), (0 : Int32), (0 : Int32), (0 : Int32), (0 : Int32), (0 : Int32), (0 : Int32), (0 : Int32), (0 : Int32), (0 : Int32), (0 : Int32), (0 : Int32), (0 : Int32), (0 : Int32), (0 : Int32), (0 : Int32), (0 : Int32), (0 : Int32), (0 : Int32), (0 : Int32), (0 : Int32), (0 : Int32), (0 : Int32), (0 : Int32), (0 : Int32), (0 : Int32)]) := Vh318
      refine s_dup (q := 227) C rfl at_226 rfl ?_
      refine s_bipush (q := 229) (v := (10 : Int32)) C (by rfl) at_227 rfl ?_
      refine s_bipush (q := 231) (v := (97 : Int32)) C (by rfl) at_229 rfl ?_
      refine s_castore (q := 232) (z := (97 : Int32)) (i := 10) C (by decide) Vh318 rfl (own_ltb rfl) ge_o289 at_231 rfl ?_
      intro h321 Wh321 Vh321
      have K322 := K319.wr Wh321 (Or.inr sz_o289)
      have O323 := Old_k0 O K322
      replace Vh321 : Ar Z h321 o289 .char (List.map Value.int [(78 : Int32), (101 : Int32), (119 : Int32), (75 : Int32), (101 : Int32), (121 : Int32), (91 : Int32), (116 : Int32), (101 : Int32), (110 : Int32), (97 : Int32), (0 : Int32), (0 : Int32), (0 : Int32), (0 : Int32), (0 : Int32), (0 : Int32), (0 : Int32), (0 : Int32), (0 : Int32), (0 : Int32), (0 : Int32), (0 : Int32), (0 : Int32), (0 : Int32), (0 : Int32), (0 : Int32), (0 : Int32), (0 : Int32), (0 : Int32), (0 : Int32), (0 : Int32), (0 : Int32), (0 : Int32), (0 : Int32), (0 : Int32), (0 : Int32)]) := Vh321
      refine s_dup (q := 233) C rfl at_232 rfl ?_
      refine s_bipush (q := 235) (v := (11 : Int32)) C (by rfl) at_233 rfl ?_
      refine s_bipush (q := 237) (v := (110 : Int32)) C (by rfl) at_235 rfl ?_
      refine s_castore (q := 238) (z := (110 : Int32)) (i := 11) C (by decide) Vh321 rfl (own_ltb rfl) ge_o289 at_237 rfl ?_
      intro h324 Wh324 Vh324
      have K325 := K322.wr Wh324 (Or.inr sz_o289)
      have O326 := Old_k0 O K325
      replace Vh324 : Ar Z h324 o289 .char (List.map Value.int [(78 : Int32), (101 : Int32), (119 : Int32), (75 : Int32), (101 : Int32), (121 : Int32), (91 : Int32), (116 : Int32), (101 : Int32), (110 : Int32), (97 : Int32), (110 : Int32), (0 : Int32), (0 : Int32), (0 : Int32), (0 : Int32), (0 : Int32), (0 : Int32), (0 : Int32), (0 : Int32), (0 : Int32), (0 : Int32), (0 : Int32), (0 : Int32), (0 : Int32), (0 : Int32), (0 : Int32), (0 : Int32), (0 : Int32), (0 : Int32), (0 : Int32), (0 : Int32), (0 : Int32), (0 : Int32), (0 : Int32), (0 : Int32), (0 : Int32)]) := Vh324
      refine s_dup (q := 239) C rfl at_238 rfl ?_
      refine s_bipush (q := 241) (v := (12 : Int32)) C (by rfl) at_239 rfl ?_
      refine s_bipush (q := 243) (v := (116 : Int32)) C (by rfl) at_241 rfl ?_
      refine s_castore (q := 244) (z := (116 : Int32)) (i := 12) C (by decide) Vh324 rfl (own_ltb rfl) ge_o289 at_243 rfl ?_
      intro h327 Wh327 Vh327
      have K328 := K325.wr Wh327 (Or.inr sz_o289)
      have O329 := Old_k0 O K328
      replace Vh327 : Ar Z h327 o289 .char (List.map Value.int [(78 : Int32), (101 : Int32), (119 : Int32), (75 : Int32), (101 : Int32), (121 : Int32), (91 : Int32), (116 : Int32), (101 : Int32), (110 : Int32), (97 : Int32), (110 : Int32), (116 : Int32), (0 : Int32), (0 : Int32), (0 : Int32), (0 : Int32), (0 : Int32), (0 : Int32), (0 : Int32), (0 : Int32), (0 : Int32), (0 : Int32), (0 : Int32), (0 : Int32), (0 : Int32), (0 : Int32), (0 : Int32), (0 : Int32), (0 : Int32), (0 : Int32), (0 : Int32), (0 : Int32), (0 : Int32), (0 : Int32), (0 : Int32), (0 : Int32)]) := Vh327
      refine s_dup (q := 245) C rfl at_244 rfl ?_
      refine s_bipush (q := 247) (v := (13 : Int32)) C (by rfl) at_245 rfl ?_
      refine s_bipush (q := 249) (v := (61 : Int32)) C (by rfl) at_247 rfl ?_
      refine s_castore (q := 250) (z := (61 : Int32)) (i := 13) C (by decide) Vh327 rfl (own_ltb rfl) ge_o289 at_249 rfl ?_
      intro h330 Wh330 Vh330
      have K331 := K328.wr Wh330 (Or.inr sz_o289)
      have O332 := Old_k0 O K331
      replace Vh330 : Ar Z h330 o289 .char (List.map Value.int [(78 : Int32), (101 : Int32), (119 : Int32), (75 : Int32), (101 : Int32), (121 : Int32), (91 : Int32), (116 : Int32), (101 : Int32), (110 : Int32), (97 : Int32), (110 : Int32), (116 : Int32), (61 : Int32), (0 : Int32), (0 : Int32), (0 : Int32), (0 : Int32), (0 : Int32), (0 : Int32), (0 : Int32), (0 : Int32), (0 : Int32), (0 : Int32), (0 : Int32), (0 : Int32), (0 : Int32), (0 : Int32), (0 : Int32), (0 : Int32), (0 : Int32), (0 : Int32), (0 : Int32), (0 : Int32), (0 : Int32), (0 : Int32), (0 : Int32)]) := Vh330
      refine s_dup (q := 251) C rfl at_250 rfl ?_
      refine s_bipush (q := 253) (v := (14 : Int32)) C (by rfl) at_251 rfl ?_
      refine s_iload (q := 255) C rfl at_253 rfl ?_
      refine s_castore (q := 256) (z := c0) (i := 14) C (own_nar hc0.1 hc0.2) Vh330 rfl (own_ltb rfl) ge_o289 at_255 rfl ?_
      intro h333 Wh333 Vh333
      have K334 := K331.wr Wh333 (Or.inr sz_o289)
      have O335 := Old_k0 O K334
      replace Vh333 : Ar Z h333 o289 .char (List.map Value.int [(78 : Int32), (101 : Int32), (119 : Int32), (75 : Int32), (101 : Int32), (121 : Int32), (91 : Int32), (116 : Int32), (101 : Int32), (110 : Int32), (97 : Int32), (110 : Int32), (116 : Int32), (61 : Int32), c0, (0 : Int32), (0 : Int32), (0 : Int32), (0 : Int32), (0 : Int32), (0 : Int32), (0 : Int32), (0 : Int32), (0 : Int32), (0 : Int32), (0 : Int32), (0 : Int32), (0 : Int32), (0 : Int32), (0 : Int32), (0 : Int32), (0 : Int32), (0 : Int32), (0 : Int32), (0 : Int32), (0 : Int32), (0 : Int32)]) := Vh333
      refine s_dup (q := 257) C rfl at_256 rfl ?_
      refine s_bipush (q := 259) (v := (15 : Int32)) C (by rfl) at_257 rfl ?_
      refine s_iload (q := 261) C rfl at_259 rfl ?_
      refine s_castore (q := 262) (z := c1) (i := 15) C (own_nar hc1.1 hc1.2) Vh333 rfl (own_ltb rfl) ge_o289 at_261 rfl ?_
      intro h336 Wh336 Vh336
      have K337 := K334.wr Wh336 (Or.inr sz_o289)
      have O338 := Old_k0 O K337
      replace Vh336 : Ar Z h336 o289 .char (List.map Value.int [(78 : Int32), (101 : Int32), (119 : Int32), (75 : Int32), (101 : Int32), (121 : Int32), (91 : Int32), (116 : Int32), (101 : Int32), (110 : Int32), (97 : Int32), (110 : Int32), (116 : Int32), (61 : Int32), c0, c1, (0 : Int32), (0 : Int32), (0 : Int32), (0 : Int32), (0 : Int32), (0 : Int32), (0 : Int32), (0 : Int32), (0 : Int32), (0 : Int32), (0 : Int32), (0 : Int32), (0 : Int32), (0 : Int32), (0 : Int32), (0 : Int32), (0 : Int32), (0 : Int32), (0 : Int32), (0 : Int32), (0 : Int32)]) := Vh336
      refine s_dup (q := 263) C rfl at_262 rfl ?_
      refine s_bipush (q := 265) (v := (16 : Int32)) C (by rfl) at_263 rfl ?_
      refine s_iload (q := 267) C rfl at_265 rfl ?_
      refine s_castore (q := 268) (z := c2) (i := 16) C (own_nar hc2.1 hc2.2) Vh336 rfl (own_ltb rfl) ge_o289 at_267 rfl ?_
      intro h339 Wh339 Vh339
      have K340 := K337.wr Wh339 (Or.inr sz_o289)
      have O341 := Old_k0 O K340
      replace Vh339 : Ar Z h339 o289 .char (List.map Value.int [(78 : Int32), (101 : Int32), (119 : Int32), (75 : Int32), (101 : Int32), (121 : Int32), (91 : Int32), (116 : Int32), (101 : Int32), (110 : Int32), (97 : Int32), (110 : Int32), (116 : Int32), (61 : Int32), c0, c1, c2, (0 : Int32), (0 : Int32), (0 : Int32), (0 : Int32), (0 : Int32), (0 : Int32), (0 : Int32), (0 : Int32), (0 : Int32), (0 : Int32), (0 : Int32), (0 : Int32), (0 : Int32), (0 : Int32), (0 : Int32), (0 : Int32), (0 : Int32), (0 : Int32), (0 : Int32), (0 : Int32)]) := Vh339
      refine s_dup (q := 269) C rfl at_268 rfl ?_
      refine s_bipush (q := 271) (v := (17 : Int32)) C (by rfl) at_269 rfl ?_
      refine s_bipush (q := 273) (v := (44 : Int32)) C (by rfl) at_271 rfl ?_
      refine s_castore (q := 274) (z := (44 : Int32)) (i := 17) C (by decide) Vh339 rfl (own_ltb rfl) ge_o289 at_273 rfl ?_
      intro h342 Wh342 Vh342
      have K343 := K340.wr Wh342 (Or.inr sz_o289)
      have O344 := Old_k0 O K343
      replace Vh342 : Ar Z h342 o289 .char (List.map Value.int [(78 : Int32), (101 : Int32), (119 : Int32), (75 : Int32), (101 : Int32), (121 : Int32), (91 : Int32), (116 : Int32), (101 : Int32), (110 : Int32), (97 : Int32), (110 : Int32), (116 : Int32), (61 : Int32), c0, c1, c2, (44 : Int32), (0 : Int32), (0 : Int32), (0 : Int32), (0 : Int32), (0 : Int32), (0 : Int32), (0 : Int32), (0 : Int32), (0 : Int32), (0 : Int32), (0 : Int32), (0 : Int32), (0 : Int32), (0 : Int32), (0 : Int32), (0 : Int32), (0 : Int32), (0 : Int32), (0 : Int32)]) := Vh342
      refine s_dup (q := 275) C rfl at_274 rfl ?_
      refine s_bipush (q := 277) (v := (18 : Int32)) C (by rfl) at_275 rfl ?_
      refine s_bipush (q := 279) (v := (32 : Int32)) C (by rfl) at_277 rfl ?_
      refine s_castore (q := 280) (z := (32 : Int32)) (i := 18) C (by decide) Vh342 rfl (own_ltb rfl) ge_o289 at_279 rfl ?_
      intro h345 Wh345 Vh345
      have K346 := K343.wr Wh345 (Or.inr sz_o289)
      have O347 := Old_k0 O K346
      replace Vh345 : Ar Z h345 o289 .char (List.map Value.int [(78 : Int32), (101 : Int32), (119 : Int32), (75 : Int32), (101 : Int32), (121 : Int32), (91 : Int32), (116 : Int32), (101 : Int32), (110 : Int32), (97 : Int32), (110 : Int32), (116 : Int32), (61 : Int32), c0, c1, c2, (44 : Int32), (32 : Int32), (0 : Int32), (0 : Int32), (0 : Int32), (0 : Int32), (0 : Int32), (0 : Int32), (0 : Int32), (0 : Int32), (0 : Int32), (0 : Int32), (0 : Int32), (0 : Int32), (0 : Int32), (0 : Int32), (0 : Int32), (0 : Int32), (0 : Int32), (0 : Int32)]) := Vh345
      refine s_dup (q := 281) C rfl at_280 rfl ?_
      refine s_bipush (q := 283) (v := (19 : Int32)) C (by rfl) at_281 rfl ?_
      refine s_bipush (q := 285) (v := (107 : Int32)) C (by rfl) at_283 rfl ?_
      refine s_castore (q := 286) (z := (107 : Int32)) (i := 19) C (by decide) Vh345 rfl (own_ltb rfl) ge_o289 at_285 rfl ?_
      intro h348 Wh348 Vh348
      have K349 := K346.wr Wh348 (Or.inr sz_o289)
      have O350 := Old_k0 O K349
      replace Vh348 : Ar Z h348 o289 .char (List.map Value.int [(78 : Int32), (101 : Int32), (119 : Int32), (75 : Int32), (101 : Int32), (121 : Int32), (91 : Int32), (116 : Int32), (101 : Int32), (110 : Int32), (97 : Int32), (110 : Int32), (116 : Int32), (61 : Int32), c0, c1, c2, (44 : Int32), (32 : Int32), (107 : Int32), (0 : Int32), (0 : Int32), (0 : Int32), (0 : Int32), (0 : Int32), (0 : Int32), (0 : Int32), (0 : Int32), (0 : Int32), (0 : Int32), (0 : Int32), (0 : Int32), (0 : Int32), (0 : Int32), (0 : Int32), (0 : Int32), (0 : Int32)]) := Vh348
      refine s_dup (q := 287) C rfl at_286 rfl ?_
      refine s_bipush (q := 289) (v := (20 : Int32)) C (by rfl) at_287 rfl ?_
      refine s_bipush (q := 291) (v := (101 : Int32)) C (by rfl) at_289 rfl ?_
      refine s_castore (q := 292) (z := (101 : Int32)) (i := 20) C (by decide) Vh348 rfl (own_ltb rfl) ge_o289 at_291 rfl ?_
      intro h351 Wh351 Vh351
      have K352 := K349.wr Wh351 (Or.inr sz_o289)
      have O353 := Old_k0 O K352
      replace Vh351 : Ar Z h351 o289 .char (List.map Value.int [(78 : Int32), (101 : Int32), (119 : Int32), (75 : Int32), (101 : Int32), (121 : Int32), (91 : Int32), (116 : Int32), (101 : Int32), (110 : Int32), (97 : Int32), (110 : Int32), (116 : Int32), (61 : Int32), c0, c1, c2, (44 : Int32), (32 : Int32), (107 : Int32), (101 : Int32), (0 : Int32), (0 : Int32), (0 : Int32), (0 : Int32), (0 : Int32), (0 : Int32), (0 : Int32), (0 : Int32), (0 : Int32), (0 : Int32), (0 : Int32), (0 : Int32), (0 : Int32), (0 : Int32), (0 : Int32), (0 : Int32)]) := Vh351
      refine s_dup (q := 293) C rfl at_292 rfl ?_
      refine s_bipush (q := 295) (v := (21 : Int32)) C (by rfl) at_293 rfl ?_
      refine s_bipush (q := 297) (v := (121 : Int32)) C (by rfl) at_295 rfl ?_
      refine s_castore (q := 298) (z := (121 : Int32)) (i := 21) C (by decide) Vh351 rfl (own_ltb rfl) ge_o289 at_297 rfl ?_
      intro h354 Wh354 Vh354
      have K355 := K352.wr Wh354 (Or.inr sz_o289)
      have O356 := Old_k0 O K355
      replace Vh354 : Ar Z h354 o289 .char (List.map Value.int [(78 : Int32), (101 : Int32), (119 : Int32), (75 : Int32), (101 : Int32), (121 : Int32), (91 : Int32), (116 : Int32), (101 : Int32), (110 : Int32), (97 : Int32), (110 : Int32), (116 : Int32), (61 : Int32), c0, c1, c2, (44 : Int32), (32 : Int32), (107 : Int32), (101 : Int32), (121 : Int32), (0 : Int32), (0 : Int32), (0 : Int32), (0 : Int32), (0 : Int32), (0 : Int32), (0 : Int32), (0 : Int32), (0 : Int32), (0 : Int32), (0 : Int32), (0 : Int32), (0 : Int32), (0 : Int32), (0 : Int32)]) := Vh354
      refine s_dup (q := 299) C rfl at_298 rfl ?_
      refine s_bipush (q := 301) (v := (22 : Int32)) C (by rfl) at_299 rfl ?_
      refine s_bipush (q := 303) (v := (73 : Int32)) C (by rfl) at_301 rfl ?_
      refine s_castore (q := 304) (z := (73 : Int32)) (i := 22) C (by decide) Vh354 rfl (own_ltb rfl) ge_o289 at_303 rfl ?_
      intro h357 Wh357 Vh357
      have K358 := K355.wr Wh357 (Or.inr sz_o289)
      have O359 := Old_k0 O K358
      replace Vh357 : Ar Z h357 o289 .char (List.map Value.int [(78 : Int32), (101 : Int32), (119 : Int32), (75 : Int32), (101 : Int32), (121 : Int32), (91 : Int32), (116 : Int32), (101 : Int32), (110 : Int32), (97 : Int32), (110 : Int32), (116 : Int32), (61 : Int32), c0, c1, c2, (44 : Int32), (32 : Int32), (107 : Int32), (101 : Int32), (121 : Int32), (73 : Int32), (0 : Int32), (0 : Int32), (0 : Int32), (0 : Int32), (0 : Int32), (0 : Int32), (0 : Int32), (0 : Int32), (0 : Int32), (0 : Int32), (0 : Int32), (0 : Int32), (0 : Int32), (0 : Int32)]) := Vh357
      refine s_dup (q := 305) C rfl at_304 rfl ?_
      refine s_bipush (q := 307) (v := (23 : Int32)) C (by rfl) at_305 rfl ?_
      refine s_bipush (q := 309) (v := (100 : Int32)) C (by rfl) at_307 rfl ?_
      refine s_castore (q := 310) (z := (100 : Int32)) (i := 23) C (by decide) Vh357 rfl (own_ltb rfl) ge_o289 at_309 rfl ?_
      intro h360 Wh360 Vh360
      have K361 := K358.wr Wh360 (Or.inr sz_o289)
      have O362 := Old_k0 O K361
      replace Vh360 : Ar Z h360 o289 .char (List.map Value.int [(78 : Int32), (101 : Int32), (119 : Int32), (75 : Int32), (101 : Int32), (121 : Int32), (91 : Int32), (116 : Int32), (101 : Int32), (110 : Int32), (97 : Int32), (110 : Int32), (116 : Int32), (61 : Int32), c0, c1, c2, (44 : Int32), (32 : Int32), (107 : Int32), (101 : Int32), (121 : Int32), (73 : Int32), (100 : Int32), (0 : Int32), (0 : Int32), (0 : Int32), (0 : Int32), (0 : Int32), (0 : Int32), (0 : Int32), (0 : Int32), (0 : Int32), (0 : Int32), (0 : Int32), (0 : Int32), (0 : Int32)]) := Vh360
      refine s_dup (q := 311) C rfl at_310 rfl ?_
      refine s_bipush (q := 313) (v := (24 : Int32)) C (by rfl) at_311 rfl ?_
      refine s_bipush (q := 315) (v := (61 : Int32)) C (by rfl) at_313 rfl ?_
      refine s_castore (q := 316) (z := (61 : Int32)) (i := 24) C (by decide) Vh360 rfl (own_ltb rfl) ge_o289 at_315 rfl ?_
      intro h363 Wh363 Vh363
      have K364 := K361.wr Wh363 (Or.inr sz_o289)
      have O365 := Old_k0 O K364
      replace Vh363 : Ar Z h363 o289 .char (List.map Value.int [(78 : Int32), (101 : Int32), (119 : Int32), (75 : Int32), (101 : Int32), (121 : Int32), (91 : Int32), (116 : Int32), (101 : Int32), (110 : Int32), (97 : Int32), (110 : Int32), (116 : Int32), (61 : Int32), c0, c1, c2, (44 : Int32), (32 : Int32), (107 : Int32), (101 : Int32), (121 : Int32), (73 : Int32), (100 : Int32), (61 : Int32), (0 : Int32), (0 : Int32), (0 : Int32), (0 : Int32), (0 : Int32), (0 : Int32), (0 : Int32), (0 : Int32), (0 : Int32), (0 : Int32), (0 : Int32), (0 : Int32)]) := Vh363
      refine s_dup (q := 317) C rfl at_316 rfl ?_
      refine s_bipush (q := 319) (v := (25 : Int32)) C (by rfl) at_317 rfl ?_
      refine s_iconst (q := 320) (v := (0 : Int32)) C (by rfl) at_319 rfl ?_
      refine s_iload (q := 322) C rfl at_320 rfl ?_
      refine s_lload (q := 324) C rfl at_322 rfl ?_
      refine s_iload (q := 326) C rfl at_324 rfl ?_
      refine s_callS1 (q := 329) (argsL := [(.int (0 : Int32)), (.int (Int32.ofNat (own_sg nb))), (.long mm), (.int (Int32.ofNat (SBG.digits (own_mag nb))))]) (S := [(.int (25 : Int32)), (.ref o289), (.ref o289)]) (W := 3) (cells' := 26) (slots' := 623) C (G.1 _ (List.mem_of_getElem? (i := 262) rfl)) (G.1 _ (List.mem_of_getElem? (i := 263) rfl)) (G.1 _ (List.mem_of_getElem? (i := 2) rfl)) (G.1 _ (List.mem_of_getElem? (i := 264) rfl)) (by decide) (rm_tailf G O365 nb 0 mm hm (by decide)) rfl (lenOf pd_37 rfl) rfl (by decide) (own_leb rfl) (by decide) rfl rfl (by decide) (by decide) (wl := []) (fun _ _ q => by rw [q.1]; exact Keep.refl _ _) all0 at_326 rfl ?_
      rintro _ h366 ⟨eh367, rfl⟩
      rw [eh367]
      show AtS p l e _ s m _ below meth c Z _ _ n0 _ _ _ h363 26 623 (mkF m 329 #[.val (.int i0), .val (.int i1), .val (.int i2), .val (.int nb), .val (.int ky), .val (.int c0), .val (.int c1), .val (.int c2), .val (.ref o252), .val (.ref o269), .val (.ref r), .val (.long (nb.toInt64)), .second, .val (.int (Int32.ofNat (own_sg nb))), .val (.long mm), .second, .val (.int (Int32.ofNat (SBG.digits (own_mag nb)))), .val (.int (Int32.ofNat (((([(78 : Int32), (101 : Int32), (119 : Int32), (75 : Int32), (101 : Int32), (121 : Int32), (91 : Int32), (116 : Int32), (101 : Int32), (110 : Int32), (97 : Int32), (110 : Int32), (116 : Int32), (61 : Int32)] ++ [c0, c1, c2]) ++ [(44 : Int32), (32 : Int32), (107 : Int32), (101 : Int32), (121 : Int32), (73 : Int32), (100 : Int32), (61 : Int32)]) ++ own_istr nb) ++ [(93 : Int32)]).length)), .unset] [(.int (own_tl nb 0)), (.int (25 : Int32)), (.ref o289), (.ref o289)])
      refine s_castore (q := 330) (z := (own_tl nb 0)) (i := 25) C (own_nar (own_tlr nb 0).1 (own_tlr nb 0).2) Vh363 rfl (own_ltb rfl) ge_o289 at_329 rfl ?_
      intro h368 Wh368 Vh368
      have K369 := K364.wr Wh368 (Or.inr sz_o289)
      have O370 := Old_k0 O K369
      replace Vh368 : Ar Z h368 o289 .char (List.map Value.int [(78 : Int32), (101 : Int32), (119 : Int32), (75 : Int32), (101 : Int32), (121 : Int32), (91 : Int32), (116 : Int32), (101 : Int32), (110 : Int32), (97 : Int32), (110 : Int32), (116 : Int32), (61 : Int32), c0, c1, c2, (44 : Int32), (32 : Int32), (107 : Int32), (101 : Int32), (121 : Int32), (73 : Int32), (100 : Int32), (61 : Int32), (own_tl nb 0), (0 : Int32), (0 : Int32), (0 : Int32), (0 : Int32), (0 : Int32), (0 : Int32), (0 : Int32), (0 : Int32), (0 : Int32), (0 : Int32), (0 : Int32)]) := Vh368
      refine s_dup (q := 331) C rfl at_330 rfl ?_
      refine s_bipush (q := 333) (v := (26 : Int32)) C (by rfl) at_331 rfl ?_
      refine s_iconst (q := 334) (v := (1 : Int32)) C (by rfl) at_333 rfl ?_
      refine s_iload (q := 336) C rfl at_334 rfl ?_
      refine s_lload (q := 338) C rfl at_336 rfl ?_
      refine s_iload (q := 340) C rfl at_338 rfl ?_
      refine s_callS1 (q := 343) (argsL := [(.int (1 : Int32)), (.int (Int32.ofNat (own_sg nb))), (.long mm), (.int (Int32.ofNat (SBG.digits (own_mag nb))))]) (S := [(.int (26 : Int32)), (.ref o289), (.ref o289)]) (W := 3) (cells' := 26) (slots' := 623) C (G.1 _ (List.mem_of_getElem? (i := 262) rfl)) (G.1 _ (List.mem_of_getElem? (i := 263) rfl)) (G.1 _ (List.mem_of_getElem? (i := 2) rfl)) (G.1 _ (List.mem_of_getElem? (i := 264) rfl)) (by decide) (rm_tailf G O370 nb 1 mm hm (by decide)) rfl (lenOf pd_37 rfl) rfl (by decide) (own_leb rfl) (by decide) rfl rfl (by decide) (by decide) (wl := []) (fun _ _ q => by rw [q.1]; exact Keep.refl _ _) all0 at_340 rfl ?_
      rintro _ h371 ⟨eh372, rfl⟩
      rw [eh372]
      show AtS p l e _ s m _ below meth c Z _ _ n0 _ _ _ h368 26 623 (mkF m 343 #[.val (.int i0), .val (.int i1), .val (.int i2), .val (.int nb), .val (.int ky), .val (.int c0), .val (.int c1), .val (.int c2), .val (.ref o252), .val (.ref o269), .val (.ref r), .val (.long (nb.toInt64)), .second, .val (.int (Int32.ofNat (own_sg nb))), .val (.long mm), .second, .val (.int (Int32.ofNat (SBG.digits (own_mag nb)))), .val (.int (Int32.ofNat (((([(78 : Int32), (101 : Int32), (119 : Int32), (75 : Int32), (101 : Int32), (121 : Int32), (91 : Int32), (116 : Int32), (101 : Int32), (110 : Int32), (97 : Int32), (110 : Int32), (116 : Int32), (61 : Int32)] ++ [c0, c1, c2]) ++ [(44 : Int32), (32 : Int32), (107 : Int32), (101 : Int32), (121 : Int32), (73 : Int32), (100 : Int32), (61 : Int32)]) ++ own_istr nb) ++ [(93 : Int32)]).length)), .unset] [(.int (own_tl nb 1)), (.int (26 : Int32)), (.ref o289), (.ref o289)])
      refine s_castore (q := 344) (z := (own_tl nb 1)) (i := 26) C (own_nar (own_tlr nb 1).1 (own_tlr nb 1).2) Vh368 rfl (own_ltb rfl) ge_o289 at_343 rfl ?_
      intro h373 Wh373 Vh373
      have K374 := K369.wr Wh373 (Or.inr sz_o289)
      have O375 := Old_k0 O K374
      replace Vh373 : Ar Z h373 o289 .char (List.map Value.int [(78 : Int32), (101 : Int32), (119 : Int32), (75 : Int32), (101 : Int32), (121 : Int32), (91 : Int32), (116 : Int32), (101 : Int32), (110 : Int32), (97 : Int32), (110 : Int32), (116 : Int32), (61 : Int32), c0, c1, c2, (44 : Int32), (32 : Int32), (107 : Int32), (101 : Int32), (121 : Int32), (73 : Int32), (100 : Int32), (61 : Int32), (own_tl nb 0), (own_tl nb 1), (0 : Int32), (0 : Int32), (0 : Int32), (0 : Int32), (0 : Int32), (0 : Int32), (0 : Int32), (0 : Int32), (0 : Int32), (0 : Int32)]) := Vh373
      refine s_dup (q := 345) C rfl at_344 rfl ?_
      refine s_bipush (q := 347) (v := (27 : Int32)) C (by rfl) at_345 rfl ?_
      refine s_iconst (q := 348) (v := (2 : Int32)) C (by rfl) at_347 rfl ?_
      refine s_iload (q := 350) C rfl at_348 rfl ?_
      refine s_lload (q := 352) C rfl at_350 rfl ?_
      refine s_iload (q := 354) C rfl at_352 rfl ?_
      refine s_callS1 (q := 357) (argsL := [(.int (2 : Int32)), (.int (Int32.ofNat (own_sg nb))), (.long mm), (.int (Int32.ofNat (SBG.digits (own_mag nb))))]) (S := [(.int (27 : Int32)), (.ref o289), (.ref o289)]) (W := 3) (cells' := 26) (slots' := 623) C (G.1 _ (List.mem_of_getElem? (i := 262) rfl)) (G.1 _ (List.mem_of_getElem? (i := 263) rfl)) (G.1 _ (List.mem_of_getElem? (i := 2) rfl)) (G.1 _ (List.mem_of_getElem? (i := 264) rfl)) (by decide) (rm_tailf G O375 nb 2 mm hm (by decide)) rfl (lenOf pd_37 rfl) rfl (by decide) (own_leb rfl) (by decide) rfl rfl (by decide) (by decide) (wl := []) (fun _ _ q => by rw [q.1]; exact Keep.refl _ _) all0 at_354 rfl ?_
      rintro _ h376 ⟨eh377, rfl⟩
      rw [eh377]
      show AtS p l e _ s m _ below meth c Z _ _ n0 _ _ _ h373 26 623 (mkF m 357 #[.val (.int i0), .val (.int i1), .val (.int i2), .val (.int nb), .val (.int ky), .val (.int c0), .val (.int c1), .val (.int c2), .val (.ref o252), .val (.ref o269), .val (.ref r), .val (.long (nb.toInt64)), .second, .val (.int (Int32.ofNat (own_sg nb))), .val (.long mm), .second, .val (.int (Int32.ofNat (SBG.digits (own_mag nb)))), .val (.int (Int32.ofNat (((([(78 : Int32), (101 : Int32), (119 : Int32), (75 : Int32), (101 : Int32), (121 : Int32), (91 : Int32), (116 : Int32), (101 : Int32), (110 : Int32), (97 : Int32), (110 : Int32), (116 : Int32), (61 : Int32)] ++ [c0, c1, c2]) ++ [(44 : Int32), (32 : Int32), (107 : Int32), (101 : Int32), (121 : Int32), (73 : Int32), (100 : Int32), (61 : Int32)]) ++ own_istr nb) ++ [(93 : Int32)]).length)), .unset] [(.int (own_tl nb 2)), (.int (27 : Int32)), (.ref o289), (.ref o289)])
      refine s_castore (q := 358) (z := (own_tl nb 2)) (i := 27) C (own_nar (own_tlr nb 2).1 (own_tlr nb 2).2) Vh373 rfl (own_ltb rfl) ge_o289 at_357 rfl ?_
      intro h378 Wh378 Vh378
      have K379 := K374.wr Wh378 (Or.inr sz_o289)
      have O380 := Old_k0 O K379
      replace Vh378 : Ar Z h378 o289 .char (List.map Value.int [(78 : Int32), (101 : Int32), (119 : Int32), (75 : Int32), (101 : Int32), (121 : Int32), (91 : Int32), (116 : Int32), (101 : Int32), (110 : Int32), (97 : Int32), (110 : Int32), (116 : Int32), (61 : Int32), c0, c1, c2, (44 : Int32), (32 : Int32), (107 : Int32), (101 : Int32), (121 : Int32), (73 : Int32), (100 : Int32), (61 : Int32), (own_tl nb 0), (own_tl nb 1), (own_tl nb 2), (0 : Int32), (0 : Int32), (0 : Int32), (0 : Int32), (0 : Int32), (0 : Int32), (0 : Int32), (0 : Int32), (0 : Int32)]) := Vh378
      refine s_dup (q := 359) C rfl at_358 rfl ?_
      refine s_bipush (q := 361) (v := (28 : Int32)) C (by rfl) at_359 rfl ?_
      refine s_iconst (q := 362) (v := (3 : Int32)) C (by rfl) at_361 rfl ?_
      refine s_iload (q := 364) C rfl at_362 rfl ?_
      refine s_lload (q := 366) C rfl at_364 rfl ?_
      refine s_iload (q := 368) C rfl at_366 rfl ?_
      refine s_callS1 (q := 371) (argsL := [(.int (3 : Int32)), (.int (Int32.ofNat (own_sg nb))), (.long mm), (.int (Int32.ofNat (SBG.digits (own_mag nb))))]) (S := [(.int (28 : Int32)), (.ref o289), (.ref o289)]) (W := 3) (cells' := 26) (slots' := 623) C (G.1 _ (List.mem_of_getElem? (i := 262) rfl)) (G.1 _ (List.mem_of_getElem? (i := 263) rfl)) (G.1 _ (List.mem_of_getElem? (i := 2) rfl)) (G.1 _ (List.mem_of_getElem? (i := 264) rfl)) (by decide) (rm_tailf G O380 nb 3 mm hm (by decide)) rfl (lenOf pd_37 rfl) rfl (by decide) (own_leb rfl) (by decide) rfl rfl (by decide) (by decide) (wl := []) (fun _ _ q => by rw [q.1]; exact Keep.refl _ _) all0 at_368 rfl ?_
      rintro _ h381 ⟨eh382, rfl⟩
      rw [eh382]
      show AtS p l e _ s m _ below meth c Z _ _ n0 _ _ _ h378 26 623 (mkF m 371 #[.val (.int i0), .val (.int i1), .val (.int i2), .val (.int nb), .val (.int ky), .val (.int c0), .val (.int c1), .val (.int c2), .val (.ref o252), .val (.ref o269), .val (.ref r), .val (.long (nb.toInt64)), .second, .val (.int (Int32.ofNat (own_sg nb))), .val (.long mm), .second, .val (.int (Int32.ofNat (SBG.digits (own_mag nb)))), .val (.int (Int32.ofNat (((([(78 : Int32), (101 : Int32), (119 : Int32), (75 : Int32), (101 : Int32), (121 : Int32), (91 : Int32), (116 : Int32), (101 : Int32), (110 : Int32), (97 : Int32), (110 : Int32), (116 : Int32), (61 : Int32)] ++ [c0, c1, c2]) ++ [(44 : Int32), (32 : Int32), (107 : Int32), (101 : Int32), (121 : Int32), (73 : Int32), (100 : Int32), (61 : Int32)]) ++ own_istr nb) ++ [(93 : Int32)]).length)), .unset] [(.int (own_tl nb 3)), (.int (28 : Int32)), (.ref o289), (.ref o289)])
      refine s_castore (q := 372) (z := (own_tl nb 3)) (i := 28) C (own_nar (own_tlr nb 3).1 (own_tlr nb 3).2) Vh378 rfl (own_ltb rfl) ge_o289 at_371 rfl ?_
      intro h383 Wh383 Vh383
      have K384 := K379.wr Wh383 (Or.inr sz_o289)
      have O385 := Old_k0 O K384
      replace Vh383 : Ar Z h383 o289 .char (List.map Value.int [(78 : Int32), (101 : Int32), (119 : Int32), (75 : Int32), (101 : Int32), (121 : Int32), (91 : Int32), (116 : Int32), (101 : Int32), (110 : Int32), (97 : Int32), (110 : Int32), (116 : Int32), (61 : Int32), c0, c1, c2, (44 : Int32), (32 : Int32), (107 : Int32), (101 : Int32), (121 : Int32), (73 : Int32), (100 : Int32), (61 : Int32), (own_tl nb 0), (own_tl nb 1), (own_tl nb 2), (own_tl nb 3), (0 : Int32), (0 : Int32), (0 : Int32), (0 : Int32), (0 : Int32), (0 : Int32), (0 : Int32), (0 : Int32)]) := Vh383
      refine s_dup (q := 373) C rfl at_372 rfl ?_
      refine s_bipush (q := 375) (v := (29 : Int32)) C (by rfl) at_373 rfl ?_
      refine s_iconst (q := 376) (v := (4 : Int32)) C (by rfl) at_375 rfl ?_
      refine s_iload (q := 378) C rfl at_376 rfl ?_
      refine s_lload (q := 380) C rfl at_378 rfl ?_
      refine s_iload (q := 382) C rfl at_380 rfl ?_
      refine s_callS1 (q := 385) (argsL := [(.int (4 : Int32)), (.int (Int32.ofNat (own_sg nb))), (.long mm), (.int (Int32.ofNat (SBG.digits (own_mag nb))))]) (S := [(.int (29 : Int32)), (.ref o289), (.ref o289)]) (W := 3) (cells' := 26) (slots' := 623) C (G.1 _ (List.mem_of_getElem? (i := 262) rfl)) (G.1 _ (List.mem_of_getElem? (i := 263) rfl)) (G.1 _ (List.mem_of_getElem? (i := 2) rfl)) (G.1 _ (List.mem_of_getElem? (i := 264) rfl)) (by decide) (rm_tailf G O385 nb 4 mm hm (by decide)) rfl (lenOf pd_37 rfl) rfl (by decide) (own_leb rfl) (by decide) rfl rfl (by decide) (by decide) (wl := []) (fun _ _ q => by rw [q.1]; exact Keep.refl _ _) all0 at_382 rfl ?_
      rintro _ h386 ⟨eh387, rfl⟩
      rw [eh387]
      show AtS p l e _ s m _ below meth c Z _ _ n0 _ _ _ h383 26 623 (mkF m 385 #[.val (.int i0), .val (.int i1), .val (.int i2), .val (.int nb), .val (.int ky), .val (.int c0), .val (.int c1), .val (.int c2), .val (.ref o252), .val (.ref o269), .val (.ref r), .val (.long (nb.toInt64)), .second, .val (.int (Int32.ofNat (own_sg nb))), .val (.long mm), .second, .val (.int (Int32.ofNat (SBG.digits (own_mag nb)))), .val (.int (Int32.ofNat (((([(78 : Int32), (101 : Int32), (119 : Int32), (75 : Int32), (101 : Int32), (121 : Int32), (91 : Int32), (116 : Int32), (101 : Int32), (110 : Int32), (97 : Int32), (110 : Int32), (116 : Int32), (61 : Int32)] ++ [c0, c1, c2]) ++ [(44 : Int32), (32 : Int32), (107 : Int32), (101 : Int32), (121 : Int32), (73 : Int32), (100 : Int32), (61 : Int32)]) ++ own_istr nb) ++ [(93 : Int32)]).length)), .unset] [(.int (own_tl nb 4)), (.int (29 : Int32)), (.ref o289), (.ref o289)])
      refine s_castore (q := 386) (z := (own_tl nb 4)) (i := 29) C (own_nar (own_tlr nb 4).1 (own_tlr nb 4).2) Vh383 rfl (own_ltb rfl) ge_o289 at_385 rfl ?_
      intro h388 Wh388 Vh388
      have K389 := K384.wr Wh388 (Or.inr sz_o289)
      have O390 := Old_k0 O K389
      replace Vh388 : Ar Z h388 o289 .char (List.map Value.int [(78 : Int32), (101 : Int32), (119 : Int32), (75 : Int32), (101 : Int32), (121 : Int32), (91 : Int32), (116 : Int32), (101 : Int32), (110 : Int32), (97 : Int32), (110 : Int32), (116 : Int32), (61 : Int32), c0, c1, c2, (44 : Int32), (32 : Int32), (107 : Int32), (101 : Int32), (121 : Int32), (73 : Int32), (100 : Int32), (61 : Int32), (own_tl nb 0), (own_tl nb 1), (own_tl nb 2), (own_tl nb 3), (own_tl nb 4), (0 : Int32), (0 : Int32), (0 : Int32), (0 : Int32), (0 : Int32), (0 : Int32), (0 : Int32)]) := Vh388
      refine s_dup (q := 387) C rfl at_386 rfl ?_
      refine s_bipush (q := 389) (v := (30 : Int32)) C (by rfl) at_387 rfl ?_
      refine s_iconst (q := 390) (v := (5 : Int32)) C (by rfl) at_389 rfl ?_
      refine s_iload (q := 392) C rfl at_390 rfl ?_
      refine s_lload (q := 394) C rfl at_392 rfl ?_
      refine s_iload (q := 396) C rfl at_394 rfl ?_
      refine s_callS1 (q := 399) (argsL := [(.int (5 : Int32)), (.int (Int32.ofNat (own_sg nb))), (.long mm), (.int (Int32.ofNat (SBG.digits (own_mag nb))))]) (S := [(.int (30 : Int32)), (.ref o289), (.ref o289)]) (W := 3) (cells' := 26) (slots' := 623) C (G.1 _ (List.mem_of_getElem? (i := 262) rfl)) (G.1 _ (List.mem_of_getElem? (i := 263) rfl)) (G.1 _ (List.mem_of_getElem? (i := 2) rfl)) (G.1 _ (List.mem_of_getElem? (i := 264) rfl)) (by decide) (rm_tailf G O390 nb 5 mm hm (by decide)) rfl (lenOf pd_37 rfl) rfl (by decide) (own_leb rfl) (by decide) rfl rfl (by decide) (by decide) (wl := []) (fun _ _ q => by rw [q.1]; exact Keep.refl _ _) all0 at_396 rfl ?_
      rintro _ h391 ⟨eh392, rfl⟩
      rw [eh392]
      show AtS p l e _ s m _ below meth c Z _ _ n0 _ _ _ h388 26 623 (mkF m 399 #[.val (.int i0), .val (.int i1), .val (.int i2), .val (.int nb), .val (.int ky), .val (.int c0), .val (.int c1), .val (.int c2), .val (.ref o252), .val (.ref o269), .val (.ref r), .val (.long (nb.toInt64)), .second, .val (.int (Int32.ofNat (own_sg nb))), .val (.long mm), .second, .val (.int (Int32.ofNat (SBG.digits (own_mag nb)))), .val (.int (Int32.ofNat (((([(78 : Int32), (101 : Int32), (119 : Int32), (75 : Int32), (101 : Int32), (121 : Int32), (91 : Int32), (116 : Int32), (101 : Int32), (110 : Int32), (97 : Int32), (110 : Int32), (116 : Int32), (61 : Int32)] ++ [c0, c1, c2]) ++ [(44 : Int32), (32 : Int32), (107 : Int32), (101 : Int32), (121 : Int32), (73 : Int32), (100 : Int32), (61 : Int32)]) ++ own_istr nb) ++ [(93 : Int32)]).length)), .unset] [(.int (own_tl nb 5)), (.int (30 : Int32)), (.ref o289), (.ref o289)])
      refine s_castore (q := 400) (z := (own_tl nb 5)) (i := 30) C (own_nar (own_tlr nb 5).1 (own_tlr nb 5).2) Vh388 rfl (own_ltb rfl) ge_o289 at_399 rfl ?_
      intro h393 Wh393 Vh393
      have K394 := K389.wr Wh393 (Or.inr sz_o289)
      have O395 := Old_k0 O K394
      replace Vh393 : Ar Z h393 o289 .char (List.map Value.int [(78 : Int32), (101 : Int32), (119 : Int32), (75 : Int32), (101 : Int32), (121 : Int32), (91 : Int32), (116 : Int32), (101 : Int32), (110 : Int32), (97 : Int32), (110 : Int32), (116 : Int32), (61 : Int32), c0, c1, c2, (44 : Int32), (32 : Int32), (107 : Int32), (101 : Int32), (121 : Int32), (73 : Int32), (100 : Int32), (61 : Int32), (own_tl nb 0), (own_tl nb 1), (own_tl nb 2), (own_tl nb 3), (own_tl nb 4), (own_tl nb 5), (0 : Int32), (0 : Int32), (0 : Int32), (0 : Int32), (0 : Int32), (0 : Int32)]) := Vh393
      refine s_dup (q := 401) C rfl at_400 rfl ?_
      refine s_bipush (q := 403) (v := (31 : Int32)) C (by rfl) at_401 rfl ?_
      refine s_bipush (q := 405) (v := (6 : Int32)) C (by rfl) at_403 rfl ?_
      refine s_iload (q := 407) C rfl at_405 rfl ?_
      refine s_lload (q := 409) C rfl at_407 rfl ?_
      refine s_iload (q := 411) C rfl at_409 rfl ?_
      refine s_callS1 (q := 414) (argsL := [(.int (6 : Int32)), (.int (Int32.ofNat (own_sg nb))), (.long mm), (.int (Int32.ofNat (SBG.digits (own_mag nb))))]) (S := [(.int (31 : Int32)), (.ref o289), (.ref o289)]) (W := 3) (cells' := 26) (slots' := 623) C (G.1 _ (List.mem_of_getElem? (i := 262) rfl)) (G.1 _ (List.mem_of_getElem? (i := 263) rfl)) (G.1 _ (List.mem_of_getElem? (i := 2) rfl)) (G.1 _ (List.mem_of_getElem? (i := 264) rfl)) (by decide) (rm_tailf G O395 nb 6 mm hm (by decide)) rfl (lenOf pd_37 rfl) rfl (by decide) (own_leb rfl) (by decide) rfl rfl (by decide) (by decide) (wl := []) (fun _ _ q => by rw [q.1]; exact Keep.refl _ _) all0 at_411 rfl ?_
      rintro _ h396 ⟨eh397, rfl⟩
      rw [eh397]
      show AtS p l e _ s m _ below meth c Z _ _ n0 _ _ _ h393 26 623 (mkF m 414 #[.val (.int i0), .val (.int i1), .val (.int i2), .val (.int nb), .val (.int ky), .val (.int c0), .val (.int c1), .val (.int c2), .val (.ref o252), .val (.ref o269), .val (.ref r), .val (.long (nb.toInt64)), .second, .val (.int (Int32.ofNat (own_sg nb))), .val (.long mm), .second, .val (.int (Int32.ofNat (SBG.digits (own_mag nb)))), .val (.int (Int32.ofNat (((([(78 : Int32), (101 : Int32), (119 : Int32), (75 : Int32), (101 : Int32), (121 : Int32), (91 : Int32), (116 : Int32), (101 : Int32), (110 : Int32), (97 : Int32), (110 : Int32), (116 : Int32), (61 : Int32)] ++ [c0, c1, c2]) ++ [(44 : Int32), (32 : Int32), (107 : Int32), (101 : Int32), (121 : Int32), (73 : Int32), (100 : Int32), (61 : Int32)]) ++ own_istr nb) ++ [(93 : Int32)]).length)), .unset] [(.int (own_tl nb 6)), (.int (31 : Int32)), (.ref o289), (.ref o289)])
      refine s_castore (q := 415) (z := (own_tl nb 6)) (i := 31) C (own_nar (own_tlr nb 6).1 (own_tlr nb 6).2) Vh393 rfl (own_ltb rfl) ge_o289 at_414 rfl ?_
      intro h398 Wh398 Vh398
      have K399 := K394.wr Wh398 (Or.inr sz_o289)
      have O400 := Old_k0 O K399
      replace Vh398 : Ar Z h398 o289 .char (List.map Value.int [(78 : Int32), (101 : Int32), (119 : Int32), (75 : Int32), (101 : Int32), (121 : Int32), (91 : Int32), (116 : Int32), (101 : Int32), (110 : Int32), (97 : Int32), (110 : Int32), (116 : Int32), (61 : Int32), c0, c1, c2, (44 : Int32), (32 : Int32), (107 : Int32), (101 : Int32), (121 : Int32), (73 : Int32), (100 : Int32), (61 : Int32), (own_tl nb 0), (own_tl nb 1), (own_tl nb 2), (own_tl nb 3), (own_tl nb 4), (own_tl nb 5), (own_tl nb 6), (0 : Int32), (0 : Int32), (0 : Int32), (0 : Int32), (0 : Int32)]) := Vh398
      refine s_dup (q := 416) C rfl at_415 rfl ?_
      refine s_bipush (q := 418) (v := (32 : Int32)) C (by rfl) at_416 rfl ?_
      refine s_bipush (q := 420) (v := (7 : Int32)) C (by rfl) at_418 rfl ?_
      refine s_iload (q := 422) C rfl at_420 rfl ?_
      refine s_lload (q := 424) C rfl at_422 rfl ?_
      refine s_iload (q := 426) C rfl at_424 rfl ?_
      refine s_callS1 (q := 429) (argsL := [(.int (7 : Int32)), (.int (Int32.ofNat (own_sg nb))), (.long mm), (.int (Int32.ofNat (SBG.digits (own_mag nb))))]) (S := [(.int (32 : Int32)), (.ref o289), (.ref o289)]) (W := 3) (cells' := 26) (slots' := 623) C (G.1 _ (List.mem_of_getElem? (i := 262) rfl)) (G.1 _ (List.mem_of_getElem? (i := 263) rfl)) (G.1 _ (List.mem_of_getElem? (i := 2) rfl)) (G.1 _ (List.mem_of_getElem? (i := 264) rfl)) (by decide) (rm_tailf G O400 nb 7 mm hm (by decide)) rfl (lenOf pd_37 rfl) rfl (by decide) (own_leb rfl) (by decide) rfl rfl (by decide) (by decide) (wl := []) (fun _ _ q => by rw [q.1]; exact Keep.refl _ _) all0 at_426 rfl ?_
      rintro _ h401 ⟨eh402, rfl⟩
      rw [eh402]
      show AtS p l e _ s m _ below meth c Z _ _ n0 _ _ _ h398 26 623 (mkF m 429 #[.val (.int i0), .val (.int i1), .val (.int i2), .val (.int nb), .val (.int ky), .val (.int c0), .val (.int c1), .val (.int c2), .val (.ref o252), .val (.ref o269), .val (.ref r), .val (.long (nb.toInt64)), .second, .val (.int (Int32.ofNat (own_sg nb))), .val (.long mm), .second, .val (.int (Int32.ofNat (SBG.digits (own_mag nb)))), .val (.int (Int32.ofNat (((([(78 : Int32), (101 : Int32), (119 : Int32), (75 : Int32), (101 : Int32), (121 : Int32), (91 : Int32), (116 : Int32), (101 : Int32), (110 : Int32), (97 : Int32), (110 : Int32), (116 : Int32), (61 : Int32)] ++ [c0, c1, c2]) ++ [(44 : Int32), (32 : Int32), (107 : Int32), (101 : Int32), (121 : Int32), (73 : Int32), (100 : Int32), (61 : Int32)]) ++ own_istr nb) ++ [(93 : Int32)]).length)), .unset] [(.int (own_tl nb 7)), (.int (32 : Int32)), (.ref o289), (.ref o289)])
      refine s_castore (q := 430) (z := (own_tl nb 7)) (i := 32) C (own_nar (own_tlr nb 7).1 (own_tlr nb 7).2) Vh398 rfl (own_ltb rfl) ge_o289 at_429 rfl ?_
      intro h403 Wh403 Vh403
      have K404 := K399.wr Wh403 (Or.inr sz_o289)
      have O405 := Old_k0 O K404
      replace Vh403 : Ar Z h403 o289 .char (List.map Value.int [(78 : Int32), (101 : Int32), (119 : Int32), (75 : Int32), (101 : Int32), (121 : Int32), (91 : Int32), (116 : Int32), (101 : Int32), (110 : Int32), (97 : Int32), (110 : Int32), (116 : Int32), (61 : Int32), c0, c1, c2, (44 : Int32), (32 : Int32), (107 : Int32), (101 : Int32), (121 : Int32), (73 : Int32), (100 : Int32), (61 : Int32), (own_tl nb 0), (own_tl nb 1), (own_tl nb 2), (own_tl nb 3), (own_tl nb 4), (own_tl nb 5), (own_tl nb 6), (own_tl nb 7), (0 : Int32), (0 : Int32), (0 : Int32), (0 : Int32)]) := Vh403
      refine s_dup (q := 431) C rfl at_430 rfl ?_
      refine s_bipush (q := 433) (v := (33 : Int32)) C (by rfl) at_431 rfl ?_
      refine s_bipush (q := 435) (v := (8 : Int32)) C (by rfl) at_433 rfl ?_
      refine s_iload (q := 437) C rfl at_435 rfl ?_
      refine s_lload (q := 439) C rfl at_437 rfl ?_
      refine s_iload (q := 441) C rfl at_439 rfl ?_
      refine s_callS1 (q := 444) (argsL := [(.int (8 : Int32)), (.int (Int32.ofNat (own_sg nb))), (.long mm), (.int (Int32.ofNat (SBG.digits (own_mag nb))))]) (S := [(.int (33 : Int32)), (.ref o289), (.ref o289)]) (W := 3) (cells' := 26) (slots' := 623) C (G.1 _ (List.mem_of_getElem? (i := 262) rfl)) (G.1 _ (List.mem_of_getElem? (i := 263) rfl)) (G.1 _ (List.mem_of_getElem? (i := 2) rfl)) (G.1 _ (List.mem_of_getElem? (i := 264) rfl)) (by decide) (rm_tailf G O405 nb 8 mm hm (by decide)) rfl (lenOf pd_37 rfl) rfl (by decide) (own_leb rfl) (by decide) rfl rfl (by decide) (by decide) (wl := []) (fun _ _ q => by rw [q.1]; exact Keep.refl _ _) all0 at_441 rfl ?_
      rintro _ h406 ⟨eh407, rfl⟩
      rw [eh407]
      show AtS p l e _ s m _ below meth c Z _ _ n0 _ _ _ h403 26 623 (mkF m 444 #[.val (.int i0), .val (.int i1), .val (.int i2), .val (.int nb), .val (.int ky), .val (.int c0), .val (.int c1), .val (.int c2), .val (.ref o252), .val (.ref o269), .val (.ref r), .val (.long (nb.toInt64)), .second, .val (.int (Int32.ofNat (own_sg nb))), .val (.long mm), .second, .val (.int (Int32.ofNat (SBG.digits (own_mag nb)))), .val (.int (Int32.ofNat (((([(78 : Int32), (101 : Int32), (119 : Int32), (75 : Int32), (101 : Int32), (121 : Int32), (91 : Int32), (116 : Int32), (101 : Int32), (110 : Int32), (97 : Int32), (110 : Int32), (116 : Int32), (61 : Int32)] ++ [c0, c1, c2]) ++ [(44 : Int32), (32 : Int32), (107 : Int32), (101 : Int32), (121 : Int32), (73 : Int32), (100 : Int32), (61 : Int32)]) ++ own_istr nb) ++ [(93 : Int32)]).length)), .unset] [(.int (own_tl nb 8)), (.int (33 : Int32)), (.ref o289), (.ref o289)])
      refine s_castore (q := 445) (z := (own_tl nb 8)) (i := 33) C (own_nar (own_tlr nb 8).1 (own_tlr nb 8).2) Vh403 rfl (own_ltb rfl) ge_o289 at_444 rfl ?_
      intro h408 Wh408 Vh408
      have K409 := K404.wr Wh408 (Or.inr sz_o289)
      have O410 := Old_k0 O K409
      replace Vh408 : Ar Z h408 o289 .char (List.map Value.int [(78 : Int32), (101 : Int32), (119 : Int32), (75 : Int32), (101 : Int32), (121 : Int32), (91 : Int32), (116 : Int32), (101 : Int32), (110 : Int32), (97 : Int32), (110 : Int32), (116 : Int32), (61 : Int32), c0, c1, c2, (44 : Int32), (32 : Int32), (107 : Int32), (101 : Int32), (121 : Int32), (73 : Int32), (100 : Int32), (61 : Int32), (own_tl nb 0), (own_tl nb 1), (own_tl nb 2), (own_tl nb 3), (own_tl nb 4), (own_tl nb 5), (own_tl nb 6), (own_tl nb 7), (own_tl nb 8), (0 : Int32), (0 : Int32), (0 : Int32)]) := Vh408
      refine s_dup (q := 446) C rfl at_445 rfl ?_
      refine s_bipush (q := 448) (v := (34 : Int32)) C (by rfl) at_446 rfl ?_
      refine s_bipush (q := 450) (v := (9 : Int32)) C (by rfl) at_448 rfl ?_
      refine s_iload (q := 452) C rfl at_450 rfl ?_
      refine s_lload (q := 454) C rfl at_452 rfl ?_
      refine s_iload (q := 456) C rfl at_454 rfl ?_
      refine s_callS1 (q := 459) (argsL := [(.int (9 : Int32)), (.int (Int32.ofNat (own_sg nb))), (.long mm), (.int (Int32.ofNat (SBG.digits (own_mag nb))))]) (S := [(.int (34 : Int32)), (.ref o289), (.ref o289)]) (W := 3) (cells' := 26) (slots' := 623) C (G.1 _ (List.mem_of_getElem? (i := 262) rfl)) (G.1 _ (List.mem_of_getElem? (i := 263) rfl)) (G.1 _ (List.mem_of_getElem? (i := 2) rfl)) (G.1 _ (List.mem_of_getElem? (i := 264) rfl)) (by decide) (rm_tailf G O410 nb 9 mm hm (by decide)) rfl (lenOf pd_37 rfl) rfl (by decide) (own_leb rfl) (by decide) rfl rfl (by decide) (by decide) (wl := []) (fun _ _ q => by rw [q.1]; exact Keep.refl _ _) all0 at_456 rfl ?_
      rintro _ h411 ⟨eh412, rfl⟩
      rw [eh412]
      show AtS p l e _ s m _ below meth c Z _ _ n0 _ _ _ h408 26 623 (mkF m 459 #[.val (.int i0), .val (.int i1), .val (.int i2), .val (.int nb), .val (.int ky), .val (.int c0), .val (.int c1), .val (.int c2), .val (.ref o252), .val (.ref o269), .val (.ref r), .val (.long (nb.toInt64)), .second, .val (.int (Int32.ofNat (own_sg nb))), .val (.long mm), .second, .val (.int (Int32.ofNat (SBG.digits (own_mag nb)))), .val (.int (Int32.ofNat (((([(78 : Int32), (101 : Int32), (119 : Int32), (75 : Int32), (101 : Int32), (121 : Int32), (91 : Int32), (116 : Int32), (101 : Int32), (110 : Int32), (97 : Int32), (110 : Int32), (116 : Int32), (61 : Int32)] ++ [c0, c1, c2]) ++ [(44 : Int32), (32 : Int32), (107 : Int32), (101 : Int32), (121 : Int32), (73 : Int32), (100 : Int32), (61 : Int32)]) ++ own_istr nb) ++ [(93 : Int32)]).length)), .unset] [(.int (own_tl nb 9)), (.int (34 : Int32)), (.ref o289), (.ref o289)])
      refine s_castore (q := 460) (z := (own_tl nb 9)) (i := 34) C (own_nar (own_tlr nb 9).1 (own_tlr nb 9).2) Vh408 rfl (own_ltb rfl) ge_o289 at_459 rfl ?_
      intro h413 Wh413 Vh413
      have K414 := K409.wr Wh413 (Or.inr sz_o289)
      have O415 := Old_k0 O K414
      replace Vh413 : Ar Z h413 o289 .char (List.map Value.int [(78 : Int32), (101 : Int32), (119 : Int32), (75 : Int32), (101 : Int32), (121 : Int32), (91 : Int32), (116 : Int32), (101 : Int32), (110 : Int32), (97 : Int32), (110 : Int32), (116 : Int32), (61 : Int32), c0, c1, c2, (44 : Int32), (32 : Int32), (107 : Int32), (101 : Int32), (121 : Int32), (73 : Int32), (100 : Int32), (61 : Int32), (own_tl nb 0), (own_tl nb 1), (own_tl nb 2), (own_tl nb 3), (own_tl nb 4), (own_tl nb 5), (own_tl nb 6), (own_tl nb 7), (own_tl nb 8), (own_tl nb 9), (0 : Int32), (0 : Int32)]) := Vh413
      refine s_dup (q := 461) C rfl at_460 rfl ?_
      refine s_bipush (q := 463) (v := (35 : Int32)) C (by rfl) at_461 rfl ?_
      refine s_bipush (q := 465) (v := (10 : Int32)) C (by rfl) at_463 rfl ?_
      refine s_iload (q := 467) C rfl at_465 rfl ?_
      refine s_lload (q := 469) C rfl at_467 rfl ?_
      refine s_iload (q := 471) C rfl at_469 rfl ?_
      refine s_callS1 (q := 474) (argsL := [(.int (10 : Int32)), (.int (Int32.ofNat (own_sg nb))), (.long mm), (.int (Int32.ofNat (SBG.digits (own_mag nb))))]) (S := [(.int (35 : Int32)), (.ref o289), (.ref o289)]) (W := 3) (cells' := 26) (slots' := 623) C (G.1 _ (List.mem_of_getElem? (i := 262) rfl)) (G.1 _ (List.mem_of_getElem? (i := 263) rfl)) (G.1 _ (List.mem_of_getElem? (i := 2) rfl)) (G.1 _ (List.mem_of_getElem? (i := 264) rfl)) (by decide) (rm_tailf G O415 nb 10 mm hm (by decide)) rfl (lenOf pd_37 rfl) rfl (by decide) (own_leb rfl) (by decide) rfl rfl (by decide) (by decide) (wl := []) (fun _ _ q => by rw [q.1]; exact Keep.refl _ _) all0 at_471 rfl ?_
      rintro _ h416 ⟨eh417, rfl⟩
      rw [eh417]
      show AtS p l e _ s m _ below meth c Z _ _ n0 _ _ _ h413 26 623 (mkF m 474 #[.val (.int i0), .val (.int i1), .val (.int i2), .val (.int nb), .val (.int ky), .val (.int c0), .val (.int c1), .val (.int c2), .val (.ref o252), .val (.ref o269), .val (.ref r), .val (.long (nb.toInt64)), .second, .val (.int (Int32.ofNat (own_sg nb))), .val (.long mm), .second, .val (.int (Int32.ofNat (SBG.digits (own_mag nb)))), .val (.int (Int32.ofNat (((([(78 : Int32), (101 : Int32), (119 : Int32), (75 : Int32), (101 : Int32), (121 : Int32), (91 : Int32), (116 : Int32), (101 : Int32), (110 : Int32), (97 : Int32), (110 : Int32), (116 : Int32), (61 : Int32)] ++ [c0, c1, c2]) ++ [(44 : Int32), (32 : Int32), (107 : Int32), (101 : Int32), (121 : Int32), (73 : Int32), (100 : Int32), (61 : Int32)]) ++ own_istr nb) ++ [(93 : Int32)]).length)), .unset] [(.int (own_tl nb 10)), (.int (35 : Int32)), (.ref o289), (.ref o289)])
      refine s_castore (q := 475) (z := (own_tl nb 10)) (i := 35) C (own_nar (own_tlr nb 10).1 (own_tlr nb 10).2) Vh413 rfl (own_ltb rfl) ge_o289 at_474 rfl ?_
      intro h418 Wh418 Vh418
      have K419 := K414.wr Wh418 (Or.inr sz_o289)
      have O420 := Old_k0 O K419
      replace Vh418 : Ar Z h418 o289 .char (List.map Value.int [(78 : Int32), (101 : Int32), (119 : Int32), (75 : Int32), (101 : Int32), (121 : Int32), (91 : Int32), (116 : Int32), (101 : Int32), (110 : Int32), (97 : Int32), (110 : Int32), (116 : Int32), (61 : Int32), c0, c1, c2, (44 : Int32), (32 : Int32), (107 : Int32), (101 : Int32), (121 : Int32), (73 : Int32), (100 : Int32), (61 : Int32), (own_tl nb 0), (own_tl nb 1), (own_tl nb 2), (own_tl nb 3), (own_tl nb 4), (own_tl nb 5), (own_tl nb 6), (own_tl nb 7), (own_tl nb 8), (own_tl nb 9), (own_tl nb 10), (0 : Int32)]) := Vh418
      refine s_dup (q := 476) C rfl at_475 rfl ?_
      refine s_bipush (q := 478) (v := (36 : Int32)) C (by rfl) at_476 rfl ?_
      refine s_bipush (q := 480) (v := (11 : Int32)) C (by rfl) at_478 rfl ?_
      refine s_iload (q := 482) C rfl at_480 rfl ?_
      refine s_lload (q := 484) C rfl at_482 rfl ?_
      refine s_iload (q := 486) C rfl at_484 rfl ?_
      refine s_callS1 (q := 489) (argsL := [(.int (11 : Int32)), (.int (Int32.ofNat (own_sg nb))), (.long mm), (.int (Int32.ofNat (SBG.digits (own_mag nb))))]) (S := [(.int (36 : Int32)), (.ref o289), (.ref o289)]) (W := 3) (cells' := 26) (slots' := 623) C (G.1 _ (List.mem_of_getElem? (i := 262) rfl)) (G.1 _ (List.mem_of_getElem? (i := 263) rfl)) (G.1 _ (List.mem_of_getElem? (i := 2) rfl)) (G.1 _ (List.mem_of_getElem? (i := 264) rfl)) (by decide) (rm_tailf G O420 nb 11 mm hm (by decide)) rfl (lenOf pd_37 rfl) rfl (by decide) (own_leb rfl) (by decide) rfl rfl (by decide) (by decide) (wl := []) (fun _ _ q => by rw [q.1]; exact Keep.refl _ _) all0 at_486 rfl ?_
      rintro _ h421 ⟨eh422, rfl⟩
      rw [eh422]
      show AtS p l e _ s m _ below meth c Z _ _ n0 _ _ _ h418 26 623 (mkF m 489 #[.val (.int i0), .val (.int i1), .val (.int i2), .val (.int nb), .val (.int ky), .val (.int c0), .val (.int c1), .val (.int c2), .val (.ref o252), .val (.ref o269), .val (.ref r), .val (.long (nb.toInt64)), .second, .val (.int (Int32.ofNat (own_sg nb))), .val (.long mm), .second, .val (.int (Int32.ofNat (SBG.digits (own_mag nb)))), .val (.int (Int32.ofNat (((([(78 : Int32), (101 : Int32), (119 : Int32), (75 : Int32), (101 : Int32), (121 : Int32), (91 : Int32), (116 : Int32), (101 : Int32), (110 : Int32), (97 : Int32), (110 : Int32), (116 : Int32), (61 : Int32)] ++ [c0, c1, c2]) ++ [(44 : Int32), (32 : Int32), (107 : Int32), (101 : Int32), (121 : Int32), (73 : Int32), (100 : Int32), (61 : Int32)]) ++ own_istr nb) ++ [(93 : Int32)]).length)), .unset] [(.int (own_tl nb 11)), (.int (36 : Int32)), (.ref o289), (.ref o289)])
      refine s_castore (q := 490) (z := (own_tl nb 11)) (i := 36) C (own_nar (own_tlr nb 11).1 (own_tlr nb 11).2) Vh418 rfl (own_ltb rfl) ge_o289 at_489 rfl ?_
      intro h423 Wh423 Vh423
      have K424 := K419.wr Wh423 (Or.inr sz_o289)
      have O425 := Old_k0 O K424
      replace Vh423 : Ar Z h423 o289 .char (List.map Value.int [(78 : Int32), (101 : Int32), (119 : Int32), (75 : Int32), (101 : Int32), (121 : Int32), (91 : Int32), (116 : Int32), (101 : Int32), (110 : Int32), (97 : Int32), (110 : Int32), (116 : Int32), (61 : Int32), c0, c1, c2, (44 : Int32), (32 : Int32), (107 : Int32), (101 : Int32), (121 : Int32), (73 : Int32), (100 : Int32), (61 : Int32), (own_tl nb 0), (own_tl nb 1), (own_tl nb 2), (own_tl nb 3), (own_tl nb 4), (own_tl nb 5), (own_tl nb 6), (own_tl nb 7), (own_tl nb 8), (own_tl nb 9), (own_tl nb 10), (own_tl nb 11)]) := Vh423
      replace T := Str_k0 T K424
      replace O := Old_k0 O K424
      have VE : Ar Z h423 o289 .char (List.map Value.int ([(78 : Int32), (101 : Int32), (119 : Int32), (75 : Int32), (101 : Int32), (121 : Int32), (91 : Int32), (116 : Int32), (101 : Int32), (110 : Int32), (97 : Int32), (110 : Int32), (116 : Int32), (61 : Int32), c0, c1, c2, (44 : Int32), (32 : Int32), (107 : Int32), (101 : Int32), (121 : Int32), (73 : Int32), (100 : Int32), (61 : Int32)] ++ (List.range 12).map (own_tl nb))) := Vh423
      have hFE : (((([(78 : Int32), (101 : Int32), (119 : Int32), (75 : Int32), (101 : Int32), (121 : Int32), (91 : Int32), (116 : Int32), (101 : Int32), (110 : Int32), (97 : Int32), (110 : Int32), (116 : Int32), (61 : Int32)] ++ [c0, c1, c2]) ++ [(44 : Int32), (32 : Int32), (107 : Int32), (101 : Int32), (121 : Int32), (73 : Int32), (100 : Int32), (61 : Int32)]) ++ own_istr nb) ++ [(93 : Int32)]) = [(78 : Int32), (101 : Int32), (119 : Int32), (75 : Int32), (101 : Int32), (121 : Int32), (91 : Int32), (116 : Int32), (101 : Int32), (110 : Int32), (97 : Int32), (110 : Int32), (116 : Int32), (61 : Int32), c0, c1, c2, (44 : Int32), (32 : Int32), (107 : Int32), (101 : Int32), (121 : Int32), (73 : Int32), (100 : Int32), (61 : Int32)] ++ (own_istr nb ++ [(93 : Int32)]) := by simp only [List.append_assoc]; rfl
      have hE : ∀ i, i < 37 → ∀ c, (((([(78 : Int32), (101 : Int32), (119 : Int32), (75 : Int32), (101 : Int32), (121 : Int32), (91 : Int32), (116 : Int32), (101 : Int32), (110 : Int32), (97 : Int32), (110 : Int32), (116 : Int32), (61 : Int32)] ++ [c0, c1, c2]) ++ [(44 : Int32), (32 : Int32), (107 : Int32), (101 : Int32), (121 : Int32), (73 : Int32), (100 : Int32), (61 : Int32)]) ++ own_istr nb) ++ [(93 : Int32)])[i]? = some c → (List.map Value.int ([(78 : Int32), (101 : Int32), (119 : Int32), (75 : Int32), (101 : Int32), (121 : Int32), (91 : Int32), (116 : Int32), (101 : Int32), (110 : Int32), (97 : Int32), (110 : Int32), (116 : Int32), (61 : Int32), c0, c1, c2, (44 : Int32), (32 : Int32), (107 : Int32), (101 : Int32), (121 : Int32), (73 : Int32), (100 : Int32), (61 : Int32)] ++ (List.range 12).map (own_tl nb)))[i]? = some (.int c) := fun i hi c hc => by
        rw [hFE] at hc
        rw [List.getElem?_map]
        by_cases q : i < 25
        · rw [List.getElem?_append_left (by simpa using q)] at hc ⊢
          rw [hc]; rfl
        · rw [List.getElem?_append_right (by simpa using q)] at hc ⊢
          rw [List.getElem?_map, List.getElem?_range (by simp; omega)]
          show some (Value.int (own_tl nb (i - _))) = _
          unfold own_tl
          rw [hc]; rfl
      refine s_astore (q := 492) (L' := #[.val (.int i0), .val (.int i1), .val (.int i2), .val (.int nb), .val (.int ky), .val (.int c0), .val (.int c1), .val (.int c2), .val (.ref o252), .val (.ref o269), .val (.ref r), .val (.long (nb.toInt64)), .second, .val (.int (Int32.ofNat (own_sg nb))), .val (.long mm), .second, .val (.int (Int32.ofNat (SBG.digits (own_mag nb)))), .val (.int (Int32.ofNat (((([(78 : Int32), (101 : Int32), (119 : Int32), (75 : Int32), (101 : Int32), (121 : Int32), (91 : Int32), (116 : Int32), (101 : Int32), (110 : Int32), (97 : Int32), (110 : Int32), (116 : Int32), (61 : Int32)] ++ [c0, c1, c2]) ++ [(44 : Int32), (32 : Int32), (107 : Int32), (101 : Int32), (121 : Int32), (73 : Int32), (100 : Int32), (61 : Int32)]) ++ own_istr nb) ++ [(93 : Int32)]).length)), .val (.ref o289)]) C rfl rfl at_490 rfl ?_
      refine s_aload (q := 494) C rfl rfl at_492 rfl ?_
      refine s_aload (q := 496) C rfl rfl at_494 rfl ?_
      refine s_iload (q := 498) C rfl at_496 rfl ?_
      refine s_iconst (q := 499) (v := (0 : Int32)) C (by rfl) at_498 rfl ?_
      refine s_callS1 (q := 502) (argsL := [(.ref r), (.ref o289), (.int (Int32.ofNat (((([(78 : Int32), (101 : Int32), (119 : Int32), (75 : Int32), (101 : Int32), (121 : Int32), (91 : Int32), (116 : Int32), (101 : Int32), (110 : Int32), (97 : Int32), (110 : Int32), (116 : Int32), (61 : Int32)] ++ [c0, c1, c2]) ++ [(44 : Int32), (32 : Int32), (107 : Int32), (101 : Int32), (121 : Int32), (73 : Int32), (100 : Int32), (61 : Int32)]) ++ own_istr nb) ++ [(93 : Int32)]).length)), (.int (0 : Int32))]) (S := []) (W := 0) (cells' := 26) (slots' := 623) C (G.1 _ (List.mem_of_getElem? (i := 271) rfl)) (G.1 _ (List.mem_of_getElem? (i := 272) rfl)) (G.1 _ (List.mem_of_getElem? (i := 2) rfl)) (G.1 _ (List.mem_of_getElem? (i := 273) rfl)) (by decide) (rm_atc G O r o289 _ _ 0 T VE (by decide) (hE 0 (by decide))) rfl (lenOf pd_40 rfl) rfl (by decide) (own_leb rfl) (by decide) rfl rfl (by decide) (by decide) (wl := []) (fun _ _ q => by rw [q.1]; exact Keep.refl _ _) all0 at_499 rfl ?_
      rintro _ h426 ⟨eh427, rfl⟩
      rw [eh427]
      show AtS p l e _ s m _ below meth c Z _ _ n0 _ _ _ h423 26 623 (mkF m 502 #[.val (.int i0), .val (.int i1), .val (.int i2), .val (.int nb), .val (.int ky), .val (.int c0), .val (.int c1), .val (.int c2), .val (.ref o252), .val (.ref o269), .val (.ref r), .val (.long (nb.toInt64)), .second, .val (.int (Int32.ofNat (own_sg nb))), .val (.long mm), .second, .val (.int (Int32.ofNat (SBG.digits (own_mag nb)))), .val (.int (Int32.ofNat (((([(78 : Int32), (101 : Int32), (119 : Int32), (75 : Int32), (101 : Int32), (121 : Int32), (91 : Int32), (116 : Int32), (101 : Int32), (110 : Int32), (97 : Int32), (110 : Int32), (116 : Int32), (61 : Int32)] ++ [c0, c1, c2]) ++ [(44 : Int32), (32 : Int32), (107 : Int32), (101 : Int32), (121 : Int32), (73 : Int32), (100 : Int32), (61 : Int32)]) ++ own_istr nb) ++ [(93 : Int32)]).length)), .val (.ref o289)] [(.int (1 : Int32))])
      refine s_if_eq_f (q := 505) C at_502 rfl (by decide) ?_
      refine s_aload (q := 507) C rfl rfl at_505 rfl ?_
      refine s_aload (q := 509) C rfl rfl at_507 rfl ?_
      refine s_iload (q := 511) C rfl at_509 rfl ?_
      refine s_iconst (q := 512) (v := (1 : Int32)) C (by rfl) at_511 rfl ?_
      refine s_callS1 (q := 515) (argsL := [(.ref r), (.ref o289), (.int (Int32.ofNat (((([(78 : Int32), (101 : Int32), (119 : Int32), (75 : Int32), (101 : Int32), (121 : Int32), (91 : Int32), (116 : Int32), (101 : Int32), (110 : Int32), (97 : Int32), (110 : Int32), (116 : Int32), (61 : Int32)] ++ [c0, c1, c2]) ++ [(44 : Int32), (32 : Int32), (107 : Int32), (101 : Int32), (121 : Int32), (73 : Int32), (100 : Int32), (61 : Int32)]) ++ own_istr nb) ++ [(93 : Int32)]).length)), (.int (1 : Int32))]) (S := []) (W := 0) (cells' := 26) (slots' := 623) C (G.1 _ (List.mem_of_getElem? (i := 271) rfl)) (G.1 _ (List.mem_of_getElem? (i := 272) rfl)) (G.1 _ (List.mem_of_getElem? (i := 2) rfl)) (G.1 _ (List.mem_of_getElem? (i := 273) rfl)) (by decide) (rm_atc G O r o289 _ _ 1 T VE (by decide) (hE 1 (by decide))) rfl (lenOf pd_40 rfl) rfl (by decide) (own_leb rfl) (by decide) rfl rfl (by decide) (by decide) (wl := []) (fun _ _ q => by rw [q.1]; exact Keep.refl _ _) all0 at_512 rfl ?_
      rintro _ h428 ⟨eh429, rfl⟩
      rw [eh429]
      show AtS p l e _ s m _ below meth c Z _ _ n0 _ _ _ h423 26 623 (mkF m 515 #[.val (.int i0), .val (.int i1), .val (.int i2), .val (.int nb), .val (.int ky), .val (.int c0), .val (.int c1), .val (.int c2), .val (.ref o252), .val (.ref o269), .val (.ref r), .val (.long (nb.toInt64)), .second, .val (.int (Int32.ofNat (own_sg nb))), .val (.long mm), .second, .val (.int (Int32.ofNat (SBG.digits (own_mag nb)))), .val (.int (Int32.ofNat (((([(78 : Int32), (101 : Int32), (119 : Int32), (75 : Int32), (101 : Int32), (121 : Int32), (91 : Int32), (116 : Int32), (101 : Int32), (110 : Int32), (97 : Int32), (110 : Int32), (116 : Int32), (61 : Int32)] ++ [c0, c1, c2]) ++ [(44 : Int32), (32 : Int32), (107 : Int32), (101 : Int32), (121 : Int32), (73 : Int32), (100 : Int32), (61 : Int32)]) ++ own_istr nb) ++ [(93 : Int32)]).length)), .val (.ref o289)] [(.int (1 : Int32))])
      refine s_if_eq_f (q := 518) C at_515 rfl (by decide) ?_
      refine s_aload (q := 520) C rfl rfl at_518 rfl ?_
      refine s_aload (q := 522) C rfl rfl at_520 rfl ?_
      refine s_iload (q := 524) C rfl at_522 rfl ?_
      refine s_iconst (q := 525) (v := (2 : Int32)) C (by rfl) at_524 rfl ?_
      refine s_callS1 (q := 528) (argsL := [(.ref r), (.ref o289), (.int (Int32.ofNat (((([(78 : Int32), (101 : Int32), (119 : Int32), (75 : Int32), (101 : Int32), (121 : Int32), (91 : Int32), (116 : Int32), (101 : Int32), (110 : Int32), (97 : Int32), (110 : Int32), (116 : Int32), (61 : Int32)] ++ [c0, c1, c2]) ++ [(44 : Int32), (32 : Int32), (107 : Int32), (101 : Int32), (121 : Int32), (73 : Int32), (100 : Int32), (61 : Int32)]) ++ own_istr nb) ++ [(93 : Int32)]).length)), (.int (2 : Int32))]) (S := []) (W := 0) (cells' := 26) (slots' := 623) C (G.1 _ (List.mem_of_getElem? (i := 271) rfl)) (G.1 _ (List.mem_of_getElem? (i := 272) rfl)) (G.1 _ (List.mem_of_getElem? (i := 2) rfl)) (G.1 _ (List.mem_of_getElem? (i := 273) rfl)) (by decide) (rm_atc G O r o289 _ _ 2 T VE (by decide) (hE 2 (by decide))) rfl (lenOf pd_40 rfl) rfl (by decide) (own_leb rfl) (by decide) rfl rfl (by decide) (by decide) (wl := []) (fun _ _ q => by rw [q.1]; exact Keep.refl _ _) all0 at_525 rfl ?_
      rintro _ h430 ⟨eh431, rfl⟩
      rw [eh431]
      show AtS p l e _ s m _ below meth c Z _ _ n0 _ _ _ h423 26 623 (mkF m 528 #[.val (.int i0), .val (.int i1), .val (.int i2), .val (.int nb), .val (.int ky), .val (.int c0), .val (.int c1), .val (.int c2), .val (.ref o252), .val (.ref o269), .val (.ref r), .val (.long (nb.toInt64)), .second, .val (.int (Int32.ofNat (own_sg nb))), .val (.long mm), .second, .val (.int (Int32.ofNat (SBG.digits (own_mag nb)))), .val (.int (Int32.ofNat (((([(78 : Int32), (101 : Int32), (119 : Int32), (75 : Int32), (101 : Int32), (121 : Int32), (91 : Int32), (116 : Int32), (101 : Int32), (110 : Int32), (97 : Int32), (110 : Int32), (116 : Int32), (61 : Int32)] ++ [c0, c1, c2]) ++ [(44 : Int32), (32 : Int32), (107 : Int32), (101 : Int32), (121 : Int32), (73 : Int32), (100 : Int32), (61 : Int32)]) ++ own_istr nb) ++ [(93 : Int32)]).length)), .val (.ref o289)] [(.int (1 : Int32))])
      refine s_if_eq_f (q := 531) C at_528 rfl (by decide) ?_
      refine s_aload (q := 533) C rfl rfl at_531 rfl ?_
      refine s_aload (q := 535) C rfl rfl at_533 rfl ?_
      refine s_iload (q := 537) C rfl at_535 rfl ?_
      refine s_iconst (q := 538) (v := (3 : Int32)) C (by rfl) at_537 rfl ?_
      refine s_callS1 (q := 541) (argsL := [(.ref r), (.ref o289), (.int (Int32.ofNat (((([(78 : Int32), (101 : Int32), (119 : Int32), (75 : Int32), (101 : Int32), (121 : Int32), (91 : Int32), (116 : Int32), (101 : Int32), (110 : Int32), (97 : Int32), (110 : Int32), (116 : Int32), (61 : Int32)] ++ [c0, c1, c2]) ++ [(44 : Int32), (32 : Int32), (107 : Int32), (101 : Int32), (121 : Int32), (73 : Int32), (100 : Int32), (61 : Int32)]) ++ own_istr nb) ++ [(93 : Int32)]).length)), (.int (3 : Int32))]) (S := []) (W := 0) (cells' := 26) (slots' := 623) C (G.1 _ (List.mem_of_getElem? (i := 271) rfl)) (G.1 _ (List.mem_of_getElem? (i := 272) rfl)) (G.1 _ (List.mem_of_getElem? (i := 2) rfl)) (G.1 _ (List.mem_of_getElem? (i := 273) rfl)) (by decide) (rm_atc G O r o289 _ _ 3 T VE (by decide) (hE 3 (by decide))) rfl (lenOf pd_40 rfl) rfl (by decide) (own_leb rfl) (by decide) rfl rfl (by decide) (by decide) (wl := []) (fun _ _ q => by rw [q.1]; exact Keep.refl _ _) all0 at_538 rfl ?_
      rintro _ h432 ⟨eh433, rfl⟩
      rw [eh433]
      show AtS p l e _ s m _ below meth c Z _ _ n0 _ _ _ h423 26 623 (mkF m 541 #[.val (.int i0), .val (.int i1), .val (.int i2), .val (.int nb), .val (.int ky), .val (.int c0), .val (.int c1), .val (.int c2), .val (.ref o252), .val (.ref o269), .val (.ref r), .val (.long (nb.toInt64)), .second, .val (.int (Int32.ofNat (own_sg nb))), .val (.long mm), .second, .val (.int (Int32.ofNat (SBG.digits (own_mag nb)))), .val (.int (Int32.ofNat (((([(78 : Int32), (101 : Int32), (119 : Int32), (75 : Int32), (101 : Int32), (121 : Int32), (91 : Int32), (116 : Int32), (101 : Int32), (110 : Int32), (97 : Int32), (110 : Int32), (116 : Int32), (61 : Int32)] ++ [c0, c1, c2]) ++ [(44 : Int32), (32 : Int32), (107 : Int32), (101 : Int32), (121 : Int32), (73 : Int32), (100 : Int32), (61 : Int32)]) ++ own_istr nb) ++ [(93 : Int32)]).length)), .val (.ref o289)] [(.int (1 : Int32))])
      refine s_if_eq_f (q := 544) C at_541 rfl (by decide) ?_
      refine s_aload (q := 546) C rfl rfl at_544 rfl ?_
      refine s_aload (q := 548) C rfl rfl at_546 rfl ?_
      refine s_iload (q := 550) C rfl at_548 rfl ?_
      refine s_iconst (q := 551) (v := (4 : Int32)) C (by rfl) at_550 rfl ?_
      refine s_callS1 (q := 554) (argsL := [(.ref r), (.ref o289), (.int (Int32.ofNat (((([(78 : Int32), (101 : Int32), (119 : Int32), (75 : Int32), (101 : Int32), (121 : Int32), (91 : Int32), (116 : Int32), (101 : Int32), (110 : Int32), (97 : Int32), (110 : Int32), (116 : Int32), (61 : Int32)] ++ [c0, c1, c2]) ++ [(44 : Int32), (32 : Int32), (107 : Int32), (101 : Int32), (121 : Int32), (73 : Int32), (100 : Int32), (61 : Int32)]) ++ own_istr nb) ++ [(93 : Int32)]).length)), (.int (4 : Int32))]) (S := []) (W := 0) (cells' := 26) (slots' := 623) C (G.1 _ (List.mem_of_getElem? (i := 271) rfl)) (G.1 _ (List.mem_of_getElem? (i := 272) rfl)) (G.1 _ (List.mem_of_getElem? (i := 2) rfl)) (G.1 _ (List.mem_of_getElem? (i := 273) rfl)) (by decide) (rm_atc G O r o289 _ _ 4 T VE (by decide) (hE 4 (by decide))) rfl (lenOf pd_40 rfl) rfl (by decide) (own_leb rfl) (by decide) rfl rfl (by decide) (by decide) (wl := []) (fun _ _ q => by rw [q.1]; exact Keep.refl _ _) all0 at_551 rfl ?_
      rintro _ h434 ⟨eh435, rfl⟩
      rw [eh435]
      show AtS p l e _ s m _ below meth c Z _ _ n0 _ _ _ h423 26 623 (mkF m 554 #[.val (.int i0), .val (.int i1), .val (.int i2), .val (.int nb), .val (.int ky), .val (.int c0), .val (.int c1), .val (.int c2), .val (.ref o252), .val (.ref o269), .val (.ref r), .val (.long (nb.toInt64)), .second, .val (.int (Int32.ofNat (own_sg nb))), .val (.long mm), .second, .val (.int (Int32.ofNat (SBG.digits (own_mag nb)))), .val (.int (Int32.ofNat (((([(78 : Int32), (101 : Int32), (119 : Int32), (75 : Int32), (101 : Int32), (121 : Int32), (91 : Int32), (116 : Int32), (101 : Int32), (110 : Int32), (97 : Int32), (110 : Int32), (116 : Int32), (61 : Int32)] ++ [c0, c1, c2]) ++ [(44 : Int32), (32 : Int32), (107 : Int32), (101 : Int32), (121 : Int32), (73 : Int32), (100 : Int32), (61 : Int32)]) ++ own_istr nb) ++ [(93 : Int32)]).length)), .val (.ref o289)] [(.int (1 : Int32))])
      refine s_if_eq_f (q := 557) C at_554 rfl (by decide) ?_
      refine s_aload (q := 559) C rfl rfl at_557 rfl ?_
      refine s_aload (q := 561) C rfl rfl at_559 rfl ?_
      refine s_iload (q := 563) C rfl at_561 rfl ?_
      refine s_iconst (q := 564) (v := (5 : Int32)) C (by rfl) at_563 rfl ?_
      refine s_callS1 (q := 567) (argsL := [(.ref r), (.ref o289), (.int (Int32.ofNat (((([(78 : Int32), (101 : Int32), (119 : Int32), (75 : Int32), (101 : Int32), (121 : Int32), (91 : Int32), (116 : Int32), (101 : Int32), (110 : Int32), (97 : Int32), (110 : Int32), (116 : Int32), (61 : Int32)] ++ [c0, c1, c2]) ++ [(44 : Int32), (32 : Int32), (107 : Int32), (101 : Int32), (121 : Int32), (73 : Int32), (100 : Int32), (61 : Int32)]) ++ own_istr nb) ++ [(93 : Int32)]).length)), (.int (5 : Int32))]) (S := []) (W := 0) (cells' := 26) (slots' := 623) C (G.1 _ (List.mem_of_getElem? (i := 271) rfl)) (G.1 _ (List.mem_of_getElem? (i := 272) rfl)) (G.1 _ (List.mem_of_getElem? (i := 2) rfl)) (G.1 _ (List.mem_of_getElem? (i := 273) rfl)) (by decide) (rm_atc G O r o289 _ _ 5 T VE (by decide) (hE 5 (by decide))) rfl (lenOf pd_40 rfl) rfl (by decide) (own_leb rfl) (by decide) rfl rfl (by decide) (by decide) (wl := []) (fun _ _ q => by rw [q.1]; exact Keep.refl _ _) all0 at_564 rfl ?_
      rintro _ h436 ⟨eh437, rfl⟩
      rw [eh437]
      show AtS p l e _ s m _ below meth c Z _ _ n0 _ _ _ h423 26 623 (mkF m 567 #[.val (.int i0), .val (.int i1), .val (.int i2), .val (.int nb), .val (.int ky), .val (.int c0), .val (.int c1), .val (.int c2), .val (.ref o252), .val (.ref o269), .val (.ref r), .val (.long (nb.toInt64)), .second, .val (.int (Int32.ofNat (own_sg nb))), .val (.long mm), .second, .val (.int (Int32.ofNat (SBG.digits (own_mag nb)))), .val (.int (Int32.ofNat (((([(78 : Int32), (101 : Int32), (119 : Int32), (75 : Int32), (101 : Int32), (121 : Int32), (91 : Int32), (116 : Int32), (101 : Int32), (110 : Int32), (97 : Int32), (110 : Int32), (116 : Int32), (61 : Int32)] ++ [c0, c1, c2]) ++ [(44 : Int32), (32 : Int32), (107 : Int32), (101 : Int32), (121 : Int32), (73 : Int32), (100 : Int32), (61 : Int32)]) ++ own_istr nb) ++ [(93 : Int32)]).length)), .val (.ref o289)] [(.int (1 : Int32))])
      refine s_if_eq_f (q := 570) C at_567 rfl (by decide) ?_
      refine s_aload (q := 572) C rfl rfl at_570 rfl ?_
      refine s_aload (q := 574) C rfl rfl at_572 rfl ?_
      refine s_iload (q := 576) C rfl at_574 rfl ?_
      refine s_bipush (q := 578) (v := (6 : Int32)) C (by rfl) at_576 rfl ?_
      refine s_callS1 (q := 581) (argsL := [(.ref r), (.ref o289), (.int (Int32.ofNat (((([(78 : Int32), (101 : Int32), (119 : Int32), (75 : Int32), (101 : Int32), (121 : Int32), (91 : Int32), (116 : Int32), (101 : Int32), (110 : Int32), (97 : Int32), (110 : Int32), (116 : Int32), (61 : Int32)] ++ [c0, c1, c2]) ++ [(44 : Int32), (32 : Int32), (107 : Int32), (101 : Int32), (121 : Int32), (73 : Int32), (100 : Int32), (61 : Int32)]) ++ own_istr nb) ++ [(93 : Int32)]).length)), (.int (6 : Int32))]) (S := []) (W := 0) (cells' := 26) (slots' := 623) C (G.1 _ (List.mem_of_getElem? (i := 271) rfl)) (G.1 _ (List.mem_of_getElem? (i := 272) rfl)) (G.1 _ (List.mem_of_getElem? (i := 2) rfl)) (G.1 _ (List.mem_of_getElem? (i := 273) rfl)) (by decide) (rm_atc G O r o289 _ _ 6 T VE (by decide) (hE 6 (by decide))) rfl (lenOf pd_40 rfl) rfl (by decide) (own_leb rfl) (by decide) rfl rfl (by decide) (by decide) (wl := []) (fun _ _ q => by rw [q.1]; exact Keep.refl _ _) all0 at_578 rfl ?_
      rintro _ h438 ⟨eh439, rfl⟩
      rw [eh439]
      show AtS p l e _ s m _ below meth c Z _ _ n0 _ _ _ h423 26 623 (mkF m 581 #[.val (.int i0), .val (.int i1), .val (.int i2), .val (.int nb), .val (.int ky), .val (.int c0), .val (.int c1), .val (.int c2), .val (.ref o252), .val (.ref o269), .val (.ref r), .val (.long (nb.toInt64)), .second, .val (.int (Int32.ofNat (own_sg nb))), .val (.long mm), .second, .val (.int (Int32.ofNat (SBG.digits (own_mag nb)))), .val (.int (Int32.ofNat (((([(78 : Int32), (101 : Int32), (119 : Int32), (75 : Int32), (101 : Int32), (121 : Int32), (91 : Int32), (116 : Int32), (101 : Int32), (110 : Int32), (97 : Int32), (110 : Int32), (116 : Int32), (61 : Int32)] ++ [c0, c1, c2]) ++ [(44 : Int32), (32 : Int32), (107 : Int32), (101 : Int32), (121 : Int32), (73 : Int32), (100 : Int32), (61 : Int32)]) ++ own_istr nb) ++ [(93 : Int32)]).length)), .val (.ref o289)] [(.int (1 : Int32))])
      refine s_if_eq_f (q := 584) C at_581 rfl (by decide) ?_
      refine s_aload (q := 586) C rfl rfl at_584 rfl ?_
      refine s_aload (q := 588) C rfl rfl at_586 rfl ?_
      refine s_iload (q := 590) C rfl at_588 rfl ?_
      refine s_bipush (q := 592) (v := (7 : Int32)) C (by rfl) at_590 rfl ?_
      refine s_callS1 (q := 595) (argsL := [(.ref r), (.ref o289), (.int (Int32.ofNat (((([(78 : Int32), (101 : Int32), (119 : Int32), (75 : Int32), (101 : Int32), (121 : Int32), (91 : Int32), (116 : Int32), (101 : Int32), (110 : Int32), (97 : Int32), (110 : Int32), (116 : Int32), (61 : Int32)] ++ [c0, c1, c2]) ++ [(44 : Int32), (32 : Int32), (107 : Int32), (101 : Int32), (121 : Int32), (73 : Int32), (100 : Int32), (61 : Int32)]) ++ own_istr nb) ++ [(93 : Int32)]).length)), (.int (7 : Int32))]) (S := []) (W := 0) (cells' := 26) (slots' := 623) C (G.1 _ (List.mem_of_getElem? (i := 271) rfl)) (G.1 _ (List.mem_of_getElem? (i := 272) rfl)) (G.1 _ (List.mem_of_getElem? (i := 2) rfl)) (G.1 _ (List.mem_of_getElem? (i := 273) rfl)) (by decide) (rm_atc G O r o289 _ _ 7 T VE (by decide) (hE 7 (by decide))) rfl (lenOf pd_40 rfl) rfl (by decide) (own_leb rfl) (by decide) rfl rfl (by decide) (by decide) (wl := []) (fun _ _ q => by rw [q.1]; exact Keep.refl _ _) all0 at_592 rfl ?_
      rintro _ h440 ⟨eh441, rfl⟩
      rw [eh441]
      show AtS p l e _ s m _ below meth c Z _ _ n0 _ _ _ h423 26 623 (mkF m 595 #[.val (.int i0), .val (.int i1), .val (.int i2), .val (.int nb), .val (.int ky), .val (.int c0), .val (.int c1), .val (.int c2), .val (.ref o252), .val (.ref o269), .val (.ref r), .val (.long (nb.toInt64)), .second, .val (.int (Int32.ofNat (own_sg nb))), .val (.long mm), .second, .val (.int (Int32.ofNat (SBG.digits (own_mag nb)))), .val (.int (Int32.ofNat (((([(78 : Int32), (101 : Int32), (119 : Int32), (75 : Int32), (101 : Int32), (121 : Int32), (91 : Int32), (116 : Int32), (101 : Int32), (110 : Int32), (97 : Int32), (110 : Int32), (116 : Int32), (61 : Int32)] ++ [c0, c1, c2]) ++ [(44 : Int32), (32 : Int32), (107 : Int32), (101 : Int32), (121 : Int32), (73 : Int32), (100 : Int32), (61 : Int32)]) ++ own_istr nb) ++ [(93 : Int32)]).length)), .val (.ref o289)] [(.int (1 : Int32))])
      refine s_if_eq_f (q := 598) C at_595 rfl (by decide) ?_
      refine s_aload (q := 600) C rfl rfl at_598 rfl ?_
      refine s_aload (q := 602) C rfl rfl at_600 rfl ?_
      refine s_iload (q := 604) C rfl at_602 rfl ?_
      refine s_bipush (q := 606) (v := (8 : Int32)) C (by rfl) at_604 rfl ?_
      refine s_callS1 (q := 609) (argsL := [(.ref r), (.ref o289), (.int (Int32.ofNat (((([(78 : Int32), (101 : Int32), (119 : Int32), (75 : Int32), (101 : Int32), (121 : Int32), (91 : Int32), (116 : Int32), (101 : Int32), (110 : Int32), (97 : Int32), (110 : Int32), (116 : Int32), (61 : Int32)] ++ [c0, c1, c2]) ++ [(44 : Int32), (32 : Int32), (107 : Int32), (101 : Int32), (121 : Int32), (73 : Int32), (100 : Int32), (61 : Int32)]) ++ own_istr nb) ++ [(93 : Int32)]).length)), (.int (8 : Int32))]) (S := []) (W := 0) (cells' := 26) (slots' := 623) C (G.1 _ (List.mem_of_getElem? (i := 271) rfl)) (G.1 _ (List.mem_of_getElem? (i := 272) rfl)) (G.1 _ (List.mem_of_getElem? (i := 2) rfl)) (G.1 _ (List.mem_of_getElem? (i := 273) rfl)) (by decide) (rm_atc G O r o289 _ _ 8 T VE (by decide) (hE 8 (by decide))) rfl (lenOf pd_40 rfl) rfl (by decide) (own_leb rfl) (by decide) rfl rfl (by decide) (by decide) (wl := []) (fun _ _ q => by rw [q.1]; exact Keep.refl _ _) all0 at_606 rfl ?_
      rintro _ h442 ⟨eh443, rfl⟩
      rw [eh443]
      show AtS p l e _ s m _ below meth c Z _ _ n0 _ _ _ h423 26 623 (mkF m 609 #[.val (.int i0), .val (.int i1), .val (.int i2), .val (.int nb), .val (.int ky), .val (.int c0), .val (.int c1), .val (.int c2), .val (.ref o252), .val (.ref o269), .val (.ref r), .val (.long (nb.toInt64)), .second, .val (.int (Int32.ofNat (own_sg nb))), .val (.long mm), .second, .val (.int (Int32.ofNat (SBG.digits (own_mag nb)))), .val (.int (Int32.ofNat (((([(78 : Int32), (101 : Int32), (119 : Int32), (75 : Int32), (101 : Int32), (121 : Int32), (91 : Int32), (116 : Int32), (101 : Int32), (110 : Int32), (97 : Int32), (110 : Int32), (116 : Int32), (61 : Int32)] ++ [c0, c1, c2]) ++ [(44 : Int32), (32 : Int32), (107 : Int32), (101 : Int32), (121 : Int32), (73 : Int32), (100 : Int32), (61 : Int32)]) ++ own_istr nb) ++ [(93 : Int32)]).length)), .val (.ref o289)] [(.int (1 : Int32))])
      refine s_if_eq_f (q := 612) C at_609 rfl (by decide) ?_
      refine s_aload (q := 614) C rfl rfl at_612 rfl ?_
      refine s_aload (q := 616) C rfl rfl at_614 rfl ?_
      refine s_iload (q := 618) C rfl at_616 rfl ?_
      refine s_bipush (q := 620) (v := (9 : Int32)) C (by rfl) at_618 rfl ?_
      refine s_callS1 (q := 623) (argsL := [(.ref r), (.ref o289), (.int (Int32.ofNat (((([(78 : Int32), (101 : Int32), (119 : Int32), (75 : Int32), (101 : Int32), (121 : Int32), (91 : Int32), (116 : Int32), (101 : Int32), (110 : Int32), (97 : Int32), (110 : Int32), (116 : Int32), (61 : Int32)] ++ [c0, c1, c2]) ++ [(44 : Int32), (32 : Int32), (107 : Int32), (101 : Int32), (121 : Int32), (73 : Int32), (100 : Int32), (61 : Int32)]) ++ own_istr nb) ++ [(93 : Int32)]).length)), (.int (9 : Int32))]) (S := []) (W := 0) (cells' := 26) (slots' := 623) C (G.1 _ (List.mem_of_getElem? (i := 271) rfl)) (G.1 _ (List.mem_of_getElem? (i := 272) rfl)) (G.1 _ (List.mem_of_getElem? (i := 2) rfl)) (G.1 _ (List.mem_of_getElem? (i := 273) rfl)) (by decide) (rm_atc G O r o289 _ _ 9 T VE (by decide) (hE 9 (by decide))) rfl (lenOf pd_40 rfl) rfl (by decide) (own_leb rfl) (by decide) rfl rfl (by decide) (by decide) (wl := []) (fun _ _ q => by rw [q.1]; exact Keep.refl _ _) all0 at_620 rfl ?_
      rintro _ h444 ⟨eh445, rfl⟩
      rw [eh445]
      show AtS p l e _ s m _ below meth c Z _ _ n0 _ _ _ h423 26 623 (mkF m 623 #[.val (.int i0), .val (.int i1), .val (.int i2), .val (.int nb), .val (.int ky), .val (.int c0), .val (.int c1), .val (.int c2), .val (.ref o252), .val (.ref o269), .val (.ref r), .val (.long (nb.toInt64)), .second, .val (.int (Int32.ofNat (own_sg nb))), .val (.long mm), .second, .val (.int (Int32.ofNat (SBG.digits (own_mag nb)))), .val (.int (Int32.ofNat (((([(78 : Int32), (101 : Int32), (119 : Int32), (75 : Int32), (101 : Int32), (121 : Int32), (91 : Int32), (116 : Int32), (101 : Int32), (110 : Int32), (97 : Int32), (110 : Int32), (116 : Int32), (61 : Int32)] ++ [c0, c1, c2]) ++ [(44 : Int32), (32 : Int32), (107 : Int32), (101 : Int32), (121 : Int32), (73 : Int32), (100 : Int32), (61 : Int32)]) ++ own_istr nb) ++ [(93 : Int32)]).length)), .val (.ref o289)] [(.int (1 : Int32))])
      refine s_if_eq_f (q := 626) C at_623 rfl (by decide) ?_
      refine s_aload (q := 628) C rfl rfl at_626 rfl ?_
      refine s_aload (q := 630) C rfl rfl at_628 rfl ?_
      refine s_iload (q := 632) C rfl at_630 rfl ?_
      refine s_bipush (q := 634) (v := (10 : Int32)) C (by rfl) at_632 rfl ?_
      refine s_callS1 (q := 637) (argsL := [(.ref r), (.ref o289), (.int (Int32.ofNat (((([(78 : Int32), (101 : Int32), (119 : Int32), (75 : Int32), (101 : Int32), (121 : Int32), (91 : Int32), (116 : Int32), (101 : Int32), (110 : Int32), (97 : Int32), (110 : Int32), (116 : Int32), (61 : Int32)] ++ [c0, c1, c2]) ++ [(44 : Int32), (32 : Int32), (107 : Int32), (101 : Int32), (121 : Int32), (73 : Int32), (100 : Int32), (61 : Int32)]) ++ own_istr nb) ++ [(93 : Int32)]).length)), (.int (10 : Int32))]) (S := []) (W := 0) (cells' := 26) (slots' := 623) C (G.1 _ (List.mem_of_getElem? (i := 271) rfl)) (G.1 _ (List.mem_of_getElem? (i := 272) rfl)) (G.1 _ (List.mem_of_getElem? (i := 2) rfl)) (G.1 _ (List.mem_of_getElem? (i := 273) rfl)) (by decide) (rm_atc G O r o289 _ _ 10 T VE (by decide) (hE 10 (by decide))) rfl (lenOf pd_40 rfl) rfl (by decide) (own_leb rfl) (by decide) rfl rfl (by decide) (by decide) (wl := []) (fun _ _ q => by rw [q.1]; exact Keep.refl _ _) all0 at_634 rfl ?_
      rintro _ h446 ⟨eh447, rfl⟩
      rw [eh447]
      show AtS p l e _ s m _ below meth c Z _ _ n0 _ _ _ h423 26 623 (mkF m 637 #[.val (.int i0), .val (.int i1), .val (.int i2), .val (.int nb), .val (.int ky), .val (.int c0), .val (.int c1), .val (.int c2), .val (.ref o252), .val (.ref o269), .val (.ref r), .val (.long (nb.toInt64)), .second, .val (.int (Int32.ofNat (own_sg nb))), .val (.long mm), .second, .val (.int (Int32.ofNat (SBG.digits (own_mag nb)))), .val (.int (Int32.ofNat (((([(78 : Int32), (101 : Int32), (119 : Int32), (75 : Int32), (101 : Int32), (121 : Int32), (91 : Int32), (116 : Int32), (101 : Int32), (110 : Int32), (97 : Int32), (110 : Int32), (116 : Int32), (61 : Int32)] ++ [c0, c1, c2]) ++ [(44 : Int32), (32 : Int32), (107 : Int32), (101 : Int32), (121 : Int32), (73 : Int32), (100 : Int32), (61 : Int32)]) ++ own_istr nb) ++ [(93 : Int32)]).length)), .val (.ref o289)] [(.int (1 : Int32))])
      refine s_if_eq_f (q := 640) C at_637 rfl (by decide) ?_
      refine s_aload (q := 642) C rfl rfl at_640 rfl ?_
      refine s_aload (q := 644) C rfl rfl at_642 rfl ?_
      refine s_iload (q := 646) C rfl at_644 rfl ?_
      refine s_bipush (q := 648) (v := (11 : Int32)) C (by rfl) at_646 rfl ?_
      refine s_callS1 (q := 651) (argsL := [(.ref r), (.ref o289), (.int (Int32.ofNat (((([(78 : Int32), (101 : Int32), (119 : Int32), (75 : Int32), (101 : Int32), (121 : Int32), (91 : Int32), (116 : Int32), (101 : Int32), (110 : Int32), (97 : Int32), (110 : Int32), (116 : Int32), (61 : Int32)] ++ [c0, c1, c2]) ++ [(44 : Int32), (32 : Int32), (107 : Int32), (101 : Int32), (121 : Int32), (73 : Int32), (100 : Int32), (61 : Int32)]) ++ own_istr nb) ++ [(93 : Int32)]).length)), (.int (11 : Int32))]) (S := []) (W := 0) (cells' := 26) (slots' := 623) C (G.1 _ (List.mem_of_getElem? (i := 271) rfl)) (G.1 _ (List.mem_of_getElem? (i := 272) rfl)) (G.1 _ (List.mem_of_getElem? (i := 2) rfl)) (G.1 _ (List.mem_of_getElem? (i := 273) rfl)) (by decide) (rm_atc G O r o289 _ _ 11 T VE (by decide) (hE 11 (by decide))) rfl (lenOf pd_40 rfl) rfl (by decide) (own_leb rfl) (by decide) rfl rfl (by decide) (by decide) (wl := []) (fun _ _ q => by rw [q.1]; exact Keep.refl _ _) all0 at_648 rfl ?_
      rintro _ h448 ⟨eh449, rfl⟩
      rw [eh449]
      show AtS p l e _ s m _ below meth c Z _ _ n0 _ _ _ h423 26 623 (mkF m 651 #[.val (.int i0), .val (.int i1), .val (.int i2), .val (.int nb), .val (.int ky), .val (.int c0), .val (.int c1), .val (.int c2), .val (.ref o252), .val (.ref o269), .val (.ref r), .val (.long (nb.toInt64)), .second, .val (.int (Int32.ofNat (own_sg nb))), .val (.long mm), .second, .val (.int (Int32.ofNat (SBG.digits (own_mag nb)))), .val (.int (Int32.ofNat (((([(78 : Int32), (101 : Int32), (119 : Int32), (75 : Int32), (101 : Int32), (121 : Int32), (91 : Int32), (116 : Int32), (101 : Int32), (110 : Int32), (97 : Int32), (110 : Int32), (116 : Int32), (61 : Int32)] ++ [c0, c1, c2]) ++ [(44 : Int32), (32 : Int32), (107 : Int32), (101 : Int32), (121 : Int32), (73 : Int32), (100 : Int32), (61 : Int32)]) ++ own_istr nb) ++ [(93 : Int32)]).length)), .val (.ref o289)] [(.int (1 : Int32))])
      refine s_if_eq_f (q := 654) C at_651 rfl (by decide) ?_
      refine s_aload (q := 656) C rfl rfl at_654 rfl ?_
      refine s_aload (q := 658) C rfl rfl at_656 rfl ?_
      refine s_iload (q := 660) C rfl at_658 rfl ?_
      refine s_bipush (q := 662) (v := (12 : Int32)) C (by rfl) at_660 rfl ?_
      refine s_callS1 (q := 665) (argsL := [(.ref r), (.ref o289), (.int (Int32.ofNat (((([(78 : Int32), (101 : Int32), (119 : Int32), (75 : Int32), (101 : Int32), (121 : Int32), (91 : Int32), (116 : Int32), (101 : Int32), (110 : Int32), (97 : Int32), (110 : Int32), (116 : Int32), (61 : Int32)] ++ [c0, c1, c2]) ++ [(44 : Int32), (32 : Int32), (107 : Int32), (101 : Int32), (121 : Int32), (73 : Int32), (100 : Int32), (61 : Int32)]) ++ own_istr nb) ++ [(93 : Int32)]).length)), (.int (12 : Int32))]) (S := []) (W := 0) (cells' := 26) (slots' := 623) C (G.1 _ (List.mem_of_getElem? (i := 271) rfl)) (G.1 _ (List.mem_of_getElem? (i := 272) rfl)) (G.1 _ (List.mem_of_getElem? (i := 2) rfl)) (G.1 _ (List.mem_of_getElem? (i := 273) rfl)) (by decide) (rm_atc G O r o289 _ _ 12 T VE (by decide) (hE 12 (by decide))) rfl (lenOf pd_40 rfl) rfl (by decide) (own_leb rfl) (by decide) rfl rfl (by decide) (by decide) (wl := []) (fun _ _ q => by rw [q.1]; exact Keep.refl _ _) all0 at_662 rfl ?_
      rintro _ h450 ⟨eh451, rfl⟩
      rw [eh451]
      show AtS p l e _ s m _ below meth c Z _ _ n0 _ _ _ h423 26 623 (mkF m 665 #[.val (.int i0), .val (.int i1), .val (.int i2), .val (.int nb), .val (.int ky), .val (.int c0), .val (.int c1), .val (.int c2), .val (.ref o252), .val (.ref o269), .val (.ref r), .val (.long (nb.toInt64)), .second, .val (.int (Int32.ofNat (own_sg nb))), .val (.long mm), .second, .val (.int (Int32.ofNat (SBG.digits (own_mag nb)))), .val (.int (Int32.ofNat (((([(78 : Int32), (101 : Int32), (119 : Int32), (75 : Int32), (101 : Int32), (121 : Int32), (91 : Int32), (116 : Int32), (101 : Int32), (110 : Int32), (97 : Int32), (110 : Int32), (116 : Int32), (61 : Int32)] ++ [c0, c1, c2]) ++ [(44 : Int32), (32 : Int32), (107 : Int32), (101 : Int32), (121 : Int32), (73 : Int32), (100 : Int32), (61 : Int32)]) ++ own_istr nb) ++ [(93 : Int32)]).length)), .val (.ref o289)] [(.int (1 : Int32))])
      refine s_if_eq_f (q := 668) C at_665 rfl (by decide) ?_
      refine s_aload (q := 670) C rfl rfl at_668 rfl ?_
      refine s_aload (q := 672) C rfl rfl at_670 rfl ?_
      refine s_iload (q := 674) C rfl at_672 rfl ?_
      refine s_bipush (q := 676) (v := (13 : Int32)) C (by rfl) at_674 rfl ?_
      refine s_callS1 (q := 679) (argsL := [(.ref r), (.ref o289), (.int (Int32.ofNat (((([(78 : Int32), (101 : Int32), (119 : Int32), (75 : Int32), (101 : Int32), (121 : Int32), (91 : Int32), (116 : Int32), (101 : Int32), (110 : Int32), (97 : Int32), (110 : Int32), (116 : Int32), (61 : Int32)] ++ [c0, c1, c2]) ++ [(44 : Int32), (32 : Int32), (107 : Int32), (101 : Int32), (121 : Int32), (73 : Int32), (100 : Int32), (61 : Int32)]) ++ own_istr nb) ++ [(93 : Int32)]).length)), (.int (13 : Int32))]) (S := []) (W := 0) (cells' := 26) (slots' := 623) C (G.1 _ (List.mem_of_getElem? (i := 271) rfl)) (G.1 _ (List.mem_of_getElem? (i := 272) rfl)) (G.1 _ (List.mem_of_getElem? (i := 2) rfl)) (G.1 _ (List.mem_of_getElem? (i := 273) rfl)) (by decide) (rm_atc G O r o289 _ _ 13 T VE (by decide) (hE 13 (by decide))) rfl (lenOf pd_40 rfl) rfl (by decide) (own_leb rfl) (by decide) rfl rfl (by decide) (by decide) (wl := []) (fun _ _ q => by rw [q.1]; exact Keep.refl _ _) all0 at_676 rfl ?_
      rintro _ h452 ⟨eh453, rfl⟩
      rw [eh453]
      show AtS p l e _ s m _ below meth c Z _ _ n0 _ _ _ h423 26 623 (mkF m 679 #[.val (.int i0), .val (.int i1), .val (.int i2), .val (.int nb), .val (.int ky), .val (.int c0), .val (.int c1), .val (.int c2), .val (.ref o252), .val (.ref o269), .val (.ref r), .val (.long (nb.toInt64)), .second, .val (.int (Int32.ofNat (own_sg nb))), .val (.long mm), .second, .val (.int (Int32.ofNat (SBG.digits (own_mag nb)))), .val (.int (Int32.ofNat (((([(78 : Int32), (101 : Int32), (119 : Int32), (75 : Int32), (101 : Int32), (121 : Int32), (91 : Int32), (116 : Int32), (101 : Int32), (110 : Int32), (97 : Int32), (110 : Int32), (116 : Int32), (61 : Int32)] ++ [c0, c1, c2]) ++ [(44 : Int32), (32 : Int32), (107 : Int32), (101 : Int32), (121 : Int32), (73 : Int32), (100 : Int32), (61 : Int32)]) ++ own_istr nb) ++ [(93 : Int32)]).length)), .val (.ref o289)] [(.int (1 : Int32))])
      refine s_if_eq_f (q := 682) C at_679 rfl (by decide) ?_
      refine s_aload (q := 684) C rfl rfl at_682 rfl ?_
      refine s_aload (q := 686) C rfl rfl at_684 rfl ?_
      refine s_iload (q := 688) C rfl at_686 rfl ?_
      refine s_bipush (q := 690) (v := (14 : Int32)) C (by rfl) at_688 rfl ?_
      refine s_callS1 (q := 693) (argsL := [(.ref r), (.ref o289), (.int (Int32.ofNat (((([(78 : Int32), (101 : Int32), (119 : Int32), (75 : Int32), (101 : Int32), (121 : Int32), (91 : Int32), (116 : Int32), (101 : Int32), (110 : Int32), (97 : Int32), (110 : Int32), (116 : Int32), (61 : Int32)] ++ [c0, c1, c2]) ++ [(44 : Int32), (32 : Int32), (107 : Int32), (101 : Int32), (121 : Int32), (73 : Int32), (100 : Int32), (61 : Int32)]) ++ own_istr nb) ++ [(93 : Int32)]).length)), (.int (14 : Int32))]) (S := []) (W := 0) (cells' := 26) (slots' := 623) C (G.1 _ (List.mem_of_getElem? (i := 271) rfl)) (G.1 _ (List.mem_of_getElem? (i := 272) rfl)) (G.1 _ (List.mem_of_getElem? (i := 2) rfl)) (G.1 _ (List.mem_of_getElem? (i := 273) rfl)) (by decide) (rm_atc G O r o289 _ _ 14 T VE (by decide) (hE 14 (by decide))) rfl (lenOf pd_40 rfl) rfl (by decide) (own_leb rfl) (by decide) rfl rfl (by decide) (by decide) (wl := []) (fun _ _ q => by rw [q.1]; exact Keep.refl _ _) all0 at_690 rfl ?_
      rintro _ h454 ⟨eh455, rfl⟩
      rw [eh455]
      show AtS p l e _ s m _ below meth c Z _ _ n0 _ _ _ h423 26 623 (mkF m 693 #[.val (.int i0), .val (.int i1), .val (.int i2), .val (.int nb), .val (.int ky), .val (.int c0), .val (.int c1), .val (.int c2), .val (.ref o252), .val (.ref o269), .val (.ref r), .val (.long (nb.toInt64)), .second, .val (.int (Int32.ofNat (own_sg nb))), .val (.long mm), .second, .val (.int (Int32.ofNat (SBG.digits (own_mag nb)))), .val (.int (Int32.ofNat (((([(78 : Int32), (101 : Int32), (119 : Int32), (75 : Int32), (101 : Int32), (121 : Int32), (91 : Int32), (116 : Int32), (101 : Int32), (110 : Int32), (97 : Int32), (110 : Int32), (116 : Int32), (61 : Int32)] ++ [c0, c1, c2]) ++ [(44 : Int32), (32 : Int32), (107 : Int32), (101 : Int32), (121 : Int32), (73 : Int32), (100 : Int32), (61 : Int32)]) ++ own_istr nb) ++ [(93 : Int32)]).length)), .val (.ref o289)] [(.int (1 : Int32))])
      refine s_if_eq_f (q := 696) C at_693 rfl (by decide) ?_
      refine s_aload (q := 698) C rfl rfl at_696 rfl ?_
      refine s_aload (q := 700) C rfl rfl at_698 rfl ?_
      refine s_iload (q := 702) C rfl at_700 rfl ?_
      refine s_bipush (q := 704) (v := (15 : Int32)) C (by rfl) at_702 rfl ?_
      refine s_callS1 (q := 707) (argsL := [(.ref r), (.ref o289), (.int (Int32.ofNat (((([(78 : Int32), (101 : Int32), (119 : Int32), (75 : Int32), (101 : Int32), (121 : Int32), (91 : Int32), (116 : Int32), (101 : Int32), (110 : Int32), (97 : Int32), (110 : Int32), (116 : Int32), (61 : Int32)] ++ [c0, c1, c2]) ++ [(44 : Int32), (32 : Int32), (107 : Int32), (101 : Int32), (121 : Int32), (73 : Int32), (100 : Int32), (61 : Int32)]) ++ own_istr nb) ++ [(93 : Int32)]).length)), (.int (15 : Int32))]) (S := []) (W := 0) (cells' := 26) (slots' := 623) C (G.1 _ (List.mem_of_getElem? (i := 271) rfl)) (G.1 _ (List.mem_of_getElem? (i := 272) rfl)) (G.1 _ (List.mem_of_getElem? (i := 2) rfl)) (G.1 _ (List.mem_of_getElem? (i := 273) rfl)) (by decide) (rm_atc G O r o289 _ _ 15 T VE (by decide) (hE 15 (by decide))) rfl (lenOf pd_40 rfl) rfl (by decide) (own_leb rfl) (by decide) rfl rfl (by decide) (by decide) (wl := []) (fun _ _ q => by rw [q.1]; exact Keep.refl _ _) all0 at_704 rfl ?_
      rintro _ h456 ⟨eh457, rfl⟩
      rw [eh457]
      show AtS p l e _ s m _ below meth c Z _ _ n0 _ _ _ h423 26 623 (mkF m 707 #[.val (.int i0), .val (.int i1), .val (.int i2), .val (.int nb), .val (.int ky), .val (.int c0), .val (.int c1), .val (.int c2), .val (.ref o252), .val (.ref o269), .val (.ref r), .val (.long (nb.toInt64)), .second, .val (.int (Int32.ofNat (own_sg nb))), .val (.long mm), .second, .val (.int (Int32.ofNat (SBG.digits (own_mag nb)))), .val (.int (Int32.ofNat (((([(78 : Int32), (101 : Int32), (119 : Int32), (75 : Int32), (101 : Int32), (121 : Int32), (91 : Int32), (116 : Int32), (101 : Int32), (110 : Int32), (97 : Int32), (110 : Int32), (116 : Int32), (61 : Int32)] ++ [c0, c1, c2]) ++ [(44 : Int32), (32 : Int32), (107 : Int32), (101 : Int32), (121 : Int32), (73 : Int32), (100 : Int32), (61 : Int32)]) ++ own_istr nb) ++ [(93 : Int32)]).length)), .val (.ref o289)] [(.int (1 : Int32))])
      refine s_if_eq_f (q := 710) C at_707 rfl (by decide) ?_
      refine s_aload (q := 712) C rfl rfl at_710 rfl ?_
      refine s_aload (q := 714) C rfl rfl at_712 rfl ?_
      refine s_iload (q := 716) C rfl at_714 rfl ?_
      refine s_bipush (q := 718) (v := (16 : Int32)) C (by rfl) at_716 rfl ?_
      refine s_callS1 (q := 721) (argsL := [(.ref r), (.ref o289), (.int (Int32.ofNat (((([(78 : Int32), (101 : Int32), (119 : Int32), (75 : Int32), (101 : Int32), (121 : Int32), (91 : Int32), (116 : Int32), (101 : Int32), (110 : Int32), (97 : Int32), (110 : Int32), (116 : Int32), (61 : Int32)] ++ [c0, c1, c2]) ++ [(44 : Int32), (32 : Int32), (107 : Int32), (101 : Int32), (121 : Int32), (73 : Int32), (100 : Int32), (61 : Int32)]) ++ own_istr nb) ++ [(93 : Int32)]).length)), (.int (16 : Int32))]) (S := []) (W := 0) (cells' := 26) (slots' := 623) C (G.1 _ (List.mem_of_getElem? (i := 271) rfl)) (G.1 _ (List.mem_of_getElem? (i := 272) rfl)) (G.1 _ (List.mem_of_getElem? (i := 2) rfl)) (G.1 _ (List.mem_of_getElem? (i := 273) rfl)) (by decide) (rm_atc G O r o289 _ _ 16 T VE (by decide) (hE 16 (by decide))) rfl (lenOf pd_40 rfl) rfl (by decide) (own_leb rfl) (by decide) rfl rfl (by decide) (by decide) (wl := []) (fun _ _ q => by rw [q.1]; exact Keep.refl _ _) all0 at_718 rfl ?_
      rintro _ h458 ⟨eh459, rfl⟩
      rw [eh459]
      show AtS p l e _ s m _ below meth c Z _ _ n0 _ _ _ h423 26 623 (mkF m 721 #[.val (.int i0), .val (.int i1), .val (.int i2), .val (.int nb), .val (.int ky), .val (.int c0), .val (.int c1), .val (.int c2), .val (.ref o252), .val (.ref o269), .val (.ref r), .val (.long (nb.toInt64)), .second, .val (.int (Int32.ofNat (own_sg nb))), .val (.long mm), .second, .val (.int (Int32.ofNat (SBG.digits (own_mag nb)))), .val (.int (Int32.ofNat (((([(78 : Int32), (101 : Int32), (119 : Int32), (75 : Int32), (101 : Int32), (121 : Int32), (91 : Int32), (116 : Int32), (101 : Int32), (110 : Int32), (97 : Int32), (110 : Int32), (116 : Int32), (61 : Int32)] ++ [c0, c1, c2]) ++ [(44 : Int32), (32 : Int32), (107 : Int32), (101 : Int32), (121 : Int32), (73 : Int32), (100 : Int32), (61 : Int32)]) ++ own_istr nb) ++ [(93 : Int32)]).length)), .val (.ref o289)] [(.int (1 : Int32))])
      refine s_if_eq_f (q := 724) C at_721 rfl (by decide) ?_
      refine s_aload (q := 726) C rfl rfl at_724 rfl ?_
      refine s_aload (q := 728) C rfl rfl at_726 rfl ?_
      refine s_iload (q := 730) C rfl at_728 rfl ?_
      refine s_bipush (q := 732) (v := (17 : Int32)) C (by rfl) at_730 rfl ?_
      refine s_callS1 (q := 735) (argsL := [(.ref r), (.ref o289), (.int (Int32.ofNat (((([(78 : Int32), (101 : Int32), (119 : Int32), (75 : Int32), (101 : Int32), (121 : Int32), (91 : Int32), (116 : Int32), (101 : Int32), (110 : Int32), (97 : Int32), (110 : Int32), (116 : Int32), (61 : Int32)] ++ [c0, c1, c2]) ++ [(44 : Int32), (32 : Int32), (107 : Int32), (101 : Int32), (121 : Int32), (73 : Int32), (100 : Int32), (61 : Int32)]) ++ own_istr nb) ++ [(93 : Int32)]).length)), (.int (17 : Int32))]) (S := []) (W := 0) (cells' := 26) (slots' := 623) C (G.1 _ (List.mem_of_getElem? (i := 271) rfl)) (G.1 _ (List.mem_of_getElem? (i := 272) rfl)) (G.1 _ (List.mem_of_getElem? (i := 2) rfl)) (G.1 _ (List.mem_of_getElem? (i := 273) rfl)) (by decide) (rm_atc G O r o289 _ _ 17 T VE (by decide) (hE 17 (by decide))) rfl (lenOf pd_40 rfl) rfl (by decide) (own_leb rfl) (by decide) rfl rfl (by decide) (by decide) (wl := []) (fun _ _ q => by rw [q.1]; exact Keep.refl _ _) all0 at_732 rfl ?_
      rintro _ h460 ⟨eh461, rfl⟩
      rw [eh461]
      show AtS p l e _ s m _ below meth c Z _ _ n0 _ _ _ h423 26 623 (mkF m 735 #[.val (.int i0), .val (.int i1), .val (.int i2), .val (.int nb), .val (.int ky), .val (.int c0), .val (.int c1), .val (.int c2), .val (.ref o252), .val (.ref o269), .val (.ref r), .val (.long (nb.toInt64)), .second, .val (.int (Int32.ofNat (own_sg nb))), .val (.long mm), .second, .val (.int (Int32.ofNat (SBG.digits (own_mag nb)))), .val (.int (Int32.ofNat (((([(78 : Int32), (101 : Int32), (119 : Int32), (75 : Int32), (101 : Int32), (121 : Int32), (91 : Int32), (116 : Int32), (101 : Int32), (110 : Int32), (97 : Int32), (110 : Int32), (116 : Int32), (61 : Int32)] ++ [c0, c1, c2]) ++ [(44 : Int32), (32 : Int32), (107 : Int32), (101 : Int32), (121 : Int32), (73 : Int32), (100 : Int32), (61 : Int32)]) ++ own_istr nb) ++ [(93 : Int32)]).length)), .val (.ref o289)] [(.int (1 : Int32))])
      refine s_if_eq_f (q := 738) C at_735 rfl (by decide) ?_
      refine s_aload (q := 740) C rfl rfl at_738 rfl ?_
      refine s_aload (q := 742) C rfl rfl at_740 rfl ?_
      refine s_iload (q := 744) C rfl at_742 rfl ?_
      refine s_bipush (q := 746) (v := (18 : Int32)) C (by rfl) at_744 rfl ?_
      refine s_callS1 (q := 749) (argsL := [(.ref r), (.ref o289), (.int (Int32.ofNat (((([(78 : Int32), (101 : Int32), (119 : Int32), (75 : Int32), (101 : Int32), (121 : Int32), (91 : Int32), (116 : Int32), (101 : Int32), (110 : Int32), (97 : Int32), (110 : Int32), (116 : Int32), (61 : Int32)] ++ [c0, c1, c2]) ++ [(44 : Int32), (32 : Int32), (107 : Int32), (101 : Int32), (121 : Int32), (73 : Int32), (100 : Int32), (61 : Int32)]) ++ own_istr nb) ++ [(93 : Int32)]).length)), (.int (18 : Int32))]) (S := []) (W := 0) (cells' := 26) (slots' := 623) C (G.1 _ (List.mem_of_getElem? (i := 271) rfl)) (G.1 _ (List.mem_of_getElem? (i := 272) rfl)) (G.1 _ (List.mem_of_getElem? (i := 2) rfl)) (G.1 _ (List.mem_of_getElem? (i := 273) rfl)) (by decide) (rm_atc G O r o289 _ _ 18 T VE (by decide) (hE 18 (by decide))) rfl (lenOf pd_40 rfl) rfl (by decide) (own_leb rfl) (by decide) rfl rfl (by decide) (by decide) (wl := []) (fun _ _ q => by rw [q.1]; exact Keep.refl _ _) all0 at_746 rfl ?_
      rintro _ h462 ⟨eh463, rfl⟩
      rw [eh463]
      show AtS p l e _ s m _ below meth c Z _ _ n0 _ _ _ h423 26 623 (mkF m 749 #[.val (.int i0), .val (.int i1), .val (.int i2), .val (.int nb), .val (.int ky), .val (.int c0), .val (.int c1), .val (.int c2), .val (.ref o252), .val (.ref o269), .val (.ref r), .val (.long (nb.toInt64)), .second, .val (.int (Int32.ofNat (own_sg nb))), .val (.long mm), .second, .val (.int (Int32.ofNat (SBG.digits (own_mag nb)))), .val (.int (Int32.ofNat (((([(78 : Int32), (101 : Int32), (119 : Int32), (75 : Int32), (101 : Int32), (121 : Int32), (91 : Int32), (116 : Int32), (101 : Int32), (110 : Int32), (97 : Int32), (110 : Int32), (116 : Int32), (61 : Int32)] ++ [c0, c1, c2]) ++ [(44 : Int32), (32 : Int32), (107 : Int32), (101 : Int32), (121 : Int32), (73 : Int32), (100 : Int32), (61 : Int32)]) ++ own_istr nb) ++ [(93 : Int32)]).length)), .val (.ref o289)] [(.int (1 : Int32))])
      refine s_if_eq_f (q := 752) C at_749 rfl (by decide) ?_
      refine s_aload (q := 754) C rfl rfl at_752 rfl ?_
      refine s_aload (q := 756) C rfl rfl at_754 rfl ?_
      refine s_iload (q := 758) C rfl at_756 rfl ?_
      refine s_bipush (q := 760) (v := (19 : Int32)) C (by rfl) at_758 rfl ?_
      refine s_callS1 (q := 763) (argsL := [(.ref r), (.ref o289), (.int (Int32.ofNat (((([(78 : Int32), (101 : Int32), (119 : Int32), (75 : Int32), (101 : Int32), (121 : Int32), (91 : Int32), (116 : Int32), (101 : Int32), (110 : Int32), (97 : Int32), (110 : Int32), (116 : Int32), (61 : Int32)] ++ [c0, c1, c2]) ++ [(44 : Int32), (32 : Int32), (107 : Int32), (101 : Int32), (121 : Int32), (73 : Int32), (100 : Int32), (61 : Int32)]) ++ own_istr nb) ++ [(93 : Int32)]).length)), (.int (19 : Int32))]) (S := []) (W := 0) (cells' := 26) (slots' := 623) C (G.1 _ (List.mem_of_getElem? (i := 271) rfl)) (G.1 _ (List.mem_of_getElem? (i := 272) rfl)) (G.1 _ (List.mem_of_getElem? (i := 2) rfl)) (G.1 _ (List.mem_of_getElem? (i := 273) rfl)) (by decide) (rm_atc G O r o289 _ _ 19 T VE (by decide) (hE 19 (by decide))) rfl (lenOf pd_40 rfl) rfl (by decide) (own_leb rfl) (by decide) rfl rfl (by decide) (by decide) (wl := []) (fun _ _ q => by rw [q.1]; exact Keep.refl _ _) all0 at_760 rfl ?_
      rintro _ h464 ⟨eh465, rfl⟩
      rw [eh465]
      show AtS p l e _ s m _ below meth c Z _ _ n0 _ _ _ h423 26 623 (mkF m 763 #[.val (.int i0), .val (.int i1), .val (.int i2), .val (.int nb), .val (.int ky), .val (.int c0), .val (.int c1), .val (.int c2), .val (.ref o252), .val (.ref o269), .val (.ref r), .val (.long (nb.toInt64)), .second, .val (.int (Int32.ofNat (own_sg nb))), .val (.long mm), .second, .val (.int (Int32.ofNat (SBG.digits (own_mag nb)))), .val (.int (Int32.ofNat (((([(78 : Int32), (101 : Int32), (119 : Int32), (75 : Int32), (101 : Int32), (121 : Int32), (91 : Int32), (116 : Int32), (101 : Int32), (110 : Int32), (97 : Int32), (110 : Int32), (116 : Int32), (61 : Int32)] ++ [c0, c1, c2]) ++ [(44 : Int32), (32 : Int32), (107 : Int32), (101 : Int32), (121 : Int32), (73 : Int32), (100 : Int32), (61 : Int32)]) ++ own_istr nb) ++ [(93 : Int32)]).length)), .val (.ref o289)] [(.int (1 : Int32))])
      refine s_if_eq_f (q := 766) C at_763 rfl (by decide) ?_
      refine s_aload (q := 768) C rfl rfl at_766 rfl ?_
      refine s_aload (q := 770) C rfl rfl at_768 rfl ?_
      refine s_iload (q := 772) C rfl at_770 rfl ?_
      refine s_bipush (q := 774) (v := (20 : Int32)) C (by rfl) at_772 rfl ?_
      refine s_callS1 (q := 777) (argsL := [(.ref r), (.ref o289), (.int (Int32.ofNat (((([(78 : Int32), (101 : Int32), (119 : Int32), (75 : Int32), (101 : Int32), (121 : Int32), (91 : Int32), (116 : Int32), (101 : Int32), (110 : Int32), (97 : Int32), (110 : Int32), (116 : Int32), (61 : Int32)] ++ [c0, c1, c2]) ++ [(44 : Int32), (32 : Int32), (107 : Int32), (101 : Int32), (121 : Int32), (73 : Int32), (100 : Int32), (61 : Int32)]) ++ own_istr nb) ++ [(93 : Int32)]).length)), (.int (20 : Int32))]) (S := []) (W := 0) (cells' := 26) (slots' := 623) C (G.1 _ (List.mem_of_getElem? (i := 271) rfl)) (G.1 _ (List.mem_of_getElem? (i := 272) rfl)) (G.1 _ (List.mem_of_getElem? (i := 2) rfl)) (G.1 _ (List.mem_of_getElem? (i := 273) rfl)) (by decide) (rm_atc G O r o289 _ _ 20 T VE (by decide) (hE 20 (by decide))) rfl (lenOf pd_40 rfl) rfl (by decide) (own_leb rfl) (by decide) rfl rfl (by decide) (by decide) (wl := []) (fun _ _ q => by rw [q.1]; exact Keep.refl _ _) all0 at_774 rfl ?_
      rintro _ h466 ⟨eh467, rfl⟩
      rw [eh467]
      show AtS p l e _ s m _ below meth c Z _ _ n0 _ _ _ h423 26 623 (mkF m 777 #[.val (.int i0), .val (.int i1), .val (.int i2), .val (.int nb), .val (.int ky), .val (.int c0), .val (.int c1), .val (.int c2), .val (.ref o252), .val (.ref o269), .val (.ref r), .val (.long (nb.toInt64)), .second, .val (.int (Int32.ofNat (own_sg nb))), .val (.long mm), .second, .val (.int (Int32.ofNat (SBG.digits (own_mag nb)))), .val (.int (Int32.ofNat (((([(78 : Int32), (101 : Int32), (119 : Int32), (75 : Int32), (101 : Int32), (121 : Int32), (91 : Int32), (116 : Int32), (101 : Int32), (110 : Int32), (97 : Int32), (110 : Int32), (116 : Int32), (61 : Int32)] ++ [c0, c1, c2]) ++ [(44 : Int32), (32 : Int32), (107 : Int32), (101 : Int32), (121 : Int32), (73 : Int32), (100 : Int32), (61 : Int32)]) ++ own_istr nb) ++ [(93 : Int32)]).length)), .val (.ref o289)] [(.int (1 : Int32))])
      refine s_if_eq_f (q := 780) C at_777 rfl (by decide) ?_
      refine s_aload (q := 782) C rfl rfl at_780 rfl ?_
      refine s_aload (q := 784) C rfl rfl at_782 rfl ?_
      refine s_iload (q := 786) C rfl at_784 rfl ?_
      refine s_bipush (q := 788) (v := (21 : Int32)) C (by rfl) at_786 rfl ?_
      refine s_callS1 (q := 791) (argsL := [(.ref r), (.ref o289), (.int (Int32.ofNat (((([(78 : Int32), (101 : Int32), (119 : Int32), (75 : Int32), (101 : Int32), (121 : Int32), (91 : Int32), (116 : Int32), (101 : Int32), (110 : Int32), (97 : Int32), (110 : Int32), (116 : Int32), (61 : Int32)] ++ [c0, c1, c2]) ++ [(44 : Int32), (32 : Int32), (107 : Int32), (101 : Int32), (121 : Int32), (73 : Int32), (100 : Int32), (61 : Int32)]) ++ own_istr nb) ++ [(93 : Int32)]).length)), (.int (21 : Int32))]) (S := []) (W := 0) (cells' := 26) (slots' := 623) C (G.1 _ (List.mem_of_getElem? (i := 271) rfl)) (G.1 _ (List.mem_of_getElem? (i := 272) rfl)) (G.1 _ (List.mem_of_getElem? (i := 2) rfl)) (G.1 _ (List.mem_of_getElem? (i := 273) rfl)) (by decide) (rm_atc G O r o289 _ _ 21 T VE (by decide) (hE 21 (by decide))) rfl (lenOf pd_40 rfl) rfl (by decide) (own_leb rfl) (by decide) rfl rfl (by decide) (by decide) (wl := []) (fun _ _ q => by rw [q.1]; exact Keep.refl _ _) all0 at_788 rfl ?_
      rintro _ h468 ⟨eh469, rfl⟩
      rw [eh469]
      show AtS p l e _ s m _ below meth c Z _ _ n0 _ _ _ h423 26 623 (mkF m 791 #[.val (.int i0), .val (.int i1), .val (.int i2), .val (.int nb), .val (.int ky), .val (.int c0), .val (.int c1), .val (.int c2), .val (.ref o252), .val (.ref o269), .val (.ref r), .val (.long (nb.toInt64)), .second, .val (.int (Int32.ofNat (own_sg nb))), .val (.long mm), .second, .val (.int (Int32.ofNat (SBG.digits (own_mag nb)))), .val (.int (Int32.ofNat (((([(78 : Int32), (101 : Int32), (119 : Int32), (75 : Int32), (101 : Int32), (121 : Int32), (91 : Int32), (116 : Int32), (101 : Int32), (110 : Int32), (97 : Int32), (110 : Int32), (116 : Int32), (61 : Int32)] ++ [c0, c1, c2]) ++ [(44 : Int32), (32 : Int32), (107 : Int32), (101 : Int32), (121 : Int32), (73 : Int32), (100 : Int32), (61 : Int32)]) ++ own_istr nb) ++ [(93 : Int32)]).length)), .val (.ref o289)] [(.int (1 : Int32))])
      refine s_if_eq_f (q := 794) C at_791 rfl (by decide) ?_
      refine s_aload (q := 796) C rfl rfl at_794 rfl ?_
      refine s_aload (q := 798) C rfl rfl at_796 rfl ?_
      refine s_iload (q := 800) C rfl at_798 rfl ?_
      refine s_bipush (q := 802) (v := (22 : Int32)) C (by rfl) at_800 rfl ?_
      refine s_callS1 (q := 805) (argsL := [(.ref r), (.ref o289), (.int (Int32.ofNat (((([(78 : Int32), (101 : Int32), (119 : Int32), (75 : Int32), (101 : Int32), (121 : Int32), (91 : Int32), (116 : Int32), (101 : Int32), (110 : Int32), (97 : Int32), (110 : Int32), (116 : Int32), (61 : Int32)] ++ [c0, c1, c2]) ++ [(44 : Int32), (32 : Int32), (107 : Int32), (101 : Int32), (121 : Int32), (73 : Int32), (100 : Int32), (61 : Int32)]) ++ own_istr nb) ++ [(93 : Int32)]).length)), (.int (22 : Int32))]) (S := []) (W := 0) (cells' := 26) (slots' := 623) C (G.1 _ (List.mem_of_getElem? (i := 271) rfl)) (G.1 _ (List.mem_of_getElem? (i := 272) rfl)) (G.1 _ (List.mem_of_getElem? (i := 2) rfl)) (G.1 _ (List.mem_of_getElem? (i := 273) rfl)) (by decide) (rm_atc G O r o289 _ _ 22 T VE (by decide) (hE 22 (by decide))) rfl (lenOf pd_40 rfl) rfl (by decide) (own_leb rfl) (by decide) rfl rfl (by decide) (by decide) (wl := []) (fun _ _ q => by rw [q.1]; exact Keep.refl _ _) all0 at_802 rfl ?_
      rintro _ h470 ⟨eh471, rfl⟩
      rw [eh471]
      show AtS p l e _ s m _ below meth c Z _ _ n0 _ _ _ h423 26 623 (mkF m 805 #[.val (.int i0), .val (.int i1), .val (.int i2), .val (.int nb), .val (.int ky), .val (.int c0), .val (.int c1), .val (.int c2), .val (.ref o252), .val (.ref o269), .val (.ref r), .val (.long (nb.toInt64)), .second, .val (.int (Int32.ofNat (own_sg nb))), .val (.long mm), .second, .val (.int (Int32.ofNat (SBG.digits (own_mag nb)))), .val (.int (Int32.ofNat (((([(78 : Int32), (101 : Int32), (119 : Int32), (75 : Int32), (101 : Int32), (121 : Int32), (91 : Int32), (116 : Int32), (101 : Int32), (110 : Int32), (97 : Int32), (110 : Int32), (116 : Int32), (61 : Int32)] ++ [c0, c1, c2]) ++ [(44 : Int32), (32 : Int32), (107 : Int32), (101 : Int32), (121 : Int32), (73 : Int32), (100 : Int32), (61 : Int32)]) ++ own_istr nb) ++ [(93 : Int32)]).length)), .val (.ref o289)] [(.int (1 : Int32))])
      refine s_if_eq_f (q := 808) C at_805 rfl (by decide) ?_
      refine s_aload (q := 810) C rfl rfl at_808 rfl ?_
      refine s_aload (q := 812) C rfl rfl at_810 rfl ?_
      refine s_iload (q := 814) C rfl at_812 rfl ?_
      refine s_bipush (q := 816) (v := (23 : Int32)) C (by rfl) at_814 rfl ?_
      refine s_callS1 (q := 819) (argsL := [(.ref r), (.ref o289), (.int (Int32.ofNat (((([(78 : Int32), (101 : Int32), (119 : Int32), (75 : Int32), (101 : Int32), (121 : Int32), (91 : Int32), (116 : Int32), (101 : Int32), (110 : Int32), (97 : Int32), (110 : Int32), (116 : Int32), (61 : Int32)] ++ [c0, c1, c2]) ++ [(44 : Int32), (32 : Int32), (107 : Int32), (101 : Int32), (121 : Int32), (73 : Int32), (100 : Int32), (61 : Int32)]) ++ own_istr nb) ++ [(93 : Int32)]).length)), (.int (23 : Int32))]) (S := []) (W := 0) (cells' := 26) (slots' := 623) C (G.1 _ (List.mem_of_getElem? (i := 271) rfl)) (G.1 _ (List.mem_of_getElem? (i := 272) rfl)) (G.1 _ (List.mem_of_getElem? (i := 2) rfl)) (G.1 _ (List.mem_of_getElem? (i := 273) rfl)) (by decide) (rm_atc G O r o289 _ _ 23 T VE (by decide) (hE 23 (by decide))) rfl (lenOf pd_40 rfl) rfl (by decide) (own_leb rfl) (by decide) rfl rfl (by decide) (by decide) (wl := []) (fun _ _ q => by rw [q.1]; exact Keep.refl _ _) all0 at_816 rfl ?_
      rintro _ h472 ⟨eh473, rfl⟩
      rw [eh473]
      show AtS p l e _ s m _ below meth c Z _ _ n0 _ _ _ h423 26 623 (mkF m 819 #[.val (.int i0), .val (.int i1), .val (.int i2), .val (.int nb), .val (.int ky), .val (.int c0), .val (.int c1), .val (.int c2), .val (.ref o252), .val (.ref o269), .val (.ref r), .val (.long (nb.toInt64)), .second, .val (.int (Int32.ofNat (own_sg nb))), .val (.long mm), .second, .val (.int (Int32.ofNat (SBG.digits (own_mag nb)))), .val (.int (Int32.ofNat (((([(78 : Int32), (101 : Int32), (119 : Int32), (75 : Int32), (101 : Int32), (121 : Int32), (91 : Int32), (116 : Int32), (101 : Int32), (110 : Int32), (97 : Int32), (110 : Int32), (116 : Int32), (61 : Int32)] ++ [c0, c1, c2]) ++ [(44 : Int32), (32 : Int32), (107 : Int32), (101 : Int32), (121 : Int32), (73 : Int32), (100 : Int32), (61 : Int32)]) ++ own_istr nb) ++ [(93 : Int32)]).length)), .val (.ref o289)] [(.int (1 : Int32))])
      refine s_if_eq_f (q := 822) C at_819 rfl (by decide) ?_
      refine s_aload (q := 824) C rfl rfl at_822 rfl ?_
      refine s_aload (q := 826) C rfl rfl at_824 rfl ?_
      refine s_iload (q := 828) C rfl at_826 rfl ?_
      refine s_bipush (q := 830) (v := (24 : Int32)) C (by rfl) at_828 rfl ?_
      refine s_callS1 (q := 833) (argsL := [(.ref r), (.ref o289), (.int (Int32.ofNat (((([(78 : Int32), (101 : Int32), (119 : Int32), (75 : Int32), (101 : Int32), (121 : Int32), (91 : Int32), (116 : Int32), (101 : Int32), (110 : Int32), (97 : Int32), (110 : Int32), (116 : Int32), (61 : Int32)] ++ [c0, c1, c2]) ++ [(44 : Int32), (32 : Int32), (107 : Int32), (101 : Int32), (121 : Int32), (73 : Int32), (100 : Int32), (61 : Int32)]) ++ own_istr nb) ++ [(93 : Int32)]).length)), (.int (24 : Int32))]) (S := []) (W := 0) (cells' := 26) (slots' := 623) C (G.1 _ (List.mem_of_getElem? (i := 271) rfl)) (G.1 _ (List.mem_of_getElem? (i := 272) rfl)) (G.1 _ (List.mem_of_getElem? (i := 2) rfl)) (G.1 _ (List.mem_of_getElem? (i := 273) rfl)) (by decide) (rm_atc G O r o289 _ _ 24 T VE (by decide) (hE 24 (by decide))) rfl (lenOf pd_40 rfl) rfl (by decide) (own_leb rfl) (by decide) rfl rfl (by decide) (by decide) (wl := []) (fun _ _ q => by rw [q.1]; exact Keep.refl _ _) all0 at_830 rfl ?_
      rintro _ h474 ⟨eh475, rfl⟩
      rw [eh475]
      show AtS p l e _ s m _ below meth c Z _ _ n0 _ _ _ h423 26 623 (mkF m 833 #[.val (.int i0), .val (.int i1), .val (.int i2), .val (.int nb), .val (.int ky), .val (.int c0), .val (.int c1), .val (.int c2), .val (.ref o252), .val (.ref o269), .val (.ref r), .val (.long (nb.toInt64)), .second, .val (.int (Int32.ofNat (own_sg nb))), .val (.long mm), .second, .val (.int (Int32.ofNat (SBG.digits (own_mag nb)))), .val (.int (Int32.ofNat (((([(78 : Int32), (101 : Int32), (119 : Int32), (75 : Int32), (101 : Int32), (121 : Int32), (91 : Int32), (116 : Int32), (101 : Int32), (110 : Int32), (97 : Int32), (110 : Int32), (116 : Int32), (61 : Int32)] ++ [c0, c1, c2]) ++ [(44 : Int32), (32 : Int32), (107 : Int32), (101 : Int32), (121 : Int32), (73 : Int32), (100 : Int32), (61 : Int32)]) ++ own_istr nb) ++ [(93 : Int32)]).length)), .val (.ref o289)] [(.int (1 : Int32))])
      refine s_if_eq_f (q := 836) C at_833 rfl (by decide) ?_
      refine s_aload (q := 838) C rfl rfl at_836 rfl ?_
      refine s_aload (q := 840) C rfl rfl at_838 rfl ?_
      refine s_iload (q := 842) C rfl at_840 rfl ?_
      refine s_bipush (q := 844) (v := (25 : Int32)) C (by rfl) at_842 rfl ?_
      refine s_callS1 (q := 847) (argsL := [(.ref r), (.ref o289), (.int (Int32.ofNat (((([(78 : Int32), (101 : Int32), (119 : Int32), (75 : Int32), (101 : Int32), (121 : Int32), (91 : Int32), (116 : Int32), (101 : Int32), (110 : Int32), (97 : Int32), (110 : Int32), (116 : Int32), (61 : Int32)] ++ [c0, c1, c2]) ++ [(44 : Int32), (32 : Int32), (107 : Int32), (101 : Int32), (121 : Int32), (73 : Int32), (100 : Int32), (61 : Int32)]) ++ own_istr nb) ++ [(93 : Int32)]).length)), (.int (25 : Int32))]) (S := []) (W := 0) (cells' := 26) (slots' := 623) C (G.1 _ (List.mem_of_getElem? (i := 271) rfl)) (G.1 _ (List.mem_of_getElem? (i := 272) rfl)) (G.1 _ (List.mem_of_getElem? (i := 2) rfl)) (G.1 _ (List.mem_of_getElem? (i := 273) rfl)) (by decide) (rm_atc G O r o289 _ _ 25 T VE (by decide) (hE 25 (by decide))) rfl (lenOf pd_40 rfl) rfl (by decide) (own_leb rfl) (by decide) rfl rfl (by decide) (by decide) (wl := []) (fun _ _ q => by rw [q.1]; exact Keep.refl _ _) all0 at_844 rfl ?_
      rintro _ h476 ⟨eh477, rfl⟩
      rw [eh477]
      show AtS p l e _ s m _ below meth c Z _ _ n0 _ _ _ h423 26 623 (mkF m 847 #[.val (.int i0), .val (.int i1), .val (.int i2), .val (.int nb), .val (.int ky), .val (.int c0), .val (.int c1), .val (.int c2), .val (.ref o252), .val (.ref o269), .val (.ref r), .val (.long (nb.toInt64)), .second, .val (.int (Int32.ofNat (own_sg nb))), .val (.long mm), .second, .val (.int (Int32.ofNat (SBG.digits (own_mag nb)))), .val (.int (Int32.ofNat (((([(78 : Int32), (101 : Int32), (119 : Int32), (75 : Int32), (101 : Int32), (121 : Int32), (91 : Int32), (116 : Int32), (101 : Int32), (110 : Int32), (97 : Int32), (110 : Int32), (116 : Int32), (61 : Int32)] ++ [c0, c1, c2]) ++ [(44 : Int32), (32 : Int32), (107 : Int32), (101 : Int32), (121 : Int32), (73 : Int32), (100 : Int32), (61 : Int32)]) ++ own_istr nb) ++ [(93 : Int32)]).length)), .val (.ref o289)] [(.int (1 : Int32))])
      refine s_if_eq_f (q := 850) C at_847 rfl (by decide) ?_
      refine s_aload (q := 852) C rfl rfl at_850 rfl ?_
      refine s_aload (q := 854) C rfl rfl at_852 rfl ?_
      refine s_iload (q := 856) C rfl at_854 rfl ?_
      refine s_bipush (q := 858) (v := (26 : Int32)) C (by rfl) at_856 rfl ?_
      refine s_callS1 (q := 861) (argsL := [(.ref r), (.ref o289), (.int (Int32.ofNat (((([(78 : Int32), (101 : Int32), (119 : Int32), (75 : Int32), (101 : Int32), (121 : Int32), (91 : Int32), (116 : Int32), (101 : Int32), (110 : Int32), (97 : Int32), (110 : Int32), (116 : Int32), (61 : Int32)] ++ [c0, c1, c2]) ++ [(44 : Int32), (32 : Int32), (107 : Int32), (101 : Int32), (121 : Int32), (73 : Int32), (100 : Int32), (61 : Int32)]) ++ own_istr nb) ++ [(93 : Int32)]).length)), (.int (26 : Int32))]) (S := []) (W := 0) (cells' := 26) (slots' := 623) C (G.1 _ (List.mem_of_getElem? (i := 271) rfl)) (G.1 _ (List.mem_of_getElem? (i := 272) rfl)) (G.1 _ (List.mem_of_getElem? (i := 2) rfl)) (G.1 _ (List.mem_of_getElem? (i := 273) rfl)) (by decide) (rm_atc G O r o289 _ _ 26 T VE (by decide) (hE 26 (by decide))) rfl (lenOf pd_40 rfl) rfl (by decide) (own_leb rfl) (by decide) rfl rfl (by decide) (by decide) (wl := []) (fun _ _ q => by rw [q.1]; exact Keep.refl _ _) all0 at_858 rfl ?_
      rintro _ h478 ⟨eh479, rfl⟩
      rw [eh479]
      show AtS p l e _ s m _ below meth c Z _ _ n0 _ _ _ h423 26 623 (mkF m 861 #[.val (.int i0), .val (.int i1), .val (.int i2), .val (.int nb), .val (.int ky), .val (.int c0), .val (.int c1), .val (.int c2), .val (.ref o252), .val (.ref o269), .val (.ref r), .val (.long (nb.toInt64)), .second, .val (.int (Int32.ofNat (own_sg nb))), .val (.long mm), .second, .val (.int (Int32.ofNat (SBG.digits (own_mag nb)))), .val (.int (Int32.ofNat (((([(78 : Int32), (101 : Int32), (119 : Int32), (75 : Int32), (101 : Int32), (121 : Int32), (91 : Int32), (116 : Int32), (101 : Int32), (110 : Int32), (97 : Int32), (110 : Int32), (116 : Int32), (61 : Int32)] ++ [c0, c1, c2]) ++ [(44 : Int32), (32 : Int32), (107 : Int32), (101 : Int32), (121 : Int32), (73 : Int32), (100 : Int32), (61 : Int32)]) ++ own_istr nb) ++ [(93 : Int32)]).length)), .val (.ref o289)] [(.int (1 : Int32))])
      refine s_if_eq_f (q := 864) C at_861 rfl (by decide) ?_
      refine s_aload (q := 866) C rfl rfl at_864 rfl ?_
      refine s_aload (q := 868) C rfl rfl at_866 rfl ?_
      refine s_iload (q := 870) C rfl at_868 rfl ?_
      refine s_bipush (q := 872) (v := (27 : Int32)) C (by rfl) at_870 rfl ?_
      refine s_callS1 (q := 875) (argsL := [(.ref r), (.ref o289), (.int (Int32.ofNat (((([(78 : Int32), (101 : Int32), (119 : Int32), (75 : Int32), (101 : Int32), (121 : Int32), (91 : Int32), (116 : Int32), (101 : Int32), (110 : Int32), (97 : Int32), (110 : Int32), (116 : Int32), (61 : Int32)] ++ [c0, c1, c2]) ++ [(44 : Int32), (32 : Int32), (107 : Int32), (101 : Int32), (121 : Int32), (73 : Int32), (100 : Int32), (61 : Int32)]) ++ own_istr nb) ++ [(93 : Int32)]).length)), (.int (27 : Int32))]) (S := []) (W := 0) (cells' := 26) (slots' := 623) C (G.1 _ (List.mem_of_getElem? (i := 271) rfl)) (G.1 _ (List.mem_of_getElem? (i := 272) rfl)) (G.1 _ (List.mem_of_getElem? (i := 2) rfl)) (G.1 _ (List.mem_of_getElem? (i := 273) rfl)) (by decide) (rm_atc G O r o289 _ _ 27 T VE (by decide) (hE 27 (by decide))) rfl (lenOf pd_40 rfl) rfl (by decide) (own_leb rfl) (by decide) rfl rfl (by decide) (by decide) (wl := []) (fun _ _ q => by rw [q.1]; exact Keep.refl _ _) all0 at_872 rfl ?_
      rintro _ h480 ⟨eh481, rfl⟩
      rw [eh481]
      show AtS p l e _ s m _ below meth c Z _ _ n0 _ _ _ h423 26 623 (mkF m 875 #[.val (.int i0), .val (.int i1), .val (.int i2), .val (.int nb), .val (.int ky), .val (.int c0), .val (.int c1), .val (.int c2), .val (.ref o252), .val (.ref o269), .val (.ref r), .val (.long (nb.toInt64)), .second, .val (.int (Int32.ofNat (own_sg nb))), .val (.long mm), .second, .val (.int (Int32.ofNat (SBG.digits (own_mag nb)))), .val (.int (Int32.ofNat (((([(78 : Int32), (101 : Int32), (119 : Int32), (75 : Int32), (101 : Int32), (121 : Int32), (91 : Int32), (116 : Int32), (101 : Int32), (110 : Int32), (97 : Int32), (110 : Int32), (116 : Int32), (61 : Int32)] ++ [c0, c1, c2]) ++ [(44 : Int32), (32 : Int32), (107 : Int32), (101 : Int32), (121 : Int32), (73 : Int32), (100 : Int32), (61 : Int32)]) ++ own_istr nb) ++ [(93 : Int32)]).length)), .val (.ref o289)] [(.int (1 : Int32))])
      refine s_if_eq_f (q := 878) C at_875 rfl (by decide) ?_
      refine s_aload (q := 880) C rfl rfl at_878 rfl ?_
      refine s_aload (q := 882) C rfl rfl at_880 rfl ?_
      refine s_iload (q := 884) C rfl at_882 rfl ?_
      refine s_bipush (q := 886) (v := (28 : Int32)) C (by rfl) at_884 rfl ?_
      refine s_callS1 (q := 889) (argsL := [(.ref r), (.ref o289), (.int (Int32.ofNat (((([(78 : Int32), (101 : Int32), (119 : Int32), (75 : Int32), (101 : Int32), (121 : Int32), (91 : Int32), (116 : Int32), (101 : Int32), (110 : Int32), (97 : Int32), (110 : Int32), (116 : Int32), (61 : Int32)] ++ [c0, c1, c2]) ++ [(44 : Int32), (32 : Int32), (107 : Int32), (101 : Int32), (121 : Int32), (73 : Int32), (100 : Int32), (61 : Int32)]) ++ own_istr nb) ++ [(93 : Int32)]).length)), (.int (28 : Int32))]) (S := []) (W := 0) (cells' := 26) (slots' := 623) C (G.1 _ (List.mem_of_getElem? (i := 271) rfl)) (G.1 _ (List.mem_of_getElem? (i := 272) rfl)) (G.1 _ (List.mem_of_getElem? (i := 2) rfl)) (G.1 _ (List.mem_of_getElem? (i := 273) rfl)) (by decide) (rm_atc G O r o289 _ _ 28 T VE (by decide) (hE 28 (by decide))) rfl (lenOf pd_40 rfl) rfl (by decide) (own_leb rfl) (by decide) rfl rfl (by decide) (by decide) (wl := []) (fun _ _ q => by rw [q.1]; exact Keep.refl _ _) all0 at_886 rfl ?_
      rintro _ h482 ⟨eh483, rfl⟩
      rw [eh483]
      show AtS p l e _ s m _ below meth c Z _ _ n0 _ _ _ h423 26 623 (mkF m 889 #[.val (.int i0), .val (.int i1), .val (.int i2), .val (.int nb), .val (.int ky), .val (.int c0), .val (.int c1), .val (.int c2), .val (.ref o252), .val (.ref o269), .val (.ref r), .val (.long (nb.toInt64)), .second, .val (.int (Int32.ofNat (own_sg nb))), .val (.long mm), .second, .val (.int (Int32.ofNat (SBG.digits (own_mag nb)))), .val (.int (Int32.ofNat (((([(78 : Int32), (101 : Int32), (119 : Int32), (75 : Int32), (101 : Int32), (121 : Int32), (91 : Int32), (116 : Int32), (101 : Int32), (110 : Int32), (97 : Int32), (110 : Int32), (116 : Int32), (61 : Int32)] ++ [c0, c1, c2]) ++ [(44 : Int32), (32 : Int32), (107 : Int32), (101 : Int32), (121 : Int32), (73 : Int32), (100 : Int32), (61 : Int32)]) ++ own_istr nb) ++ [(93 : Int32)]).length)), .val (.ref o289)] [(.int (1 : Int32))])
      refine s_if_eq_f (q := 892) C at_889 rfl (by decide) ?_
      refine s_aload (q := 894) C rfl rfl at_892 rfl ?_
      refine s_aload (q := 896) C rfl rfl at_894 rfl ?_
      refine s_iload (q := 898) C rfl at_896 rfl ?_
      refine s_bipush (q := 900) (v := (29 : Int32)) C (by rfl) at_898 rfl ?_
      refine s_callS1 (q := 903) (argsL := [(.ref r), (.ref o289), (.int (Int32.ofNat (((([(78 : Int32), (101 : Int32), (119 : Int32), (75 : Int32), (101 : Int32), (121 : Int32), (91 : Int32), (116 : Int32), (101 : Int32), (110 : Int32), (97 : Int32), (110 : Int32), (116 : Int32), (61 : Int32)] ++ [c0, c1, c2]) ++ [(44 : Int32), (32 : Int32), (107 : Int32), (101 : Int32), (121 : Int32), (73 : Int32), (100 : Int32), (61 : Int32)]) ++ own_istr nb) ++ [(93 : Int32)]).length)), (.int (29 : Int32))]) (S := []) (W := 0) (cells' := 26) (slots' := 623) C (G.1 _ (List.mem_of_getElem? (i := 271) rfl)) (G.1 _ (List.mem_of_getElem? (i := 272) rfl)) (G.1 _ (List.mem_of_getElem? (i := 2) rfl)) (G.1 _ (List.mem_of_getElem? (i := 273) rfl)) (by decide) (rm_atc G O r o289 _ _ 29 T VE (by decide) (hE 29 (by decide))) rfl (lenOf pd_40 rfl) rfl (by decide) (own_leb rfl) (by decide) rfl rfl (by decide) (by decide) (wl := []) (fun _ _ q => by rw [q.1]; exact Keep.refl _ _) all0 at_900 rfl ?_
      rintro _ h484 ⟨eh485, rfl⟩
      rw [eh485]
      show AtS p l e _ s m _ below meth c Z _ _ n0 _ _ _ h423 26 623 (mkF m 903 #[.val (.int i0), .val (.int i1), .val (.int i2), .val (.int nb), .val (.int ky), .val (.int c0), .val (.int c1), .val (.int c2), .val (.ref o252), .val (.ref o269), .val (.ref r), .val (.long (nb.toInt64)), .second, .val (.int (Int32.ofNat (own_sg nb))), .val (.long mm), .second, .val (.int (Int32.ofNat (SBG.digits (own_mag nb)))), .val (.int (Int32.ofNat (((([(78 : Int32), (101 : Int32), (119 : Int32), (75 : Int32), (101 : Int32), (121 : Int32), (91 : Int32), (116 : Int32), (101 : Int32), (110 : Int32), (97 : Int32), (110 : Int32), (116 : Int32), (61 : Int32)] ++ [c0, c1, c2]) ++ [(44 : Int32), (32 : Int32), (107 : Int32), (101 : Int32), (121 : Int32), (73 : Int32), (100 : Int32), (61 : Int32)]) ++ own_istr nb) ++ [(93 : Int32)]).length)), .val (.ref o289)] [(.int (1 : Int32))])
      refine s_if_eq_f (q := 906) C at_903 rfl (by decide) ?_
      refine s_aload (q := 908) C rfl rfl at_906 rfl ?_
      refine s_aload (q := 910) C rfl rfl at_908 rfl ?_
      refine s_iload (q := 912) C rfl at_910 rfl ?_
      refine s_bipush (q := 914) (v := (30 : Int32)) C (by rfl) at_912 rfl ?_
      refine s_callS1 (q := 917) (argsL := [(.ref r), (.ref o289), (.int (Int32.ofNat (((([(78 : Int32), (101 : Int32), (119 : Int32), (75 : Int32), (101 : Int32), (121 : Int32), (91 : Int32), (116 : Int32), (101 : Int32), (110 : Int32), (97 : Int32), (110 : Int32), (116 : Int32), (61 : Int32)] ++ [c0, c1, c2]) ++ [(44 : Int32), (32 : Int32), (107 : Int32), (101 : Int32), (121 : Int32), (73 : Int32), (100 : Int32), (61 : Int32)]) ++ own_istr nb) ++ [(93 : Int32)]).length)), (.int (30 : Int32))]) (S := []) (W := 0) (cells' := 26) (slots' := 623) C (G.1 _ (List.mem_of_getElem? (i := 271) rfl)) (G.1 _ (List.mem_of_getElem? (i := 272) rfl)) (G.1 _ (List.mem_of_getElem? (i := 2) rfl)) (G.1 _ (List.mem_of_getElem? (i := 273) rfl)) (by decide) (rm_atc G O r o289 _ _ 30 T VE (by decide) (hE 30 (by decide))) rfl (lenOf pd_40 rfl) rfl (by decide) (own_leb rfl) (by decide) rfl rfl (by decide) (by decide) (wl := []) (fun _ _ q => by rw [q.1]; exact Keep.refl _ _) all0 at_914 rfl ?_
      rintro _ h486 ⟨eh487, rfl⟩
      rw [eh487]
      show AtS p l e _ s m _ below meth c Z _ _ n0 _ _ _ h423 26 623 (mkF m 917 #[.val (.int i0), .val (.int i1), .val (.int i2), .val (.int nb), .val (.int ky), .val (.int c0), .val (.int c1), .val (.int c2), .val (.ref o252), .val (.ref o269), .val (.ref r), .val (.long (nb.toInt64)), .second, .val (.int (Int32.ofNat (own_sg nb))), .val (.long mm), .second, .val (.int (Int32.ofNat (SBG.digits (own_mag nb)))), .val (.int (Int32.ofNat (((([(78 : Int32), (101 : Int32), (119 : Int32), (75 : Int32), (101 : Int32), (121 : Int32), (91 : Int32), (116 : Int32), (101 : Int32), (110 : Int32), (97 : Int32), (110 : Int32), (116 : Int32), (61 : Int32)] ++ [c0, c1, c2]) ++ [(44 : Int32), (32 : Int32), (107 : Int32), (101 : Int32), (121 : Int32), (73 : Int32), (100 : Int32), (61 : Int32)]) ++ own_istr nb) ++ [(93 : Int32)]).length)), .val (.ref o289)] [(.int (1 : Int32))])
      refine s_if_eq_f (q := 920) C at_917 rfl (by decide) ?_
      refine s_aload (q := 922) C rfl rfl at_920 rfl ?_
      refine s_aload (q := 924) C rfl rfl at_922 rfl ?_
      refine s_iload (q := 926) C rfl at_924 rfl ?_
      refine s_bipush (q := 928) (v := (31 : Int32)) C (by rfl) at_926 rfl ?_
      refine s_callS1 (q := 931) (argsL := [(.ref r), (.ref o289), (.int (Int32.ofNat (((([(78 : Int32), (101 : Int32), (119 : Int32), (75 : Int32), (101 : Int32), (121 : Int32), (91 : Int32), (116 : Int32), (101 : Int32), (110 : Int32), (97 : Int32), (110 : Int32), (116 : Int32), (61 : Int32)] ++ [c0, c1, c2]) ++ [(44 : Int32), (32 : Int32), (107 : Int32), (101 : Int32), (121 : Int32), (73 : Int32), (100 : Int32), (61 : Int32)]) ++ own_istr nb) ++ [(93 : Int32)]).length)), (.int (31 : Int32))]) (S := []) (W := 0) (cells' := 26) (slots' := 623) C (G.1 _ (List.mem_of_getElem? (i := 271) rfl)) (G.1 _ (List.mem_of_getElem? (i := 272) rfl)) (G.1 _ (List.mem_of_getElem? (i := 2) rfl)) (G.1 _ (List.mem_of_getElem? (i := 273) rfl)) (by decide) (rm_atc G O r o289 _ _ 31 T VE (by decide) (hE 31 (by decide))) rfl (lenOf pd_40 rfl) rfl (by decide) (own_leb rfl) (by decide) rfl rfl (by decide) (by decide) (wl := []) (fun _ _ q => by rw [q.1]; exact Keep.refl _ _) all0 at_928 rfl ?_
      rintro _ h488 ⟨eh489, rfl⟩
      rw [eh489]
      show AtS p l e _ s m _ below meth c Z _ _ n0 _ _ _ h423 26 623 (mkF m 931 #[.val (.int i0), .val (.int i1), .val (.int i2), .val (.int nb), .val (.int ky), .val (.int c0), .val (.int c1), .val (.int c2), .val (.ref o252), .val (.ref o269), .val (.ref r), .val (.long (nb.toInt64)), .second, .val (.int (Int32.ofNat (own_sg nb))), .val (.long mm), .second, .val (.int (Int32.ofNat (SBG.digits (own_mag nb)))), .val (.int (Int32.ofNat (((([(78 : Int32), (101 : Int32), (119 : Int32), (75 : Int32), (101 : Int32), (121 : Int32), (91 : Int32), (116 : Int32), (101 : Int32), (110 : Int32), (97 : Int32), (110 : Int32), (116 : Int32), (61 : Int32)] ++ [c0, c1, c2]) ++ [(44 : Int32), (32 : Int32), (107 : Int32), (101 : Int32), (121 : Int32), (73 : Int32), (100 : Int32), (61 : Int32)]) ++ own_istr nb) ++ [(93 : Int32)]).length)), .val (.ref o289)] [(.int (1 : Int32))])
      refine s_if_eq_f (q := 934) C at_931 rfl (by decide) ?_
      refine s_aload (q := 936) C rfl rfl at_934 rfl ?_
      refine s_aload (q := 938) C rfl rfl at_936 rfl ?_
      refine s_iload (q := 940) C rfl at_938 rfl ?_
      refine s_bipush (q := 942) (v := (32 : Int32)) C (by rfl) at_940 rfl ?_
      refine s_callS1 (q := 945) (argsL := [(.ref r), (.ref o289), (.int (Int32.ofNat (((([(78 : Int32), (101 : Int32), (119 : Int32), (75 : Int32), (101 : Int32), (121 : Int32), (91 : Int32), (116 : Int32), (101 : Int32), (110 : Int32), (97 : Int32), (110 : Int32), (116 : Int32), (61 : Int32)] ++ [c0, c1, c2]) ++ [(44 : Int32), (32 : Int32), (107 : Int32), (101 : Int32), (121 : Int32), (73 : Int32), (100 : Int32), (61 : Int32)]) ++ own_istr nb) ++ [(93 : Int32)]).length)), (.int (32 : Int32))]) (S := []) (W := 0) (cells' := 26) (slots' := 623) C (G.1 _ (List.mem_of_getElem? (i := 271) rfl)) (G.1 _ (List.mem_of_getElem? (i := 272) rfl)) (G.1 _ (List.mem_of_getElem? (i := 2) rfl)) (G.1 _ (List.mem_of_getElem? (i := 273) rfl)) (by decide) (rm_atc G O r o289 _ _ 32 T VE (by decide) (hE 32 (by decide))) rfl (lenOf pd_40 rfl) rfl (by decide) (own_leb rfl) (by decide) rfl rfl (by decide) (by decide) (wl := []) (fun _ _ q => by rw [q.1]; exact Keep.refl _ _) all0 at_942 rfl ?_
      rintro _ h490 ⟨eh491, rfl⟩
      rw [eh491]
      show AtS p l e _ s m _ below meth c Z _ _ n0 _ _ _ h423 26 623 (mkF m 945 #[.val (.int i0), .val (.int i1), .val (.int i2), .val (.int nb), .val (.int ky), .val (.int c0), .val (.int c1), .val (.int c2), .val (.ref o252), .val (.ref o269), .val (.ref r), .val (.long (nb.toInt64)), .second, .val (.int (Int32.ofNat (own_sg nb))), .val (.long mm), .second, .val (.int (Int32.ofNat (SBG.digits (own_mag nb)))), .val (.int (Int32.ofNat (((([(78 : Int32), (101 : Int32), (119 : Int32), (75 : Int32), (101 : Int32), (121 : Int32), (91 : Int32), (116 : Int32), (101 : Int32), (110 : Int32), (97 : Int32), (110 : Int32), (116 : Int32), (61 : Int32)] ++ [c0, c1, c2]) ++ [(44 : Int32), (32 : Int32), (107 : Int32), (101 : Int32), (121 : Int32), (73 : Int32), (100 : Int32), (61 : Int32)]) ++ own_istr nb) ++ [(93 : Int32)]).length)), .val (.ref o289)] [(.int (1 : Int32))])
      refine s_if_eq_f (q := 948) C at_945 rfl (by decide) ?_
      refine s_aload (q := 950) C rfl rfl at_948 rfl ?_
      refine s_aload (q := 952) C rfl rfl at_950 rfl ?_
      refine s_iload (q := 954) C rfl at_952 rfl ?_
      refine s_bipush (q := 956) (v := (33 : Int32)) C (by rfl) at_954 rfl ?_
      refine s_callS1 (q := 959) (argsL := [(.ref r), (.ref o289), (.int (Int32.ofNat (((([(78 : Int32), (101 : Int32), (119 : Int32), (75 : Int32), (101 : Int32), (121 : Int32), (91 : Int32), (116 : Int32), (101 : Int32), (110 : Int32), (97 : Int32), (110 : Int32), (116 : Int32), (61 : Int32)] ++ [c0, c1, c2]) ++ [(44 : Int32), (32 : Int32), (107 : Int32), (101 : Int32), (121 : Int32), (73 : Int32), (100 : Int32), (61 : Int32)]) ++ own_istr nb) ++ [(93 : Int32)]).length)), (.int (33 : Int32))]) (S := []) (W := 0) (cells' := 26) (slots' := 623) C (G.1 _ (List.mem_of_getElem? (i := 271) rfl)) (G.1 _ (List.mem_of_getElem? (i := 272) rfl)) (G.1 _ (List.mem_of_getElem? (i := 2) rfl)) (G.1 _ (List.mem_of_getElem? (i := 273) rfl)) (by decide) (rm_atc G O r o289 _ _ 33 T VE (by decide) (hE 33 (by decide))) rfl (lenOf pd_40 rfl) rfl (by decide) (own_leb rfl) (by decide) rfl rfl (by decide) (by decide) (wl := []) (fun _ _ q => by rw [q.1]; exact Keep.refl _ _) all0 at_956 rfl ?_
      rintro _ h492 ⟨eh493, rfl⟩
      rw [eh493]
      show AtS p l e _ s m _ below meth c Z _ _ n0 _ _ _ h423 26 623 (mkF m 959 #[.val (.int i0), .val (.int i1), .val (.int i2), .val (.int nb), .val (.int ky), .val (.int c0), .val (.int c1), .val (.int c2), .val (.ref o252), .val (.ref o269), .val (.ref r), .val (.long (nb.toInt64)), .second, .val (.int (Int32.ofNat (own_sg nb))), .val (.long mm), .second, .val (.int (Int32.ofNat (SBG.digits (own_mag nb)))), .val (.int (Int32.ofNat (((([(78 : Int32), (101 : Int32), (119 : Int32), (75 : Int32), (101 : Int32), (121 : Int32), (91 : Int32), (116 : Int32), (101 : Int32), (110 : Int32), (97 : Int32), (110 : Int32), (116 : Int32), (61 : Int32)] ++ [c0, c1, c2]) ++ [(44 : Int32), (32 : Int32), (107 : Int32), (101 : Int32), (121 : Int32), (73 : Int32), (100 : Int32), (61 : Int32)]) ++ own_istr nb) ++ [(93 : Int32)]).length)), .val (.ref o289)] [(.int (1 : Int32))])
      refine s_if_eq_f (q := 962) C at_959 rfl (by decide) ?_
      refine s_aload (q := 964) C rfl rfl at_962 rfl ?_
      refine s_aload (q := 966) C rfl rfl at_964 rfl ?_
      refine s_iload (q := 968) C rfl at_966 rfl ?_
      refine s_bipush (q := 970) (v := (34 : Int32)) C (by rfl) at_968 rfl ?_
      refine s_callS1 (q := 973) (argsL := [(.ref r), (.ref o289), (.int (Int32.ofNat (((([(78 : Int32), (101 : Int32), (119 : Int32), (75 : Int32), (101 : Int32), (121 : Int32), (91 : Int32), (116 : Int32), (101 : Int32), (110 : Int32), (97 : Int32), (110 : Int32), (116 : Int32), (61 : Int32)] ++ [c0, c1, c2]) ++ [(44 : Int32), (32 : Int32), (107 : Int32), (101 : Int32), (121 : Int32), (73 : Int32), (100 : Int32), (61 : Int32)]) ++ own_istr nb) ++ [(93 : Int32)]).length)), (.int (34 : Int32))]) (S := []) (W := 0) (cells' := 26) (slots' := 623) C (G.1 _ (List.mem_of_getElem? (i := 271) rfl)) (G.1 _ (List.mem_of_getElem? (i := 272) rfl)) (G.1 _ (List.mem_of_getElem? (i := 2) rfl)) (G.1 _ (List.mem_of_getElem? (i := 273) rfl)) (by decide) (rm_atc G O r o289 _ _ 34 T VE (by decide) (hE 34 (by decide))) rfl (lenOf pd_40 rfl) rfl (by decide) (own_leb rfl) (by decide) rfl rfl (by decide) (by decide) (wl := []) (fun _ _ q => by rw [q.1]; exact Keep.refl _ _) all0 at_970 rfl ?_
      rintro _ h494 ⟨eh495, rfl⟩
      rw [eh495]
      show AtS p l e _ s m _ below meth c Z _ _ n0 _ _ _ h423 26 623 (mkF m 973 #[.val (.int i0), .val (.int i1), .val (.int i2), .val (.int nb), .val (.int ky), .val (.int c0), .val (.int c1), .val (.int c2), .val (.ref o252), .val (.ref o269), .val (.ref r), .val (.long (nb.toInt64)), .second, .val (.int (Int32.ofNat (own_sg nb))), .val (.long mm), .second, .val (.int (Int32.ofNat (SBG.digits (own_mag nb)))), .val (.int (Int32.ofNat (((([(78 : Int32), (101 : Int32), (119 : Int32), (75 : Int32), (101 : Int32), (121 : Int32), (91 : Int32), (116 : Int32), (101 : Int32), (110 : Int32), (97 : Int32), (110 : Int32), (116 : Int32), (61 : Int32)] ++ [c0, c1, c2]) ++ [(44 : Int32), (32 : Int32), (107 : Int32), (101 : Int32), (121 : Int32), (73 : Int32), (100 : Int32), (61 : Int32)]) ++ own_istr nb) ++ [(93 : Int32)]).length)), .val (.ref o289)] [(.int (1 : Int32))])
      refine s_if_eq_f (q := 976) C at_973 rfl (by decide) ?_
      refine s_aload (q := 978) C rfl rfl at_976 rfl ?_
      refine s_aload (q := 980) C rfl rfl at_978 rfl ?_
      refine s_iload (q := 982) C rfl at_980 rfl ?_
      refine s_bipush (q := 984) (v := (35 : Int32)) C (by rfl) at_982 rfl ?_
      refine s_callS1 (q := 987) (argsL := [(.ref r), (.ref o289), (.int (Int32.ofNat (((([(78 : Int32), (101 : Int32), (119 : Int32), (75 : Int32), (101 : Int32), (121 : Int32), (91 : Int32), (116 : Int32), (101 : Int32), (110 : Int32), (97 : Int32), (110 : Int32), (116 : Int32), (61 : Int32)] ++ [c0, c1, c2]) ++ [(44 : Int32), (32 : Int32), (107 : Int32), (101 : Int32), (121 : Int32), (73 : Int32), (100 : Int32), (61 : Int32)]) ++ own_istr nb) ++ [(93 : Int32)]).length)), (.int (35 : Int32))]) (S := []) (W := 0) (cells' := 26) (slots' := 623) C (G.1 _ (List.mem_of_getElem? (i := 271) rfl)) (G.1 _ (List.mem_of_getElem? (i := 272) rfl)) (G.1 _ (List.mem_of_getElem? (i := 2) rfl)) (G.1 _ (List.mem_of_getElem? (i := 273) rfl)) (by decide) (rm_atc G O r o289 _ _ 35 T VE (by decide) (hE 35 (by decide))) rfl (lenOf pd_40 rfl) rfl (by decide) (own_leb rfl) (by decide) rfl rfl (by decide) (by decide) (wl := []) (fun _ _ q => by rw [q.1]; exact Keep.refl _ _) all0 at_984 rfl ?_
      rintro _ h496 ⟨eh497, rfl⟩
      rw [eh497]
      show AtS p l e _ s m _ below meth c Z _ _ n0 _ _ _ h423 26 623 (mkF m 987 #[.val (.int i0), .val (.int i1), .val (.int i2), .val (.int nb), .val (.int ky), .val (.int c0), .val (.int c1), .val (.int c2), .val (.ref o252), .val (.ref o269), .val (.ref r), .val (.long (nb.toInt64)), .second, .val (.int (Int32.ofNat (own_sg nb))), .val (.long mm), .second, .val (.int (Int32.ofNat (SBG.digits (own_mag nb)))), .val (.int (Int32.ofNat (((([(78 : Int32), (101 : Int32), (119 : Int32), (75 : Int32), (101 : Int32), (121 : Int32), (91 : Int32), (116 : Int32), (101 : Int32), (110 : Int32), (97 : Int32), (110 : Int32), (116 : Int32), (61 : Int32)] ++ [c0, c1, c2]) ++ [(44 : Int32), (32 : Int32), (107 : Int32), (101 : Int32), (121 : Int32), (73 : Int32), (100 : Int32), (61 : Int32)]) ++ own_istr nb) ++ [(93 : Int32)]).length)), .val (.ref o289)] [(.int (1 : Int32))])
      refine s_if_eq_f (q := 990) C at_987 rfl (by decide) ?_
      refine s_aload (q := 992) C rfl rfl at_990 rfl ?_
      refine s_aload (q := 994) C rfl rfl at_992 rfl ?_
      refine s_iload (q := 996) C rfl at_994 rfl ?_
      refine s_bipush (q := 998) (v := (36 : Int32)) C (by rfl) at_996 rfl ?_
      refine s_callS1 (q := 1001) (argsL := [(.ref r), (.ref o289), (.int (Int32.ofNat (((([(78 : Int32), (101 : Int32), (119 : Int32), (75 : Int32), (101 : Int32), (121 : Int32), (91 : Int32), (116 : Int32), (101 : Int32), (110 : Int32), (97 : Int32), (110 : Int32), (116 : Int32), (61 : Int32)] ++ [c0, c1, c2]) ++ [(44 : Int32), (32 : Int32), (107 : Int32), (101 : Int32), (121 : Int32), (73 : Int32), (100 : Int32), (61 : Int32)]) ++ own_istr nb) ++ [(93 : Int32)]).length)), (.int (36 : Int32))]) (S := []) (W := 0) (cells' := 26) (slots' := 623) C (G.1 _ (List.mem_of_getElem? (i := 271) rfl)) (G.1 _ (List.mem_of_getElem? (i := 272) rfl)) (G.1 _ (List.mem_of_getElem? (i := 2) rfl)) (G.1 _ (List.mem_of_getElem? (i := 273) rfl)) (by decide) (rm_atc G O r o289 _ _ 36 T VE (by decide) (hE 36 (by decide))) rfl (lenOf pd_40 rfl) rfl (by decide) (own_leb rfl) (by decide) rfl rfl (by decide) (by decide) (wl := []) (fun _ _ q => by rw [q.1]; exact Keep.refl _ _) all0 at_998 rfl ?_
      rintro _ h498 ⟨eh499, rfl⟩
      rw [eh499]
      show AtS p l e _ s m _ below meth c Z _ _ n0 _ _ _ h423 26 623 (mkF m 1001 #[.val (.int i0), .val (.int i1), .val (.int i2), .val (.int nb), .val (.int ky), .val (.int c0), .val (.int c1), .val (.int c2), .val (.ref o252), .val (.ref o269), .val (.ref r), .val (.long (nb.toInt64)), .second, .val (.int (Int32.ofNat (own_sg nb))), .val (.long mm), .second, .val (.int (Int32.ofNat (SBG.digits (own_mag nb)))), .val (.int (Int32.ofNat (((([(78 : Int32), (101 : Int32), (119 : Int32), (75 : Int32), (101 : Int32), (121 : Int32), (91 : Int32), (116 : Int32), (101 : Int32), (110 : Int32), (97 : Int32), (110 : Int32), (116 : Int32), (61 : Int32)] ++ [c0, c1, c2]) ++ [(44 : Int32), (32 : Int32), (107 : Int32), (101 : Int32), (121 : Int32), (73 : Int32), (100 : Int32), (61 : Int32)]) ++ own_istr nb) ++ [(93 : Int32)]).length)), .val (.ref o289)] [(.int (1 : Int32))])
      refine s_if_eq_f (q := 1004) C at_1001 rfl (by decide) ?_
      refine s_iconst (q := 1005) (v := (1 : Int32)) C (by rfl) at_1004 rfl ?_
      refine s_goto (q := 1009) C at_1005 (by decide) (by decide) ?_
      exact s_retZ (z := (1 : Int32)) C G.el (t := .boolean) rfl (by simp) (by decide) at_1009 (by decide) (by decide) rfl
    by_cases q9 : (Int32.ofNat (own_sg nb)) = 0
    · refine s_if_eq_t (q := 147) C at_140 (by decide) (by decide) q9 ?_
      refine s_iconst (q := 148) (v := (0 : Int32)) C (by rfl) at_147 rfl ?_
      exact J2 _ q9.symm
    · refine s_if_eq_f (q := 143) C at_140 rfl q9 ?_
      refine s_iconst (q := 144) (v := (1 : Int32)) C (by rfl) at_143 rfl ?_
      refine s_goto (q := 148) C at_144 (by decide) (by decide) ?_
      exact J2 _ (own_sg1 q9).symm
  by_cases qn : (lcmpW (nb.toInt64) (0 : Int64)) < 0
  · refine s_if_ge_f (q := 115) C at_112 rfl qn ?_
    refine s_iconst (q := 116) (v := (1 : Int32)) C (by rfl) at_115 rfl ?_
    refine s_goto (q := 120) C at_116 (by decide) (by decide) ?_
    exact J _ (by unfold own_sg; rw [if_pos (hlt.mp qn)]; rfl)
  · refine s_if_ge_t (q := 119) C at_112 (by decide) (by decide) qn ?_
    refine s_iconst (q := 120) (v := (0 : Int32)) C (by rfl) at_119 rfl ?_
    exact J _ (by unfold own_sg; rw [if_neg (fun q => qn (hlt.mpr q))]; rfl)
set_option maxRecDepth 65536 in
set_option maxHeartbeats 40000000 in
theorem comes_1 {Post : Tables → Env → Array Value → State → Outcome → State → Prop} (hpost : ∀ tb e args s v u, (limb_1_1.after args s (.returned v) u = true ∧ limb_1_2.after args s (.returned v) u = true ∧ True) → ReturnedEndW s (.returned v) u (Jvm.fieldLocs frame_1_writes args s ++ Jvm.arrayLocs frame_1_arrays args s ++ Jvm.staticLocs frame_1_statics s) 48 4672 → Post tb e args s (.returned v) u) :
    ArmFor flags0 classFile x code maxLocals ret World_1 tables_1 room_1 Calls_1 rest_1 Pre_1 Post := by
  intro l hfl _ _ p e ha hc hk s m args below hf hA hF happ hP
  obtain ⟨hcalls, hrest, hpre⟩ := hP
  obtain ⟨-, -, -, hnamed, -, -, -, hat⟩ := (Spec.applies_iff hf).mp happ
  obtain ⟨hg, hn⟩ := and_e (Cond.before_iff.mp (show (Jvm.Cond.and given_1 narrow_1).before args s = true from hpre))
  obtain ⟨hcount, hg0⟩ := and_e hg
  obtain ⟨ha0, hg1⟩ := and_e hg0
  obtain ⟨ha1, hg2⟩ := and_e hg1
  obtain ⟨ha2, hg3⟩ := and_e hg2
  obtain ⟨ha3, hg4⟩ := and_e hg3
  have ha4 := hg4
  obtain ⟨w0, w1, w2, w3, w4, rfl⟩ : ∃ w0 w1 w2 w3 w4 : Value, args = #[w0, w1, w2, w3, w4] := by
    have hs : args.size = 5 := by simpa [Cond.value, given_1] using hcount
    obtain ⟨L⟩ := args
    match L, hs with
    | [w0, w1, w2, w3, w4], _ => exact ⟨w0, w1, w2, w3, w4, rfl⟩
  have hw := fun d (hd : d ∈ tables_1) => atoms_spec (ws := Jvm.Cond.code x code maxLocals ret :: tables_1) hat d (List.mem_cons_of_mem _ hd)
  have hfit : Fit s := fun {y c} hc i hi => by
    obtain ⟨ha, rfl⟩ := Array.getElem?_eq_some_iff.mp hc
    have q := List.all_eq_true.mp ((Array.all_eq_true_iff_forall_mem.mp hF) _ (Array.getElem_mem ha)) i (List.mem_range.mpr hi)
    simpa [Array.getElem?_eq_getElem hi] using q
  obtain ⟨i0, e0⟩ := is_v ha0
  obtain rfl : w0 = (.int i0) := Option.some.inj e0
  obtain ⟨i1, e1⟩ := is_v ha1
  obtain rfl : w1 = (.int i1) := Option.some.inj e1
  obtain ⟨i2, e2⟩ := is_v ha2
  obtain rfl : w2 = (.int i2) := Option.some.inj e2
  obtain ⟨i3, e3⟩ := is_v ha3
  obtain rfl : w3 = (.int i3) := Option.some.inj e3
  obtain ⟨i4, e4⟩ := is_v ha4
  obtain rfl : w4 = (.int i4) := Option.some.inj e4
  obtain ⟨hsets, hown0⟩ := atoms_of _ (rest_1_c_eq ▸ (show rest_1_c.before _ s = true from hrest))
  have hcs1 := not_v (Cond.before_iff.mp (hsets _ (List.mem_of_getElem? (i := 2) rfl)))
  obtain ⟨zc, ezc⟩ := is_v (Cond.before_iff.mp (hsets _ (List.mem_of_getElem? (i := 1) rfl)))
  have Scs : Sta s s.heap "java/lang/String" "COMPACT_STRINGS" "Z" (.int zc) := Sta.start ezc (Or.inl (hsets _ (List.mem_of_getElem? (i := 0) rfl)))
  have hzc : ¬ (zc = (0 : Int32)) := gotF (Cond.eq_ints ezc (Term.int_eval (0))) hcs1
  obtain ⟨vfm, efm, rfm⟩ := isR_v (Cond.before_iff.mp (hsets _ (List.mem_of_getElem? (i := 8) rfl)))
  have Sfm : Sta s s.heap "jdk/internal/util/Preconditions" "SIOOBE_FORMATTER" "Ljava/util/function/BiFunction;" vfm := Sta.start efm (Or.inl (hsets _ (List.mem_of_getElem? (i := 7) rfl)))
  have hEL : EW s #[(.int i0), (.int i1), (.int i2), (.int i3), (.int i4)] consts_1 := (EW.cons (hw _ (List.mem_of_getElem? (i := 128) rfl)) (by decide +kernel) (EW.cons (hw _ (List.mem_of_getElem? (i := 195) rfl)) (by decide +kernel) (EW.cons (hw _ (List.mem_of_getElem? (i := 218) rfl)) (by decide +kernel) (EW.cons (hw _ (List.mem_of_getElem? (i := 47) rfl)) (by decide +kernel) EW.nil))))
  obtain ⟨xd1, ed1⟩ := exa_v (Cond.before_iff.mp (hsets _ (List.mem_of_getElem? (i := 12) rfl)))
  have Sd1 : Sta s s.heap "java/lang/Integer" "DigitOnes" "[B" (.ref xd1) := Sta.start ed1 (Or.inl (hsets _ (List.mem_of_getElem? (i := 11) rfl)))
  have Xd1 : Exa s s.heap xd1 "[B" := Exa.start ed1 (Cond.before_iff.mp (hsets _ (List.mem_of_getElem? (i := 12) rfl)))
  have Vd1 := own_tabd1 (hw _ (List.mem_of_getElem? (i := 27) rfl)) Xd1 ed1 (Cond.before_iff.mp (hsets _ (List.mem_of_getElem? (i := 13) rfl))) (Cond.before_iff.mp (hsets _ (List.mem_of_getElem? (i := 14) rfl)))
  obtain ⟨xd2, ed2⟩ := exa_v (Cond.before_iff.mp (hsets _ (List.mem_of_getElem? (i := 17) rfl)))
  have Sd2 : Sta s s.heap "java/lang/Integer" "DigitTens" "[B" (.ref xd2) := Sta.start ed2 (Or.inl (hsets _ (List.mem_of_getElem? (i := 16) rfl)))
  have Xd2 : Exa s s.heap xd2 "[B" := Exa.start ed2 (Cond.before_iff.mp (hsets _ (List.mem_of_getElem? (i := 17) rfl)))
  have Vd2 := own_tabd2 (hw _ (List.mem_of_getElem? (i := 27) rfl)) Xd2 ed2 (Cond.before_iff.mp (hsets _ (List.mem_of_getElem? (i := 18) rfl))) (Cond.before_iff.mp (hsets _ (List.mem_of_getElem? (i := 19) rfl)))
  have G : Gl s #[(.int i0), (.int i1), (.int i2), (.int i3), (.int i4)] s.heap.size := ⟨hw, ⟨zc, Scs, hzc⟩, ⟨vfm, Sfm, rfm, by rcases ref_cases rfm with rfl | ⟨a, rfl⟩ <;> rfl⟩, hEL, ⟨xd1, Sd1, Xd1.lt, Vd1⟩, ⟨xd2, Sd2, Xd2.lt, Vd2⟩, trivial⟩
  have hCH : CHv s consts_1 s.vm s.heap := CHv.start hEL (fun q hq => hcalls.1 q hq) (show Jvm.Lit.compactW.before #[(.int i0), (.int i1), (.int i2), (.int i3), (.int i4)] s = true from (hsets _ (List.mem_of_getElem? (i := 2) rfl))) (G.sa _ (by simp [Bundle.stringAtoms])) (G.sa _ (by simp [Bundle.stringAtoms, Bundle.sN]))
  obtain ⟨n, o, h1, h2, h3, v, L, rfl, ⟨N, hQ⟩, -, hq⟩ := rm_law (l := l) G (Old.start s) i0 i1 i2 i3 i4 p e ha hc hk s m _ below hf ((Spec.applies_iff_loose hf).mp happ).1 ⟨rfl, State.Warmed39.refl s, rfl, hCH⟩ trivial
  obtain rfl : v = some (.int 1) := hQ
  refine ⟨n, _, h1, h2, h3, hpost _ _ _ _ _ _ ⟨Cond.after_iff.mpr rfl, Cond.after_iff.mpr (eq_i res_at (Term.int_eval (1)) rfl), trivial⟩ ⟨hq.1, hq.2.1, hq.2.2.1, (hq.2.2.2.sift fun y hy => Or.inr (N y hy)).mono (by decide) (by decide)⟩⟩
theorem main_1_1 : Claimed_1_1 := comes_1 fun _ _ _ _ _ _ h hF => ⟨h.1, hF⟩
theorem main_1_2 : Claimed_1_2 := comes_1 fun _ _ _ _ _ _ h hF => ⟨h.2.1, hF⟩
end Jvm.Pilot.@@N@@
namespace Jvm.Pilot.@@N@@
open Jvm Jvm.ClassFile Sem Op Lib Jvm.Free Jvm.Stand Jvm.Pilot.@@N@@.Jvm.D
/-! MADE BY PROGRAM (witnessworld.py) out of the Statement's table words and the real class files: 31 classes; the members and pool entries that the words name. The judged class is class 1, her method 1. -/
namespace start1
open Jvm.ClassFile
def u (s : String) : CpInfo := .utf8 (stringToUtf16 s)
/-- a pool by its gaps: so many unusable entries, then the entry; so many at the end -/
def gap : Nat → List CpInfo → List CpInfo
  | 0, r => r
  | n + 1, r => .unusable :: gap n r
def poolList (es : List (Nat × CpInfo)) (last : Nat) : List CpInfo := es.foldr (fun e r => gap e.1 (e.2 :: r)) (gap last [])
def pool (es : List (Nat × CpInfo)) (last : Nat) : Array CpInfo := ⟨poolList es last⟩
def fileOf (pool : Array CpInfo) (this : Nat) (attrs : Array Attribute := #[]) (ms : Array MethodInfo := #[]) (fl : Nat := 33) (sup : Nat := 0) (ifs : Array Nat := #[]) (fds : Array FieldInfo := #[]) : ClassFile where
  minorVersion := 0
  majorVersion := 65
  constantPool := pool
  accessFlags := fl
  thisClass := this
  superClass := sup
  interfaces := ifs
  fields := fds
  methods := ms
  attributes := attrs
def plain (name : String) (sup : Option ClassId) : Class where
  name := name
  kind := .ordinary
  loader := none
  accessFlags := 33
  super := sup
  interfaces := #[]
  cf := none
  fields := #[]
  methods := #[]
  instanceTypes := #[]
  staticTypes := #[]
  resolved := #[]
  callSites := []
  init := .initialized
  statics := none
  mirror := none

def pool0 : Array CpInfo := pool [(5, u "<init>"), (0, u "()V"), (1, .class_ 10), (1, u "java/lang/Object"), (85, u "clone"), (0, u "()Ljava/lang/Object;")] 26

def k0c0 : Code := { maxStack := 0, maxLocals := 1, code := object_method_1_code, exceptionTable := #[], attributes := #[] }
def k0m0 : Method := { name := "<init>", desc := "()V", sig := { parameters := [], returnType := none }, accessFlags := 1, code := some k0c0 }
def k0m1 : Method := { name := "clone", desc := "()Ljava/lang/Object;", sig := { parameters := [], returnType := some (.object "java/lang/Object") }, accessFlags := 260, code := none }
/-- java/lang/Object -/
def k0 : Class := { plain "java/lang/Object" none with
  accessFlags := 33
  interfaces := #[]
  cf := some (fileOf pool0 8 #[] #[{ accessFlags := 1, nameIndex := 5, descriptorIndex := 6, attributes := #[] }, { accessFlags := 260, nameIndex := 96, descriptorIndex := 97, attributes := #[] }] 33 0 #[] #[])
  fields := #[]
  methods := #[k0m0, k0m1]
  instanceTypes := #[]
  staticTypes := #[]
  resolved := Array.replicate 124 none
  statics := none }

def pool1 : Array CpInfo := pool [(2, .class_ 4), (1, u "java/lang/Object"), (0, u "<init>"), (0, u "()V"), (0, .methodref 8 9), (0, .class_ 10), (0, .nameAndType 11 12), (0, u "com/example/condo/condo/tenant/NewKeyToStringPinLaw"), (0, u "nameChar"), (0, u "(I)C"), (0, .class_ 14), (0, u "com/example/condo/condo/tenant/TenantName"), (0, .class_ 16), (0, u "java/lang/String"), (0, .methodref 15 18), (0, .nameAndType 5 19), (0, u "([C)V"), (0, .methodref 13 21), (0, .nameAndType 5 22), (0, u "(Ljava/lang/String;)V"), (0, .class_ 24), (0, u "com/example/condo/condo/tenant/NewKey"), (0, .methodref 23 26), (0, .nameAndType 5 27), (0, u "(Lcom/example/condo/condo/tenant/TenantName;ILjava/lang/String;)V"), (0, .methodref 23 29), (0, .nameAndType 30 31), (0, u "toString"), (0, u "()Ljava/lang/String;"), (0, .methodref 33 34), (0, .class_ 35), (0, .nameAndType 36 37), (0, u "java/lang/Math"), (0, u "abs"), (0, u "(J)J"), (0, .methodref 8 39), (0, .nameAndType 40 41), (0, u "numDigits"), (0, u "(J)I"), (0, .methodref 15 43), (0, .nameAndType 44 45), (0, u "length"), (0, u "()I"), (0, .methodref 8 47), (0, .nameAndType 48 49), (0, u "tail"), (0, u "(IZJI)C"), (0, .methodref 8 51), (0, .nameAndType 52 53), (0, u "at"), (0, u "(Ljava/lang/String;[CII)Z"), (0, .methodref 15 55), (0, .nameAndType 56 12), (0, u "charAt"), (0, .integer 2147483647), (0, .methodref 8 59), (0, .nameAndType 60 61), (0, u "digit"), (0, u "(JI)I"), (0, .methodref 8 63), (0, .nameAndType 64 65), (0, u "pow10"), (0, u "(I)J"), (0, .long 10), (1, .long 100), (1, .long 1000), (1, .long 10000), (1, .long 100000), (1, .long 1000000), (1, .long 10000000), (1, .long 100000000), (1, .long 1000000000), (3, u "law"), (0, u "(IIIII)Z")] 5

def k1m0 : Method := { name := "<init>", desc := "()V", sig := { parameters := [], returnType := none }, accessFlags := 1, code := none }
def k1c1 : Code := { maxStack := 8, maxLocals := 19, code := code, exceptionTable := #[], attributes := #[] }
def k1m1 : Method := { name := "law", desc := "(IIIII)Z", sig := { parameters := [.int, .int, .int, .int, .int], returnType := some .boolean }, accessFlags := 9, code := some k1c1 }
def k1c2 : Code := { maxStack := 3, maxLocals := 4, code := method_3_code, exceptionTable := #[], attributes := #[] }
def k1m2 : Method := { name := "at", desc := "(Ljava/lang/String;[CII)Z", sig := { parameters := [(.object "java/lang/String"), (.array .char), .int, .int], returnType := some .boolean }, accessFlags := 10, code := some k1c2 }
def k1c3 : Code := { maxStack := 3, maxLocals := 2, code := method_4_code, exceptionTable := #[], attributes := #[] }
def k1m3 : Method := { name := "nameChar", desc := "(I)C", sig := { parameters := [.int], returnType := some .char }, accessFlags := 10, code := some k1c3 }
def k1c4 : Code := { maxStack := 5, maxLocals := 6, code := method_5_code, exceptionTable := #[], attributes := #[] }
def k1m4 : Method := { name := "tail", desc := "(IZJI)C", sig := { parameters := [.int, .boolean, .long, .int], returnType := some .char }, accessFlags := 10, code := some k1c4 }
def k1c5 : Code := { maxStack := 4, maxLocals := 3, code := method_6_code, exceptionTable := #[], attributes := #[] }
def k1m5 : Method := { name := "digit", desc := "(JI)I", sig := { parameters := [.long, .int], returnType := some .int }, accessFlags := 10, code := some k1c5 }
def k1c6 : Code := { maxStack := 2, maxLocals := 1, code := method_7_code, exceptionTable := #[], attributes := #[] }
def k1m6 : Method := { name := "pow10", desc := "(I)J", sig := { parameters := [.int], returnType := some .long }, accessFlags := 10, code := some k1c6 }
def k1c7 : Code := { maxStack := 4, maxLocals := 2, code := method_8_code, exceptionTable := #[], attributes := #[] }
def k1m7 : Method := { name := "numDigits", desc := "(J)I", sig := { parameters := [.long], returnType := some .int }, accessFlags := 10, code := some k1c7 }
/-- com/example/condo/condo/tenant/NewKeyToStringPinLaw -/
def k1 : Class := { plain "com/example/condo/condo/tenant/NewKeyToStringPinLaw" (some 0) with
  accessFlags := 49
  interfaces := #[]
  cf := some (fileOf pool1 8 #[] #[{ accessFlags := 1, nameIndex := 5, descriptorIndex := 6, attributes := #[] }, { accessFlags := 9, nameIndex := 86, descriptorIndex := 87, attributes := #[] }, { accessFlags := 10, nameIndex := 52, descriptorIndex := 53, attributes := #[] }, { accessFlags := 10, nameIndex := 11, descriptorIndex := 12, attributes := #[] }, { accessFlags := 10, nameIndex := 48, descriptorIndex := 49, attributes := #[] }, { accessFlags := 10, nameIndex := 60, descriptorIndex := 61, attributes := #[] }, { accessFlags := 10, nameIndex := 64, descriptorIndex := 65, attributes := #[] }, { accessFlags := 10, nameIndex := 40, descriptorIndex := 41, attributes := #[] }] 49 2 #[] #[])
  fields := #[]
  methods := #[k1m0, k1m1, k1m2, k1m3, k1m4, k1m5, k1m6, k1m7]
  instanceTypes := #[]
  staticTypes := #[]
  resolved := Array.replicate 93 none
  statics := none }

def pool2 : Array CpInfo := pool [(1, .methodref 2 3), (0, .class_ 4), (0, .nameAndType 5 6), (0, u "java/lang/Object"), (0, u "<init>"), (0, u "()V"), (0, .class_ 8), (0, u "java/lang/Record")] 13

def k2c0 : Code := { maxStack := 1, maxLocals := 1, code := jdk_30_method_1_code, exceptionTable := #[], attributes := #[] }
def k2m0 : Method := { name := "<init>", desc := "()V", sig := { parameters := [], returnType := none }, accessFlags := 4, code := some k2c0 }
/-- java/lang/Record -/
def k2 : Class := { plain "java/lang/Record" (some 0) with
  accessFlags := 1057
  interfaces := #[]
  cf := some (fileOf pool2 7 #[] #[{ accessFlags := 4, nameIndex := 5, descriptorIndex := 6, attributes := #[] }] 1057 2 #[] #[])
  fields := #[]
  methods := #[k2m0]
  instanceTypes := #[]
  staticTypes := #[]
  resolved := Array.replicate 22 none
  statics := none }

def pool3 : Array CpInfo := pool [(1, .methodref 2 3), (0, .class_ 4), (0, .nameAndType 5 6), (0, u "java/lang/Record"), (0, u "<init>"), (0, u "()V"), (0, .string 8), (0, u "tenant name"), (0, .methodref 10 11), (0, .class_ 12), (0, .nameAndType 13 14), (0, u "java/util/Objects"), (0, u "requireNonNull"), (0, u "(Ljava/lang/Object;Ljava/lang/String;)Ljava/lang/Object;"), (0, .methodref 16 17), (0, .class_ 18), (0, .nameAndType 19 20), (0, u "java/lang/String"), (0, u "isEmpty"), (0, u "()Z"), (6, u "(Ljava/lang/String;)V"), (0, .methodref 16 29), (0, .nameAndType 30 31), (0, u "length"), (0, u "()I"), (0, .methodref 16 33), (0, .nameAndType 34 35), (0, u "codePointAt"), (0, u "(I)I"), (0, .methodref 37 38), (0, .class_ 39), (0, .nameAndType 40 41), (0, u "com/example/condo/condo/tenant/TenantName"), (0, u "isAllowed"), (0, u "(I)Z"), (16, .fieldref 37 59), (0, .nameAndType 60 61), (0, u "value"), (0, u "Ljava/lang/String;"), (12, u "MAX_LENGTH"), (0, u "I"), (6, u "()Ljava/lang/String;")] 20

def k3c0 : Code := { maxStack := 8, maxLocals := 4, code := prog_25_method_1_code, exceptionTable := #[], attributes := #[] }
def k3m0 : Method := { name := "<init>", desc := "(Ljava/lang/String;)V", sig := { parameters := [(.object "java/lang/String")], returnType := none }, accessFlags := 1, code := some k3c0 }
def k3c1 : Code := { maxStack := 2, maxLocals := 1, code := prog_25_method_2_code, exceptionTable := #[], attributes := #[] }
def k3m1 : Method := { name := "isAllowed", desc := "(I)Z", sig := { parameters := [.int], returnType := some .boolean }, accessFlags := 10, code := some k3c1 }
def k3c2 : Code := { maxStack := 1, maxLocals := 1, code := prog_25_method_6_code, exceptionTable := #[], attributes := #[] }
def k3m2 : Method := { name := "value", desc := "()Ljava/lang/String;", sig := { parameters := [], returnType := some (.object "java/lang/String") }, accessFlags := 1, code := some k3c2 }
/-- com/example/condo/condo/tenant/TenantName -/
def k3 : Class := { plain "com/example/condo/condo/tenant/TenantName" (some 2) with
  accessFlags := 49
  interfaces := #[]
  cf := some (fileOf pool3 37 #[] #[{ accessFlags := 1, nameIndex := 5, descriptorIndex := 27, attributes := #[] }, { accessFlags := 10, nameIndex := 40, descriptorIndex := 41, attributes := #[] }, { accessFlags := 1, nameIndex := 60, descriptorIndex := 82, attributes := #[] }] 49 2 #[] #[{ accessFlags := 18, nameIndex := 60, descriptorIndex := 61, attributes := #[] }, { accessFlags := 25, nameIndex := 74, descriptorIndex := 75, attributes := #[] }])
  fields := #[{ name := "value", type := (.object "java/lang/String"), accessFlags := 18, slot := 0, constantValue := 0 }, { name := "MAX_LENGTH", type := .int, accessFlags := 25, slot := 0, constantValue := 0 }]
  methods := #[k3m0, k3m1, k3m2]
  instanceTypes := #[(.object "java/lang/String")]
  staticTypes := #[.int]
  resolved := Array.replicate 103 none
  statics := none }

def pool4 : Array CpInfo := pool [(1, .class_ 2), (0, u "java/io/Serializable"), (0, .class_ 4), (0, u "java/lang/Object")] 2

/-- java/io/Serializable -/
def k4 : Class := { plain "java/io/Serializable" (some 0) with
  accessFlags := 1537
  interfaces := #[]
  cf := some (fileOf pool4 1 #[] #[] 1537 3 #[] #[])
  fields := #[]
  methods := #[]
  instanceTypes := #[]
  staticTypes := #[]
  resolved := Array.replicate 7 none
  statics := none }

def pool5 : Array CpInfo := pool [(1, .class_ 2), (0, u "java/lang/Comparable"), (0, .class_ 4), (0, u "java/lang/Object")] 7

/-- java/lang/Comparable -/
def k5 : Class := { plain "java/lang/Comparable" (some 0) with
  accessFlags := 1537
  interfaces := #[]
  cf := some (fileOf pool5 1 #[] #[] 1537 3 #[] #[])
  fields := #[]
  methods := #[]
  instanceTypes := #[]
  staticTypes := #[]
  resolved := Array.replicate 12 none
  statics := none }

def pool6 : Array CpInfo := pool [(2, .class_ 4), (1, u "java/lang/CharSequence"), (42, .class_ 48), (0, u "java/lang/CharSequence$1CodePointIterator"), (10, .class_ 60), (0, u "java/lang/CharSequence$1CharIterator"), (5, .class_ 67), (0, u "java/lang/Object")] 63

/-- java/lang/CharSequence -/
def k6 : Class := { plain "java/lang/CharSequence" (some 0) with
  accessFlags := 1537
  interfaces := #[]
  cf := some (fileOf pool6 2 #[.nestMembers #[47, 59]] #[] 1537 66 #[] #[])
  fields := #[]
  methods := #[]
  instanceTypes := #[]
  staticTypes := #[]
  resolved := Array.replicate 131 none
  statics := none }

def pool7 : Array CpInfo := pool [(1, .class_ 2), (0, u "java/lang/constant/Constable"), (0, .class_ 4), (0, u "java/lang/Object")] 6

/-- java/lang/constant/Constable -/
def k7 : Class := { plain "java/lang/constant/Constable" (some 0) with
  accessFlags := 1537
  interfaces := #[]
  cf := some (fileOf pool7 1 #[] #[] 1537 3 #[] #[])
  fields := #[]
  methods := #[]
  instanceTypes := #[]
  staticTypes := #[]
  resolved := Array.replicate 11 none
  statics := none }

def pool8 : Array CpInfo := pool [(1, .class_ 2), (0, u "java/lang/constant/ConstantDesc"), (0, .class_ 4), (0, u "java/lang/Object")] 32

/-- java/lang/constant/ConstantDesc -/
def k8 : Class := { plain "java/lang/constant/ConstantDesc" (some 0) with
  accessFlags := 1537
  interfaces := #[]
  cf := some (fileOf pool8 1 #[] #[] 1537 3 #[] #[])
  fields := #[]
  methods := #[]
  instanceTypes := #[]
  staticTypes := #[]
  resolved := Array.replicate 37 none
  statics := none }

def pool9 : Array CpInfo := pool [(1, .methodref 2 3), (0, .class_ 4), (0, .nameAndType 5 6), (0, u "java/lang/Object"), (0, u "<init>"), (0, u "()V"), (2, .fieldref 10 11), (0, .class_ 12), (0, .nameAndType 13 14), (0, u "java/lang/String"), (0, u "value"), (0, u "[B"), (0, .fieldref 10 16), (0, .nameAndType 17 18), (0, u "coder"), (0, u "B"), (2, u "hash"), (0, u "I"), (2, u "hashIsZero"), (0, u "Z"), (0, .methodref 10 28), (0, .nameAndType 5 29), (0, u "([CIILjava/lang/Void;)V"), (8, .fieldref 10 39), (0, .nameAndType 40 26), (0, u "COMPACT_STRINGS"), (1, .class_ 44), (1, u "java/lang/StringUTF16"), (0, u "compress"), (1, .methodref 42 48), (0, .nameAndType 49 50), (0, u "coderFromArrayLen"), (0, u "([BI)B"), (3, .methodref 55 56), (0, .class_ 57), (0, .nameAndType 58 59), (0, u "java/util/Arrays"), (0, u "copyOfRange"), (0, u "([BII)[B"), (47, .class_ 109), (1, u "java/lang/StringLatin1"), (32, u "()Z"), (34, .methodref 42 178), (0, .nameAndType 45 179), (0, u "([CII)[B"), (13, .class_ 195), (1, u "java/lang/System"), (16, .methodref 193 213), (0, .nameAndType 214 215), (0, u "arraycopy"), (0, u "(Ljava/lang/Object;ILjava/lang/Object;II)V"), (118, u "()I"), (0, .methodref 10 336), (0, .nameAndType 17 337), (0, u "()B"), (2, u "()[B"), (22, u "([BI)C"), (27, u "(II)V"), (35, u "(I)C"), (61, .methodref 10 490), (0, .nameAndType 5 491), (0, u "(Ljava/lang/AbstractStringBuilder;Ljava/lang/Void;)V"), (0, .methodref 10 493), (0, .nameAndType 494 142), (0, u "isLatin1"), (0, .methodref 107 496), (0, .nameAndType 497 363), (0, u "charAt"), (1, .methodref 10 500), (0, .nameAndType 501 391), (0, u "checkIndex"), (2, u "codePointAt"), (1, .nameAndType 507 334), (0, u "length"), (24, u "getBytes"), (16, .methodref 550 506), (0, .class_ 551), (0, u "java/lang/AbstractStringBuilder"), (0, .methodref 550 553), (0, .nameAndType 554 340), (0, u "getValue"), (20, .class_ 576), (0, u "java/lang/CharSequence"), (22, u "CASE_INSENSITIVE_ORDER"), (0, u "Ljava/util/Comparator;"), (91, u "isEmpty"), (72, u "(I)I"), (55, u "([BIB)V"), (188, u "([C)V"), (36, .methodref 550 493), (5, .fieldref 1054 1055), (0, .class_ 1056), (0, .nameAndType 1057 1058), (0, u "jdk/internal/util/Preconditions"), (0, u "SIOOBE_FORMATTER"), (0, u "Ljava/util/function/BiFunction;"), (0, .methodref 1054 1060), (0, .nameAndType 501 1061), (0, u "(IILjava/util/function/BiFunction;)I"), (39, u "serialPersistentFields"), (0, u "[Ljava/io/ObjectStreamField;"), (0, .class_ 1104), (0, u "java/lang/String$CaseInsensitiveComparator"), (1, .class_ 1107), (0, u "java/io/Serializable"), (0, .class_ 1109), (0, u "java/lang/Comparable"), (0, .class_ 1111), (0, u "java/lang/constant/Constable"), (0, .class_ 1113), (0, u "java/lang/constant/ConstantDesc"), (2, u "serialVersionUID"), (0, u "J"), (3, u "REPL"), (0, u "C"), (2, u "LATIN1"), (1, u "UTF16"), (105, u "(Ljava/lang/StringBuilder;)V")] 217

def k9m0 : Method := { name := "<init>", desc := "()V", sig := { parameters := [], returnType := none }, accessFlags := 1, code := none }
def k9c1 : Code := { maxStack := 5, maxLocals := 2, code := jdk_42_method_3_code, exceptionTable := #[], attributes := #[] }
def k9m1 : Method := { name := "<init>", desc := "([C)V", sig := { parameters := [(.array .char)], returnType := none }, accessFlags := 1, code := some k9c1 }
def k9c2 : Code := { maxStack := 3, maxLocals := 2, code := jdk_42_method_53_code, exceptionTable := #[], attributes := #[] }
def k9m2 : Method := { name := "<init>", desc := "(Ljava/lang/StringBuilder;)V", sig := { parameters := [(.object "java/lang/StringBuilder")], returnType := none }, accessFlags := 1, code := some k9c2 }
def k9c3 : Code := { maxStack := 2, maxLocals := 1, code := jdk_42_method_54_code, exceptionTable := #[], attributes := #[] }
def k9m3 : Method := { name := "length", desc := "()I", sig := { parameters := [], returnType := some .int }, accessFlags := 1, code := some k9c3 }
def k9c4 : Code := { maxStack := 1, maxLocals := 1, code := jdk_42_method_55_code, exceptionTable := #[], attributes := #[] }
def k9m4 : Method := { name := "isEmpty", desc := "()Z", sig := { parameters := [], returnType := some .boolean }, accessFlags := 1, code := some k9c4 }
def k9c5 : Code := { maxStack := 2, maxLocals := 2, code := jdk_42_method_56_code, exceptionTable := #[], attributes := #[] }
def k9m5 : Method := { name := "charAt", desc := "(I)C", sig := { parameters := [.int], returnType := some .char }, accessFlags := 1, code := some k9c5 }
def k9c6 : Code := { maxStack := 3, maxLocals := 3, code := jdk_42_method_57_code, exceptionTable := #[], attributes := #[] }
def k9m6 : Method := { name := "codePointAt", desc := "(I)I", sig := { parameters := [.int], returnType := some .int }, accessFlags := 1, code := some k9c6 }
def k9c7 : Code := { maxStack := 5, maxLocals := 4, code := jdk_42_method_147_code, exceptionTable := #[], attributes := #[] }
def k9m7 : Method := { name := "getBytes", desc := "([BIB)V", sig := { parameters := [(.array .byte), .int, .byte], returnType := none }, accessFlags := 0, code := some k9c7 }
def k9c8 : Code := { maxStack := 4, maxLocals := 6, code := jdk_42_method_149_code, exceptionTable := #[], attributes := #[] }
def k9m8 : Method := { name := "<init>", desc := "([CIILjava/lang/Void;)V", sig := { parameters := [(.array .char), .int, .int, (.object "java/lang/Void")], returnType := none }, accessFlags := 2, code := some k9c8 }
def k9c9 : Code := { maxStack := 5, maxLocals := 5, code := jdk_42_method_150_code, exceptionTable := #[], attributes := #[] }
def k9m9 : Method := { name := "<init>", desc := "(Ljava/lang/AbstractStringBuilder;Ljava/lang/Void;)V", sig := { parameters := [(.object "java/lang/AbstractStringBuilder"), (.object "java/lang/Void")], returnType := none }, accessFlags := 0, code := some k9c9 }
def k9c10 : Code := { maxStack := 1, maxLocals := 1, code := jdk_42_method_152_code, exceptionTable := #[], attributes := #[] }
def k9m10 : Method := { name := "coder", desc := "()B", sig := { parameters := [], returnType := some .byte }, accessFlags := 0, code := some k9c10 }
def k9c11 : Code := { maxStack := 1, maxLocals := 1, code := jdk_42_method_154_code, exceptionTable := #[], attributes := #[] }
def k9m11 : Method := { name := "isLatin1", desc := "()Z", sig := { parameters := [], returnType := some .boolean }, accessFlags := 0, code := some k9c11 }
def k9c12 : Code := { maxStack := 3, maxLocals := 2, code := jdk_42_method_155_code, exceptionTable := #[], attributes := #[] }
def k9m12 : Method := { name := "checkIndex", desc := "(II)V", sig := { parameters := [.int, .int], returnType := none }, accessFlags := 8, code := some k9c12 }
/-- java/lang/String -/
def k9 : Class := { plain "java/lang/String" (some 0) with
  accessFlags := 49
  interfaces := #[4, 5, 6, 7, 8]
  cf := some (fileOf pool9 10 #[.nestMembers #[1103]] #[{ accessFlags := 1, nameIndex := 5, descriptorIndex := 6, attributes := #[] }, { accessFlags := 1, nameIndex := 5, descriptorIndex := 1010, attributes := #[] }, { accessFlags := 1, nameIndex := 5, descriptorIndex := 1233, attributes := #[] }, { accessFlags := 1, nameIndex := 507, descriptorIndex := 334, attributes := #[] }, { accessFlags := 1, nameIndex := 692, descriptorIndex := 142, attributes := #[] }, { accessFlags := 1, nameIndex := 497, descriptorIndex := 427, attributes := #[] }, { accessFlags := 1, nameIndex := 504, descriptorIndex := 765, attributes := #[] }, { accessFlags := 0, nameIndex := 532, descriptorIndex := 821, attributes := #[] }, { accessFlags := 2, nameIndex := 5, descriptorIndex := 29, attributes := #[] }, { accessFlags := 0, nameIndex := 5, descriptorIndex := 491, attributes := #[] }, { accessFlags := 0, nameIndex := 17, descriptorIndex := 337, attributes := #[] }, { accessFlags := 0, nameIndex := 494, descriptorIndex := 142, attributes := #[] }, { accessFlags := 8, nameIndex := 501, descriptorIndex := 391, attributes := #[] }] 49 2 #[1106, 1108, 575, 1110, 1112] #[{ accessFlags := 18, nameIndex := 13, descriptorIndex := 14, attributes := #[] }, { accessFlags := 18, nameIndex := 17, descriptorIndex := 18, attributes := #[] }, { accessFlags := 2, nameIndex := 21, descriptorIndex := 22, attributes := #[] }, { accessFlags := 2, nameIndex := 25, descriptorIndex := 26, attributes := #[] }, { accessFlags := 26, nameIndex := 1116, descriptorIndex := 1117, attributes := #[] }, { accessFlags := 24, nameIndex := 40, descriptorIndex := 26, attributes := #[] }, { accessFlags := 26, nameIndex := 1101, descriptorIndex := 1102, attributes := #[] }, { accessFlags := 26, nameIndex := 1121, descriptorIndex := 1122, attributes := #[] }, { accessFlags := 25, nameIndex := 599, descriptorIndex := 600, attributes := #[] }, { accessFlags := 24, nameIndex := 1125, descriptorIndex := 18, attributes := #[] }, { accessFlags := 24, nameIndex := 1127, descriptorIndex := 18, attributes := #[] }])
  fields := #[{ name := "value", type := (.array .byte), accessFlags := 18, slot := 0, constantValue := 0 }, { name := "coder", type := .byte, accessFlags := 18, slot := 1, constantValue := 0 }, { name := "hash", type := .int, accessFlags := 2, slot := 2, constantValue := 0 }, { name := "hashIsZero", type := .boolean, accessFlags := 2, slot := 3, constantValue := 0 }, { name := "serialVersionUID", type := .long, accessFlags := 26, slot := 0, constantValue := 0 }, { name := "COMPACT_STRINGS", type := .boolean, accessFlags := 24, slot := 1, constantValue := 0 }, { name := "serialPersistentFields", type := (.array (.object "java/io/ObjectStreamField")), accessFlags := 26, slot := 2, constantValue := 0 }, { name := "REPL", type := .char, accessFlags := 26, slot := 3, constantValue := 0 }, { name := "CASE_INSENSITIVE_ORDER", type := (.object "java/util/Comparator"), accessFlags := 25, slot := 4, constantValue := 0 }, { name := "LATIN1", type := .byte, accessFlags := 24, slot := 5, constantValue := 0 }, { name := "UTF16", type := .byte, accessFlags := 24, slot := 6, constantValue := 0 }]
  methods := #[k9m0, k9m1, k9m2, k9m3, k9m4, k9m5, k9m6, k9m7, k9m8, k9m9, k9m10, k9m11, k9m12]
  instanceTypes := #[(.array .byte), .byte, .int, .boolean]
  staticTypes := #[.long, .boolean, (.array (.object "java/io/ObjectStreamField")), .char, (.object "java/util/Comparator"), .byte, .byte]
  resolved := Array.replicate 1451 none
  statics := some 0 }

def pool10 : Array CpInfo := pool [(6, .class_ 8), (1, u "java/lang/Object"), (0, u "<init>"), (0, u "()V"), (1, .class_ 14), (1, u "java/lang/StringUTF16"), (31, u "$assertionsDisabled"), (0, u "Z"), (13, u "HI_BYTE_SHIFT"), (0, u "I"), (2, u "LO_BYTE_SHIFT"), (49, .methodref 12 116), (0, .nameAndType 117 118), (0, u "compress"), (0, u "([CI[BII)I"), (3, u "([CII)[B"), (138, u "coderFromArrayLen"), (0, u "([BI)B"), (106, .class_ 371), (1, u "java/lang/StringUTF16$LinesSpliterator"), (58, u "MAX_LENGTH"), (196, .class_ 628), (0, u "java/lang/StringUTF16$CodePointsSpliterator"), (0, .class_ 630), (0, u "java/lang/StringUTF16$CharsSpliterator")] 4

def k10m0 : Method := { name := "<init>", desc := "()V", sig := { parameters := [], returnType := none }, accessFlags := 0, code := none }
def k10c1 : Code := { maxStack := 2, maxLocals := 2, code := jdk_52_method_15_code, exceptionTable := #[], attributes := #[] }
def k10m1 : Method := { name := "coderFromArrayLen", desc := "([BI)B", sig := { parameters := [(.array .byte), .int], returnType := some .byte }, accessFlags := 8, code := some k10c1 }
def k10c2 : Code := { maxStack := 5, maxLocals := 6, code := jdk_52_method_16_code, exceptionTable := #[], attributes := #[] }
def k10m2 : Method := { name := "compress", desc := "([CII)[B", sig := { parameters := [(.array .char), .int, .int], returnType := some (.array .byte) }, accessFlags := 9, code := some k10c2 }
def k10c3 : Code := { maxStack := 3, maxLocals := 7, code := jdk_52_method_21_code, exceptionTable := #[], attributes := #[] }
def k10m3 : Method := { name := "compress", desc := "([CI[BII)I", sig := { parameters := [(.array .char), .int, (.array .byte), .int, .int], returnType := some .int }, accessFlags := 9, code := some k10c3 }
/-- java/lang/StringUTF16 -/
def k10 : Class := { plain "java/lang/StringUTF16" (some 0) with
  accessFlags := 48
  interfaces := #[]
  cf := some (fileOf pool10 12 #[.nestMembers #[627, 629, 369]] #[{ accessFlags := 0, nameIndex := 9, descriptorIndex := 10, attributes := #[] }, { accessFlags := 8, nameIndex := 261, descriptorIndex := 262, attributes := #[] }, { accessFlags := 9, nameIndex := 117, descriptorIndex := 122, attributes := #[] }, { accessFlags := 9, nameIndex := 117, descriptorIndex := 118, attributes := #[] }] 48 6 #[] #[{ accessFlags := 26, nameIndex := 61, descriptorIndex := 62, attributes := #[] }, { accessFlags := 26, nameIndex := 65, descriptorIndex := 62, attributes := #[] }, { accessFlags := 24, nameIndex := 430, descriptorIndex := 62, attributes := #[] }, { accessFlags := 4120, nameIndex := 46, descriptorIndex := 47, attributes := #[] }])
  fields := #[{ name := "HI_BYTE_SHIFT", type := .int, accessFlags := 26, slot := 0, constantValue := 0 }, { name := "LO_BYTE_SHIFT", type := .int, accessFlags := 26, slot := 1, constantValue := 0 }, { name := "MAX_LENGTH", type := .int, accessFlags := 24, slot := 2, constantValue := 0 }, { name := "$assertionsDisabled", type := .boolean, accessFlags := 4120, slot := 3, constantValue := 0 }]
  methods := #[k10m0, k10m1, k10m2, k10m3]
  instanceTypes := #[]
  staticTypes := #[.int, .int, .int, .boolean]
  resolved := Array.replicate 635 none
  statics := none }

def pool11 : Array CpInfo := pool [(2, .class_ 4), (1, u "java/lang/Object"), (0, u "<init>"), (0, u "()V"), (35, .class_ 44), (1, u "java/util/Objects"), (0, u "requireNonNull"), (48, u "(Ljava/lang/Object;Ljava/lang/String;)Ljava/lang/Object;")] 89

def k11m0 : Method := { name := "<init>", desc := "()V", sig := { parameters := [], returnType := none }, accessFlags := 2, code := none }
def k11c1 : Code := { maxStack := 3, maxLocals := 2, code := jdk_31_method_11_code, exceptionTable := #[], attributes := #[] }
def k11m1 : Method := { name := "requireNonNull", desc := "(Ljava/lang/Object;Ljava/lang/String;)Ljava/lang/Object;", sig := { parameters := [(.object "java/lang/Object"), (.object "java/lang/String")], returnType := some (.object "java/lang/Object") }, accessFlags := 9, code := some k11c1 }
/-- java/util/Objects -/
def k11 : Class := { plain "java/util/Objects" (some 0) with
  accessFlags := 49
  interfaces := #[]
  cf := some (fileOf pool11 42 #[] #[{ accessFlags := 2, nameIndex := 5, descriptorIndex := 6, attributes := #[] }, { accessFlags := 9, nameIndex := 45, descriptorIndex := 94, attributes := #[] }] 49 2 #[] #[])
  fields := #[]
  methods := #[k11m0, k11m1]
  instanceTypes := #[]
  staticTypes := #[]
  resolved := Array.replicate 184 none
  statics := none }

def pool12 : Array CpInfo := pool [(2, .class_ 4), (1, u "java/lang/Object"), (0, u "<init>"), (0, u "()V"), (17, .class_ 26), (1, u "jdk/internal/util/Preconditions"), (6, u "checkIndex"), (21, .class_ 56), (0, u "jdk/internal/util/Preconditions$4"), (57, .class_ 115), (0, u "jdk/internal/util/Preconditions$1"), (7, u "SIOOBE_FORMATTER"), (0, u "Ljava/util/function/BiFunction;"), (0, .class_ 126), (0, u "jdk/internal/util/Preconditions$2"), (3, u "AIOOBE_FORMATTER"), (0, .class_ 132), (0, u "jdk/internal/util/Preconditions$3"), (3, u "IOOBE_FORMATTER"), (41, u "(IILjava/util/function/BiFunction;)I")] 15

def k12m0 : Method := { name := "<init>", desc := "()V", sig := { parameters := [], returnType := none }, accessFlags := 1, code := none }
def k12c1 : Code := { maxStack := 3, maxLocals := 3, code := jdk_41_method_11_code, exceptionTable := #[], attributes := #[] }
def k12m1 : Method := { name := "checkIndex", desc := "(IILjava/util/function/BiFunction;)I", sig := { parameters := [.int, .int, (.object "java/util/function/BiFunction")], returnType := some .int }, accessFlags := 9, code := some k12c1 }
/-- jdk/internal/util/Preconditions -/
def k12 : Class := { plain "jdk/internal/util/Preconditions" (some 0) with
  accessFlags := 33
  interfaces := #[]
  cf := some (fileOf pool12 24 #[.nestMembers #[55, 131, 125, 114]] #[{ accessFlags := 1, nameIndex := 5, descriptorIndex := 6, attributes := #[] }, { accessFlags := 9, nameIndex := 33, descriptorIndex := 178, attributes := #[] }] 33 2 #[] #[{ accessFlags := 25, nameIndex := 123, descriptorIndex := 124, attributes := #[] }, { accessFlags := 25, nameIndex := 130, descriptorIndex := 124, attributes := #[] }, { accessFlags := 25, nameIndex := 136, descriptorIndex := 124, attributes := #[] }])
  fields := #[{ name := "SIOOBE_FORMATTER", type := (.object "java/util/function/BiFunction"), accessFlags := 25, slot := 0, constantValue := 0 }, { name := "AIOOBE_FORMATTER", type := (.object "java/util/function/BiFunction"), accessFlags := 25, slot := 1, constantValue := 0 }, { name := "IOOBE_FORMATTER", type := (.object "java/util/function/BiFunction"), accessFlags := 25, slot := 2, constantValue := 0 }]
  methods := #[k12m0, k12m1]
  instanceTypes := #[]
  staticTypes := #[(.object "java/util/function/BiFunction"), (.object "java/util/function/BiFunction"), (.object "java/util/function/BiFunction")]
  resolved := Array.replicate 194 none
  statics := some 1 }

def pool13 : Array CpInfo := pool [(1, .methodref 2 3), (0, .class_ 4), (0, .nameAndType 5 6), (0, u "java/lang/Record"), (0, u "<init>"), (0, u "()V"), (0, .fieldref 8 9), (0, .class_ 10), (0, .nameAndType 11 12), (0, u "com/example/condo/condo/tenant/NewKey"), (0, u "tenant"), (0, u "Lcom/example/condo/condo/tenant/TenantName;"), (0, .fieldref 8 14), (0, .nameAndType 15 16), (0, u "keyId"), (0, u "I"), (0, .fieldref 8 18), (0, .nameAndType 19 20), (0, u "key"), (0, u "Ljava/lang/String;"), (0, .class_ 22), (0, u "java/lang/StringBuilder"), (0, .methodref 21 3), (0, .string 25), (0, u "NewKey[tenant="), (0, .methodref 21 27), (0, .nameAndType 28 29), (0, u "append"), (0, u "(Ljava/lang/String;)Ljava/lang/StringBuilder;"), (0, .methodref 31 32), (0, .class_ 33), (0, .nameAndType 34 35), (0, u "com/example/condo/condo/tenant/TenantName"), (0, u "value"), (0, u "()Ljava/lang/String;"), (0, .string 37), (0, u ", keyId="), (0, .methodref 21 39), (0, .nameAndType 28 40), (0, u "(I)Ljava/lang/StringBuilder;"), (0, .string 42), (0, u "]"), (0, .methodref 21 44), (0, .nameAndType 45 35), (0, u "toString"), (8, u "(Lcom/example/condo/condo/tenant/TenantName;ILjava/lang/String;)V")] 28

def k13c0 : Code := { maxStack := 2, maxLocals := 4, code := prog_18_method_1_code, exceptionTable := #[], attributes := #[] }
def k13m0 : Method := { name := "<init>", desc := "(Lcom/example/condo/condo/tenant/TenantName;ILjava/lang/String;)V", sig := { parameters := [(.object "com/example/condo/condo/tenant/TenantName"), .int, (.object "java/lang/String")], returnType := none }, accessFlags := 1, code := some k13c0 }
def k13c1 : Code := { maxStack := 2, maxLocals := 1, code := prog_18_method_2_code, exceptionTable := #[], attributes := #[] }
def k13m1 : Method := { name := "toString", desc := "()Ljava/lang/String;", sig := { parameters := [], returnType := some (.object "java/lang/String") }, accessFlags := 1, code := some k13c1 }
/-- com/example/condo/condo/tenant/NewKey -/
def k13 : Class := { plain "com/example/condo/condo/tenant/NewKey" (some 2) with
  accessFlags := 49
  interfaces := #[]
  cf := some (fileOf pool13 8 #[] #[{ accessFlags := 1, nameIndex := 5, descriptorIndex := 54, attributes := #[] }, { accessFlags := 1, nameIndex := 45, descriptorIndex := 35, attributes := #[] }] 49 2 #[] #[{ accessFlags := 18, nameIndex := 11, descriptorIndex := 12, attributes := #[] }, { accessFlags := 18, nameIndex := 15, descriptorIndex := 16, attributes := #[] }, { accessFlags := 18, nameIndex := 19, descriptorIndex := 20, attributes := #[] }])
  fields := #[{ name := "tenant", type := (.object "com/example/condo/condo/tenant/TenantName"), accessFlags := 18, slot := 0, constantValue := 0 }, { name := "keyId", type := .int, accessFlags := 18, slot := 1, constantValue := 0 }, { name := "key", type := (.object "java/lang/String"), accessFlags := 18, slot := 2, constantValue := 0 }]
  methods := #[k13m0, k13m1]
  instanceTypes := #[(.object "com/example/condo/condo/tenant/TenantName"), .int, (.object "java/lang/String")]
  staticTypes := #[]
  resolved := Array.replicate 83 none
  statics := none }

def pool14 : Array CpInfo := pool [(1, .class_ 2), (0, u "java/lang/Appendable"), (0, .class_ 4), (0, u "java/lang/Object")] 9

/-- java/lang/Appendable -/
def k14 : Class := { plain "java/lang/Appendable" (some 0) with
  accessFlags := 1537
  interfaces := #[]
  cf := some (fileOf pool14 1 #[] #[] 1537 3 #[] #[])
  fields := #[]
  methods := #[]
  instanceTypes := #[]
  staticTypes := #[]
  resolved := Array.replicate 14 none
  statics := none }

def pool15 : Array CpInfo := pool [(1, .class_ 2), (0, u "java/lang/String"), (0, .methodref 4 5), (0, .class_ 6), (0, .nameAndType 7 8), (0, u "java/lang/Object"), (0, u "<init>"), (0, u "()V"), (1, .class_ 12), (1, u "java/lang/AbstractStringBuilder"), (0, u "EMPTYVALUE"), (0, u "[B"), (0, .fieldref 10 16), (0, .nameAndType 17 14), (0, u "value"), (0, .fieldref 1 19), (0, .nameAndType 20 21), (0, u "COMPACT_STRINGS"), (0, u "Z"), (0, .fieldref 10 23), (0, .nameAndType 24 25), (0, u "coder"), (0, u "B"), (6, .methodref 1 33), (0, .nameAndType 34 35), (0, u "length"), (0, u "()I"), (0, .class_ 37), (0, u "java/lang/Integer"), (1, .integer 2147483647), (0, .methodref 1 41), (0, .nameAndType 24 42), (0, u "()B"), (2, u "append"), (0, u "(Ljava/lang/String;)Ljava/lang/AbstractStringBuilder;"), (1, .class_ 49), (0, u "java/lang/CharSequence"), (19, u "(Ljava/lang/String;)V"), (5, u "maybeLatin1"), (3, .fieldref 10 80), (0, .nameAndType 81 82), (0, u "count"), (0, u "I"), (0, .methodref 10 84), (0, .nameAndType 85 86), (0, u "isLatin1"), (0, u "()Z"), (13, .methodref 10 101), (0, .nameAndType 102 103), (0, u "ensureCapacityInternal"), (0, u "(I)V"), (0, .methodref 10 105), (0, .nameAndType 106 107), (0, u "newCapacity"), (0, u "(I)I"), (0, .methodref 109 110), (0, .class_ 111), (0, .nameAndType 112 113), (0, u "java/util/Arrays"), (0, u "copyOf"), (0, u "([BI)[B"), (0, .methodref 115 116), (0, .class_ 117), (0, .nameAndType 118 119), (0, u "jdk/internal/util/ArraysSupport"), (0, u "newLength"), (0, u "(III)I"), (68, u "getChars"), (19, .methodref 10 209), (0, .nameAndType 210 211), (0, u "putStringAt"), (0, u "(ILjava/lang/String;)V"), (5, u "inflateIfNeededFor"), (2, .nameAndType 221 222), (0, u "getBytes"), (0, u "([BIB)V"), (22, .methodref 36 246), (0, .nameAndType 247 107), (0, u "stringSize"), (0, .methodref 36 249), (0, .nameAndType 188 250), (0, u "(II[B)I"), (146, .methodref 10 398), (0, .nameAndType 217 69), (0, .methodref 1 220), (3, u "()[B"), (40, .class_ 445), (0, u "java/lang/Appendable"), (65, u "(I)Ljava/lang/AbstractStringBuilder;"), (40, u "getValue")] 56

def k15m0 : Method := { name := "<init>", desc := "()V", sig := { parameters := [], returnType := none }, accessFlags := 0, code := none }
def k15c1 : Code := { maxStack := 2, maxLocals := 2, code := jdk_68_method_2_code, exceptionTable := #[], attributes := #[] }
def k15m1 : Method := { name := "<init>", desc := "(I)V", sig := { parameters := [.int], returnType := none }, accessFlags := 0, code := some k15c1 }
def k15c2 : Code := { maxStack := 1, maxLocals := 1, code := jdk_68_method_6_code, exceptionTable := #[], attributes := #[] }
def k15m2 : Method := { name := "length", desc := "()I", sig := { parameters := [], returnType := some .int }, accessFlags := 1, code := some k15c2 }
def k15c3 : Code := { maxStack := 4, maxLocals := 3, code := jdk_68_method_9_code, exceptionTable := #[], attributes := #[] }
def k15m3 : Method := { name := "ensureCapacityInternal", desc := "(I)V", sig := { parameters := [.int], returnType := none }, accessFlags := 2, code := some k15c3 }
def k15c4 : Code := { maxStack := 5, maxLocals := 6, code := jdk_68_method_10_code, exceptionTable := #[], attributes := #[] }
def k15m4 : Method := { name := "newCapacity", desc := "(I)I", sig := { parameters := [.int], returnType := some .int }, accessFlags := 2, code := some k15c4 }
def k15c5 : Code := { maxStack := 3, maxLocals := 3, code := jdk_68_method_22_code, exceptionTable := #[], attributes := #[] }
def k15m5 : Method := { name := "append", desc := "(Ljava/lang/String;)Ljava/lang/AbstractStringBuilder;", sig := { parameters := [(.object "java/lang/String")], returnType := some (.object "java/lang/AbstractStringBuilder") }, accessFlags := 1, code := some k15c5 }
def k15c6 : Code := { maxStack := 4, maxLocals := 4, code := jdk_68_method_32_code, exceptionTable := #[], attributes := #[] }
def k15m6 : Method := { name := "append", desc := "(I)Ljava/lang/AbstractStringBuilder;", sig := { parameters := [.int], returnType := some (.object "java/lang/AbstractStringBuilder") }, accessFlags := 1, code := some k15c6 }
def k15c7 : Code := { maxStack := 1, maxLocals := 1, code := jdk_68_method_64_code, exceptionTable := #[], attributes := #[] }
def k15m7 : Method := { name := "getValue", desc := "()[B", sig := { parameters := [], returnType := some (.array .byte) }, accessFlags := 16, code := some k15c7 }
def k15c8 : Code := { maxStack := 1, maxLocals := 1, code := jdk_68_method_68_code, exceptionTable := #[], attributes := #[] }
def k15m8 : Method := { name := "isLatin1", desc := "()Z", sig := { parameters := [], returnType := some .boolean }, accessFlags := 16, code := some k15c8 }
def k15c9 : Code := { maxStack := 2, maxLocals := 2, code := jdk_68_method_71_code, exceptionTable := #[], attributes := #[] }
def k15m9 : Method := { name := "inflateIfNeededFor", desc := "(Ljava/lang/String;)V", sig := { parameters := [(.object "java/lang/String")], returnType := none }, accessFlags := 2, code := some k15c9 }
def k15c10 : Code := { maxStack := 4, maxLocals := 3, code := jdk_68_method_73_code, exceptionTable := #[], attributes := #[] }
def k15m10 : Method := { name := "putStringAt", desc := "(ILjava/lang/String;)V", sig := { parameters := [.int, (.object "java/lang/String")], returnType := none }, accessFlags := 2, code := some k15c10 }
/-- java/lang/AbstractStringBuilder -/
def k15 : Class := { plain "java/lang/AbstractStringBuilder" (some 0) with
  accessFlags := 1056
  interfaces := #[14, 6]
  cf := some (fileOf pool15 10 #[] #[{ accessFlags := 0, nameIndex := 7, descriptorIndex := 8, attributes := #[] }, { accessFlags := 0, nameIndex := 7, descriptorIndex := 103, attributes := #[] }, { accessFlags := 1, nameIndex := 34, descriptorIndex := 35, attributes := #[] }, { accessFlags := 2, nameIndex := 102, descriptorIndex := 103, attributes := #[] }, { accessFlags := 2, nameIndex := 106, descriptorIndex := 107, attributes := #[] }, { accessFlags := 1, nameIndex := 45, descriptorIndex := 46, attributes := #[] }, { accessFlags := 1, nameIndex := 45, descriptorIndex := 511, attributes := #[] }, { accessFlags := 16, nameIndex := 552, descriptorIndex := 403, attributes := #[] }, { accessFlags := 16, nameIndex := 85, descriptorIndex := 86, attributes := #[] }, { accessFlags := 2, nameIndex := 217, descriptorIndex := 69, attributes := #[] }, { accessFlags := 2, nameIndex := 210, descriptorIndex := 211, attributes := #[] }] 1056 4 #[444, 48] #[{ accessFlags := 0, nameIndex := 17, descriptorIndex := 14, attributes := #[] }, { accessFlags := 0, nameIndex := 24, descriptorIndex := 25, attributes := #[] }, { accessFlags := 0, nameIndex := 75, descriptorIndex := 21, attributes := #[] }, { accessFlags := 0, nameIndex := 81, descriptorIndex := 82, attributes := #[] }, { accessFlags := 26, nameIndex := 13, descriptorIndex := 14, attributes := #[] }])
  fields := #[{ name := "value", type := (.array .byte), accessFlags := 0, slot := 0, constantValue := 0 }, { name := "coder", type := .byte, accessFlags := 0, slot := 1, constantValue := 0 }, { name := "maybeLatin1", type := .boolean, accessFlags := 0, slot := 2, constantValue := 0 }, { name := "count", type := .int, accessFlags := 0, slot := 3, constantValue := 0 }, { name := "EMPTYVALUE", type := (.array .byte), accessFlags := 26, slot := 0, constantValue := 0 }]
  methods := #[k15m0, k15m1, k15m2, k15m3, k15m4, k15m5, k15m6, k15m7, k15m8, k15m9, k15m10]
  instanceTypes := #[(.array .byte), .byte, .boolean, .int]
  staticTypes := #[(.array .byte)]
  resolved := Array.replicate 609 none
  statics := none }

def pool16 : Array CpInfo := pool [(1, .methodref 2 3), (0, .class_ 4), (0, .nameAndType 5 6), (0, u "java/lang/AbstractStringBuilder"), (0, u "<init>"), (0, u "(I)V"), (11, .class_ 20), (1, u "java/lang/String"), (3, .class_ 26), (1, u "java/lang/StringBuilder"), (0, u "append"), (0, u "(Ljava/lang/String;)Ljava/lang/StringBuilder;"), (0, .methodref 2 30), (0, .nameAndType 27 31), (0, u "(Ljava/lang/String;)Ljava/lang/AbstractStringBuilder;"), (21, .methodref 2 54), (0, .nameAndType 27 55), (0, u "(I)Ljava/lang/AbstractStringBuilder;"), (81, .methodref 18 138), (0, .nameAndType 5 139), (0, u "(Ljava/lang/StringBuilder;)V"), (5, u "()V"), (10, u "()I"), (111, u "(I)Ljava/lang/StringBuilder;"), (74, .methodref 2 344), (0, .nameAndType 345 156), (0, u "length"), (3, .class_ 350), (0, u "java/lang/Appendable"), (0, .class_ 352), (0, u "java/io/Serializable"), (0, .class_ 354), (0, u "java/lang/Comparable"), (0, .class_ 356), (0, u "java/lang/CharSequence"), (0, u "serialVersionUID"), (0, u "J"), (40, u "toString"), (0, u "()Ljava/lang/String;")] 21

def k16c0 : Code := { maxStack := 2, maxLocals := 1, code := jdk_67_method_1_code, exceptionTable := #[], attributes := #[] }
def k16m0 : Method := { name := "<init>", desc := "()V", sig := { parameters := [], returnType := none }, accessFlags := 1, code := some k16c0 }
def k16c1 : Code := { maxStack := 2, maxLocals := 2, code := jdk_67_method_7_code, exceptionTable := #[], attributes := #[] }
def k16m1 : Method := { name := "append", desc := "(Ljava/lang/String;)Ljava/lang/StringBuilder;", sig := { parameters := [(.object "java/lang/String")], returnType := some (.object "java/lang/StringBuilder") }, accessFlags := 1, code := some k16c1 }
def k16c2 : Code := { maxStack := 2, maxLocals := 2, code := jdk_67_method_15_code, exceptionTable := #[], attributes := #[] }
def k16m2 : Method := { name := "append", desc := "(I)Ljava/lang/StringBuilder;", sig := { parameters := [.int], returnType := some (.object "java/lang/StringBuilder") }, accessFlags := 1, code := some k16c2 }
def k16c3 : Code := { maxStack := 3, maxLocals := 1, code := jdk_67_method_42_code, exceptionTable := #[], attributes := #[] }
def k16m3 : Method := { name := "toString", desc := "()Ljava/lang/String;", sig := { parameters := [], returnType := some (.object "java/lang/String") }, accessFlags := 1, code := some k16c3 }
def k16c4 : Code := { maxStack := 1, maxLocals := 1, code := jdk_67_method_93_code, exceptionTable := #[], attributes := #[] }
def k16m4 : Method := { name := "length", desc := "()I", sig := { parameters := [], returnType := some .int }, accessFlags := 4161, code := some k16c4 }
/-- java/lang/StringBuilder -/
def k16 : Class := { plain "java/lang/StringBuilder" (some 15) with
  accessFlags := 49
  interfaces := #[14, 4, 5, 6]
  cf := some (fileOf pool16 24 #[] #[{ accessFlags := 1, nameIndex := 5, descriptorIndex := 145, attributes := #[] }, { accessFlags := 1, nameIndex := 27, descriptorIndex := 28, attributes := #[] }, { accessFlags := 1, nameIndex := 27, descriptorIndex := 268, attributes := #[] }, { accessFlags := 1, nameIndex := 399, descriptorIndex := 400, attributes := #[] }, { accessFlags := 4161, nameIndex := 345, descriptorIndex := 156, attributes := #[] }] 49 2 #[349, 351, 353, 355] #[{ accessFlags := 24, nameIndex := 357, descriptorIndex := 358, attributes := #[] }])
  fields := #[{ name := "serialVersionUID", type := .long, accessFlags := 24, slot := 0, constantValue := 0 }]
  methods := #[k16m0, k16m1, k16m2, k16m3, k16m4]
  instanceTypes := #[(.array .byte), .byte, .boolean, .int]
  staticTypes := #[.long]
  resolved := Array.replicate 422 none
  statics := none }

def pool17 : Array CpInfo := pool [(2, .class_ 4), (1, u "java/lang/Object"), (0, u "<init>"), (0, u "()V"), (1, .class_ 10), (1, u "java/lang/System"), (0, u "allowSecurityManager"), (0, u "I"), (16, u "cons"), (0, u "Ljava/io/Console;"), (77, .class_ 110), (1, u "java/lang/System$CallersHolder"), (43, u "initialErrStream"), (0, u "Ljava/io/PrintStream;"), (19, u "security"), (0, u "Ljava/lang/SecurityManager;"), (31, .class_ 209), (0, u "java/lang/System$1"), (7, u "props"), (0, u "Ljava/util/Properties;"), (2, u "lineSeparator"), (0, u "Ljava/lang/String;"), (96, .class_ 321), (1, u "java/lang/System$LoggerFinder"), (5, .class_ 328), (0, u "java/lang/System$Logger"), (67, u "err"), (2, u "out"), (91, u "notSupportedJnuEncoding"), (15, u "in"), (17, u "initialIn"), (0, u "Ljava/io/InputStream;"), (35, u "bootLayer"), (0, u "Ljava/lang/ModuleLayer;"), (99, .class_ 664), (0, u "java/lang/System$2"), (9, u "NEVER"), (2, u "MAYBE"), (49, u "arraycopy"), (0, u "(Ljava/lang/Object;ILjava/lang/Object;II)V"), (72, .class_ 802), (0, u "java/lang/System$Logger$Level")] 31

def k17m0 : Method := { name := "<init>", desc := "()V", sig := { parameters := [], returnType := none }, accessFlags := 2, code := none }
def k17m1 : Method := { name := "arraycopy", desc := "(Ljava/lang/Object;ILjava/lang/Object;II)V", sig := { parameters := [(.object "java/lang/Object"), .int, (.object "java/lang/Object"), .int, .int], returnType := none }, accessFlags := 265, code := none }
/-- java/lang/System -/
def k17 : Class := { plain "java/lang/System" (some 0) with
  accessFlags := 49
  interfaces := #[]
  cf := some (fileOf pool17 8 #[.nestMembers #[319, 327, 801, 108, 663, 208]] #[{ accessFlags := 2, nameIndex := 5, descriptorIndex := 6, attributes := #[] }, { accessFlags := 265, nameIndex := 727, descriptorIndex := 728, attributes := #[] }] 49 2 #[] #[{ accessFlags := 25, nameIndex := 507, descriptorIndex := 526, attributes := #[] }, { accessFlags := 25, nameIndex := 399, descriptorIndex := 155, attributes := #[] }, { accessFlags := 25, nameIndex := 396, descriptorIndex := 155, attributes := #[] }, { accessFlags := 10, nameIndex := 525, descriptorIndex := 526, attributes := #[] }, { accessFlags := 26, nameIndex := 674, descriptorIndex := 12, attributes := #[] }, { accessFlags := 26, nameIndex := 677, descriptorIndex := 12, attributes := #[] }, { accessFlags := 10, nameIndex := 11, descriptorIndex := 12, attributes := #[] }, { accessFlags := 74, nameIndex := 175, descriptorIndex := 176, attributes := #[] }, { accessFlags := 10, nameIndex := 491, descriptorIndex := 222, attributes := #[] }, { accessFlags := 74, nameIndex := 29, descriptorIndex := 30, attributes := #[] }, { accessFlags := 74, nameIndex := 154, descriptorIndex := 155, attributes := #[] }, { accessFlags := 10, nameIndex := 217, descriptorIndex := 218, attributes := #[] }, { accessFlags := 10, nameIndex := 221, descriptorIndex := 222, attributes := #[] }, { accessFlags := 8, nameIndex := 562, descriptorIndex := 563, attributes := #[] }])
  fields := #[{ name := "in", type := (.object "java/io/InputStream"), accessFlags := 25, slot := 0, constantValue := 0 }, { name := "out", type := (.object "java/io/PrintStream"), accessFlags := 25, slot := 1, constantValue := 0 }, { name := "err", type := (.object "java/io/PrintStream"), accessFlags := 25, slot := 2, constantValue := 0 }, { name := "initialIn", type := (.object "java/io/InputStream"), accessFlags := 10, slot := 3, constantValue := 0 }, { name := "NEVER", type := .int, accessFlags := 26, slot := 4, constantValue := 0 }, { name := "MAYBE", type := .int, accessFlags := 26, slot := 5, constantValue := 0 }, { name := "allowSecurityManager", type := .int, accessFlags := 10, slot := 6, constantValue := 0 }, { name := "security", type := (.object "java/lang/SecurityManager"), accessFlags := 74, slot := 7, constantValue := 0 }, { name := "notSupportedJnuEncoding", type := (.object "java/lang/String"), accessFlags := 10, slot := 8, constantValue := 0 }, { name := "cons", type := (.object "java/io/Console"), accessFlags := 74, slot := 9, constantValue := 0 }, { name := "initialErrStream", type := (.object "java/io/PrintStream"), accessFlags := 74, slot := 10, constantValue := 0 }, { name := "props", type := (.object "java/util/Properties"), accessFlags := 10, slot := 11, constantValue := 0 }, { name := "lineSeparator", type := (.object "java/lang/String"), accessFlags := 10, slot := 12, constantValue := 0 }, { name := "bootLayer", type := (.object "java/lang/ModuleLayer"), accessFlags := 8, slot := 13, constantValue := 0 }]
  methods := #[k17m0, k17m1]
  instanceTypes := #[]
  staticTypes := #[(.object "java/io/InputStream"), (.object "java/io/PrintStream"), (.object "java/io/PrintStream"), (.object "java/io/InputStream"), .int, .int, .int, (.object "java/lang/SecurityManager"), (.object "java/lang/String"), (.object "java/io/Console"), (.object "java/io/PrintStream"), (.object "java/util/Properties"), (.object "java/lang/String"), (.object "java/lang/ModuleLayer")]
  resolved := Array.replicate 834 none
  statics := none }

def pool18 : Array CpInfo := pool [(9, u "<init>"), (6, .class_ 18), (1, u "java/lang/Object"), (0, u "()V"), (1, .class_ 23), (1, u "jdk/internal/util/ArraysSupport"), (0, u "LOG2_ARRAY_LONG_INDEX_SCALE"), (0, u "I"), (2, u "U"), (0, u "Ljdk/internal/misc/Unsafe;"), (8, u "BIG_ENDIAN"), (0, u "Z"), (8, u "LOG2_BYTE_BIT_SIZE"), (4, u "LOG2_ARRAY_INT_INDEX_SCALE"), (54, u "JLA"), (0, u "Ljdk/internal/access/JavaLangAccess;"), (11, u "LOG2_ARRAY_BOOLEAN_INDEX_SCALE"), (9, u "LOG2_ARRAY_BYTE_INDEX_SCALE"), (5, u "LOG2_ARRAY_CHAR_INDEX_SCALE"), (5, u "LOG2_ARRAY_SHORT_INDEX_SCALE"), (18, u "LOG2_ARRAY_FLOAT_INDEX_SCALE"), (24, u "LOG2_ARRAY_DOUBLE_INDEX_SCALE"), (6, .methodref 195 196), (0, .class_ 197), (0, .nameAndType 198 199), (0, u "java/lang/Math"), (0, u "max"), (0, u "(II)I"), (0, .integer 2147483639), (76, u "T_BOOLEAN"), (2, u "T_CHAR"), (1, u "T_FLOAT"), (1, u "T_DOUBLE"), (1, u "T_BYTE"), (1, u "T_SHORT"), (1, u "T_INT"), (1, u "T_LONG"), (1, u "SOFT_MAX_ARRAY_LENGTH"), (56, u "newLength"), (0, u "(III)I")] 25

def k18m0 : Method := { name := "<init>", desc := "()V", sig := { parameters := [], returnType := none }, accessFlags := 2, code := none }
def k18c1 : Code := { maxStack := 3, maxLocals := 4, code := jdk_48_method_27_code, exceptionTable := #[], attributes := #[] }
def k18m1 : Method := { name := "newLength", desc := "(III)I", sig := { parameters := [.int, .int, .int], returnType := some .int }, accessFlags := 9, code := some k18c1 }
/-- jdk/internal/util/ArraysSupport -/
def k18 : Class := { plain "jdk/internal/util/ArraysSupport" (some 0) with
  accessFlags := 33
  interfaces := #[]
  cf := some (fileOf pool18 21 #[] #[{ accessFlags := 2, nameIndex := 9, descriptorIndex := 19, attributes := #[] }, { accessFlags := 9, nameIndex := 351, descriptorIndex := 352, attributes := #[] }] 33 16 #[] #[{ accessFlags := 24, nameIndex := 28, descriptorIndex := 29, attributes := #[] }, { accessFlags := 26, nameIndex := 38, descriptorIndex := 39, attributes := #[] }, { accessFlags := 25, nameIndex := 121, descriptorIndex := 25, attributes := #[] }, { accessFlags := 25, nameIndex := 131, descriptorIndex := 25, attributes := #[] }, { accessFlags := 25, nameIndex := 137, descriptorIndex := 25, attributes := #[] }, { accessFlags := 25, nameIndex := 143, descriptorIndex := 25, attributes := #[] }, { accessFlags := 25, nameIndex := 53, descriptorIndex := 25, attributes := #[] }, { accessFlags := 25, nameIndex := 24, descriptorIndex := 25, attributes := #[] }, { accessFlags := 25, nameIndex := 162, descriptorIndex := 25, attributes := #[] }, { accessFlags := 25, nameIndex := 187, descriptorIndex := 25, attributes := #[] }, { accessFlags := 26, nameIndex := 48, descriptorIndex := 25, attributes := #[] }, { accessFlags := 25, nameIndex := 277, descriptorIndex := 25, attributes := #[] }, { accessFlags := 25, nameIndex := 280, descriptorIndex := 25, attributes := #[] }, { accessFlags := 25, nameIndex := 282, descriptorIndex := 25, attributes := #[] }, { accessFlags := 25, nameIndex := 284, descriptorIndex := 25, attributes := #[] }, { accessFlags := 25, nameIndex := 286, descriptorIndex := 25, attributes := #[] }, { accessFlags := 25, nameIndex := 288, descriptorIndex := 25, attributes := #[] }, { accessFlags := 25, nameIndex := 290, descriptorIndex := 25, attributes := #[] }, { accessFlags := 25, nameIndex := 292, descriptorIndex := 25, attributes := #[] }, { accessFlags := 26, nameIndex := 108, descriptorIndex := 109, attributes := #[] }, { accessFlags := 25, nameIndex := 294, descriptorIndex := 25, attributes := #[] }])
  fields := #[{ name := "U", type := (.object "jdk/internal/misc/Unsafe"), accessFlags := 24, slot := 0, constantValue := 0 }, { name := "BIG_ENDIAN", type := .boolean, accessFlags := 26, slot := 1, constantValue := 0 }, { name := "LOG2_ARRAY_BOOLEAN_INDEX_SCALE", type := .int, accessFlags := 25, slot := 2, constantValue := 0 }, { name := "LOG2_ARRAY_BYTE_INDEX_SCALE", type := .int, accessFlags := 25, slot := 3, constantValue := 0 }, { name := "LOG2_ARRAY_CHAR_INDEX_SCALE", type := .int, accessFlags := 25, slot := 4, constantValue := 0 }, { name := "LOG2_ARRAY_SHORT_INDEX_SCALE", type := .int, accessFlags := 25, slot := 5, constantValue := 0 }, { name := "LOG2_ARRAY_INT_INDEX_SCALE", type := .int, accessFlags := 25, slot := 6, constantValue := 0 }, { name := "LOG2_ARRAY_LONG_INDEX_SCALE", type := .int, accessFlags := 25, slot := 7, constantValue := 0 }, { name := "LOG2_ARRAY_FLOAT_INDEX_SCALE", type := .int, accessFlags := 25, slot := 8, constantValue := 0 }, { name := "LOG2_ARRAY_DOUBLE_INDEX_SCALE", type := .int, accessFlags := 25, slot := 9, constantValue := 0 }, { name := "LOG2_BYTE_BIT_SIZE", type := .int, accessFlags := 26, slot := 10, constantValue := 0 }, { name := "T_BOOLEAN", type := .int, accessFlags := 25, slot := 11, constantValue := 0 }, { name := "T_CHAR", type := .int, accessFlags := 25, slot := 12, constantValue := 0 }, { name := "T_FLOAT", type := .int, accessFlags := 25, slot := 13, constantValue := 0 }, { name := "T_DOUBLE", type := .int, accessFlags := 25, slot := 14, constantValue := 0 }, { name := "T_BYTE", type := .int, accessFlags := 25, slot := 15, constantValue := 0 }, { name := "T_SHORT", type := .int, accessFlags := 25, slot := 16, constantValue := 0 }, { name := "T_INT", type := .int, accessFlags := 25, slot := 17, constantValue := 0 }, { name := "T_LONG", type := .int, accessFlags := 25, slot := 18, constantValue := 0 }, { name := "JLA", type := (.object "jdk/internal/access/JavaLangAccess"), accessFlags := 26, slot := 19, constantValue := 0 }, { name := "SOFT_MAX_ARRAY_LENGTH", type := .int, accessFlags := 25, slot := 20, constantValue := 0 }]
  methods := #[k18m0, k18m1]
  instanceTypes := #[]
  staticTypes := #[(.object "jdk/internal/misc/Unsafe"), .boolean, .int, .int, .int, .int, .int, .int, .int, .int, .int, .int, .int, .int, .int, .int, .int, .int, .int, (.object "jdk/internal/access/JavaLangAccess"), .int]
  resolved := Array.replicate 378 none
  statics := none }

def pool19 : Array CpInfo := pool [(1, .class_ 2), (0, u "java/lang/Math"), (1, .class_ 6), (1, u "java/lang/Object"), (0, u "<init>"), (0, u "()V"), (89, .class_ 100), (1, u "java/lang/Math$RandomNumberGeneratorHolder"), (23, u "abs"), (0, u "(J)J"), (46, u "negativeZeroFloatBits"), (0, u "J"), (2, u "negativeZeroDoubleBits"), (21, u "max"), (2, u "min"), (43, u "$assertionsDisabled"), (0, u "Z"), (88, u "(II)I"), (2, u "twoToTheDoubleScaleDown"), (0, u "D"), (4, u "twoToTheDoubleScaleUp"), (9, u "E"), (3, u "PI"), (2, u "TAU"), (2, u "DEGREES_TO_RADIANS"), (0, u "RADIANS_TO_DEGREES")] 94

def k19m0 : Method := { name := "<init>", desc := "()V", sig := { parameters := [], returnType := none }, accessFlags := 2, code := none }
def k19c1 : Code := { maxStack := 4, maxLocals := 2, code := jdk_29_method_61_code, exceptionTable := #[], attributes := #[] }
def k19m1 : Method := { name := "abs", desc := "(J)J", sig := { parameters := [.long], returnType := some .long }, accessFlags := 9, code := some k19c1 }
def k19c2 : Code := { maxStack := 2, maxLocals := 2, code := jdk_29_method_65_code, exceptionTable := #[], attributes := #[] }
def k19m2 : Method := { name := "max", desc := "(II)I", sig := { parameters := [.int, .int], returnType := some .int }, accessFlags := 9, code := some k19c2 }
def k19c3 : Code := { maxStack := 2, maxLocals := 2, code := jdk_29_method_69_code, exceptionTable := #[], attributes := #[] }
def k19m3 : Method := { name := "min", desc := "(II)I", sig := { parameters := [.int, .int], returnType := some .int }, accessFlags := 9, code := some k19c3 }
/-- java/lang/Math -/
def k19 : Class := { plain "java/lang/Math" (some 0) with
  accessFlags := 49
  interfaces := #[]
  cf := some (fileOf pool19 1 #[.nestMembers #[98]] #[{ accessFlags := 2, nameIndex := 7, descriptorIndex := 8, attributes := #[] }, { accessFlags := 9, nameIndex := 124, descriptorIndex := 125, attributes := #[] }, { accessFlags := 9, nameIndex := 198, descriptorIndex := 335, attributes := #[] }, { accessFlags := 9, nameIndex := 201, descriptorIndex := 335, attributes := #[] }] 49 4 #[] #[{ accessFlags := 25, nameIndex := 354, descriptorIndex := 339, attributes := #[] }, { accessFlags := 25, nameIndex := 358, descriptorIndex := 339, attributes := #[] }, { accessFlags := 25, nameIndex := 361, descriptorIndex := 339, attributes := #[] }, { accessFlags := 26, nameIndex := 364, descriptorIndex := 339, attributes := #[] }, { accessFlags := 26, nameIndex := 365, descriptorIndex := 339, attributes := #[] }, { accessFlags := 26, nameIndex := 172, descriptorIndex := 173, attributes := #[] }, { accessFlags := 26, nameIndex := 176, descriptorIndex := 173, attributes := #[] }, { accessFlags := 8, nameIndex := 344, descriptorIndex := 339, attributes := #[] }, { accessFlags := 8, nameIndex := 338, descriptorIndex := 339, attributes := #[] }, { accessFlags := 4120, nameIndex := 245, descriptorIndex := 246, attributes := #[] }])
  fields := #[{ name := "E", type := .double, accessFlags := 25, slot := 0, constantValue := 0 }, { name := "PI", type := .double, accessFlags := 25, slot := 1, constantValue := 0 }, { name := "TAU", type := .double, accessFlags := 25, slot := 2, constantValue := 0 }, { name := "DEGREES_TO_RADIANS", type := .double, accessFlags := 26, slot := 3, constantValue := 0 }, { name := "RADIANS_TO_DEGREES", type := .double, accessFlags := 26, slot := 4, constantValue := 0 }, { name := "negativeZeroFloatBits", type := .long, accessFlags := 26, slot := 5, constantValue := 0 }, { name := "negativeZeroDoubleBits", type := .long, accessFlags := 26, slot := 6, constantValue := 0 }, { name := "twoToTheDoubleScaleUp", type := .double, accessFlags := 8, slot := 7, constantValue := 0 }, { name := "twoToTheDoubleScaleDown", type := .double, accessFlags := 8, slot := 8, constantValue := 0 }, { name := "$assertionsDisabled", type := .boolean, accessFlags := 4120, slot := 9, constantValue := 0 }]
  methods := #[k19m0, k19m1, k19m2, k19m3]
  instanceTypes := #[]
  staticTypes := #[.double, .double, .double, .double, .double, .long, .long, .double, .double, .boolean]
  resolved := Array.replicate 460 none
  statics := none }

def pool20 : Array CpInfo := pool [(2, .class_ 4), (1, u "java/lang/Object"), (0, u "<init>"), (0, u "()V"), (7, .class_ 16), (1, u "java/util/Arrays"), (57, .class_ 76), (1, u "java/util/Arrays$NaturalOrder"), (32, u "()Ljava/lang/Object;"), (3, .class_ 115), (1, u "java/util/Arrays$LegacyMergeSort"), (1, u "Z"), (10, .nameAndType 129 109), (0, u "clone"), (9, u "copyOfRange"), (10, .methodref 151 152), (0, .class_ 153), (0, .nameAndType 154 155), (0, u "java/lang/System"), (0, u "arraycopy"), (0, u "(Ljava/lang/Object;ILjava/lang/Object;II)V"), (146, u "copyOf"), (1, .methodref 305 306), (0, .class_ 307), (0, .nameAndType 308 309), (0, u "java/lang/Math"), (0, u "min"), (0, u "(II)I"), (0, .methodref 311 128), (0, .class_ 312), (0, u "[B"), (26, .methodref 14 340), (0, .nameAndType 341 342), (0, u "copyOfRangeByte"), (0, u "([BII)[B"), (0, .methodref 14 344), (0, .nameAndType 345 346), (0, u "checkLength"), (0, u "(II)V"), (28, .class_ 376), (0, u "java/util/Arrays$ArrayList"), (68, u "$assertionsDisabled"), (269, u "MIN_ARRAY_SORT_GRAN"), (0, u "I"), (2, u "INSERTIONSORT_THRESHOLD"), (149, u "([BI)[B"), (105, .class_ 976), (0, u "java/util/Arrays$ArrayItr")] 52

def k20m0 : Method := { name := "<init>", desc := "()V", sig := { parameters := [], returnType := none }, accessFlags := 2, code := none }
def k20c1 : Code := { maxStack := 6, maxLocals := 3, code := jdk_65_method_121_code, exceptionTable := #[], attributes := #[] }
def k20m1 : Method := { name := "copyOf", desc := "([BI)[B", sig := { parameters := [(.array .byte), .int], returnType := some (.array .byte) }, accessFlags := 9, code := some k20c1 }
def k20c2 : Code := { maxStack := 4, maxLocals := 2, code := jdk_65_method_131_code, exceptionTable := #[], attributes := #[] }
def k20m2 : Method := { name := "checkLength", desc := "(II)V", sig := { parameters := [.int, .int], returnType := none }, accessFlags := 10, code := some k20c2 }
def k20c3 : Code := { maxStack := 3, maxLocals := 3, code := jdk_65_method_132_code, exceptionTable := #[], attributes := #[] }
def k20m3 : Method := { name := "copyOfRange", desc := "([BII)[B", sig := { parameters := [(.array .byte), .int, .int], returnType := some (.array .byte) }, accessFlags := 9, code := some k20c3 }
def k20c4 : Code := { maxStack := 6, maxLocals := 5, code := jdk_65_method_133_code, exceptionTable := #[], attributes := #[] }
def k20m4 : Method := { name := "copyOfRangeByte", desc := "([BII)[B", sig := { parameters := [(.array .byte), .int, .int], returnType := some (.array .byte) }, accessFlags := 10, code := some k20c4 }
/-- java/util/Arrays -/
def k20 : Class := { plain "java/util/Arrays" (some 0) with
  accessFlags := 49
  interfaces := #[]
  cf := some (fileOf pool20 14 #[.nestMembers #[975, 375, 113, 74]] #[{ accessFlags := 2, nameIndex := 5, descriptorIndex := 6, attributes := #[] }, { accessFlags := 9, nameIndex := 302, descriptorIndex := 869, attributes := #[] }, { accessFlags := 10, nameIndex := 345, descriptorIndex := 346, attributes := #[] }, { accessFlags := 9, nameIndex := 139, descriptorIndex := 342, attributes := #[] }, { accessFlags := 10, nameIndex := 341, descriptorIndex := 342, attributes := #[] }] 49 2 #[] #[{ accessFlags := 26, nameIndex := 715, descriptorIndex := 716, attributes := #[] }, { accessFlags := 26, nameIndex := 719, descriptorIndex := 716, attributes := #[] }, { accessFlags := 4120, nameIndex := 445, descriptorIndex := 117, attributes := #[] }])
  fields := #[{ name := "MIN_ARRAY_SORT_GRAN", type := .int, accessFlags := 26, slot := 0, constantValue := 0 }, { name := "INSERTIONSORT_THRESHOLD", type := .int, accessFlags := 26, slot := 1, constantValue := 0 }, { name := "$assertionsDisabled", type := .boolean, accessFlags := 4120, slot := 2, constantValue := 0 }]
  methods := #[k20m0, k20m1, k20m2, k20m3, k20m4]
  instanceTypes := #[]
  staticTypes := #[.int, .int, .boolean]
  resolved := Array.replicate 1029 none
  statics := none }

def pool21 : Array CpInfo := pool [(2, .class_ 4), (1, u "java/lang/Object"), (0, u "<init>"), (0, u "()V"), (1, .class_ 10), (1, u "java/lang/Number"), (2, .class_ 14), (0, u "java/io/Serializable"), (0, u "serialVersionUID"), (0, u "J")] 20

def k21m0 : Method := { name := "<init>", desc := "()V", sig := { parameters := [], returnType := none }, accessFlags := 1, code := none }
/-- java/lang/Number -/
def k21 : Class := { plain "java/lang/Number" (some 0) with
  accessFlags := 1057
  interfaces := #[4]
  cf := some (fileOf pool21 8 #[] #[{ accessFlags := 1, nameIndex := 5, descriptorIndex := 6, attributes := #[] }] 1057 2 #[13] #[{ accessFlags := 26, nameIndex := 15, descriptorIndex := 16, attributes := #[] }])
  fields := #[{ name := "serialVersionUID", type := .long, accessFlags := 26, slot := 0, constantValue := 0 }]
  methods := #[k21m0]
  instanceTypes := #[]
  staticTypes := #[.long]
  resolved := Array.replicate 37 none
  statics := none }

def pool22 : Array CpInfo := pool [(1, .class_ 2), (0, u "java/lang/Integer"), (16, u "digits"), (0, u "[C"), (33, u "(I)I"), (19, u "stringSize"), (2, u "getChars"), (0, u "(II[B)I"), (4, .fieldref 1 84), (0, .nameAndType 85 86), (0, u "DigitOnes"), (0, u "[B"), (0, .fieldref 1 88), (0, .nameAndType 89 86), (0, u "DigitTens"), (99, .class_ 190), (0, u "java/lang/Integer$IntegerCache"), (3, u "I"), (8, .class_ 204), (0, u "java/lang/Number"), (2, u "value"), (94, u "TYPE"), (0, u "Ljava/lang/Class;"), (0, .class_ 305), (0, u "java/lang/Comparable"), (0, .class_ 307), (0, u "java/lang/constant/Constable"), (0, .class_ 309), (0, u "java/lang/constant/ConstantDesc"), (0, u "MIN_VALUE"), (1, u "MAX_VALUE"), (3, u "SIZE"), (1, u "BYTES"), (1, u "serialVersionUID"), (0, u "J")] 131

def k22c0 : Code := { maxStack := 4, maxLocals := 7, code := jdk_33_method_12_code, exceptionTable := #[], attributes := #[] }
def k22m0 : Method := { name := "getChars", desc := "(II[B)I", sig := { parameters := [.int, .int, (.array .byte)], returnType := some .int }, accessFlags := 8, code := some k22c0 }
def k22c1 : Code := { maxStack := 2, maxLocals := 4, code := jdk_33_method_13_code, exceptionTable := #[], attributes := #[] }
def k22m1 : Method := { name := "stringSize", desc := "(I)I", sig := { parameters := [.int], returnType := some .int }, accessFlags := 8, code := some k22c1 }
/-- java/lang/Integer -/
def k22 : Class := { plain "java/lang/Integer" (some 21) with
  accessFlags := 49
  interfaces := #[5, 7, 8]
  cf := some (fileOf pool22 1 #[.nestMembers #[189]] #[{ accessFlags := 8, nameIndex := 77, descriptorIndex := 78, attributes := #[] }, { accessFlags := 8, nameIndex := 74, descriptorIndex := 54, attributes := #[] }] 49 203 #[304, 306, 308] #[{ accessFlags := 25, nameIndex := 310, descriptorIndex := 194, attributes := #[] }, { accessFlags := 25, nameIndex := 312, descriptorIndex := 194, attributes := #[] }, { accessFlags := 25, nameIndex := 302, descriptorIndex := 303, attributes := #[] }, { accessFlags := 24, nameIndex := 19, descriptorIndex := 20, attributes := #[] }, { accessFlags := 24, nameIndex := 89, descriptorIndex := 86, attributes := #[] }, { accessFlags := 24, nameIndex := 85, descriptorIndex := 86, attributes := #[] }, { accessFlags := 18, nameIndex := 207, descriptorIndex := 194, attributes := #[] }, { accessFlags := 25, nameIndex := 316, descriptorIndex := 194, attributes := #[] }, { accessFlags := 25, nameIndex := 318, descriptorIndex := 194, attributes := #[] }, { accessFlags := 26, nameIndex := 320, descriptorIndex := 321, attributes := #[] }])
  fields := #[{ name := "MIN_VALUE", type := .int, accessFlags := 25, slot := 0, constantValue := 0 }, { name := "MAX_VALUE", type := .int, accessFlags := 25, slot := 1, constantValue := 0 }, { name := "TYPE", type := (.object "java/lang/Class"), accessFlags := 25, slot := 2, constantValue := 0 }, { name := "digits", type := (.array .char), accessFlags := 24, slot := 3, constantValue := 0 }, { name := "DigitTens", type := (.array .byte), accessFlags := 24, slot := 4, constantValue := 0 }, { name := "DigitOnes", type := (.array .byte), accessFlags := 24, slot := 5, constantValue := 0 }, { name := "value", type := .int, accessFlags := 18, slot := 0, constantValue := 0 }, { name := "SIZE", type := .int, accessFlags := 25, slot := 6, constantValue := 0 }, { name := "BYTES", type := .int, accessFlags := 25, slot := 7, constantValue := 0 }, { name := "serialVersionUID", type := .long, accessFlags := 26, slot := 8, constantValue := 0 }]
  methods := #[k22m0, k22m1]
  instanceTypes := #[.int]
  staticTypes := #[.int, .int, (.object "java/lang/Class"), (.array .char), (.array .byte), (.array .byte), .int, .int, .long]
  resolved := Array.replicate 453 none
  statics := some 2 }

def pool23 : Array CpInfo := pool [(1, .class_ 2), (0, u "java/lang/String"), (1, .class_ 6), (1, u "java/lang/Object"), (0, u "<init>"), (0, u "()V"), (0, .methodref 1 10), (0, .nameAndType 11 12), (0, u "checkIndex"), (0, u "(II)V"), (1, .class_ 16), (1, u "java/lang/StringLatin1"), (36, u "([BI)C"), (67, u "$assertionsDisabled"), (0, u "Z"), (98, .class_ 223), (1, u "java/lang/StringLatin1$LinesSpliterator"), (28, u "charAt"), (137, .class_ 391), (0, u "java/lang/StringLatin1$CharsSpliterator")] 3

def k23m0 : Method := { name := "<init>", desc := "()V", sig := { parameters := [], returnType := none }, accessFlags := 0, code := none }
def k23c1 : Code := { maxStack := 2, maxLocals := 2, code := jdk_43_method_2_code, exceptionTable := #[], attributes := #[] }
def k23m1 : Method := { name := "charAt", desc := "([BI)C", sig := { parameters := [(.array .byte), .int], returnType := some .char }, accessFlags := 9, code := some k23c1 }
/-- java/lang/StringLatin1 -/
def k23 : Class := { plain "java/lang/StringLatin1" (some 0) with
  accessFlags := 48
  interfaces := #[]
  cf := some (fileOf pool23 14 #[.nestMembers #[390, 221]] #[{ accessFlags := 0, nameIndex := 7, descriptorIndex := 8, attributes := #[] }, { accessFlags := 9, nameIndex := 252, descriptorIndex := 53, attributes := #[] }] 48 4 #[] #[{ accessFlags := 4120, nameIndex := 121, descriptorIndex := 122, attributes := #[] }])
  fields := #[{ name := "$assertionsDisabled", type := .boolean, accessFlags := 4120, slot := 0, constantValue := 0 }]
  methods := #[k23m0, k23m1]
  instanceTypes := #[]
  staticTypes := #[.boolean]
  resolved := Array.replicate 395 none
  statics := none }

def pool24 : Array CpInfo := pool [(1, .class_ 2), (0, u "java/lang/Cloneable"), (0, .class_ 4), (0, u "java/lang/Object")] 2

/-- java/lang/Cloneable -/
def k24 : Class := { plain "java/lang/Cloneable" (some 0) with
  accessFlags := 1537
  interfaces := #[]
  cf := some (fileOf pool24 1 #[] #[] 1537 3 #[] #[])
  fields := #[]
  methods := #[]
  instanceTypes := #[]
  staticTypes := #[]
  resolved := Array.replicate 7 none
  statics := none }

/-- the primitive byte -/
def k25 : Class := { plain "byte" none with kind := .primitive 'B', accessFlags := 0x411 }
/-- [B -/
def k26 : Class := { plain "[B" (some 0) with kind := .array 25 .byte, interfaces := #[24, 4], accessFlags := 1041 }

/-- the primitive char -/
def k27 : Class := { plain "char" none with kind := .primitive 'C', accessFlags := 0x411 }
/-- [C -/
def k28 : Class := { plain "[C" (some 0) with kind := .array 27 .char, interfaces := #[24, 4], accessFlags := 1041 }

/-- the primitive int -/
def k29 : Class := { plain "int" none with kind := .primitive 'I', accessFlags := 0x411 }
/-- [I -/
def k30 : Class := { plain "[I" (some 0) with kind := .array 29 .int, interfaces := #[24, 4], accessFlags := 1041 }

def heap : Heap := #[{ cls := 9, slots := #[.long 0, .int 1, .null, .int 0, .null, .int 0, .int 0], vm := .statics 9 },
  { cls := 12, slots := #[.null, .null, .null], vm := .statics 12 },
  { cls := 22, slots := #[.int 0, .int 0, .null, .null, .ref 4, .ref 3, .int 0, .int 0, .long 0], vm := .statics 22 },
  { cls := 26, slots := #[.int 48, .int 49, .int 50, .int 51, .int 52, .int 53, .int 54, .int 55, .int 56, .int 57, .int 48, .int 49, .int 50, .int 51, .int 52, .int 53, .int 54, .int 55, .int 56, .int 57, .int 48, .int 49, .int 50, .int 51, .int 52, .int 53, .int 54, .int 55, .int 56, .int 57, .int 48, .int 49, .int 50, .int 51, .int 52, .int 53, .int 54, .int 55, .int 56, .int 57, .int 48, .int 49, .int 50, .int 51, .int 52, .int 53, .int 54, .int 55, .int 56, .int 57, .int 48, .int 49, .int 50, .int 51, .int 52, .int 53, .int 54, .int 55, .int 56, .int 57, .int 48, .int 49, .int 50, .int 51, .int 52, .int 53, .int 54, .int 55, .int 56, .int 57, .int 48, .int 49, .int 50, .int 51, .int 52, .int 53, .int 54, .int 55, .int 56, .int 57, .int 48, .int 49, .int 50, .int 51, .int 52, .int 53, .int 54, .int 55, .int 56, .int 57, .int 48, .int 49, .int 50, .int 51, .int 52, .int 53, .int 54, .int 55, .int 56, .int 57], vm := .none },
  { cls := 26, slots := #[.int 48, .int 48, .int 48, .int 48, .int 48, .int 48, .int 48, .int 48, .int 48, .int 48, .int 49, .int 49, .int 49, .int 49, .int 49, .int 49, .int 49, .int 49, .int 49, .int 49, .int 50, .int 50, .int 50, .int 50, .int 50, .int 50, .int 50, .int 50, .int 50, .int 50, .int 51, .int 51, .int 51, .int 51, .int 51, .int 51, .int 51, .int 51, .int 51, .int 51, .int 52, .int 52, .int 52, .int 52, .int 52, .int 52, .int 52, .int 52, .int 52, .int 52, .int 53, .int 53, .int 53, .int 53, .int 53, .int 53, .int 53, .int 53, .int 53, .int 53, .int 54, .int 54, .int 54, .int 54, .int 54, .int 54, .int 54, .int 54, .int 54, .int 54, .int 55, .int 55, .int 55, .int 55, .int 55, .int 55, .int 55, .int 55, .int 55, .int 55, .int 56, .int 56, .int 56, .int 56, .int 56, .int 56, .int 56, .int 56, .int 56, .int 56, .int 57, .int 57, .int 57, .int 57, .int 57, .int 57, .int 57, .int 57, .int 57, .int 57], vm := .none }]
def classes : Array Class := #[k0, k1, k2, k3, k4, k5, k6, k7, k8, k9, k10, k11, k12, k13, k14, k15, k16, k17, k18, k19, k20, k21, k22, k23, k24, k25, k26, k27, k28, k29, k30]
def interned : List (Array UInt16 × Addr) := []
def slotsUsed : Nat := 219
def theMethod : MethodId := ⟨1, 1⟩
def args0 : Array Value := #[.int 1, .int 2, .int 3, .int 4, .int 5]
def aboutOver (below : List Frame) : State where
  vm := { classes := classes, interned := interned.toArray }
  heap := heap
  slotsUsed := slotsUsed
  threads := #[{ frames := .invoking theMethod args0 :: below }]
def below0 : List Frame := [.native { method := ⟨0, 0⟩, args := #[] }]
def about1 : State := aboutOver below0
def p0 : Program := .bare "" "" ""
def e0 : Env := launch0.env 0 0 0
theorem w_frames : about1.frames = Frame.invoking theMethod args0 :: below0 := rfl
set_option maxRecDepth 65536 in
theorem w_args : argsFit about1.vm theMethod args0 = true := by decide +kernel
set_option maxRecDepth 65536 in
theorem w_heap : heapFits about1 = true := by decide +kernel
set_option maxRecDepth 65536 in
theorem w_runnable : about1.curStatus? = some .runnable := by decide +kernel
set_option maxRecDepth 65536 in
theorem w_alone : about1.alone = true := by decide +kernel
set_option maxRecDepth 65536 in
theorem w_named : about1.methodNamed? x = some theMethod := by decide +kernel
set_option maxRecDepth 65536 in
theorem w_hears : about1.hears theMethod below0 = true := by decide +kernel
set_option maxRecDepth 65536 in
theorem w_ripe : about1.ripe theMethod args0 below0 = true := by decide +kernel
theorem w_running : about1.status = .running := rfl
set_option maxRecDepth 65536 in
theorem w_room : about1.hasRoom e0.platform room_1 = true :=
  launch0.hasRoom_least _ room_1 (by decide +kernel) (by decide +kernel) (by decide +kernel) (by decide +kernel) (by decide +kernel) (by decide +kernel)
theorem allAtoms_all (ts : List Jvm.Cond) (a : Array Jvm.Value) (st : Jvm.State) : (allAtoms ts).before a st = ts.all (fun c => c.before a st) := by
  induction ts with
  | nil => rfl
  | cons c t ih =>
    show (Jvm.Cond.and c (allAtoms t)).before a st = _
    rw [Jvm.Cond.before_and, ih, List.all_cons]
def words1 : List Jvm.Cond := Jvm.Cond.code x code maxLocals ret :: tables_1
/-- a 'code' word, met by the world's own term for the bytes: nothing is compared byte by byte -/
theorem code_word {y : MethodName} {bytes : ByteArray} {mx : Nat} {rt : Option FieldType} {a : Array Value} {s : State} {m : MethodId} {meth : Method} {c : Code} (h1 : s.methodNamed? y = some m) (h2 : s.vm.method? m = some meth) (h3 : meth.code = some c) (h4 : c.code = bytes)
    (h5 : (c.maxLocals == mx && c.exceptionTable.isEmpty && decide (c.maxStack ≤ mostOperands) && decide (meth.sig.returnType = rt) && !meth.locks && decide (parseMethodDescriptor y.desc = some meth.sig)) = true) : (Jvm.Cond.code y bytes mx rt).before a s = true := by
  simp only [Bool.and_eq_true, beq_iff_eq, Bool.not_eq_true', decide_eq_true_eq] at h5
  obtain ⟨⟨⟨⟨⟨g1, g2⟩, g3⟩, g4⟩, g5⟩, g6⟩ := h5
  simp [Cond.before, Cond.holds, Cond.value, h1, h2, h3, h4, g1, g2, g3, g4, g5, g6]
def isCode : Jvm.Cond → Bool
  | .code _ _ _ _ => true
  | _ => false
theorem all_split {L : List Jvm.Cond} {P : Jvm.Cond → Bool} (h1 : L.all (fun c => isCode c || P c) = true) (h2 : ∀ c ∈ L.filter isCode, P c = true) : L.all P = true := by
  refine List.all_eq_true.mpr fun c hc => ?_
  have h := List.all_eq_true.mp h1 c hc
  rcases Bool.eq_false_or_eq_true (isCode c) with hi | hi
  · exact h2 c (List.mem_filter.mpr ⟨hc, hi⟩)
  · simpa [hi] using h
set_option maxRecDepth 65536 in
theorem w_c0 : (Jvm.Cond.code x code maxLocals ret).before args0 about1 = true := code_word (m := ⟨1, 1⟩) (meth := k1m1) (c := k1c1) (by decide +kernel) rfl rfl rfl (by decide +kernel)
set_option maxRecDepth 65536 in
theorem w_c1 : (Jvm.Cond.code ({ cls := "com/example/condo/condo/tenant/NewKeyToStringPinLaw", name := "nameChar", desc := "(I)C" } : Jvm.MethodName) method_4_code (2 : Nat) (Option.some Jvm.ClassFile.FieldType.char)).before args0 about1 = true := code_word (m := ⟨1, 3⟩) (meth := k1m3) (c := k1c3) (by decide +kernel) rfl rfl rfl (by decide +kernel)
set_option maxRecDepth 65536 in
theorem w_c2 : (Jvm.Cond.code ({ cls := "java/lang/String", name := "<init>", desc := "([C)V" } : Jvm.MethodName) jdk_42_method_3_code (2 : Nat) (Option.none : Option Jvm.ClassFile.FieldType)).before args0 about1 = true := code_word (m := ⟨9, 1⟩) (meth := k9m1) (c := k9c1) (by decide +kernel) rfl rfl rfl (by decide +kernel)
set_option maxRecDepth 65536 in
theorem w_c3 : (Jvm.Cond.code ({ cls := "java/lang/String", name := "<init>", desc := "([CIILjava/lang/Void;)V" } : Jvm.MethodName) jdk_42_method_149_code (6 : Nat) (Option.none : Option Jvm.ClassFile.FieldType)).before args0 about1 = true := code_word (m := ⟨9, 8⟩) (meth := k9m8) (c := k9c8) (by decide +kernel) rfl rfl rfl (by decide +kernel)
set_option maxRecDepth 65536 in
theorem w_c4 : (Jvm.Cond.code ({ cls := "java/lang/Object", name := "<init>", desc := "()V" } : Jvm.MethodName) object_method_1_code (1 : Nat) (Option.none : Option Jvm.ClassFile.FieldType)).before args0 about1 = true := code_word (m := ⟨0, 0⟩) (meth := k0m0) (c := k0c0) (by decide +kernel) rfl rfl rfl (by decide +kernel)
set_option maxRecDepth 65536 in
theorem w_c5 : (Jvm.Cond.code ({ cls := "java/lang/StringUTF16", name := "compress", desc := "([CII)[B" } : Jvm.MethodName) jdk_52_method_16_code (6 : Nat) (Option.some (Jvm.ClassFile.FieldType.array Jvm.ClassFile.FieldType.byte))).before args0 about1 = true := code_word (m := ⟨10, 2⟩) (meth := k10m2) (c := k10c2) (by decide +kernel) rfl rfl rfl (by decide +kernel)
set_option maxRecDepth 65536 in
theorem w_c6 : (Jvm.Cond.code ({ cls := "java/lang/StringUTF16", name := "compress", desc := "([CI[BII)I" } : Jvm.MethodName) jdk_52_method_21_code (7 : Nat) (Option.some Jvm.ClassFile.FieldType.int)).before args0 about1 = true := code_word (m := ⟨10, 3⟩) (meth := k10m3) (c := k10c3) (by decide +kernel) rfl rfl rfl (by decide +kernel)
set_option maxRecDepth 65536 in
theorem w_c7 : (Jvm.Cond.code ({ cls := "java/lang/StringUTF16", name := "coderFromArrayLen", desc := "([BI)B" } : Jvm.MethodName) jdk_52_method_15_code (2 : Nat) (Option.some Jvm.ClassFile.FieldType.byte)).before args0 about1 = true := code_word (m := ⟨10, 1⟩) (meth := k10m1) (c := k10c1) (by decide +kernel) rfl rfl rfl (by decide +kernel)
set_option maxRecDepth 65536 in
theorem w_c8 : (Jvm.Cond.code ({ cls := "com/example/condo/condo/tenant/TenantName", name := "<init>", desc := "(Ljava/lang/String;)V" } : Jvm.MethodName) prog_25_method_1_code (4 : Nat) (Option.none : Option Jvm.ClassFile.FieldType)).before args0 about1 = true := code_word (m := ⟨3, 0⟩) (meth := k3m0) (c := k3c0) (by decide +kernel) rfl rfl rfl (by decide +kernel)
set_option maxRecDepth 65536 in
theorem w_c9 : (Jvm.Cond.code ({ cls := "java/lang/Record", name := "<init>", desc := "()V" } : Jvm.MethodName) jdk_30_method_1_code (1 : Nat) (Option.none : Option Jvm.ClassFile.FieldType)).before args0 about1 = true := code_word (m := ⟨2, 0⟩) (meth := k2m0) (c := k2c0) (by decide +kernel) rfl rfl rfl (by decide +kernel)
set_option maxRecDepth 65536 in
theorem w_c10 : (Jvm.Cond.code ({ cls := "java/util/Objects", name := "requireNonNull", desc := "(Ljava/lang/Object;Ljava/lang/String;)Ljava/lang/Object;" } : Jvm.MethodName) jdk_31_method_11_code (2 : Nat) (Option.some (Jvm.ClassFile.FieldType.object "java/lang/Object"))).before args0 about1 = true := code_word (m := ⟨11, 1⟩) (meth := k11m1) (c := k11c1) (by decide +kernel) rfl rfl rfl (by decide +kernel)
set_option maxRecDepth 65536 in
theorem w_c11 : (Jvm.Cond.code ({ cls := "java/lang/String", name := "isEmpty", desc := "()Z" } : Jvm.MethodName) jdk_42_method_55_code (1 : Nat) (Option.some Jvm.ClassFile.FieldType.boolean)).before args0 about1 = true := code_word (m := ⟨9, 4⟩) (meth := k9m4) (c := k9c4) (by decide +kernel) rfl rfl rfl (by decide +kernel)
set_option maxRecDepth 65536 in
theorem w_c12 : (Jvm.Cond.code ({ cls := "java/lang/String", name := "length", desc := "()I" } : Jvm.MethodName) jdk_42_method_54_code (1 : Nat) (Option.some Jvm.ClassFile.FieldType.int)).before args0 about1 = true := code_word (m := ⟨9, 3⟩) (meth := k9m3) (c := k9c3) (by decide +kernel) rfl rfl rfl (by decide +kernel)
set_option maxRecDepth 65536 in
theorem w_c13 : (Jvm.Cond.code ({ cls := "java/lang/String", name := "coder", desc := "()B" } : Jvm.MethodName) jdk_42_method_152_code (1 : Nat) (Option.some Jvm.ClassFile.FieldType.byte)).before args0 about1 = true := code_word (m := ⟨9, 10⟩) (meth := k9m10) (c := k9c10) (by decide +kernel) rfl rfl rfl (by decide +kernel)
set_option maxRecDepth 65536 in
theorem w_c14 : (Jvm.Cond.code ({ cls := "java/lang/String", name := "codePointAt", desc := "(I)I" } : Jvm.MethodName) jdk_42_method_57_code (3 : Nat) (Option.some Jvm.ClassFile.FieldType.int)).before args0 about1 = true := code_word (m := ⟨9, 6⟩) (meth := k9m6) (c := k9c6) (by decide +kernel) rfl rfl rfl (by decide +kernel)
set_option maxRecDepth 65536 in
theorem w_c15 : (Jvm.Cond.code ({ cls := "java/lang/String", name := "isLatin1", desc := "()Z" } : Jvm.MethodName) jdk_42_method_154_code (1 : Nat) (Option.some Jvm.ClassFile.FieldType.boolean)).before args0 about1 = true := code_word (m := ⟨9, 11⟩) (meth := k9m11) (c := k9c11) (by decide +kernel) rfl rfl rfl (by decide +kernel)
set_option maxRecDepth 65536 in
theorem w_c16 : (Jvm.Cond.code ({ cls := "java/lang/String", name := "checkIndex", desc := "(II)V" } : Jvm.MethodName) jdk_42_method_155_code (2 : Nat) (Option.none : Option Jvm.ClassFile.FieldType)).before args0 about1 = true := code_word (m := ⟨9, 12⟩) (meth := k9m12) (c := k9c12) (by decide +kernel) rfl rfl rfl (by decide +kernel)
set_option maxRecDepth 65536 in
theorem w_c17 : (Jvm.Cond.code ({ cls := "jdk/internal/util/Preconditions", name := "checkIndex", desc := "(IILjava/util/function/BiFunction;)I" } : Jvm.MethodName) jdk_41_method_11_code (3 : Nat) (Option.some Jvm.ClassFile.FieldType.int)).before args0 about1 = true := code_word (m := ⟨12, 1⟩) (meth := k12m1) (c := k12c1) (by decide +kernel) rfl rfl rfl (by decide +kernel)
set_option maxRecDepth 65536 in
theorem w_c18 : (Jvm.Cond.code ({ cls := "com/example/condo/condo/tenant/TenantName", name := "isAllowed", desc := "(I)Z" } : Jvm.MethodName) prog_25_method_2_code (1 : Nat) (Option.some Jvm.ClassFile.FieldType.boolean)).before args0 about1 = true := code_word (m := ⟨3, 1⟩) (meth := k3m1) (c := k3c1) (by decide +kernel) rfl rfl rfl (by decide +kernel)
set_option maxRecDepth 65536 in
theorem w_c19 : (Jvm.Cond.code ({ cls := "com/example/condo/condo/tenant/NewKey", name := "<init>", desc := "(Lcom/example/condo/condo/tenant/TenantName;ILjava/lang/String;)V" } : Jvm.MethodName) prog_18_method_1_code (4 : Nat) (Option.none : Option Jvm.ClassFile.FieldType)).before args0 about1 = true := code_word (m := ⟨13, 0⟩) (meth := k13m0) (c := k13c0) (by decide +kernel) rfl rfl rfl (by decide +kernel)
set_option maxRecDepth 65536 in
theorem w_c20 : (Jvm.Cond.code ({ cls := "com/example/condo/condo/tenant/NewKey", name := "toString", desc := "()Ljava/lang/String;" } : Jvm.MethodName) prog_18_method_2_code (1 : Nat) (Option.some (Jvm.ClassFile.FieldType.object "java/lang/String"))).before args0 about1 = true := code_word (m := ⟨13, 1⟩) (meth := k13m1) (c := k13c1) (by decide +kernel) rfl rfl rfl (by decide +kernel)
set_option maxRecDepth 65536 in
theorem w_c21 : (Jvm.Cond.code ({ cls := "java/lang/StringBuilder", name := "<init>", desc := "()V" } : Jvm.MethodName) jdk_67_method_1_code (1 : Nat) (Option.none : Option Jvm.ClassFile.FieldType)).before args0 about1 = true := code_word (m := ⟨16, 0⟩) (meth := k16m0) (c := k16c0) (by decide +kernel) rfl rfl rfl (by decide +kernel)
set_option maxRecDepth 65536 in
theorem w_c22 : (Jvm.Cond.code ({ cls := "java/lang/AbstractStringBuilder", name := "<init>", desc := "(I)V" } : Jvm.MethodName) jdk_68_method_2_code (2 : Nat) (Option.none : Option Jvm.ClassFile.FieldType)).before args0 about1 = true := code_word (m := ⟨15, 1⟩) (meth := k15m1) (c := k15c1) (by decide +kernel) rfl rfl rfl (by decide +kernel)
set_option maxRecDepth 65536 in
theorem w_c23 : (Jvm.Cond.code ({ cls := "java/lang/StringBuilder", name := "append", desc := "(Ljava/lang/String;)Ljava/lang/StringBuilder;" } : Jvm.MethodName) jdk_67_method_7_code (2 : Nat) (Option.some (Jvm.ClassFile.FieldType.object "java/lang/StringBuilder"))).before args0 about1 = true := code_word (m := ⟨16, 1⟩) (meth := k16m1) (c := k16c1) (by decide +kernel) rfl rfl rfl (by decide +kernel)
set_option maxRecDepth 65536 in
theorem w_c24 : (Jvm.Cond.code ({ cls := "java/lang/AbstractStringBuilder", name := "append", desc := "(Ljava/lang/String;)Ljava/lang/AbstractStringBuilder;" } : Jvm.MethodName) jdk_68_method_22_code (3 : Nat) (Option.some (Jvm.ClassFile.FieldType.object "java/lang/AbstractStringBuilder"))).before args0 about1 = true := code_word (m := ⟨15, 5⟩) (meth := k15m5) (c := k15c5) (by decide +kernel) rfl rfl rfl (by decide +kernel)
set_option maxRecDepth 65536 in
theorem w_c25 : (Jvm.Cond.code ({ cls := "java/lang/AbstractStringBuilder", name := "ensureCapacityInternal", desc := "(I)V" } : Jvm.MethodName) jdk_68_method_9_code (3 : Nat) (Option.none : Option Jvm.ClassFile.FieldType)).before args0 about1 = true := code_word (m := ⟨15, 3⟩) (meth := k15m3) (c := k15c3) (by decide +kernel) rfl rfl rfl (by decide +kernel)
set_option maxRecDepth 65536 in
theorem w_c26 : (Jvm.Cond.code ({ cls := "java/lang/AbstractStringBuilder", name := "putStringAt", desc := "(ILjava/lang/String;)V" } : Jvm.MethodName) jdk_68_method_73_code (3 : Nat) (Option.none : Option Jvm.ClassFile.FieldType)).before args0 about1 = true := code_word (m := ⟨15, 10⟩) (meth := k15m10) (c := k15c10) (by decide +kernel) rfl rfl rfl (by decide +kernel)
set_option maxRecDepth 65536 in
theorem w_c27 : (Jvm.Cond.code ({ cls := "java/lang/AbstractStringBuilder", name := "inflateIfNeededFor", desc := "(Ljava/lang/String;)V" } : Jvm.MethodName) jdk_68_method_71_code (2 : Nat) (Option.none : Option Jvm.ClassFile.FieldType)).before args0 about1 = true := code_word (m := ⟨15, 9⟩) (meth := k15m9) (c := k15c9) (by decide +kernel) rfl rfl rfl (by decide +kernel)
set_option maxRecDepth 65536 in
theorem w_c28 : (Jvm.Cond.code ({ cls := "java/lang/String", name := "getBytes", desc := "([BIB)V" } : Jvm.MethodName) jdk_42_method_147_code (4 : Nat) (Option.none : Option Jvm.ClassFile.FieldType)).before args0 about1 = true := code_word (m := ⟨9, 7⟩) (meth := k9m7) (c := k9c7) (by decide +kernel) rfl rfl rfl (by decide +kernel)
set_option maxRecDepth 65536 in
theorem w_c29 : (Jvm.Cond.code ({ cls := "com/example/condo/condo/tenant/TenantName", name := "value", desc := "()Ljava/lang/String;" } : Jvm.MethodName) prog_25_method_6_code (1 : Nat) (Option.some (Jvm.ClassFile.FieldType.object "java/lang/String"))).before args0 about1 = true := code_word (m := ⟨3, 2⟩) (meth := k3m2) (c := k3c2) (by decide +kernel) rfl rfl rfl (by decide +kernel)
set_option maxRecDepth 65536 in
theorem w_c30 : (Jvm.Cond.code ({ cls := "java/lang/AbstractStringBuilder", name := "newCapacity", desc := "(I)I" } : Jvm.MethodName) jdk_68_method_10_code (6 : Nat) (Option.some Jvm.ClassFile.FieldType.int)).before args0 about1 = true := code_word (m := ⟨15, 4⟩) (meth := k15m4) (c := k15c4) (by decide +kernel) rfl rfl rfl (by decide +kernel)
set_option maxRecDepth 65536 in
theorem w_c31 : (Jvm.Cond.code ({ cls := "jdk/internal/util/ArraysSupport", name := "newLength", desc := "(III)I" } : Jvm.MethodName) jdk_48_method_27_code (4 : Nat) (Option.some Jvm.ClassFile.FieldType.int)).before args0 about1 = true := code_word (m := ⟨18, 1⟩) (meth := k18m1) (c := k18c1) (by decide +kernel) rfl rfl rfl (by decide +kernel)
set_option maxRecDepth 65536 in
theorem w_c32 : (Jvm.Cond.code ({ cls := "java/lang/Math", name := "max", desc := "(II)I" } : Jvm.MethodName) jdk_29_method_65_code (2 : Nat) (Option.some Jvm.ClassFile.FieldType.int)).before args0 about1 = true := code_word (m := ⟨19, 2⟩) (meth := k19m2) (c := k19c2) (by decide +kernel) rfl rfl rfl (by decide +kernel)
set_option maxRecDepth 65536 in
theorem w_c33 : (Jvm.Cond.code ({ cls := "java/util/Arrays", name := "copyOf", desc := "([BI)[B" } : Jvm.MethodName) jdk_65_method_121_code (3 : Nat) (Option.some (Jvm.ClassFile.FieldType.array Jvm.ClassFile.FieldType.byte))).before args0 about1 = true := code_word (m := ⟨20, 1⟩) (meth := k20m1) (c := k20c1) (by decide +kernel) rfl rfl rfl (by decide +kernel)
set_option maxRecDepth 65536 in
theorem w_c34 : (Jvm.Cond.code ({ cls := "java/lang/Math", name := "min", desc := "(II)I" } : Jvm.MethodName) jdk_29_method_69_code (2 : Nat) (Option.some Jvm.ClassFile.FieldType.int)).before args0 about1 = true := code_word (m := ⟨19, 3⟩) (meth := k19m3) (c := k19c3) (by decide +kernel) rfl rfl rfl (by decide +kernel)
set_option maxRecDepth 65536 in
theorem w_c35 : (Jvm.Cond.code ({ cls := "java/lang/StringBuilder", name := "append", desc := "(I)Ljava/lang/StringBuilder;" } : Jvm.MethodName) jdk_67_method_15_code (2 : Nat) (Option.some (Jvm.ClassFile.FieldType.object "java/lang/StringBuilder"))).before args0 about1 = true := code_word (m := ⟨16, 2⟩) (meth := k16m2) (c := k16c2) (by decide +kernel) rfl rfl rfl (by decide +kernel)
set_option maxRecDepth 65536 in
theorem w_c36 : (Jvm.Cond.code ({ cls := "java/lang/AbstractStringBuilder", name := "append", desc := "(I)Ljava/lang/AbstractStringBuilder;" } : Jvm.MethodName) jdk_68_method_32_code (4 : Nat) (Option.some (Jvm.ClassFile.FieldType.object "java/lang/AbstractStringBuilder"))).before args0 about1 = true := code_word (m := ⟨15, 6⟩) (meth := k15m6) (c := k15c6) (by decide +kernel) rfl rfl rfl (by decide +kernel)
set_option maxRecDepth 65536 in
theorem w_c37 : (Jvm.Cond.code ({ cls := "java/lang/Integer", name := "stringSize", desc := "(I)I" } : Jvm.MethodName) jdk_33_method_13_code (4 : Nat) (Option.some Jvm.ClassFile.FieldType.int)).before args0 about1 = true := code_word (m := ⟨22, 1⟩) (meth := k22m1) (c := k22c1) (by decide +kernel) rfl rfl rfl (by decide +kernel)
set_option maxRecDepth 65536 in
theorem w_c38 : (Jvm.Cond.code ({ cls := "java/lang/AbstractStringBuilder", name := "isLatin1", desc := "()Z" } : Jvm.MethodName) jdk_68_method_68_code (1 : Nat) (Option.some Jvm.ClassFile.FieldType.boolean)).before args0 about1 = true := code_word (m := ⟨15, 8⟩) (meth := k15m8) (c := k15c8) (by decide +kernel) rfl rfl rfl (by decide +kernel)
set_option maxRecDepth 65536 in
theorem w_c39 : (Jvm.Cond.code ({ cls := "java/lang/Integer", name := "getChars", desc := "(II[B)I" } : Jvm.MethodName) jdk_33_method_12_code (7 : Nat) (Option.some Jvm.ClassFile.FieldType.int)).before args0 about1 = true := code_word (m := ⟨22, 0⟩) (meth := k22m0) (c := k22c0) (by decide +kernel) rfl rfl rfl (by decide +kernel)
set_option maxRecDepth 65536 in
theorem w_c40 : (Jvm.Cond.code ({ cls := "java/lang/StringBuilder", name := "toString", desc := "()Ljava/lang/String;" } : Jvm.MethodName) jdk_67_method_42_code (1 : Nat) (Option.some (Jvm.ClassFile.FieldType.object "java/lang/String"))).before args0 about1 = true := code_word (m := ⟨16, 3⟩) (meth := k16m3) (c := k16c3) (by decide +kernel) rfl rfl rfl (by decide +kernel)
set_option maxRecDepth 65536 in
theorem w_c41 : (Jvm.Cond.code ({ cls := "java/lang/String", name := "<init>", desc := "(Ljava/lang/StringBuilder;)V" } : Jvm.MethodName) jdk_42_method_53_code (2 : Nat) (Option.none : Option Jvm.ClassFile.FieldType)).before args0 about1 = true := code_word (m := ⟨9, 2⟩) (meth := k9m2) (c := k9c2) (by decide +kernel) rfl rfl rfl (by decide +kernel)
set_option maxRecDepth 65536 in
theorem w_c42 : (Jvm.Cond.code ({ cls := "java/lang/String", name := "<init>", desc := "(Ljava/lang/AbstractStringBuilder;Ljava/lang/Void;)V" } : Jvm.MethodName) jdk_42_method_150_code (5 : Nat) (Option.none : Option Jvm.ClassFile.FieldType)).before args0 about1 = true := code_word (m := ⟨9, 9⟩) (meth := k9m9) (c := k9c9) (by decide +kernel) rfl rfl rfl (by decide +kernel)
set_option maxRecDepth 65536 in
theorem w_c43 : (Jvm.Cond.code ({ cls := "java/lang/AbstractStringBuilder", name := "getValue", desc := "()[B" } : Jvm.MethodName) jdk_68_method_64_code (1 : Nat) (Option.some (Jvm.ClassFile.FieldType.array Jvm.ClassFile.FieldType.byte))).before args0 about1 = true := code_word (m := ⟨15, 7⟩) (meth := k15m7) (c := k15c7) (by decide +kernel) rfl rfl rfl (by decide +kernel)
set_option maxRecDepth 65536 in
theorem w_c44 : (Jvm.Cond.code ({ cls := "java/lang/StringBuilder", name := "length", desc := "()I" } : Jvm.MethodName) jdk_67_method_93_code (1 : Nat) (Option.some Jvm.ClassFile.FieldType.int)).before args0 about1 = true := code_word (m := ⟨16, 4⟩) (meth := k16m4) (c := k16c4) (by decide +kernel) rfl rfl rfl (by decide +kernel)
set_option maxRecDepth 65536 in
theorem w_c45 : (Jvm.Cond.code ({ cls := "java/lang/AbstractStringBuilder", name := "length", desc := "()I" } : Jvm.MethodName) jdk_68_method_6_code (1 : Nat) (Option.some Jvm.ClassFile.FieldType.int)).before args0 about1 = true := code_word (m := ⟨15, 2⟩) (meth := k15m2) (c := k15c2) (by decide +kernel) rfl rfl rfl (by decide +kernel)
set_option maxRecDepth 65536 in
theorem w_c46 : (Jvm.Cond.code ({ cls := "java/util/Arrays", name := "copyOfRange", desc := "([BII)[B" } : Jvm.MethodName) jdk_65_method_132_code (3 : Nat) (Option.some (Jvm.ClassFile.FieldType.array Jvm.ClassFile.FieldType.byte))).before args0 about1 = true := code_word (m := ⟨20, 3⟩) (meth := k20m3) (c := k20c3) (by decide +kernel) rfl rfl rfl (by decide +kernel)
set_option maxRecDepth 65536 in
theorem w_c47 : (Jvm.Cond.code ({ cls := "java/util/Arrays", name := "copyOfRangeByte", desc := "([BII)[B" } : Jvm.MethodName) jdk_65_method_133_code (5 : Nat) (Option.some (Jvm.ClassFile.FieldType.array Jvm.ClassFile.FieldType.byte))).before args0 about1 = true := code_word (m := ⟨20, 4⟩) (meth := k20m4) (c := k20c4) (by decide +kernel) rfl rfl rfl (by decide +kernel)
set_option maxRecDepth 65536 in
theorem w_c48 : (Jvm.Cond.code ({ cls := "java/util/Arrays", name := "checkLength", desc := "(II)V" } : Jvm.MethodName) jdk_65_method_131_code (2 : Nat) (Option.none : Option Jvm.ClassFile.FieldType)).before args0 about1 = true := code_word (m := ⟨20, 2⟩) (meth := k20m2) (c := k20c2) (by decide +kernel) rfl rfl rfl (by decide +kernel)
set_option maxRecDepth 65536 in
theorem w_c49 : (Jvm.Cond.code ({ cls := "java/lang/Math", name := "abs", desc := "(J)J" } : Jvm.MethodName) jdk_29_method_61_code (2 : Nat) (Option.some Jvm.ClassFile.FieldType.long)).before args0 about1 = true := code_word (m := ⟨19, 1⟩) (meth := k19m1) (c := k19c1) (by decide +kernel) rfl rfl rfl (by decide +kernel)
set_option maxRecDepth 65536 in
theorem w_c50 : (Jvm.Cond.code ({ cls := "com/example/condo/condo/tenant/NewKeyToStringPinLaw", name := "numDigits", desc := "(J)I" } : Jvm.MethodName) method_8_code (2 : Nat) (Option.some Jvm.ClassFile.FieldType.int)).before args0 about1 = true := code_word (m := ⟨1, 7⟩) (meth := k1m7) (c := k1c7) (by decide +kernel) rfl rfl rfl (by decide +kernel)
set_option maxRecDepth 65536 in
theorem w_c51 : (Jvm.Cond.code ({ cls := "com/example/condo/condo/tenant/NewKeyToStringPinLaw", name := "tail", desc := "(IZJI)C" } : Jvm.MethodName) method_5_code (6 : Nat) (Option.some Jvm.ClassFile.FieldType.char)).before args0 about1 = true := code_word (m := ⟨1, 4⟩) (meth := k1m4) (c := k1c4) (by decide +kernel) rfl rfl rfl (by decide +kernel)
set_option maxRecDepth 65536 in
theorem w_c52 : (Jvm.Cond.code ({ cls := "com/example/condo/condo/tenant/NewKeyToStringPinLaw", name := "digit", desc := "(JI)I" } : Jvm.MethodName) method_6_code (3 : Nat) (Option.some Jvm.ClassFile.FieldType.int)).before args0 about1 = true := code_word (m := ⟨1, 5⟩) (meth := k1m5) (c := k1c5) (by decide +kernel) rfl rfl rfl (by decide +kernel)
set_option maxRecDepth 65536 in
theorem w_c53 : (Jvm.Cond.code ({ cls := "com/example/condo/condo/tenant/NewKeyToStringPinLaw", name := "pow10", desc := "(I)J" } : Jvm.MethodName) method_7_code (1 : Nat) (Option.some Jvm.ClassFile.FieldType.long)).before args0 about1 = true := code_word (m := ⟨1, 6⟩) (meth := k1m6) (c := k1c6) (by decide +kernel) rfl rfl rfl (by decide +kernel)
set_option maxRecDepth 65536 in
theorem w_c54 : (Jvm.Cond.code ({ cls := "com/example/condo/condo/tenant/NewKeyToStringPinLaw", name := "at", desc := "(Ljava/lang/String;[CII)Z" } : Jvm.MethodName) method_3_code (4 : Nat) (Option.some Jvm.ClassFile.FieldType.boolean)).before args0 about1 = true := code_word (m := ⟨1, 2⟩) (meth := k1m2) (c := k1c2) (by decide +kernel) rfl rfl rfl (by decide +kernel)
set_option maxRecDepth 65536 in
theorem w_c55 : (Jvm.Cond.code ({ cls := "java/lang/String", name := "charAt", desc := "(I)C" } : Jvm.MethodName) jdk_42_method_56_code (2 : Nat) (Option.some Jvm.ClassFile.FieldType.char)).before args0 about1 = true := code_word (m := ⟨9, 5⟩) (meth := k9m5) (c := k9c5) (by decide +kernel) rfl rfl rfl (by decide +kernel)
set_option maxRecDepth 65536 in
theorem w_c56 : (Jvm.Cond.code ({ cls := "java/lang/StringLatin1", name := "charAt", desc := "([BI)C" } : Jvm.MethodName) jdk_43_method_2_code (2 : Nat) (Option.some Jvm.ClassFile.FieldType.char)).before args0 about1 = true := code_word (m := ⟨23, 1⟩) (meth := k23m1) (c := k23c1) (by decide +kernel) rfl rfl rfl (by decide +kernel)
def codes1 : List Jvm.Cond := [Jvm.Cond.code x code maxLocals ret, Jvm.Cond.code ({ cls := "com/example/condo/condo/tenant/NewKeyToStringPinLaw", name := "nameChar", desc := "(I)C" } : Jvm.MethodName) method_4_code (2 : Nat) (Option.some Jvm.ClassFile.FieldType.char), Jvm.Cond.code ({ cls := "java/lang/String", name := "<init>", desc := "([C)V" } : Jvm.MethodName) jdk_42_method_3_code (2 : Nat) (Option.none : Option Jvm.ClassFile.FieldType), Jvm.Cond.code ({ cls := "java/lang/String", name := "<init>", desc := "([CIILjava/lang/Void;)V" } : Jvm.MethodName) jdk_42_method_149_code (6 : Nat) (Option.none : Option Jvm.ClassFile.FieldType), Jvm.Cond.code ({ cls := "java/lang/Object", name := "<init>", desc := "()V" } : Jvm.MethodName) object_method_1_code (1 : Nat) (Option.none : Option Jvm.ClassFile.FieldType), Jvm.Cond.code ({ cls := "java/lang/StringUTF16", name := "compress", desc := "([CII)[B" } : Jvm.MethodName) jdk_52_method_16_code (6 : Nat) (Option.some (Jvm.ClassFile.FieldType.array Jvm.ClassFile.FieldType.byte)), Jvm.Cond.code ({ cls := "java/lang/StringUTF16", name := "compress", desc := "([CI[BII)I" } : Jvm.MethodName) jdk_52_method_21_code (7 : Nat) (Option.some Jvm.ClassFile.FieldType.int), Jvm.Cond.code ({ cls := "java/lang/StringUTF16", name := "coderFromArrayLen", desc := "([BI)B" } : Jvm.MethodName) jdk_52_method_15_code (2 : Nat) (Option.some Jvm.ClassFile.FieldType.byte), Jvm.Cond.code ({ cls := "com/example/condo/condo/tenant/TenantName", name := "<init>", desc := "(Ljava/lang/String;)V" } : Jvm.MethodName) prog_25_method_1_code (4 : Nat) (Option.none : Option Jvm.ClassFile.FieldType), Jvm.Cond.code ({ cls := "java/lang/Record", name := "<init>", desc := "()V" } : Jvm.MethodName) jdk_30_method_1_code (1 : Nat) (Option.none : Option Jvm.ClassFile.FieldType), Jvm.Cond.code ({ cls := "java/util/Objects", name := "requireNonNull", desc := "(Ljava/lang/Object;Ljava/lang/String;)Ljava/lang/Object;" } : Jvm.MethodName) jdk_31_method_11_code (2 : Nat) (Option.some (Jvm.ClassFile.FieldType.object "java/lang/Object")), Jvm.Cond.code ({ cls := "java/lang/String", name := "isEmpty", desc := "()Z" } : Jvm.MethodName) jdk_42_method_55_code (1 : Nat) (Option.some Jvm.ClassFile.FieldType.boolean), Jvm.Cond.code ({ cls := "java/lang/String", name := "length", desc := "()I" } : Jvm.MethodName) jdk_42_method_54_code (1 : Nat) (Option.some Jvm.ClassFile.FieldType.int), Jvm.Cond.code ({ cls := "java/lang/String", name := "coder", desc := "()B" } : Jvm.MethodName) jdk_42_method_152_code (1 : Nat) (Option.some Jvm.ClassFile.FieldType.byte), Jvm.Cond.code ({ cls := "java/lang/String", name := "codePointAt", desc := "(I)I" } : Jvm.MethodName) jdk_42_method_57_code (3 : Nat) (Option.some Jvm.ClassFile.FieldType.int), Jvm.Cond.code ({ cls := "java/lang/String", name := "isLatin1", desc := "()Z" } : Jvm.MethodName) jdk_42_method_154_code (1 : Nat) (Option.some Jvm.ClassFile.FieldType.boolean), Jvm.Cond.code ({ cls := "java/lang/String", name := "checkIndex", desc := "(II)V" } : Jvm.MethodName) jdk_42_method_155_code (2 : Nat) (Option.none : Option Jvm.ClassFile.FieldType), Jvm.Cond.code ({ cls := "jdk/internal/util/Preconditions", name := "checkIndex", desc := "(IILjava/util/function/BiFunction;)I" } : Jvm.MethodName) jdk_41_method_11_code (3 : Nat) (Option.some Jvm.ClassFile.FieldType.int), Jvm.Cond.code ({ cls := "com/example/condo/condo/tenant/TenantName", name := "isAllowed", desc := "(I)Z" } : Jvm.MethodName) prog_25_method_2_code (1 : Nat) (Option.some Jvm.ClassFile.FieldType.boolean), Jvm.Cond.code ({ cls := "com/example/condo/condo/tenant/NewKey", name := "<init>", desc := "(Lcom/example/condo/condo/tenant/TenantName;ILjava/lang/String;)V" } : Jvm.MethodName) prog_18_method_1_code (4 : Nat) (Option.none : Option Jvm.ClassFile.FieldType), Jvm.Cond.code ({ cls := "com/example/condo/condo/tenant/NewKey", name := "toString", desc := "()Ljava/lang/String;" } : Jvm.MethodName) prog_18_method_2_code (1 : Nat) (Option.some (Jvm.ClassFile.FieldType.object "java/lang/String")), Jvm.Cond.code ({ cls := "java/lang/StringBuilder", name := "<init>", desc := "()V" } : Jvm.MethodName) jdk_67_method_1_code (1 : Nat) (Option.none : Option Jvm.ClassFile.FieldType), Jvm.Cond.code ({ cls := "java/lang/AbstractStringBuilder", name := "<init>", desc := "(I)V" } : Jvm.MethodName) jdk_68_method_2_code (2 : Nat) (Option.none : Option Jvm.ClassFile.FieldType), Jvm.Cond.code ({ cls := "java/lang/StringBuilder", name := "append", desc := "(Ljava/lang/String;)Ljava/lang/StringBuilder;" } : Jvm.MethodName) jdk_67_method_7_code (2 : Nat) (Option.some (Jvm.ClassFile.FieldType.object "java/lang/StringBuilder")), Jvm.Cond.code ({ cls := "java/lang/AbstractStringBuilder", name := "append", desc := "(Ljava/lang/String;)Ljava/lang/AbstractStringBuilder;" } : Jvm.MethodName) jdk_68_method_22_code (3 : Nat) (Option.some (Jvm.ClassFile.FieldType.object "java/lang/AbstractStringBuilder")), Jvm.Cond.code ({ cls := "java/lang/AbstractStringBuilder", name := "ensureCapacityInternal", desc := "(I)V" } : Jvm.MethodName) jdk_68_method_9_code (3 : Nat) (Option.none : Option Jvm.ClassFile.FieldType), Jvm.Cond.code ({ cls := "java/lang/AbstractStringBuilder", name := "putStringAt", desc := "(ILjava/lang/String;)V" } : Jvm.MethodName) jdk_68_method_73_code (3 : Nat) (Option.none : Option Jvm.ClassFile.FieldType), Jvm.Cond.code ({ cls := "java/lang/AbstractStringBuilder", name := "inflateIfNeededFor", desc := "(Ljava/lang/String;)V" } : Jvm.MethodName) jdk_68_method_71_code (2 : Nat) (Option.none : Option Jvm.ClassFile.FieldType), Jvm.Cond.code ({ cls := "java/lang/String", name := "getBytes", desc := "([BIB)V" } : Jvm.MethodName) jdk_42_method_147_code (4 : Nat) (Option.none : Option Jvm.ClassFile.FieldType), Jvm.Cond.code ({ cls := "com/example/condo/condo/tenant/TenantName", name := "value", desc := "()Ljava/lang/String;" } : Jvm.MethodName) prog_25_method_6_code (1 : Nat) (Option.some (Jvm.ClassFile.FieldType.object "java/lang/String")), Jvm.Cond.code ({ cls := "java/lang/AbstractStringBuilder", name := "newCapacity", desc := "(I)I" } : Jvm.MethodName) jdk_68_method_10_code (6 : Nat) (Option.some Jvm.ClassFile.FieldType.int), Jvm.Cond.code ({ cls := "jdk/internal/util/ArraysSupport", name := "newLength", desc := "(III)I" } : Jvm.MethodName) jdk_48_method_27_code (4 : Nat) (Option.some Jvm.ClassFile.FieldType.int), Jvm.Cond.code ({ cls := "java/lang/Math", name := "max", desc := "(II)I" } : Jvm.MethodName) jdk_29_method_65_code (2 : Nat) (Option.some Jvm.ClassFile.FieldType.int), Jvm.Cond.code ({ cls := "java/util/Arrays", name := "copyOf", desc := "([BI)[B" } : Jvm.MethodName) jdk_65_method_121_code (3 : Nat) (Option.some (Jvm.ClassFile.FieldType.array Jvm.ClassFile.FieldType.byte)), Jvm.Cond.code ({ cls := "java/lang/Math", name := "min", desc := "(II)I" } : Jvm.MethodName) jdk_29_method_69_code (2 : Nat) (Option.some Jvm.ClassFile.FieldType.int), Jvm.Cond.code ({ cls := "java/lang/StringBuilder", name := "append", desc := "(I)Ljava/lang/StringBuilder;" } : Jvm.MethodName) jdk_67_method_15_code (2 : Nat) (Option.some (Jvm.ClassFile.FieldType.object "java/lang/StringBuilder")), Jvm.Cond.code ({ cls := "java/lang/AbstractStringBuilder", name := "append", desc := "(I)Ljava/lang/AbstractStringBuilder;" } : Jvm.MethodName) jdk_68_method_32_code (4 : Nat) (Option.some (Jvm.ClassFile.FieldType.object "java/lang/AbstractStringBuilder")), Jvm.Cond.code ({ cls := "java/lang/Integer", name := "stringSize", desc := "(I)I" } : Jvm.MethodName) jdk_33_method_13_code (4 : Nat) (Option.some Jvm.ClassFile.FieldType.int), Jvm.Cond.code ({ cls := "java/lang/AbstractStringBuilder", name := "isLatin1", desc := "()Z" } : Jvm.MethodName) jdk_68_method_68_code (1 : Nat) (Option.some Jvm.ClassFile.FieldType.boolean), Jvm.Cond.code ({ cls := "java/lang/Integer", name := "getChars", desc := "(II[B)I" } : Jvm.MethodName) jdk_33_method_12_code (7 : Nat) (Option.some Jvm.ClassFile.FieldType.int), Jvm.Cond.code ({ cls := "java/lang/StringBuilder", name := "toString", desc := "()Ljava/lang/String;" } : Jvm.MethodName) jdk_67_method_42_code (1 : Nat) (Option.some (Jvm.ClassFile.FieldType.object "java/lang/String")), Jvm.Cond.code ({ cls := "java/lang/String", name := "<init>", desc := "(Ljava/lang/StringBuilder;)V" } : Jvm.MethodName) jdk_42_method_53_code (2 : Nat) (Option.none : Option Jvm.ClassFile.FieldType), Jvm.Cond.code ({ cls := "java/lang/String", name := "<init>", desc := "(Ljava/lang/AbstractStringBuilder;Ljava/lang/Void;)V" } : Jvm.MethodName) jdk_42_method_150_code (5 : Nat) (Option.none : Option Jvm.ClassFile.FieldType), Jvm.Cond.code ({ cls := "java/lang/AbstractStringBuilder", name := "getValue", desc := "()[B" } : Jvm.MethodName) jdk_68_method_64_code (1 : Nat) (Option.some (Jvm.ClassFile.FieldType.array Jvm.ClassFile.FieldType.byte)), Jvm.Cond.code ({ cls := "java/lang/StringBuilder", name := "length", desc := "()I" } : Jvm.MethodName) jdk_67_method_93_code (1 : Nat) (Option.some Jvm.ClassFile.FieldType.int), Jvm.Cond.code ({ cls := "java/lang/AbstractStringBuilder", name := "length", desc := "()I" } : Jvm.MethodName) jdk_68_method_6_code (1 : Nat) (Option.some Jvm.ClassFile.FieldType.int), Jvm.Cond.code ({ cls := "java/util/Arrays", name := "copyOfRange", desc := "([BII)[B" } : Jvm.MethodName) jdk_65_method_132_code (3 : Nat) (Option.some (Jvm.ClassFile.FieldType.array Jvm.ClassFile.FieldType.byte)), Jvm.Cond.code ({ cls := "java/util/Arrays", name := "copyOfRangeByte", desc := "([BII)[B" } : Jvm.MethodName) jdk_65_method_133_code (5 : Nat) (Option.some (Jvm.ClassFile.FieldType.array Jvm.ClassFile.FieldType.byte)), Jvm.Cond.code ({ cls := "java/util/Arrays", name := "checkLength", desc := "(II)V" } : Jvm.MethodName) jdk_65_method_131_code (2 : Nat) (Option.none : Option Jvm.ClassFile.FieldType), Jvm.Cond.code ({ cls := "java/lang/Math", name := "abs", desc := "(J)J" } : Jvm.MethodName) jdk_29_method_61_code (2 : Nat) (Option.some Jvm.ClassFile.FieldType.long), Jvm.Cond.code ({ cls := "com/example/condo/condo/tenant/NewKeyToStringPinLaw", name := "numDigits", desc := "(J)I" } : Jvm.MethodName) method_8_code (2 : Nat) (Option.some Jvm.ClassFile.FieldType.int), Jvm.Cond.code ({ cls := "com/example/condo/condo/tenant/NewKeyToStringPinLaw", name := "tail", desc := "(IZJI)C" } : Jvm.MethodName) method_5_code (6 : Nat) (Option.some Jvm.ClassFile.FieldType.char), Jvm.Cond.code ({ cls := "com/example/condo/condo/tenant/NewKeyToStringPinLaw", name := "digit", desc := "(JI)I" } : Jvm.MethodName) method_6_code (3 : Nat) (Option.some Jvm.ClassFile.FieldType.int), Jvm.Cond.code ({ cls := "com/example/condo/condo/tenant/NewKeyToStringPinLaw", name := "pow10", desc := "(I)J" } : Jvm.MethodName) method_7_code (1 : Nat) (Option.some Jvm.ClassFile.FieldType.long), Jvm.Cond.code ({ cls := "com/example/condo/condo/tenant/NewKeyToStringPinLaw", name := "at", desc := "(Ljava/lang/String;[CII)Z" } : Jvm.MethodName) method_3_code (4 : Nat) (Option.some Jvm.ClassFile.FieldType.boolean), Jvm.Cond.code ({ cls := "java/lang/String", name := "charAt", desc := "(I)C" } : Jvm.MethodName) jdk_42_method_56_code (2 : Nat) (Option.some Jvm.ClassFile.FieldType.char), Jvm.Cond.code ({ cls := "java/lang/StringLatin1", name := "charAt", desc := "([BI)C" } : Jvm.MethodName) jdk_43_method_2_code (2 : Nat) (Option.some Jvm.ClassFile.FieldType.char)]
set_option maxRecDepth 65536 in
theorem codes_eq : words1.filter isCode = codes1 := rfl
theorem w_codes : ∀ c ∈ words1.filter isCode, c.before args0 about1 = true := by
  rw [codes_eq]
  intro c hc
  simp only [codes1, List.mem_cons, List.not_mem_nil, or_false] at hc
  rcases hc with rfl | rfl | rfl | rfl | rfl | rfl | rfl | rfl | rfl | rfl | rfl | rfl | rfl | rfl | rfl | rfl | rfl | rfl | rfl | rfl | rfl | rfl | rfl | rfl | rfl | rfl | rfl | rfl | rfl | rfl | rfl | rfl | rfl | rfl | rfl | rfl | rfl | rfl | rfl | rfl | rfl | rfl | rfl | rfl | rfl | rfl | rfl | rfl | rfl | rfl | rfl | rfl | rfl | rfl | rfl | rfl | rfl
  · exact w_c0
  · exact w_c1
  · exact w_c2
  · exact w_c3
  · exact w_c4
  · exact w_c5
  · exact w_c6
  · exact w_c7
  · exact w_c8
  · exact w_c9
  · exact w_c10
  · exact w_c11
  · exact w_c12
  · exact w_c13
  · exact w_c14
  · exact w_c15
  · exact w_c16
  · exact w_c17
  · exact w_c18
  · exact w_c19
  · exact w_c20
  · exact w_c21
  · exact w_c22
  · exact w_c23
  · exact w_c24
  · exact w_c25
  · exact w_c26
  · exact w_c27
  · exact w_c28
  · exact w_c29
  · exact w_c30
  · exact w_c31
  · exact w_c32
  · exact w_c33
  · exact w_c34
  · exact w_c35
  · exact w_c36
  · exact w_c37
  · exact w_c38
  · exact w_c39
  · exact w_c40
  · exact w_c41
  · exact w_c42
  · exact w_c43
  · exact w_c44
  · exact w_c45
  · exact w_c46
  · exact w_c47
  · exact w_c48
  · exact w_c49
  · exact w_c50
  · exact w_c51
  · exact w_c52
  · exact w_c53
  · exact w_c54
  · exact w_c55
  · exact w_c56
set_option maxRecDepth 65536 in
theorem w_t1 : (words1.take 24).all (fun c => isCode c || c.before args0 about1) = true := by decide +kernel
set_option maxRecDepth 65536 in
theorem w_t2 : ((words1.drop 24).take 24).all (fun c => isCode c || c.before args0 about1) = true := by decide +kernel
set_option maxRecDepth 65536 in
theorem w_t3 : (((words1.drop 24).drop 24).take 24).all (fun c => isCode c || c.before args0 about1) = true := by decide +kernel
set_option maxRecDepth 65536 in
theorem w_t4 : ((((words1.drop 24).drop 24).drop 24).take 24).all (fun c => isCode c || c.before args0 about1) = true := by decide +kernel
set_option maxRecDepth 65536 in
theorem w_t5 : (((((words1.drop 24).drop 24).drop 24).drop 24).take 24).all (fun c => isCode c || c.before args0 about1) = true := by decide +kernel
set_option maxRecDepth 65536 in
theorem w_t6 : ((((((words1.drop 24).drop 24).drop 24).drop 24).drop 24).take 24).all (fun c => isCode c || c.before args0 about1) = true := by decide +kernel
set_option maxRecDepth 65536 in
theorem w_t7 : (((((((words1.drop 24).drop 24).drop 24).drop 24).drop 24).drop 24).take 24).all (fun c => isCode c || c.before args0 about1) = true := by decide +kernel
set_option maxRecDepth 65536 in
theorem w_t8 : ((((((((words1.drop 24).drop 24).drop 24).drop 24).drop 24).drop 24).drop 24).take 24).all (fun c => isCode c || c.before args0 about1) = true := by decide +kernel
set_option maxRecDepth 65536 in
theorem w_t9 : (((((((((words1.drop 24).drop 24).drop 24).drop 24).drop 24).drop 24).drop 24).drop 24).take 24).all (fun c => isCode c || c.before args0 about1) = true := by decide +kernel
set_option maxRecDepth 65536 in
theorem w_t10 : ((((((((((words1.drop 24).drop 24).drop 24).drop 24).drop 24).drop 24).drop 24).drop 24).drop 24).take 24).all (fun c => isCode c || c.before args0 about1) = true := by decide +kernel
set_option maxRecDepth 65536 in
theorem w_t11 : (((((((((((words1.drop 24).drop 24).drop 24).drop 24).drop 24).drop 24).drop 24).drop 24).drop 24).drop 24).take 24).all (fun c => isCode c || c.before args0 about1) = true := by decide +kernel
set_option maxRecDepth 65536 in
theorem w_t12 : ((((((((((((words1.drop 24).drop 24).drop 24).drop 24).drop 24).drop 24).drop 24).drop 24).drop 24).drop 24).drop 24).take 24).all (fun c => isCode c || c.before args0 about1) = true := by decide +kernel
set_option maxRecDepth 65536 in
theorem w_t13 : ((((((((((((words1.drop 24).drop 24).drop 24).drop 24).drop 24).drop 24).drop 24).drop 24).drop 24).drop 24).drop 24).drop 24).all (fun c => isCode c || c.before args0 about1) = true := by decide +kernel
theorem w_tables : (allAtoms (Jvm.Cond.code x code maxLocals ret :: tables_1)).before args0 about1 = true := by
  rw [allAtoms_all]
  show words1.all (fun c => c.before args0 about1) = true
  refine all_split ?_ w_codes
  rw [← List.take_append_drop 24 words1, List.all_append, w_t1, ← List.take_append_drop 24 (words1.drop 24), List.all_append, w_t2, ← List.take_append_drop 24 ((words1.drop 24).drop 24), List.all_append, w_t3, ← List.take_append_drop 24 (((words1.drop 24).drop 24).drop 24), List.all_append, w_t4, ← List.take_append_drop 24 ((((words1.drop 24).drop 24).drop 24).drop 24), List.all_append, w_t5, ← List.take_append_drop 24 (((((words1.drop 24).drop 24).drop 24).drop 24).drop 24), List.all_append, w_t6, ← List.take_append_drop 24 ((((((words1.drop 24).drop 24).drop 24).drop 24).drop 24).drop 24), List.all_append, w_t7, ← List.take_append_drop 24 (((((((words1.drop 24).drop 24).drop 24).drop 24).drop 24).drop 24).drop 24), List.all_append, w_t8, ← List.take_append_drop 24 ((((((((words1.drop 24).drop 24).drop 24).drop 24).drop 24).drop 24).drop 24).drop 24), List.all_append, w_t9, ← List.take_append_drop 24 (((((((((words1.drop 24).drop 24).drop 24).drop 24).drop 24).drop 24).drop 24).drop 24).drop 24), List.all_append, w_t10, ← List.take_append_drop 24 ((((((((((words1.drop 24).drop 24).drop 24).drop 24).drop 24).drop 24).drop 24).drop 24).drop 24).drop 24), List.all_append, w_t11, ← List.take_append_drop 24 (((((((((((words1.drop 24).drop 24).drop 24).drop 24).drop 24).drop 24).drop 24).drop 24).drop 24).drop 24).drop 24), List.all_append, w_t12, w_t13]
  rfl
set_option maxRecDepth 65536 in
theorem w_rest : rest_1_c.before args0 about1 = true := by decide +kernel
set_option maxRecDepth 65536 in
theorem w_case : (Jvm.Cond.and given_1 narrow_1).before args0 about1 = true := by decide +kernel
set_option maxRecDepth 65536 in
theorem w_consts : constsHeld consts_1 about1 := Jvm.Lit.constsHeldB_iff.mp (by decide +kernel)
theorem w_applies : (headSpec (Jvm.Cond.code x code maxLocals ret :: tables_1) room_1).applies x e0.platform about1 = true :=
  (Spec.applies_iff w_frames).mpr ⟨w_running, w_runnable, w_alone, w_named, w_hears, w_ripe, w_room, w_tables⟩
theorem atStart : AtStart classFile x code maxLocals ret World_1 tables_1 room_1 Calls_1 rest_1 Pre_1 launch0 p0 e0 about1 theMethod args0 below0 :=
  ⟨lists_1, trivial, launch0.admits_env _ _ _, launch0.least_env, fairChoices_fair.cas, fairChoices_fair.clock, w_frames, w_args, w_heap, w_applies, ⟨w_consts, trivial⟩, w_rest, w_case⟩
end start1
theorem witness_1 : WitnessClaimed_1 := ⟨start1.p0, start1.e0, start1.about1, start1.theMethod, start1.args0, start1.below0, start1.atStart⟩
end Jvm.Pilot.@@N@@
