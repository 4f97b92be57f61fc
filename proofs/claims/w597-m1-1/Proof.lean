import JvmDerived
import JvmDerived.Pilot.@@N@@Statement
import JvmDerived.Pilot.@@N@@Code
set_option linter.unusedVariables false
set_option linter.unusedSimpArgs false
set_option maxHeartbeats 40000000
namespace Jvm.Pilot.@@N@@
open Jvm Jvm.ClassFile Sem Op Lib Jvm.Free Jvm.Stand Jvm.LawKit Jvm.RoadKit Bundle Jvm.Pilot.@@N@@.Jvm.D
/-! ## own kit: a small logic of walks -/
/-- the walk's fixed surroundings -/
def Cx (p : Program) (s : State) (m : MethodId) (meth : Method) (c : Code) (Z : State) (own : String) (bytes : ByteArray) (maxL : Nat) (ret : Option FieldType) (nm : String) : Prop :=
  p.tables.exec = Jvm.exec ∧ c.code = bytes ∧ c.maxLocals = maxL ∧ Z.Warmed39 s.vm ∧ s.vm.findClass own = some m.cls ∧ meth.sig.returnType = ret ∧ meth.locks = false ∧ meth.name = nm
/-- from every state that stands at heap h with frame g, having made at most so many cells and slots, the walk comes to a good end -/
def AtW (p : Program) (l : Launch) (e : Env) (R : Room) (s : State) (m : MethodId) (args : Array Value) (below : List Frame) (meth : Method) (c : Code) (n0 : Nat) (Q : Option Value → Heap → Prop) (h : Heap) (cells slots : Nat) (g : JFrame) : Prop :=
  ∀ (T : State) (locs : List Loc) (k n : Nat), Stand p l e R s m args below meth c T locs k n → k ≤ cells → n ≤ slots → T.heap = h → Fr n0 locs →
    ∃ t o, Steps p.tables e below (T.setTop g) t ∧ t.status = .running ∧ Ended t below o ∧ ∃ v L, o = .returned v ∧ (Fr n0 L ∧ Q v t.heap) ∧ FrameEnd s o t L R.cells R.slots
/-- a body's contract: called with 'as' at heap h0 it returns some v at some h with Q v h, and writes nothing below n0 -/
def Ct (ws : List Jvm.Cond) (l : Launch) (Z : State) (n0 : Nat) (y : MethodName) (bytes : ByteArray) (maxL : Nat) (ret : Option FieldType) (rm : Room) (as : Array Value) (h0 : Heap) (Q : Option Value → Heap → Prop) : Prop :=
  MetFree l y (head1 (Jvm.Cond.code y bytes maxL ret :: ws) rm) (fun a U => a = as ∧ Z.Warmed39 U.vm ∧ U.heap = h0) (fun _ _ _ _ _ => True)
    (fun _ U o U' => ∃ v L, o = .returned v ∧ (Fr n0 L ∧ Q v U'.heap) ∧ FrameEnd U o U' L rm.cells rm.slots)
theorem own_leb {a b : Nat} (h : Nat.ble a b = true) : a ≤ b := Nat.le_of_ble_eq_true h
theorem own_ltb {a b : Nat} (h : Nat.ble (a + 1) b = true) : a < b := Nat.le_of_ble_eq_true h
/-- the class is found and is no interface -/
def NI (s : State) (C : String) : Prop := ∃ c k, s.vm.findClass C = some c ∧ s.vm.classes[c]? = some k ∧ k.isInterface = false
theorem NI.of_inst {s : State} {args : Array Value} {C : String} {n : Nat} (w : (Jvm.Cond.instantiable C n).before args s = true) : NI s C := by
  obtain ⟨c, k, hc, hk, -, h, -⟩ := Cond.instantiable_spec w
  exact ⟨c, k, hc, hk, (Bool.or_eq_false_iff.mp h).1⟩
theorem NI.of_sel {s : State} {args : Array Value} {C : String} {y z : MethodName} (w : (Jvm.Cond.selects C y z).before args s = true) : NI s z.cls := by
  obtain ⟨c, r, m, -, -, hn, -, k, hk, hi⟩ := Cond.selects_spec w
  exact ⟨m.cls, k, findClass_of_methodNamed hn, hk, hi⟩
theorem NI.nf {s : State} {y : MethodName} (w : NI s y.cls) : NotFace s y := fun r0 h0 => by
  obtain ⟨c, k, hc, hk, hi⟩ := w
  cases (findClass_of_methodNamed h0).symm.trans hc
  exact ⟨k, hk, hi⟩
section Wk
variable {p : Program} {l : Launch} {e : Env} {R : Room} {s : State} {m : MethodId} {args : Array Value} {below : List Frame} {meth : Method} {c : Code} {n0 : Nat} {Q : Option Value → Heap → Prop} {h : Heap} {cells slots : Nat} {Z : State} {own : String} {bytes : ByteArray} {maxL : Nat} {ret : Option FieldType} {nm : String} {a0 : Array Value} {pc q : Nat} {L L' : Array Slot} {S : List Value}
theorem Ct.intro {ws : List Jvm.Cond} {y : MethodName} {rm : Room} {as : Array Value} (hp : plainFor y = true)
    (k : ∀ p e s m below meth c, Cx p s m meth c Z y.cls bytes maxL ret y.name → AtW p l e rm s m as below meth c n0 Q h 0 0 (entryFrame m as maxL)) : Ct ws l Z n0 y bytes maxL ret rm as h Q := by
  refine MetFree.of_bodySF hp hisR ?_
  intro p e s m args below meth c s₁ Bd hml0 hP hK
  obtain ⟨rfl, hZ, hh⟩ := hP
  have X0 := Stand.of_body Bd
  refine k p e s m below meth c ⟨Bd.exec, Bd.bytes, hml0, hZ, findClass_of_methodNamed Bd.named, Bd.returns, Bd.notSynchronized, (name_of_methodNamed Bd.named Bd.method).1⟩ s₁ [] 0 0 X0 (Nat.le_refl _) (Nat.le_refl _) ?_ (Fr.nil n0)
  rw [← hh, Bd.state]; rfl
theorem AtW.mono {g : JFrame} {cells' slots' : Nat} (K : AtW p l e R s m args below meth c n0 Q h cells' slots' g) (h1 : cells ≤ cells') (h2 : slots ≤ slots') : AtW p l e R s m args below meth c n0 Q h cells slots g :=
  fun T locs k n X hk hn eT N => K T locs k n X (Nat.le_trans hk h1) (Nat.le_trans hn h2) eT N
theorem AtW.go {g g' : JFrame} (K : AtW p l e R s m args below meth c n0 Q h cells slots g') (st : ∀ T, At T m c below → ∀ t, Steps p.tables e below (T.setTop g') t → Steps p.tables e below (T.setTop g) t) : AtW p l e R s m args below meth c n0 Q h cells slots g :=
  fun T locs k n X hk hn eT N => by
    obtain ⟨t, o, r1, r⟩ := K T locs k n X hk hn eT N
    exact ⟨t, o, st T X.here t r1, r⟩
theorem AtW.goX {g g' : JFrame} (K : AtW p l e R s m args below meth c n0 Q h cells slots g') (st : ∀ T locs k n, Stand p l e R s m args below meth c T locs k n → T.heap = h → ∀ t, Steps p.tables e below (T.setTop g') t → Steps p.tables e below (T.setTop g) t) : AtW p l e R s m args below meth c n0 Q h cells slots g :=
  fun T locs k n X hk hn eT N => by
    obtain ⟨t, o, r1, r⟩ := K T locs k n X hk hn eT N
    exact ⟨t, o, st T locs k n X eT t r1, r⟩
theorem AtW.cast {g g' : JFrame} (K : AtW p l e R s m args below meth c n0 Q h cells slots g') (q : g = g') : AtW p l e R s m args below meth c n0 Q h cells slots g := by rw [q]; exact K

theorem w_iload (C : Cx p s m meth c Z own bytes maxL ret nm) {k : Nat} {v : Int32} (hl : L[k]? = some (.val (.int v))) (hd : decode bytes pc = .ok (.iload k, 2)) (hq : pc + 2 = q) (K : AtW p l e R s m args below meth c n0 Q h cells slots (mkF m q L (.int v :: S))) : AtW p l e R s m args below meth c n0 Q h cells slots (mkF m pc L S) := by
  subst hq
  exact K.go fun T hA t st => XS.iload hA C.1 rfl (hb C.2.1 hd) hl st
theorem w_iloadN (C : Cx p s m meth c Z own bytes maxL ret nm) {k : Fin 4} {v : Int32} (hl : L[k.val]? = some (.val (.int v))) (hd : decode bytes pc = .ok (.iload_n k, 1)) (hq : pc + 1 = q) (K : AtW p l e R s m args below meth c n0 Q h cells slots (mkF m q L (.int v :: S))) : AtW p l e R s m args below meth c n0 Q h cells slots (mkF m pc L S) := by
  subst hq
  exact K.go fun T hA t st => XS.iloadN hA C.1 rfl (hb C.2.1 hd) hl st
theorem w_istore (C : Cx p s m meth c Z own bytes maxL ret nm) {k : Nat} {v : Int32} (hl : storeLocals L k (.int v) = some L') (hd : decode bytes pc = .ok (.istore k, 2)) (hq : pc + 2 = q) (K : AtW p l e R s m args below meth c n0 Q h cells slots (mkF m q L' S)) : AtW p l e R s m args below meth c n0 Q h cells slots (mkF m pc L (.int v :: S)) := by
  subst hq
  exact K.go fun T hA t st => XS.istore hA C.1 rfl (hb C.2.1 hd) rfl hl st
theorem w_istoreN (C : Cx p s m meth c Z own bytes maxL ret nm) {k : Fin 4} {v : Int32} (hl : storeLocals L k.val (.int v) = some L') (hd : decode bytes pc = .ok (.istore_n k, 1)) (hq : pc + 1 = q) (K : AtW p l e R s m args below meth c n0 Q h cells slots (mkF m q L' S)) : AtW p l e R s m args below meth c n0 Q h cells slots (mkF m pc L (.int v :: S)) := by
  subst hq
  exact K.go fun T hA t st => XS.istoreN hA C.1 rfl (hb C.2.1 hd) rfl hl st
theorem w_lload (C : Cx p s m meth c Z own bytes maxL ret nm) {k : Nat} {v : Int64} (hl : L[k]? = some (.val (.long v))) (hd : decode bytes pc = .ok (.lload k, 2)) (hq : pc + 2 = q) (K : AtW p l e R s m args below meth c n0 Q h cells slots (mkF m q L (.long v :: S))) : AtW p l e R s m args below meth c n0 Q h cells slots (mkF m pc L S) := by
  subst hq
  exact K.go fun T hA t st => XS.lload hA C.1 rfl (hb C.2.1 hd) hl st
theorem w_lloadN (C : Cx p s m meth c Z own bytes maxL ret nm) {k : Fin 4} {v : Int64} (hl : L[k.val]? = some (.val (.long v))) (hd : decode bytes pc = .ok (.lload_n k, 1)) (hq : pc + 1 = q) (K : AtW p l e R s m args below meth c n0 Q h cells slots (mkF m q L (.long v :: S))) : AtW p l e R s m args below meth c n0 Q h cells slots (mkF m pc L S) := by
  subst hq
  exact K.go fun T hA t st => XS.lloadN hA C.1 rfl (hb C.2.1 hd) hl st
theorem w_lstore (C : Cx p s m meth c Z own bytes maxL ret nm) {k : Nat} {v : Int64} (hl : storeLocals L k (.long v) = some L') (hd : decode bytes pc = .ok (.lstore k, 2)) (hq : pc + 2 = q) (K : AtW p l e R s m args below meth c n0 Q h cells slots (mkF m q L' S)) : AtW p l e R s m args below meth c n0 Q h cells slots (mkF m pc L (.long v :: S)) := by
  subst hq
  exact K.go fun T hA t st => XS.lstore hA C.1 rfl (hb C.2.1 hd) rfl hl st
theorem w_lstoreN (C : Cx p s m meth c Z own bytes maxL ret nm) {k : Fin 4} {v : Int64} (hl : storeLocals L k.val (.long v) = some L') (hd : decode bytes pc = .ok (.lstore_n k, 1)) (hq : pc + 1 = q) (K : AtW p l e R s m args below meth c n0 Q h cells slots (mkF m q L' S)) : AtW p l e R s m args below meth c n0 Q h cells slots (mkF m pc L (.long v :: S)) := by
  subst hq
  exact K.go fun T hA t st => XS.lstoreN hA C.1 rfl (hb C.2.1 hd) rfl hl st
theorem w_aload (C : Cx p s m meth c Z own bytes maxL ret nm) {k : Nat} {v : Value} (hl : L[k]? = some (.val v)) (hv : v.isRef = true) (hd : decode bytes pc = .ok (.aload k, 2)) (hq : pc + 2 = q) (K : AtW p l e R s m args below meth c n0 Q h cells slots (mkF m q L (v :: S))) : AtW p l e R s m args below meth c n0 Q h cells slots (mkF m pc L S) := by
  subst hq
  exact K.go fun T hA t st => XS.aload hA C.1 rfl (hb C.2.1 hd) hl hv st
theorem w_aloadN (C : Cx p s m meth c Z own bytes maxL ret nm) {k : Fin 4} {v : Value} (hl : L[k.val]? = some (.val v)) (hv : v.isRef = true) (hd : decode bytes pc = .ok (.aload_n k, 1)) (hq : pc + 1 = q) (K : AtW p l e R s m args below meth c n0 Q h cells slots (mkF m q L (v :: S))) : AtW p l e R s m args below meth c n0 Q h cells slots (mkF m pc L S) := by
  subst hq
  exact K.go fun T hA t st => XS.aloadN hA C.1 rfl (hb C.2.1 hd) hl hv st
theorem w_astore (C : Cx p s m meth c Z own bytes maxL ret nm) {k : Nat} {v : Value} (hv : v.isRef = true) (hl : storeLocals L k v = some L') (hd : decode bytes pc = .ok (.astore k, 2)) (hq : pc + 2 = q) (K : AtW p l e R s m args below meth c n0 Q h cells slots (mkF m q L' S)) : AtW p l e R s m args below meth c n0 Q h cells slots (mkF m pc L (v :: S)) := by
  subst hq
  exact K.go fun T hA t st => XS.astore hA C.1 rfl (hb C.2.1 hd) rfl hv hl st
theorem w_astoreN (C : Cx p s m meth c Z own bytes maxL ret nm) {k : Fin 4} {v : Value} (hv : v.isRef = true) (hl : storeLocals L k.val v = some L') (hd : decode bytes pc = .ok (.astore_n k, 1)) (hq : pc + 1 = q) (K : AtW p l e R s m args below meth c n0 Q h cells slots (mkF m q L' S)) : AtW p l e R s m args below meth c n0 Q h cells slots (mkF m pc L (v :: S)) := by
  subst hq
  exact K.go fun T hA t st => XS.astoreN hA C.1 rfl (hb C.2.1 hd) rfl hv hl st
theorem w_iconst (C : Cx p s m meth c Z own bytes maxL ret nm) {i : Int} {v : Int32} (hv : Int32.ofInt i = v) (hd : decode bytes pc = .ok (.iconst i, 1)) (hq : pc + 1 = q) (K : AtW p l e R s m args below meth c n0 Q h cells slots (mkF m q L (.int v :: S))) : AtW p l e R s m args below meth c n0 Q h cells slots (mkF m pc L S) := by
  subst hq
  exact K.go fun T hA t st => by subst hv; exact XS.iconst hA C.1 rfl (hb C.2.1 hd) st
theorem w_bipush (C : Cx p s m meth c Z own bytes maxL ret nm) {i : Int} {v : Int32} (hv : (Int8.ofInt i).toInt32 = v) (hd : decode bytes pc = .ok (.bipush i, 2)) (hq : pc + 2 = q) (K : AtW p l e R s m args below meth c n0 Q h cells slots (mkF m q L (.int v :: S))) : AtW p l e R s m args below meth c n0 Q h cells slots (mkF m pc L S) := by
  subst hq
  exact K.go fun T hA t st => by subst hv; exact XS.bipush hA C.1 rfl (hb C.2.1 hd) st
theorem w_sipush (C : Cx p s m meth c Z own bytes maxL ret nm) {i : Int} {v : Int32} (hv : (Int16.ofInt i).toInt32 = v) (hd : decode bytes pc = .ok (.sipush i, 3)) (hq : pc + 3 = q) (K : AtW p l e R s m args below meth c n0 Q h cells slots (mkF m q L (.int v :: S))) : AtW p l e R s m args below meth c n0 Q h cells slots (mkF m pc L S) := by
  subst hq
  exact K.go fun T hA t st => by subst hv; exact XS.sipush hA C.1 rfl (hb C.2.1 hd) st
theorem w_lconst (C : Cx p s m meth c Z own bytes maxL ret nm) {k : Fin 2} {v : Int64} (hv : Int64.ofNat k = v) (hd : decode bytes pc = .ok (.lconst k, 1)) (hq : pc + 1 = q) (K : AtW p l e R s m args below meth c n0 Q h cells slots (mkF m q L (.long v :: S))) : AtW p l e R s m args below meth c n0 Q h cells slots (mkF m pc L S) := by
  subst hq
  exact K.go fun T hA t st => by subst hv; exact XS.lconst hA C.1 rfl (hb C.2.1 hd) st
theorem w_aconst_null (C : Cx p s m meth c Z own bytes maxL ret nm)  (hd : decode bytes pc = .ok (.aconst_null, 1)) (hq : pc + 1 = q) (K : AtW p l e R s m args below meth c n0 Q h cells slots (mkF m q L (.null :: S))) : AtW p l e R s m args below meth c n0 Q h cells slots (mkF m pc L S) := by
  subst hq
  exact K.go fun T hA t st => XS.aconstNull hA C.1 rfl (hb C.2.1 hd) st
theorem w_iadd (C : Cx p s m meth c Z own bytes maxL ret nm) {x y z : Int32} (hz : x + y = z) (hd : decode bytes pc = .ok (.iadd, 1)) (hq : pc + 1 = q) (K : AtW p l e R s m args below meth c n0 Q h cells slots (mkF m q L (.int z :: S))) : AtW p l e R s m args below meth c n0 Q h cells slots (mkF m pc L (.int y :: .int x :: S)) := by
  subst hq
  exact K.go fun T hA t st => by subst hz; exact XS.iadd hA C.1 rfl (hb C.2.1 hd) rfl st
theorem w_isub (C : Cx p s m meth c Z own bytes maxL ret nm) {x y z : Int32} (hz : x - y = z) (hd : decode bytes pc = .ok (.isub, 1)) (hq : pc + 1 = q) (K : AtW p l e R s m args below meth c n0 Q h cells slots (mkF m q L (.int z :: S))) : AtW p l e R s m args below meth c n0 Q h cells slots (mkF m pc L (.int y :: .int x :: S)) := by
  subst hq
  exact K.go fun T hA t st => by subst hz; exact XS.isub hA C.1 rfl (hb C.2.1 hd) rfl st
theorem w_imul (C : Cx p s m meth c Z own bytes maxL ret nm) {x y z : Int32} (hz : x * y = z) (hd : decode bytes pc = .ok (.imul, 1)) (hq : pc + 1 = q) (K : AtW p l e R s m args below meth c n0 Q h cells slots (mkF m q L (.int z :: S))) : AtW p l e R s m args below meth c n0 Q h cells slots (mkF m pc L (.int y :: .int x :: S)) := by
  subst hq
  exact K.go fun T hA t st => by subst hz; exact XS.imul hA C.1 rfl (hb C.2.1 hd) rfl st
theorem w_iand (C : Cx p s m meth c Z own bytes maxL ret nm) {x y z : Int32} (hz : x &&& y = z) (hd : decode bytes pc = .ok (.iand, 1)) (hq : pc + 1 = q) (K : AtW p l e R s m args below meth c n0 Q h cells slots (mkF m q L (.int z :: S))) : AtW p l e R s m args below meth c n0 Q h cells slots (mkF m pc L (.int y :: .int x :: S)) := by
  subst hq
  exact K.go fun T hA t st => by subst hz; exact XS.iand hA C.1 rfl (hb C.2.1 hd) rfl st
theorem w_ior (C : Cx p s m meth c Z own bytes maxL ret nm) {x y z : Int32} (hz : x ||| y = z) (hd : decode bytes pc = .ok (.ior, 1)) (hq : pc + 1 = q) (K : AtW p l e R s m args below meth c n0 Q h cells slots (mkF m q L (.int z :: S))) : AtW p l e R s m args below meth c n0 Q h cells slots (mkF m pc L (.int y :: .int x :: S)) := by
  subst hq
  exact K.go fun T hA t st => by subst hz; exact XS.ior hA C.1 rfl (hb C.2.1 hd) rfl st
theorem w_ixor (C : Cx p s m meth c Z own bytes maxL ret nm) {x y z : Int32} (hz : x ^^^ y = z) (hd : decode bytes pc = .ok (.ixor, 1)) (hq : pc + 1 = q) (K : AtW p l e R s m args below meth c n0 Q h cells slots (mkF m q L (.int z :: S))) : AtW p l e R s m args below meth c n0 Q h cells slots (mkF m pc L (.int y :: .int x :: S)) := by
  subst hq
  exact K.go fun T hA t st => by subst hz; exact XS.ixor hA C.1 rfl (hb C.2.1 hd) rfl st
theorem w_ladd (C : Cx p s m meth c Z own bytes maxL ret nm) {x y z : Int64} (hz : x + y = z) (hd : decode bytes pc = .ok (.ladd, 1)) (hq : pc + 1 = q) (K : AtW p l e R s m args below meth c n0 Q h cells slots (mkF m q L (.long z :: S))) : AtW p l e R s m args below meth c n0 Q h cells slots (mkF m pc L (.long y :: .long x :: S)) := by
  subst hq
  exact K.go fun T hA t st => by subst hz; exact XS.ladd hA C.1 rfl (hb C.2.1 hd) rfl st
theorem w_lsub (C : Cx p s m meth c Z own bytes maxL ret nm) {x y z : Int64} (hz : x - y = z) (hd : decode bytes pc = .ok (.lsub, 1)) (hq : pc + 1 = q) (K : AtW p l e R s m args below meth c n0 Q h cells slots (mkF m q L (.long z :: S))) : AtW p l e R s m args below meth c n0 Q h cells slots (mkF m pc L (.long y :: .long x :: S)) := by
  subst hq
  exact K.go fun T hA t st => by subst hz; exact XS.lsub hA C.1 rfl (hb C.2.1 hd) rfl st
theorem w_lmul (C : Cx p s m meth c Z own bytes maxL ret nm) {x y z : Int64} (hz : x * y = z) (hd : decode bytes pc = .ok (.lmul, 1)) (hq : pc + 1 = q) (K : AtW p l e R s m args below meth c n0 Q h cells slots (mkF m q L (.long z :: S))) : AtW p l e R s m args below meth c n0 Q h cells slots (mkF m pc L (.long y :: .long x :: S)) := by
  subst hq
  exact K.go fun T hA t st => by subst hz; exact XS.lmul hA C.1 rfl (hb C.2.1 hd) rfl st
theorem w_land (C : Cx p s m meth c Z own bytes maxL ret nm) {x y z : Int64} (hz : x &&& y = z) (hd : decode bytes pc = .ok (.land, 1)) (hq : pc + 1 = q) (K : AtW p l e R s m args below meth c n0 Q h cells slots (mkF m q L (.long z :: S))) : AtW p l e R s m args below meth c n0 Q h cells slots (mkF m pc L (.long y :: .long x :: S)) := by
  subst hq
  exact K.go fun T hA t st => by subst hz; exact XS.land hA C.1 rfl (hb C.2.1 hd) rfl st
theorem w_lor (C : Cx p s m meth c Z own bytes maxL ret nm) {x y z : Int64} (hz : x ||| y = z) (hd : decode bytes pc = .ok (.lor, 1)) (hq : pc + 1 = q) (K : AtW p l e R s m args below meth c n0 Q h cells slots (mkF m q L (.long z :: S))) : AtW p l e R s m args below meth c n0 Q h cells slots (mkF m pc L (.long y :: .long x :: S)) := by
  subst hq
  exact K.go fun T hA t st => by subst hz; exact XS.lor hA C.1 rfl (hb C.2.1 hd) rfl st
theorem w_lxor (C : Cx p s m meth c Z own bytes maxL ret nm) {x y z : Int64} (hz : x ^^^ y = z) (hd : decode bytes pc = .ok (.lxor, 1)) (hq : pc + 1 = q) (K : AtW p l e R s m args below meth c n0 Q h cells slots (mkF m q L (.long z :: S))) : AtW p l e R s m args below meth c n0 Q h cells slots (mkF m pc L (.long y :: .long x :: S)) := by
  subst hq
  exact K.go fun T hA t st => by subst hz; exact XS.lxor hA C.1 rfl (hb C.2.1 hd) rfl st
theorem w_ishl (C : Cx p s m meth c Z own bytes maxL ret nm) {x y z : Int32} (hz : x <<< (y &&& 31) = z) (hd : decode bytes pc = .ok (.ishl, 1)) (hq : pc + 1 = q) (K : AtW p l e R s m args below meth c n0 Q h cells slots (mkF m q L (.int z :: S))) : AtW p l e R s m args below meth c n0 Q h cells slots (mkF m pc L (.int y :: .int x :: S)) := by
  subst hq
  exact K.go fun T hA t st => by subst hz; exact XS.ishl hA C.1 rfl (hb C.2.1 hd) rfl st
theorem w_ishr (C : Cx p s m meth c Z own bytes maxL ret nm) {x y z : Int32} (hz : x >>> (y &&& 31) = z) (hd : decode bytes pc = .ok (.ishr, 1)) (hq : pc + 1 = q) (K : AtW p l e R s m args below meth c n0 Q h cells slots (mkF m q L (.int z :: S))) : AtW p l e R s m args below meth c n0 Q h cells slots (mkF m pc L (.int y :: .int x :: S)) := by
  subst hq
  exact K.go fun T hA t st => by subst hz; exact XS.ishr hA C.1 rfl (hb C.2.1 hd) rfl st
theorem w_iushr (C : Cx p s m meth c Z own bytes maxL ret nm) {x y z : Int32} (hz : (x.toUInt32 >>> (y &&& 31).toUInt32).toInt32 = z) (hd : decode bytes pc = .ok (.iushr, 1)) (hq : pc + 1 = q) (K : AtW p l e R s m args below meth c n0 Q h cells slots (mkF m q L (.int z :: S))) : AtW p l e R s m args below meth c n0 Q h cells slots (mkF m pc L (.int y :: .int x :: S)) := by
  subst hq
  exact K.go fun T hA t st => by subst hz; exact XS.iushr hA C.1 rfl (hb C.2.1 hd) rfl st
theorem w_lshl (C : Cx p s m meth c Z own bytes maxL ret nm) {x z : Int64} {y : Int32} (hz : x <<< (y &&& 0x3f).toInt64 = z) (hd : decode bytes pc = .ok (.lshl, 1)) (hq : pc + 1 = q) (K : AtW p l e R s m args below meth c n0 Q h cells slots (mkF m q L (.long z :: S))) : AtW p l e R s m args below meth c n0 Q h cells slots (mkF m pc L (.int y :: .long x :: S)) := by
  subst hq
  exact K.go fun T hA t st => by subst hz; exact XS.lshl hA C.1 rfl (hb C.2.1 hd) rfl st
theorem w_lshr (C : Cx p s m meth c Z own bytes maxL ret nm) {x z : Int64} {y : Int32} (hz : x >>> (y &&& 0x3f).toInt64 = z) (hd : decode bytes pc = .ok (.lshr, 1)) (hq : pc + 1 = q) (K : AtW p l e R s m args below meth c n0 Q h cells slots (mkF m q L (.long z :: S))) : AtW p l e R s m args below meth c n0 Q h cells slots (mkF m pc L (.int y :: .long x :: S)) := by
  subst hq
  exact K.go fun T hA t st => by subst hz; exact XS.lshr hA C.1 rfl (hb C.2.1 hd) rfl st
theorem w_lushr (C : Cx p s m meth c Z own bytes maxL ret nm) {x z : Int64} {y : Int32} (hz : (x.toUInt64 >>> (y &&& 0x3f).toInt64.toUInt64).toInt64 = z) (hd : decode bytes pc = .ok (.lushr, 1)) (hq : pc + 1 = q) (K : AtW p l e R s m args below meth c n0 Q h cells slots (mkF m q L (.long z :: S))) : AtW p l e R s m args below meth c n0 Q h cells slots (mkF m pc L (.int y :: .long x :: S)) := by
  subst hq
  exact K.go fun T hA t st => by subst hz; exact XS.lushr hA C.1 rfl (hb C.2.1 hd) rfl st
theorem w_idiv (C : Cx p s m meth c Z own bytes maxL ret nm) {x y z : Int32} (hy : y ≠ 0) (hz : x / y = z) (hd : decode bytes pc = .ok (.idiv, 1)) (hq : pc + 1 = q) (K : AtW p l e R s m args below meth c n0 Q h cells slots (mkF m q L (.int z :: S))) : AtW p l e R s m args below meth c n0 Q h cells slots (mkF m pc L (.int y :: .int x :: S)) := by
  subst hq
  exact K.go fun T hA t st => by subst hz; exact XS.idiv hA C.1 rfl (hb C.2.1 hd) rfl hy st
theorem w_ldiv (C : Cx p s m meth c Z own bytes maxL ret nm) {x y z : Int64} (hy : y ≠ 0) (hz : x / y = z) (hd : decode bytes pc = .ok (.ldiv, 1)) (hq : pc + 1 = q) (K : AtW p l e R s m args below meth c n0 Q h cells slots (mkF m q L (.long z :: S))) : AtW p l e R s m args below meth c n0 Q h cells slots (mkF m pc L (.long y :: .long x :: S)) := by
  subst hq
  exact K.go fun T hA t st => by subst hz; exact XS.ldiv hA C.1 rfl (hb C.2.1 hd) rfl hy st
theorem w_irem (C : Cx p s m meth c Z own bytes maxL ret nm) {x y z : Int32} (hy : y ≠ 0) (hz : x % y = z) (hd : decode bytes pc = .ok (.irem, 1)) (hq : pc + 1 = q) (K : AtW p l e R s m args below meth c n0 Q h cells slots (mkF m q L (.int z :: S))) : AtW p l e R s m args below meth c n0 Q h cells slots (mkF m pc L (.int y :: .int x :: S)) := by
  subst hq
  exact K.go fun T hA t st => by subst hz; rw [← irem_eq_mod x y] at st; exact XS.irem hA C.1 rfl (hb C.2.1 hd) rfl hy st
theorem w_lrem (C : Cx p s m meth c Z own bytes maxL ret nm) {x y z : Int64} (hy : y ≠ 0) (hz : x % y = z) (hd : decode bytes pc = .ok (.lrem, 1)) (hq : pc + 1 = q) (K : AtW p l e R s m args below meth c n0 Q h cells slots (mkF m q L (.long z :: S))) : AtW p l e R s m args below meth c n0 Q h cells slots (mkF m pc L (.long y :: .long x :: S)) := by
  subst hq
  exact K.go fun T hA t st => by subst hz; rw [← lrem_mod x y] at st; exact XS.lrem hA C.1 rfl (hb C.2.1 hd) rfl hy st
theorem w_ineg (C : Cx p s m meth c Z own bytes maxL ret nm) {x : Int32} {z : Int32} (hz : -x = z) (hd : decode bytes pc = .ok (.ineg, 1)) (hq : pc + 1 = q) (K : AtW p l e R s m args below meth c n0 Q h cells slots (mkF m q L (.int z :: S))) : AtW p l e R s m args below meth c n0 Q h cells slots (mkF m pc L (.int x :: S)) := by
  subst hq
  exact K.go fun T hA t st => by subst hz; exact XS.ineg hA C.1 rfl (hb C.2.1 hd) rfl st
theorem w_lneg (C : Cx p s m meth c Z own bytes maxL ret nm) {x : Int64} {z : Int64} (hz : -x = z) (hd : decode bytes pc = .ok (.lneg, 1)) (hq : pc + 1 = q) (K : AtW p l e R s m args below meth c n0 Q h cells slots (mkF m q L (.long z :: S))) : AtW p l e R s m args below meth c n0 Q h cells slots (mkF m pc L (.long x :: S)) := by
  subst hq
  exact K.go fun T hA t st => by subst hz; exact XS.lneg hA C.1 rfl (hb C.2.1 hd) rfl st
theorem w_i2l (C : Cx p s m meth c Z own bytes maxL ret nm) {x : Int32} {z : Int64} (hz : x.toInt64 = z) (hd : decode bytes pc = .ok (.i2l, 1)) (hq : pc + 1 = q) (K : AtW p l e R s m args below meth c n0 Q h cells slots (mkF m q L (.long z :: S))) : AtW p l e R s m args below meth c n0 Q h cells slots (mkF m pc L (.int x :: S)) := by
  subst hq
  exact K.go fun T hA t st => by subst hz; exact XS.i2l hA C.1 rfl (hb C.2.1 hd) rfl st
theorem w_l2i (C : Cx p s m meth c Z own bytes maxL ret nm) {x : Int64} {z : Int32} (hz : x.toInt32 = z) (hd : decode bytes pc = .ok (.l2i, 1)) (hq : pc + 1 = q) (K : AtW p l e R s m args below meth c n0 Q h cells slots (mkF m q L (.int z :: S))) : AtW p l e R s m args below meth c n0 Q h cells slots (mkF m pc L (.long x :: S)) := by
  subst hq
  exact K.go fun T hA t st => by subst hz; exact XS.l2i hA C.1 rfl (hb C.2.1 hd) rfl st
theorem w_i2b (C : Cx p s m meth c Z own bytes maxL ret nm) {x : Int32} {z : Int32} (hz : x.toInt8.toInt32 = z) (hd : decode bytes pc = .ok (.i2b, 1)) (hq : pc + 1 = q) (K : AtW p l e R s m args below meth c n0 Q h cells slots (mkF m q L (.int z :: S))) : AtW p l e R s m args below meth c n0 Q h cells slots (mkF m pc L (.int x :: S)) := by
  subst hq
  exact K.go fun T hA t st => by subst hz; exact XS.i2b hA C.1 rfl (hb C.2.1 hd) rfl st
theorem w_i2s (C : Cx p s m meth c Z own bytes maxL ret nm) {x : Int32} {z : Int32} (hz : x.toInt16.toInt32 = z) (hd : decode bytes pc = .ok (.i2s, 1)) (hq : pc + 1 = q) (K : AtW p l e R s m args below meth c n0 Q h cells slots (mkF m q L (.int z :: S))) : AtW p l e R s m args below meth c n0 Q h cells slots (mkF m pc L (.int x :: S)) := by
  subst hq
  exact K.go fun T hA t st => by subst hz; exact XS.i2s hA C.1 rfl (hb C.2.1 hd) rfl st
theorem w_i2c (C : Cx p s m meth c Z own bytes maxL ret nm) {x : Int32} {z : Int32} (hz : x.toUInt32.toUInt16.toUInt32.toInt32 = z) (hd : decode bytes pc = .ok (.i2c, 1)) (hq : pc + 1 = q) (K : AtW p l e R s m args below meth c n0 Q h cells slots (mkF m q L (.int z :: S))) : AtW p l e R s m args below meth c n0 Q h cells slots (mkF m pc L (.int x :: S)) := by
  subst hq
  exact K.go fun T hA t st => by subst hz; exact XS.i2c hA C.1 rfl (hb C.2.1 hd) rfl st
theorem w_lcmp (C : Cx p s m meth c Z own bytes maxL ret nm) {x y : Int64} {z : Int32} (hz : lcmpW x y = z) (hd : decode bytes pc = .ok (.lcmp, 1)) (hq : pc + 1 = q) (K : AtW p l e R s m args below meth c n0 Q h cells slots (mkF m q L (.int z :: S))) : AtW p l e R s m args below meth c n0 Q h cells slots (mkF m pc L (.long y :: .long x :: S)) := by
  subst hq
  exact K.go fun T hA t st => by subst hz; exact XS.lcmp hA C.1 rfl (hb C.2.1 hd) rfl st
theorem w_dup (C : Cx p s m meth c Z own bytes maxL ret nm) {x : Value} (hc : x.category = 1) (hd : decode bytes pc = .ok (.dup, 1)) (hq : pc + 1 = q) (K : AtW p l e R s m args below meth c n0 Q h cells slots (mkF m q L (x :: x :: S))) : AtW p l e R s m args below meth c n0 Q h cells slots (mkF m pc L (x :: S)) := by
  subst hq
  exact K.go fun T hA t st => XS.dup hA C.1 rfl (hb C.2.1 hd) rfl hc st
theorem w_pop (C : Cx p s m meth c Z own bytes maxL ret nm) {x : Value} (hc : x.category = 1) (hd : decode bytes pc = .ok (.pop, 1)) (hq : pc + 1 = q) (K : AtW p l e R s m args below meth c n0 Q h cells slots (mkF m q L S)) : AtW p l e R s m args below meth c n0 Q h cells slots (mkF m pc L (x :: S)) := by
  subst hq
  exact K.go fun T hA t st => XS.pop hA C.1 rfl (hb C.2.1 hd) rfl hc st
theorem w_dup_x1 (C : Cx p s m meth c Z own bytes maxL ret nm) {x y : Value} (hc : x.category = 1) (hc' : y.category = 1) (hd : decode bytes pc = .ok (.dup_x1, 1)) (hq : pc + 1 = q) (K : AtW p l e R s m args below meth c n0 Q h cells slots (mkF m q L (x :: y :: x :: S))) : AtW p l e R s m args below meth c n0 Q h cells slots (mkF m pc L (x :: y :: S)) := by
  subst hq
  exact K.go fun T hA t st => XS.dupX1 hA C.1 rfl (hb C.2.1 hd) rfl hc hc' st
theorem w_iinc (C : Cx p s m meth c Z own bytes maxL ret nm) {k : Nat} {cst : Int} {x z : Int32} (hl : L[k]? = some (.val (.int x))) (hz : x + Int32.ofInt cst = z) (hl' : storeLocals L k (.int z) = some L') (hd : decode bytes pc = .ok (.iinc k cst, 3)) (hq : pc + 3 = q) (K : AtW p l e R s m args below meth c n0 Q h cells slots (mkF m q L' S)) : AtW p l e R s m args below meth c n0 Q h cells slots (mkF m pc L S) := by
  subst hq
  exact K.go fun T hA t st => by subst hz; exact XS.iinc hA C.1 rfl (hb C.2.1 hd) hl hl' st
theorem w_goto (C : Cx p s m meth c Z own bytes maxL ret nm) {o : Int} (hd : decode bytes pc = .ok (.goto o, 3)) (ho : 0 ≤ (pc : Int) + o) (hp : ((pc : Int) + o).toNat = q) (K : AtW p l e R s m args below meth c n0 Q h cells slots (mkF m q L S)) : AtW p l e R s m args below meth c n0 Q h cells slots (mkF m pc L S) :=
  K.go fun T hA t st => XS.goto hA C.1 rfl (pc0 := pc) (pc' := q) rfl (hb C.2.1 hd) ho hp st
theorem w_icmp_lt_t (C : Cx p s m meth c Z own bytes maxL ret nm) {o : Int} {x y : Int32} (hd : decode bytes pc = .ok (.if_icmp .lt o, 3)) (ho : 0 ≤ (pc : Int) + o) (hp : ((pc : Int) + o).toNat = q) (hc : x < y) (K : AtW p l e R s m args below meth c n0 Q h cells slots (mkF m q L S)) : AtW p l e R s m args below meth c n0 Q h cells slots (mkF m pc L (.int y :: .int x :: S)) :=
  K.go fun T hA t st => XS.icmpYes hA C.1 rfl (pc0 := pc) (pc' := q) rfl (hb C.2.1 hd) rfl (tlt hc).1 ho hp st
theorem w_icmp_lt_f (C : Cx p s m meth c Z own bytes maxL ret nm) {o : Int} {x y : Int32} (hd : decode bytes pc = .ok (.if_icmp .lt o, 3)) (hq : pc + 3 = q) (hc : ¬ x < y) (K : AtW p l e R s m args below meth c n0 Q h cells slots (mkF m q L S)) : AtW p l e R s m args below meth c n0 Q h cells slots (mkF m pc L (.int y :: .int x :: S)) := by
  subst hq
  exact K.go fun T hA t st => XS.icmpNo hA C.1 rfl (hb C.2.1 hd) rfl (flt hc).1 st
theorem w_if_lt_t (C : Cx p s m meth c Z own bytes maxL ret nm) {o : Int} {x : Int32} (hd : decode bytes pc = .ok (.ifCond .lt o, 3)) (ho : 0 ≤ (pc : Int) + o) (hp : ((pc : Int) + o).toNat = q) (hc : x < 0) (K : AtW p l e R s m args below meth c n0 Q h cells slots (mkF m q L S)) : AtW p l e R s m args below meth c n0 Q h cells slots (mkF m pc L (.int x :: S)) :=
  K.go fun T hA t st => XS.ifYes hA C.1 rfl (pc0 := pc) (pc' := q) rfl (hb C.2.1 hd) rfl ((if0 _ _).trans (tlt hc).1) ho hp st
theorem w_if_lt_f (C : Cx p s m meth c Z own bytes maxL ret nm) {o : Int} {x : Int32} (hd : decode bytes pc = .ok (.ifCond .lt o, 3)) (hq : pc + 3 = q) (hc : ¬ x < 0) (K : AtW p l e R s m args below meth c n0 Q h cells slots (mkF m q L S)) : AtW p l e R s m args below meth c n0 Q h cells slots (mkF m pc L (.int x :: S)) := by
  subst hq
  exact K.go fun T hA t st => XS.ifNo hA C.1 rfl (hb C.2.1 hd) rfl ((if0 _ _).trans (flt hc).1) st
theorem w_icmp_ge_t (C : Cx p s m meth c Z own bytes maxL ret nm) {o : Int} {x y : Int32} (hd : decode bytes pc = .ok (.if_icmp .ge o, 3)) (ho : 0 ≤ (pc : Int) + o) (hp : ((pc : Int) + o).toNat = q) (hc : ¬ x < y) (K : AtW p l e R s m args below meth c n0 Q h cells slots (mkF m q L S)) : AtW p l e R s m args below meth c n0 Q h cells slots (mkF m pc L (.int y :: .int x :: S)) :=
  K.go fun T hA t st => XS.icmpYes hA C.1 rfl (pc0 := pc) (pc' := q) rfl (hb C.2.1 hd) rfl (flt hc).2.1 ho hp st
theorem w_icmp_ge_f (C : Cx p s m meth c Z own bytes maxL ret nm) {o : Int} {x y : Int32} (hd : decode bytes pc = .ok (.if_icmp .ge o, 3)) (hq : pc + 3 = q) (hc : x < y) (K : AtW p l e R s m args below meth c n0 Q h cells slots (mkF m q L S)) : AtW p l e R s m args below meth c n0 Q h cells slots (mkF m pc L (.int y :: .int x :: S)) := by
  subst hq
  exact K.go fun T hA t st => XS.icmpNo hA C.1 rfl (hb C.2.1 hd) rfl (tlt hc).2.1 st
theorem w_if_ge_t (C : Cx p s m meth c Z own bytes maxL ret nm) {o : Int} {x : Int32} (hd : decode bytes pc = .ok (.ifCond .ge o, 3)) (ho : 0 ≤ (pc : Int) + o) (hp : ((pc : Int) + o).toNat = q) (hc : ¬ x < 0) (K : AtW p l e R s m args below meth c n0 Q h cells slots (mkF m q L S)) : AtW p l e R s m args below meth c n0 Q h cells slots (mkF m pc L (.int x :: S)) :=
  K.go fun T hA t st => XS.ifYes hA C.1 rfl (pc0 := pc) (pc' := q) rfl (hb C.2.1 hd) rfl ((if0 _ _).trans (flt hc).2.1) ho hp st
theorem w_if_ge_f (C : Cx p s m meth c Z own bytes maxL ret nm) {o : Int} {x : Int32} (hd : decode bytes pc = .ok (.ifCond .ge o, 3)) (hq : pc + 3 = q) (hc : x < 0) (K : AtW p l e R s m args below meth c n0 Q h cells slots (mkF m q L S)) : AtW p l e R s m args below meth c n0 Q h cells slots (mkF m pc L (.int x :: S)) := by
  subst hq
  exact K.go fun T hA t st => XS.ifNo hA C.1 rfl (hb C.2.1 hd) rfl ((if0 _ _).trans (tlt hc).2.1) st
theorem w_icmp_gt_t (C : Cx p s m meth c Z own bytes maxL ret nm) {o : Int} {x y : Int32} (hd : decode bytes pc = .ok (.if_icmp .gt o, 3)) (ho : 0 ≤ (pc : Int) + o) (hp : ((pc : Int) + o).toNat = q) (hc : y < x) (K : AtW p l e R s m args below meth c n0 Q h cells slots (mkF m q L S)) : AtW p l e R s m args below meth c n0 Q h cells slots (mkF m pc L (.int y :: .int x :: S)) :=
  K.go fun T hA t st => XS.icmpYes hA C.1 rfl (pc0 := pc) (pc' := q) rfl (hb C.2.1 hd) rfl (tlt hc).2.2.1 ho hp st
theorem w_icmp_gt_f (C : Cx p s m meth c Z own bytes maxL ret nm) {o : Int} {x y : Int32} (hd : decode bytes pc = .ok (.if_icmp .gt o, 3)) (hq : pc + 3 = q) (hc : ¬ y < x) (K : AtW p l e R s m args below meth c n0 Q h cells slots (mkF m q L S)) : AtW p l e R s m args below meth c n0 Q h cells slots (mkF m pc L (.int y :: .int x :: S)) := by
  subst hq
  exact K.go fun T hA t st => XS.icmpNo hA C.1 rfl (hb C.2.1 hd) rfl (flt hc).2.2.1 st
theorem w_if_gt_t (C : Cx p s m meth c Z own bytes maxL ret nm) {o : Int} {x : Int32} (hd : decode bytes pc = .ok (.ifCond .gt o, 3)) (ho : 0 ≤ (pc : Int) + o) (hp : ((pc : Int) + o).toNat = q) (hc : 0 < x) (K : AtW p l e R s m args below meth c n0 Q h cells slots (mkF m q L S)) : AtW p l e R s m args below meth c n0 Q h cells slots (mkF m pc L (.int x :: S)) :=
  K.go fun T hA t st => XS.ifYes hA C.1 rfl (pc0 := pc) (pc' := q) rfl (hb C.2.1 hd) rfl ((if0 _ _).trans (tlt hc).2.2.1) ho hp st
theorem w_if_gt_f (C : Cx p s m meth c Z own bytes maxL ret nm) {o : Int} {x : Int32} (hd : decode bytes pc = .ok (.ifCond .gt o, 3)) (hq : pc + 3 = q) (hc : ¬ 0 < x) (K : AtW p l e R s m args below meth c n0 Q h cells slots (mkF m q L S)) : AtW p l e R s m args below meth c n0 Q h cells slots (mkF m pc L (.int x :: S)) := by
  subst hq
  exact K.go fun T hA t st => XS.ifNo hA C.1 rfl (hb C.2.1 hd) rfl ((if0 _ _).trans (flt hc).2.2.1) st
theorem w_icmp_le_t (C : Cx p s m meth c Z own bytes maxL ret nm) {o : Int} {x y : Int32} (hd : decode bytes pc = .ok (.if_icmp .le o, 3)) (ho : 0 ≤ (pc : Int) + o) (hp : ((pc : Int) + o).toNat = q) (hc : ¬ y < x) (K : AtW p l e R s m args below meth c n0 Q h cells slots (mkF m q L S)) : AtW p l e R s m args below meth c n0 Q h cells slots (mkF m pc L (.int y :: .int x :: S)) :=
  K.go fun T hA t st => XS.icmpYes hA C.1 rfl (pc0 := pc) (pc' := q) rfl (hb C.2.1 hd) rfl (flt hc).2.2.2 ho hp st
theorem w_icmp_le_f (C : Cx p s m meth c Z own bytes maxL ret nm) {o : Int} {x y : Int32} (hd : decode bytes pc = .ok (.if_icmp .le o, 3)) (hq : pc + 3 = q) (hc : y < x) (K : AtW p l e R s m args below meth c n0 Q h cells slots (mkF m q L S)) : AtW p l e R s m args below meth c n0 Q h cells slots (mkF m pc L (.int y :: .int x :: S)) := by
  subst hq
  exact K.go fun T hA t st => XS.icmpNo hA C.1 rfl (hb C.2.1 hd) rfl (tlt hc).2.2.2 st
theorem w_if_le_t (C : Cx p s m meth c Z own bytes maxL ret nm) {o : Int} {x : Int32} (hd : decode bytes pc = .ok (.ifCond .le o, 3)) (ho : 0 ≤ (pc : Int) + o) (hp : ((pc : Int) + o).toNat = q) (hc : ¬ 0 < x) (K : AtW p l e R s m args below meth c n0 Q h cells slots (mkF m q L S)) : AtW p l e R s m args below meth c n0 Q h cells slots (mkF m pc L (.int x :: S)) :=
  K.go fun T hA t st => XS.ifYes hA C.1 rfl (pc0 := pc) (pc' := q) rfl (hb C.2.1 hd) rfl ((if0 _ _).trans (flt hc).2.2.2) ho hp st
theorem w_if_le_f (C : Cx p s m meth c Z own bytes maxL ret nm) {o : Int} {x : Int32} (hd : decode bytes pc = .ok (.ifCond .le o, 3)) (hq : pc + 3 = q) (hc : 0 < x) (K : AtW p l e R s m args below meth c n0 Q h cells slots (mkF m q L S)) : AtW p l e R s m args below meth c n0 Q h cells slots (mkF m pc L (.int x :: S)) := by
  subst hq
  exact K.go fun T hA t st => XS.ifNo hA C.1 rfl (hb C.2.1 hd) rfl ((if0 _ _).trans (tlt hc).2.2.2) st
theorem w_icmp_eq_t (C : Cx p s m meth c Z own bytes maxL ret nm) {o : Int} {x y : Int32} (hd : decode bytes pc = .ok (.if_icmp .eq o, 3)) (ho : 0 ≤ (pc : Int) + o) (hp : ((pc : Int) + o).toNat = q) (hc : x = y) (K : AtW p l e R s m args below meth c n0 Q h cells slots (mkF m q L S)) : AtW p l e R s m args below meth c n0 Q h cells slots (mkF m pc L (.int y :: .int x :: S)) :=
  K.go fun T hA t st => XS.icmpYes hA C.1 rfl (pc0 := pc) (pc' := q) rfl (hb C.2.1 hd) rfl (teq hc).1 ho hp st
theorem w_icmp_eq_f (C : Cx p s m meth c Z own bytes maxL ret nm) {o : Int} {x y : Int32} (hd : decode bytes pc = .ok (.if_icmp .eq o, 3)) (hq : pc + 3 = q) (hc : ¬ x = y) (K : AtW p l e R s m args below meth c n0 Q h cells slots (mkF m q L S)) : AtW p l e R s m args below meth c n0 Q h cells slots (mkF m pc L (.int y :: .int x :: S)) := by
  subst hq
  exact K.go fun T hA t st => XS.icmpNo hA C.1 rfl (hb C.2.1 hd) rfl (feq hc).1 st
theorem w_if_eq_t (C : Cx p s m meth c Z own bytes maxL ret nm) {o : Int} {x : Int32} (hd : decode bytes pc = .ok (.ifCond .eq o, 3)) (ho : 0 ≤ (pc : Int) + o) (hp : ((pc : Int) + o).toNat = q) (hc : x = 0) (K : AtW p l e R s m args below meth c n0 Q h cells slots (mkF m q L S)) : AtW p l e R s m args below meth c n0 Q h cells slots (mkF m pc L (.int x :: S)) :=
  K.go fun T hA t st => XS.ifYes hA C.1 rfl (pc0 := pc) (pc' := q) rfl (hb C.2.1 hd) rfl ((if0 _ _).trans (teq hc).1) ho hp st
theorem w_if_eq_f (C : Cx p s m meth c Z own bytes maxL ret nm) {o : Int} {x : Int32} (hd : decode bytes pc = .ok (.ifCond .eq o, 3)) (hq : pc + 3 = q) (hc : ¬ x = 0) (K : AtW p l e R s m args below meth c n0 Q h cells slots (mkF m q L S)) : AtW p l e R s m args below meth c n0 Q h cells slots (mkF m pc L (.int x :: S)) := by
  subst hq
  exact K.go fun T hA t st => XS.ifNo hA C.1 rfl (hb C.2.1 hd) rfl ((if0 _ _).trans (feq hc).1) st
theorem w_icmp_ne_t (C : Cx p s m meth c Z own bytes maxL ret nm) {o : Int} {x y : Int32} (hd : decode bytes pc = .ok (.if_icmp .ne o, 3)) (ho : 0 ≤ (pc : Int) + o) (hp : ((pc : Int) + o).toNat = q) (hc : ¬ x = y) (K : AtW p l e R s m args below meth c n0 Q h cells slots (mkF m q L S)) : AtW p l e R s m args below meth c n0 Q h cells slots (mkF m pc L (.int y :: .int x :: S)) :=
  K.go fun T hA t st => XS.icmpYes hA C.1 rfl (pc0 := pc) (pc' := q) rfl (hb C.2.1 hd) rfl (feq hc).2 ho hp st
theorem w_icmp_ne_f (C : Cx p s m meth c Z own bytes maxL ret nm) {o : Int} {x y : Int32} (hd : decode bytes pc = .ok (.if_icmp .ne o, 3)) (hq : pc + 3 = q) (hc : x = y) (K : AtW p l e R s m args below meth c n0 Q h cells slots (mkF m q L S)) : AtW p l e R s m args below meth c n0 Q h cells slots (mkF m pc L (.int y :: .int x :: S)) := by
  subst hq
  exact K.go fun T hA t st => XS.icmpNo hA C.1 rfl (hb C.2.1 hd) rfl (teq hc).2 st
theorem w_if_ne_t (C : Cx p s m meth c Z own bytes maxL ret nm) {o : Int} {x : Int32} (hd : decode bytes pc = .ok (.ifCond .ne o, 3)) (ho : 0 ≤ (pc : Int) + o) (hp : ((pc : Int) + o).toNat = q) (hc : ¬ x = 0) (K : AtW p l e R s m args below meth c n0 Q h cells slots (mkF m q L S)) : AtW p l e R s m args below meth c n0 Q h cells slots (mkF m pc L (.int x :: S)) :=
  K.go fun T hA t st => XS.ifYes hA C.1 rfl (pc0 := pc) (pc' := q) rfl (hb C.2.1 hd) rfl ((if0 _ _).trans (feq hc).2) ho hp st
theorem w_if_ne_f (C : Cx p s m meth c Z own bytes maxL ret nm) {o : Int} {x : Int32} (hd : decode bytes pc = .ok (.ifCond .ne o, 3)) (hq : pc + 3 = q) (hc : x = 0) (K : AtW p l e R s m args below meth c n0 Q h cells slots (mkF m q L S)) : AtW p l e R s m args below meth c n0 Q h cells slots (mkF m pc L (.int x :: S)) := by
  subst hq
  exact K.go fun T hA t st => XS.ifNo hA C.1 rfl (hb C.2.1 hd) rfl ((if0 _ _).trans (teq hc).2) st
theorem w_ifnull_t (C : Cx p s m meth c Z own bytes maxL ret nm) {o : Int} (hd : decode bytes pc = .ok (.ifnull o, 3)) (ho : 0 ≤ (pc : Int) + o) (hp : ((pc : Int) + o).toNat = q) (K : AtW p l e R s m args below meth c n0 Q h cells slots (mkF m q L S)) : AtW p l e R s m args below meth c n0 Q h cells slots (mkF m pc L (.null :: S)) :=
  K.go fun T hA t st => XS.ifnullYes hA C.1 rfl (pc0 := pc) (pc' := q) rfl (hb C.2.1 hd) rfl ho hp st
theorem w_ifnull_f (C : Cx p s m meth c Z own bytes maxL ret nm) {o : Int} {b : Addr} (hd : decode bytes pc = .ok (.ifnull o, 3)) (hq : pc + 3 = q) (K : AtW p l e R s m args below meth c n0 Q h cells slots (mkF m q L S)) : AtW p l e R s m args below meth c n0 Q h cells slots (mkF m pc L ((.ref b) :: S)) := by
  subst hq
  exact K.go fun T hA t st => XS.ifnullNo hA C.1 rfl (hb C.2.1 hd) rfl st
theorem w_ifnonnull_t (C : Cx p s m meth c Z own bytes maxL ret nm) {o : Int} {b : Addr} (hd : decode bytes pc = .ok (.ifnonnull o, 3)) (ho : 0 ≤ (pc : Int) + o) (hp : ((pc : Int) + o).toNat = q) (K : AtW p l e R s m args below meth c n0 Q h cells slots (mkF m q L S)) : AtW p l e R s m args below meth c n0 Q h cells slots (mkF m pc L ((.ref b) :: S)) :=
  K.go fun T hA t st => XS.ifnonnullYes hA C.1 rfl (pc0 := pc) (pc' := q) rfl (hb C.2.1 hd) rfl ho hp st
theorem w_ifnonnull_f (C : Cx p s m meth c Z own bytes maxL ret nm) {o : Int} (hd : decode bytes pc = .ok (.ifnonnull o, 3)) (hq : pc + 3 = q) (K : AtW p l e R s m args below meth c n0 Q h cells slots (mkF m q L S)) : AtW p l e R s m args below meth c n0 Q h cells slots (mkF m pc L (.null :: S)) := by
  subst hq
  exact K.go fun T hA t st => XS.ifnonnullNo hA C.1 rfl (hb C.2.1 hd) rfl st
theorem w_acmp_t (C : Cx p s m meth c Z own bytes maxL ret nm) {cd : ACond} {o : Int} {x y : Value} (hd : decode bytes pc = .ok (.if_acmp cd o, 3)) (h1 : x.isRef = true) (h2 : y.isRef = true) {same : Bool} (hs : decide (x = y) = same) (hcd : acV cd same = true) (ho : 0 ≤ (pc : Int) + o) (hp : ((pc : Int) + o).toNat = q) (K : AtW p l e R s m args below meth c n0 Q h cells slots (mkF m q L S)) : AtW p l e R s m args below meth c n0 Q h cells slots (mkF m pc L (y :: x :: S)) :=
  K.goX fun T locs k n X eT t st => Jvm.RoadKit.acmp (g := mkF m pc L (y :: x :: S)) X C.1 rfl h1 h2 (pc0 := pc) (pc' := q) (same := same) rfl (hb C.2.1 hd) rfl hs ho (by rw [if_pos hcd]; exact hp.symm) st
theorem w_acmp_f (C : Cx p s m meth c Z own bytes maxL ret nm) {cd : ACond} {o : Int} {x y : Value} (hd : decode bytes pc = .ok (.if_acmp cd o, 3)) (h1 : x.isRef = true) (h2 : y.isRef = true) {same : Bool} (hs : decide (x = y) = same) (hcd : acV cd same = false) (ho : 0 ≤ (pc : Int) + o) (hq : pc + 3 = q) (K : AtW p l e R s m args below meth c n0 Q h cells slots (mkF m q L S)) : AtW p l e R s m args below meth c n0 Q h cells slots (mkF m pc L (y :: x :: S)) :=
  K.goX fun T locs k n X eT t st => Jvm.RoadKit.acmp (g := mkF m pc L (y :: x :: S)) X C.1 rfl h1 h2 (pc0 := pc) (pc' := q) (same := same) rfl (hb C.2.1 hd) rfl hs ho (by rw [if_neg (by rw [hcd]; exact Bool.false_ne_true)]; exact hq.symm) st
theorem w_ldcI (C : Cx p s m meth c Z own bytes maxL ret nm) {i : Nat} {v : Int32} (w : (Jvm.Cond.constant own i v).before a0 Z = true) (hd : decode bytes pc = .ok (.ldc i, 2)) (hq : pc + 2 = q) (K : AtW p l e R s m args below meth c n0 Q h cells slots (mkF m q L (.int v :: S))) : AtW p l e R s m args below meth c n0 Q h cells slots (mkF m pc L S) := by
  subst hq
  exact K.goX fun T locs k n X eT t st => X.ldcInt C.1 C.2.2.2.2.1 (mvT C.2.2.2.1 w) (g := mkF m pc L S) rfl (hb C.2.1 hd) t st
theorem w_ldcwI (C : Cx p s m meth c Z own bytes maxL ret nm) {i : Nat} {v : Int32} (w : (Jvm.Cond.constant own i v).before a0 Z = true) (hd : decode bytes pc = .ok (.ldc_w i, 3)) (hq : pc + 3 = q) (K : AtW p l e R s m args below meth c n0 Q h cells slots (mkF m q L (.int v :: S))) : AtW p l e R s m args below meth c n0 Q h cells slots (mkF m pc L S) := by
  subst hq
  exact K.goX fun T locs k n X eT t st => X.ldcwInt C.1 C.2.2.2.2.1 (mvT C.2.2.2.1 w) (g := mkF m pc L S) rfl (hb C.2.1 hd) t st
theorem w_ldc2J (C : Cx p s m meth c Z own bytes maxL ret nm) {i : Nat} {v : Int64} (w : (Jvm.Cond.constantLong own i v).before a0 Z = true) (hd : decode bytes pc = .ok (.ldc2_w i, 3)) (hq : pc + 3 = q) (K : AtW p l e R s m args below meth c n0 Q h cells slots (mkF m q L (.long v :: S))) : AtW p l e R s m args below meth c n0 Q h cells slots (mkF m pc L S) := by
  subst hq
  exact K.goX fun T locs k n X eT t st => X.ldc2Long C.1 C.2.2.2.2.1 (mvT C.2.2.2.1 w) (g := mkF m pc L S) rfl (hb C.2.1 hd) t st

theorem w_getF (C : Cx p s m meth c Z own bytes maxL ret nm) {R0 O n d host : String} {i : Nat} {a : Addr} {v : Value} (w : (Jvm.Cond.fieldLink own i R0 n d).before a0 Z = true ∨ (Jvm.Cond.fieldLinkNest own i R0 n d host).before a0 Z = true) (via : Via Z R0 O n d) (F : Fld Z h a O n d v) (hd : decode bytes pc = .ok (.getfield i, 3)) (hq : pc + 3 = q) (K : AtW p l e R s m args below meth c n0 Q h cells slots (mkF m q L (v :: S))) : AtW p l e R s m args below meth c n0 Q h cells slots (mkF m pc L (.ref a :: S)) := by
  subst hq
  intro T locs k n X hk hn eT N
  obtain ⟨T', X', e', st⟩ := getF X C.1 C.2.2.2.1 (host := host) C.2.2.2.2.1 w via eT F (g := mkF m pc L (.ref a :: S)) rfl rfl (hb C.2.1 hd)
  obtain ⟨t, o, r1, r⟩ := K T' locs k n X' hk hn e' N
  exact ⟨t, o, st _ r1, r⟩
theorem w_getS (C : Cx p s m meth c Z own bytes maxL ret nm) {R0 O n d host : String} {i : Nat} {v : Value} (w : (Jvm.Cond.fieldLink own i R0 n d).before a0 Z = true ∨ (Jvm.Cond.fieldLinkNest own i R0 n d host).before a0 Z = true) (via : Via Z R0 O n d) (F : Sta Z h O n d v) (hd : decode bytes pc = .ok (.getstatic i, 3)) (hq : pc + 3 = q) (K : AtW p l e R s m args below meth c n0 Q h cells slots (mkF m q L (v :: S))) : AtW p l e R s m args below meth c n0 Q h cells slots (mkF m pc L S) := by
  subst hq
  intro T locs k n X hk hn eT N
  obtain ⟨T', X', e', st⟩ := getS2 X C.1 C.2.2.2.1 (host := host) C.2.2.2.2.1 w via eT F (g := mkF m pc L S) rfl (hb C.2.1 hd)
  obtain ⟨t, o, r1, r⟩ := K T' locs k n X' hk hn e' N
  exact ⟨t, o, st _ r1, r⟩
theorem w_cast (C : Cx p s m meth c Z own bytes maxL ret nm) {K : String} {i : Nat} {a : Addr} (w : (Jvm.Cond.classLink own i K).before a0 Z = true) (F : Ins Z h a K true) (hd : decode bytes pc = .ok (.checkcast i, 3)) (hq : pc + 3 = q) (K : AtW p l e R s m args below meth c n0 Q h cells slots (mkF m q L (.ref a :: S))) : AtW p l e R s m args below meth c n0 Q h cells slots (mkF m pc L (.ref a :: S)) := by
  subst hq
  intro T locs k n X hk hn eT N
  obtain ⟨T', X', e', st⟩ := castY X C.1 C.2.2.2.1 C.2.2.2.2.1 w eT F (g := mkF m pc L (.ref a :: S)) rfl rfl (hb C.2.1 hd)
  obtain ⟨t, o, r1, r⟩ := K T' locs k n X' hk hn e' N
  exact ⟨t, o, st _ r1, r⟩
theorem w_inst (C : Cx p s m meth c Z own bytes maxL ret nm) {K : String} {i : Nat} {a : Addr} (w : (Jvm.Cond.classLink own i K).before a0 Z = true) (F : Ins Z h a K true) (hd : decode bytes pc = .ok (.instanceof i, 3)) (hq : pc + 3 = q) (K : AtW p l e R s m args below meth c n0 Q h cells slots (mkF m q L (.int 1 :: S))) : AtW p l e R s m args below meth c n0 Q h cells slots (mkF m pc L (.ref a :: S)) := by
  subst hq
  intro T locs k n X hk hn eT N
  obtain ⟨T', X', e', st⟩ := instY X C.1 C.2.2.2.1 C.2.2.2.2.1 w eT F (g := mkF m pc L (.ref a :: S)) rfl rfl (hb C.2.1 hd)
  obtain ⟨t, o, r1, r⟩ := K T' locs k n X' hk hn e' N
  exact ⟨t, o, st _ r1, r⟩
theorem w_initO (C : Cx p s m meth c Z own bytes maxL ret nm) {i : Nat} {a : Addr} (w1 : (Jvm.Cond.methodLink own i Lib.objectInit).before a0 Z = true) (w2 : (Jvm.Cond.instanceMethod Lib.objectInit).before a0 Z = true) (w3 : (Jvm.Cond.code Lib.objectInit object_method_1_code 1 none).before a0 Z = true) (hL : L.size = maxL) (hf : 1 ≤ R.frames) {W : Nat} (hW : (S.map fun v => v.category).sum ≤ W) (hlo : W + 12 ≤ R.locals) (hd : decode bytes pc = .ok (.invokespecial i, 3)) (hq : pc + 3 = q) (K : AtW p l e R s m args below meth c n0 Q h cells slots (mkF m q L S)) : AtW p l e R s m args below meth c n0 Q h cells slots (mkF m pc L (.ref a :: S)) := by
  subst hq
  intro T locs k n X hk hn eT N
  obtain ⟨T', X', e', st⟩ := initO X C.1 C.2.2.2.1 C.2.2.2.2.1 w1 w2 w3 eT (g := mkF m pc L (.ref a :: S)) rfl (hL.trans C.2.2.1.symm) rfl (hb C.2.1 hd) hf (W := W) (by show 2 * 0 + _ ≤ _; omega) hlo
  obtain ⟨t, o, r1, r⟩ := K T' locs k n X' hk hn e' N
  exact ⟨t, o, st _ r1, r⟩
theorem w_putF (C : Cx p s m meth c Z own bytes maxL ret nm) {R0 O n d host Cl : String} {i kk : Nat} {ty : FieldType} {a : Addr} {v v' old : Value} (w : (Jvm.Cond.fieldLink own i R0 n d).before a0 Z = true) (via : Via Z R0 O n d) (F : Fld Z h a O n d old) (E : Exa Z h a Cl)
    (hL : (Jvm.Cond.lays Cl O n d).before a0 Z = true ∨ ((Jvm.Cond.laysFinal Cl O n d).before a0 Z = true ∧ own = O ∧ nm = "<init>")) (wi : (Jvm.Cond.instantiable Cl kk).before a0 Z = true) (hty : parseFieldDescriptor d = some ty) (hn : narrow ty v = v') (hf : fits ty v' = true) (hge : n0 ≤ a)
    (hd : decode bytes pc = .ok (.putfield i, 3)) (hq : pc + 3 = q) (K : ∀ h', Wr h h' a (Jvm.RoadKit.slotOf Z O n d) v' → AtW p l e R s m args below meth c n0 Q h' cells slots (mkF m q L S)) : AtW p l e R s m args below meth c n0 Q h cells slots (mkF m pc L (v :: .ref a :: S)) := by
  subst hq
  intro T locs k n' X hk hn' eT N
  have hL' : (Jvm.Cond.lays Cl O n d).before a0 Z = true ∨ ((Jvm.Cond.laysFinal Cl O n d).before a0 Z = true ∧ own = O ∧ meth.name = "<init>") := hL.imp id fun x => ⟨x.1, x.2.1, C.2.2.2.2.2.2.2.trans x.2.2⟩
  obtain ⟨T', h', X', e', W, st⟩ := putFN X C.1 C.2.2.2.1 C.2.2.2.2.1 w via eT F E hL' wi hty hn hf (g := mkF m pc L (v :: .ref a :: S)) rfl rfl (hb C.2.1 hd)
  obtain ⟨t, o, r1, r⟩ := K h' W T' _ k n' X' hk hn' e' (Fr.snoc X' N hge)
  exact ⟨t, o, st _ r1, r⟩
theorem w_new (C : Cx p s m meth c Z own bytes maxL ret nm) {Cl : String} {i n : Nat} (w : (Jvm.Cond.classLink own i Cl).before a0 Z = true) (wi : (Jvm.Cond.instantiable Cl n).before a0 Z = true) (wz : (Jvm.Cond.initialized Cl).before a0 Z = true) {cells' slots' : Nat} (hc1 : cells + 1 = cells') (hs1 : slots + n = slots') (hc : cells' ≤ R.cells) (hl : slots' ≤ R.slots)
    (hd : decode bytes pc = .ok (.new i, 3)) (hq : pc + 3 = q) (K : ∀ h' a, a = h.size → Ext h h' → Exa Z h' a Cl → (∀ {O nm d : String} {ty : FieldType}, RoadKit.Laid Z a0 Cl O nm d → parseFieldDescriptor d = some ty → Fld Z h' a O nm d (defaultValue ty)) → AtW p l e R s m args below meth c n0 Q h' cells' slots' (mkF m q L (.ref a :: S))) : AtW p l e R s m args below meth c n0 Q h cells slots (mkF m pc L S) := by
  subst hq hc1 hs1
  intro T locs k n' X hk hn' eT N
  obtain ⟨T', h', X', e', E, A, D, -, st⟩ := newO X C.1 C.2.2.2.1 C.2.2.2.2.1 w wi wz eT (g := mkF m pc L S) rfl (hb C.2.1 hd) (by omega) (by omega)
  obtain ⟨t, o, r1, r⟩ := K h' h.size rfl E A D T' _ (k + 1) (n' + n) X' (by omega) (by omega) e' N
  exact ⟨t, o, st _ r1, r⟩
/-- an array that holds just vs -/
def Ar (Z : State) (h : Heap) (a : Addr) (ty : FieldType) (vs : List Value) : Prop := vs.length < 2 ^ 31 ∧ ∃ k, Arv Z h a k ty (Int32.ofNat vs.length) vs (defaultValue ty)
theorem ofNat_neg {n : Nat} (h : n < 2 ^ 31) : ¬ Int32.ofNat n < 0 := by
  intro q
  have := Int32.lt_iff_toInt_lt.mp q
  rw [Int32.toInt_ofNat_small h] at this
  simp at this
  omega
theorem ofNat_nat {n : Nat} (h : n < 2 ^ 31) : (Int32.ofNat n).toNatClampNeg = n := by
  simp only [Int32.toNatClampNeg, Int32.toInt_ofNat_small h]; rfl
theorem nat_of_nonneg {x : Int32} (h : ¬ x < 0) : Int32.ofNat x.toNatClampNeg = x ∧ x.toNatClampNeg < 2 ^ 31 := by
  obtain ⟨h1, h2⟩ := back32 h
  exact ⟨h1, h2⟩
theorem Ar.keep {a : Addr} {ty : FieldType} {vs : List Value} {h' : Heap} {ws : List Addr} (F : Ar Z h a ty vs) (K : Keep h h' ws) (q : a ∉ ws) : Ar Z h' a ty vs := ⟨F.1, F.2.imp fun k V => V.keep K q⟩
theorem Ar.ext {a : Addr} {ty : FieldType} {vs : List Value} {h' : Heap} (F : Ar Z h a ty vs) (E : Ext h h') : Ar Z h' a ty vs := ⟨F.1, F.2.imp fun k V => V.ext E⟩
theorem Ar.other {a b : Addr} {ty : FieldType} {vs : List Value} {h' : Heap} {sl : Nat} {v : Value} (F : Ar Z h b ty vs) (W : Wr h h' a sl v) (q : b ≠ a) : Ar Z h' b ty vs := ⟨F.1, F.2.imp fun k V => V.other W q⟩
theorem Ar.lt {a : Addr} {ty : FieldType} {vs : List Value} (F : Ar Z h a ty vs) : a < h.size := F.2.elim fun k V => V.lt
theorem Ar.eq {a : Addr} {ty : FieldType} {vs vs' : List Value} (F : Ar Z h a ty vs) (q : vs = vs') : Ar Z h a ty vs' := q ▸ F
theorem Keep.of_ext {h' : Heap} (E : Ext h h') : Keep h h' [] := (Keep.refl h []).ext E
theorem Keep.to_ext {h' : Heap} (K : Keep h h' []) : Ext h h' := ⟨K.1, fun a c q => K.2.1 a c q (by simp)⟩
theorem w_newArr (C : Cx p s m meth c Z own bytes maxL ret nm) {aty : ArrayType} {ty : FieldType} {n : Int32} (w : (Jvm.Cond.arrayClass ty).before a0 Z = true) (hty : newarray.typeOf aty = ty) (hn : ¬ n < 0) {cap : Nat} (hcap : n.toNatClampNeg ≤ cap) (hb' : cap * 8 ≤ 536870912) {cells' slots' : Nat} (hc1 : cells + 1 = cells') (hs1 : slots + cap = slots') (hc : cells' ≤ R.cells) (hl : slots' ≤ R.slots)
    (hd : decode bytes pc = .ok (.newarray aty, 2)) (hq : pc + 2 = q) (K : ∀ h' a, a = h.size → Ext h h' → Ar Z h' a ty (List.replicate n.toNatClampNeg (defaultValue ty)) → AtW p l e R s m args below meth c n0 Q h' cells' slots' (mkF m q L (.ref a :: S))) : AtW p l e R s m args below meth c n0 Q h cells slots (mkF m pc L (.int n :: S)) := by
  subst hq hc1 hs1 hty
  intro T locs k n' X hk hn' eT N
  obtain ⟨T', h', cA, X', e', E, A, st⟩ := newP X C.1 C.2.2.2.1 w eT (g := mkF m pc L (.int n :: S)) rfl (hb C.2.1 hd) rfl hn hcap hb' (by omega) (by omega)
  have q := nat_of_nonneg hn
  have V := (Arv.new A hn).pad (pad_rep [] (defaultValue (newarray.typeOf aty)) n.toNatClampNeg)
  obtain ⟨t, o, r1, r⟩ := K h' h.size rfl E ⟨by simpa using q.2, cA, by simpa [q.1] using V⟩ T' _ (k + 1) (n' + cap) X' (by omega) (by omega) e' N
  exact ⟨t, o, st _ r1, r⟩
theorem w_len (C : Cx p s m meth c Z own bytes maxL ret nm) {a : Addr} {ty : FieldType} {vs : List Value} {z : Int32} (A : Ar Z h a ty vs) (hz : Int32.ofNat vs.length = z) (hd : decode bytes pc = .ok (.arraylength, 1)) (hq : pc + 1 = q) (K : AtW p l e R s m args below meth c n0 Q h cells slots (mkF m q L (.int z :: S))) : AtW p l e R s m args below meth c n0 Q h cells slots (mkF m pc L (.ref a :: S)) := by
  subst hq hz
  obtain ⟨hlt, k, cl, Ar, -, hS, hM, -, -⟩ := A
  refine K.goX fun T locs k n X eT t st => X.arraylength C.1 (by rw [eT]; exact Ar.1) (State.isArrayOf_alike C.2.2.2.1.alike Ar.2.1) (g := mkF m pc L (.ref a :: S)) rfl rfl (hb C.2.1 hd) t ?_
  rw [len_of hS hM]; exact st

theorem w_iaload (C : Cx p s m meth c Z own bytes maxL ret nm) {a : Addr} {vs : List Value} {j : Int32} {i : Nat} {v : Value} (A : Ar Z h a .int vs) (hj : j = Int32.ofNat i) (hv : vs[i]? = some v) (hd : decode bytes pc = .ok (.iaload, 1)) (hq : pc + 1 = q) (K : AtW p l e R s m args below meth c n0 Q h cells slots (mkF m q L (v :: S))) : AtW p l e R s m args below meth c n0 Q h cells slots (mkF m pc L (.int j :: .ref a :: S)) := by
  subst hq hj
  obtain ⟨hlt, k, cl, Ar, -, hS, hM, H, -⟩ := A
  obtain ⟨hi, hg⟩ := List.getElem?_eq_some_iff.mp hv
  have e1 := ofNat_nat (n := i) (by omega)
  have e2 := ofNat_nat hlt
  have hin : ¬ (Int32.ofNat i < 0 ∨ cl.slots.size ≤ (Int32.ofNat i).toNatClampNeg) := by
    rw [e1, hS, e2]; exact fun q => q.elim (ofNat_neg (by omega)) (by omega)
  refine K.goX fun T locs k n X eT t st => X.iaload C.1 (j := Int32.ofNat i) (v := v) (by rw [eT]; exact Ar.1) (State.isArrayOf_alike C.2.2.2.1.alike Ar.2.1) Ar.2.2 hin (by rw [e1, H i (by rw [hS, e2]; exact hi)]; simp [List.getD, hv]) (g := mkF m pc L (.int (Int32.ofNat i) :: .ref a :: S)) rfl rfl (hb C.2.1 hd) t st
theorem w_caload (C : Cx p s m meth c Z own bytes maxL ret nm) {a : Addr} {vs : List Value} {j : Int32} {i : Nat} {v : Value} (A : Ar Z h a .char vs) (hj : j = Int32.ofNat i) (hv : vs[i]? = some v) (hd : decode bytes pc = .ok (.caload, 1)) (hq : pc + 1 = q) (K : AtW p l e R s m args below meth c n0 Q h cells slots (mkF m q L (v :: S))) : AtW p l e R s m args below meth c n0 Q h cells slots (mkF m pc L (.int j :: .ref a :: S)) := by
  subst hq hj
  obtain ⟨hlt, k, cl, Ar, -, hS, hM, H, -⟩ := A
  obtain ⟨hi, hg⟩ := List.getElem?_eq_some_iff.mp hv
  have e1 := ofNat_nat (n := i) (by omega)
  have e2 := ofNat_nat hlt
  have hin : ¬ (Int32.ofNat i < 0 ∨ cl.slots.size ≤ (Int32.ofNat i).toNatClampNeg) := by
    rw [e1, hS, e2]; exact fun q => q.elim (ofNat_neg (by omega)) (by omega)
  refine K.goX fun T locs k n X eT t st => X.caload C.1 (j := Int32.ofNat i) (v := v) (by rw [eT]; exact Ar.1) (State.isArrayOf_alike C.2.2.2.1.alike Ar.2.1) Ar.2.2 hin (by rw [e1, H i (by rw [hS, e2]; exact hi)]; simp [List.getD, hv]) (g := mkF m pc L (.int (Int32.ofNat i) :: .ref a :: S)) rfl rfl (hb C.2.1 hd) t st
theorem w_baload (C : Cx p s m meth c Z own bytes maxL ret nm) {a : Addr} {vs : List Value} {j : Int32} {i : Nat} {v : Value} (A : Ar Z h a .byte vs) (hj : j = Int32.ofNat i) (hv : vs[i]? = some v) (hd : decode bytes pc = .ok (.baload, 1)) (hq : pc + 1 = q) (K : AtW p l e R s m args below meth c n0 Q h cells slots (mkF m q L (v :: S))) : AtW p l e R s m args below meth c n0 Q h cells slots (mkF m pc L (.int j :: .ref a :: S)) := by
  subst hq hj
  obtain ⟨hlt, k, cl, Ar, -, hS, hM, H, -⟩ := A
  obtain ⟨hi, hg⟩ := List.getElem?_eq_some_iff.mp hv
  have e1 := ofNat_nat (n := i) (by omega)
  have e2 := ofNat_nat hlt
  have hin : ¬ (Int32.ofNat i < 0 ∨ cl.slots.size ≤ (Int32.ofNat i).toNatClampNeg) := by
    rw [e1, hS, e2]; exact fun q => q.elim (ofNat_neg (by omega)) (by omega)
  refine K.goX fun T locs k n X eT t st => X.baloadBytes C.1 (j := Int32.ofNat i) (v := v) (by rw [eT]; exact Ar.1) (State.isArrayOf_alike C.2.2.2.1.alike Ar.2.1) Ar.2.2 hin (by rw [e1, H i (by rw [hS, e2]; exact hi)]; simp [List.getD, hv]) (g := mkF m pc L (.int (Int32.ofNat i) :: .ref a :: S)) rfl rfl (hb C.2.1 hd) t st
theorem w_laload (C : Cx p s m meth c Z own bytes maxL ret nm) {a : Addr} {vs : List Value} {j : Int32} {i : Nat} {v : Value} (A : Ar Z h a .long vs) (hj : j = Int32.ofNat i) (hv : vs[i]? = some v) (hd : decode bytes pc = .ok (.laload, 1)) (hq : pc + 1 = q) (K : AtW p l e R s m args below meth c n0 Q h cells slots (mkF m q L (v :: S))) : AtW p l e R s m args below meth c n0 Q h cells slots (mkF m pc L (.int j :: .ref a :: S)) := by
  subst hq hj
  obtain ⟨hlt, k, cl, Ar, -, hS, hM, H, -⟩ := A
  obtain ⟨hi, hg⟩ := List.getElem?_eq_some_iff.mp hv
  have e1 := ofNat_nat (n := i) (by omega)
  have e2 := ofNat_nat hlt
  have hin : ¬ (Int32.ofNat i < 0 ∨ cl.slots.size ≤ (Int32.ofNat i).toNatClampNeg) := by
    rw [e1, hS, e2]; exact fun q => q.elim (ofNat_neg (by omega)) (by omega)
  refine K.goX fun T locs k n X eT t st => X.laload C.1 (j := Int32.ofNat i) (v := v) (by rw [eT]; exact Ar.1) (State.isArrayOf_alike C.2.2.2.1.alike Ar.2.1) Ar.2.2 hin (by rw [e1, H i (by rw [hS, e2]; exact hi)]; simp [List.getD, hv]) (g := mkF m pc L (.int (Int32.ofNat i) :: .ref a :: S)) rfl rfl (hb C.2.1 hd) t st
theorem w_aaload (C : Cx p s m meth c Z own bytes maxL ret nm) {a : Addr} {ty : FieldType} {vs : List Value} {j : Int32} {i : Nat} {v : Value} (A : Ar Z h a ty vs) (hj : j = Int32.ofNat i) (hv : vs[i]? = some v) (hr : ty.isReference = true) (hd : decode bytes pc = .ok (.aaload, 1)) (hq : pc + 1 = q) (K : AtW p l e R s m args below meth c n0 Q h cells slots (mkF m q L (v :: S))) : AtW p l e R s m args below meth c n0 Q h cells slots (mkF m pc L (.int j :: .ref a :: S)) := by
  subst hq hj
  obtain ⟨hlt, k, cl, Ar, -, hS, hM, H, -⟩ := A
  obtain ⟨hi, hg⟩ := List.getElem?_eq_some_iff.mp hv
  have e1 := ofNat_nat (n := i) (by omega)
  have e2 := ofNat_nat hlt
  have hin : ¬ (Int32.ofNat i < 0 ∨ cl.slots.size ≤ (Int32.ofNat i).toNatClampNeg) := by
    rw [e1, hS, e2]; exact fun q => q.elim (ofNat_neg (by omega)) (by omega)
  refine K.goX fun T locs k n X eT t st => X.aaload C.1 (j := Int32.ofNat i) (v := v) (by rw [eT]; exact Ar.1) (State.isArrayOf_alike C.2.2.2.1.alike Ar.2.1) hr Ar.2.2 hin (by rw [e1, H i (by rw [hS, e2]; exact hi)]; simp [List.getD, hv]) (g := mkF m pc L (.int (Int32.ofNat i) :: .ref a :: S)) rfl rfl (hb C.2.1 hd) t st
theorem w_iastore (C : Cx p s m meth c Z own bytes maxL ret nm) {a : Addr} {vs : List Value} {j : Int32} {i : Nat} {x : Int32} (A : Ar Z h a .int vs) (hj : j = Int32.ofNat i) (hi : i < vs.length) (hge : n0 ≤ a) (hd : decode bytes pc = .ok (.iastore, 1)) (hq : pc + 1 = q)
    (K : ∀ h', Wr h h' a i (.int x) → Ar Z h' a .int (vs.set i (.int x)) → AtW p l e R s m args below meth c n0 Q h' cells slots (mkF m q L S)) : AtW p l e R s m args below meth c n0 Q h cells slots (mkF m pc L (.int x :: .int j :: .ref a :: S)) := by
  subst hq hj
  intro T locs k n' X hk hn' eT N
  obtain ⟨hlt, k', cl, Ar, q1, hS, hM, H, G⟩ := A
  have e1 := ofNat_nat (n := i) (by omega)
  have e2 := ofNat_nat hlt
  have hin : ¬ (Int32.ofNat i < 0 ∨ cl.slots.size ≤ (Int32.ofNat i).toNatClampNeg) := by
    rw [e1, hS, e2]; exact fun q => q.elim (ofNat_neg (by omega)) (by omega)
  obtain ⟨T', h', X', e', W, st⟩ := stI X C.1 C.2.2.2.1 eT Ar (j := Int32.ofNat i) (x := x) hin (g := mkF m pc L (.int x :: .int (Int32.ofNat i) :: .ref a :: S)) rfl rfl (hb C.2.1 hd)
  have V := Arv.set Ar q1 hS hM H G (rfl) W i e1 hi
  obtain ⟨t, o, r1, r⟩ := K h' (by rw [e1] at W; exact W) ⟨by simpa using hlt, k', by rw [List.length_set]; exact V⟩ T' _ k n' X' hk hn' e' (Fr.snoc X' N hge)
  exact ⟨t, o, st _ r1, r⟩
theorem w_castore (C : Cx p s m meth c Z own bytes maxL ret nm) {a : Addr} {vs : List Value} {j : Int32} {i : Nat} {x : Int32} {z : Int32} (hz : nar .char x = z) (A : Ar Z h a .char vs) (hj : j = Int32.ofNat i) (hi : i < vs.length) (hge : n0 ≤ a) (hd : decode bytes pc = .ok (.castore, 1)) (hq : pc + 1 = q)
    (K : ∀ h', Wr h h' a i (.int z) → Ar Z h' a .char (vs.set i (.int z)) → AtW p l e R s m args below meth c n0 Q h' cells slots (mkF m q L S)) : AtW p l e R s m args below meth c n0 Q h cells slots (mkF m pc L (.int x :: .int j :: .ref a :: S)) := by
  subst hq hj hz
  intro T locs k n' X hk hn' eT N
  obtain ⟨hlt, k', cl, Ar, q1, hS, hM, H, G⟩ := A
  have e1 := ofNat_nat (n := i) (by omega)
  have e2 := ofNat_nat hlt
  have hin : ¬ (Int32.ofNat i < 0 ∨ cl.slots.size ≤ (Int32.ofNat i).toNatClampNeg) := by
    rw [e1, hS, e2]; exact fun q => q.elim (ofNat_neg (by omega)) (by omega)
  obtain ⟨T', h', X', e', W, st⟩ := stC X C.1 C.2.2.2.1 eT Ar (j := Int32.ofNat i) (x := x) hin (g := mkF m pc L (.int x :: .int (Int32.ofNat i) :: .ref a :: S)) rfl rfl (hb C.2.1 hd)
  have V := Arv.set Ar q1 hS hM H G (fits_nar_char _) W i e1 hi
  obtain ⟨t, o, r1, r⟩ := K h' (by rw [e1] at W; exact W) ⟨by simpa using hlt, k', by rw [List.length_set]; exact V⟩ T' _ k n' X' hk hn' e' (Fr.snoc X' N hge)
  exact ⟨t, o, st _ r1, r⟩
theorem w_bastore (C : Cx p s m meth c Z own bytes maxL ret nm) {a : Addr} {vs : List Value} {j : Int32} {i : Nat} {x : Int32} {z : Int32} (hz : nar .byte x = z) (A : Ar Z h a .byte vs) (hj : j = Int32.ofNat i) (hi : i < vs.length) (hge : n0 ≤ a) (hd : decode bytes pc = .ok (.bastore, 1)) (hq : pc + 1 = q)
    (K : ∀ h', Wr h h' a i (.int z) → Ar Z h' a .byte (vs.set i (.int z)) → AtW p l e R s m args below meth c n0 Q h' cells slots (mkF m q L S)) : AtW p l e R s m args below meth c n0 Q h cells slots (mkF m pc L (.int x :: .int j :: .ref a :: S)) := by
  subst hq hj hz
  intro T locs k n' X hk hn' eT N
  obtain ⟨hlt, k', cl, Ar, q1, hS, hM, H, G⟩ := A
  have e1 := ofNat_nat (n := i) (by omega)
  have e2 := ofNat_nat hlt
  have hin : ¬ (Int32.ofNat i < 0 ∨ cl.slots.size ≤ (Int32.ofNat i).toNatClampNeg) := by
    rw [e1, hS, e2]; exact fun q => q.elim (ofNat_neg (by omega)) (by omega)
  obtain ⟨T', h', X', e', W, st⟩ := stB X C.1 C.2.2.2.1 eT Ar (j := Int32.ofNat i) (x := x) hin (g := mkF m pc L (.int x :: .int (Int32.ofNat i) :: .ref a :: S)) rfl rfl (hb C.2.1 hd)
  have V := Arv.set Ar q1 hS hM H G (fits_nar_byte _) W i e1 hi
  obtain ⟨t, o, r1, r⟩ := K h' (by rw [e1] at W; exact W) ⟨by simpa using hlt, k', by rw [List.length_set]; exact V⟩ T' _ k n' X' hk hn' e' (Fr.snoc X' N hge)
  exact ⟨t, o, st _ r1, r⟩
theorem w_lastore (C : Cx p s m meth c Z own bytes maxL ret nm) {a : Addr} {vs : List Value} {j : Int32} {i : Nat} {x : Int64} (A : Ar Z h a .long vs) (hj : j = Int32.ofNat i) (hi : i < vs.length) (hge : n0 ≤ a) (hd : decode bytes pc = .ok (.lastore, 1)) (hq : pc + 1 = q)
    (K : ∀ h', Wr h h' a i (.long x) → Ar Z h' a .long (vs.set i (.long x)) → AtW p l e R s m args below meth c n0 Q h' cells slots (mkF m q L S)) : AtW p l e R s m args below meth c n0 Q h cells slots (mkF m pc L (.long x :: .int j :: .ref a :: S)) := by
  subst hq hj
  intro T locs k n' X hk hn' eT N
  obtain ⟨hlt, k', cl, Ar, q1, hS, hM, H, G⟩ := A
  have e1 := ofNat_nat (n := i) (by omega)
  have e2 := ofNat_nat hlt
  have hin : ¬ (Int32.ofNat i < 0 ∨ cl.slots.size ≤ (Int32.ofNat i).toNatClampNeg) := by
    rw [e1, hS, e2]; exact fun q => q.elim (ofNat_neg (by omega)) (by omega)
  obtain ⟨T', h', X', e', W, st⟩ := stJ X C.1 C.2.2.2.1 eT Ar (j := Int32.ofNat i) (x := x) hin (g := mkF m pc L (.long x :: .int (Int32.ofNat i) :: .ref a :: S)) rfl rfl (hb C.2.1 hd)
  have V := Arv.set Ar q1 hS hM H G (rfl) W i e1 hi
  obtain ⟨t, o, r1, r⟩ := K h' (by rw [e1] at W; exact W) ⟨by simpa using hlt, k', by rw [List.length_set]; exact V⟩ T' _ k n' X' hk hn' e' (Fr.snoc X' N hge)
  exact ⟨t, o, st _ r1, r⟩
theorem w_retZ (C : Cx p s m meth c Z own bytes maxL ret nm) {t : FieldType} {x z : Int32} (hret : ret = some t) (ht : t = .boolean ∨ t = .byte ∨ t = .char ∨ t = .short) (hz : nar t x = z) (hd : decode bytes pc = .ok (.ireturn, 1)) (hc : cells ≤ R.cells) (hs : slots ≤ R.slots) (hQ : Q (some (.int z)) h) : AtW p l e R s m args below meth c n0 Q h cells slots (mkF m pc L (.int x :: S)) := by
  subst hz
  intro T locs k n X hk hn eT N
  obtain ⟨fs, hr, hrun, hended, hW, hsame⟩ := X.leave (v := some (.int (nar t x))) (fun h => by rw [C.2.2.2.2.2.1, hret] at h; cases h) C.2.2.2.2.2.2.1
  refine ⟨_, _, retN X C.1 (t := t) (C.2.2.2.2.2.1.trans hret) ht (hb C.2.1 hd) hr, hrun, hended, _, _, rfl, ⟨N, ?_⟩, ⟨_, rfl⟩, hW, hsame.mono (Nat.le_trans hk hc) (Nat.le_trans hn hs)⟩
  show Q _ T.heap
  rw [eT]; exact hQ
theorem w_ret (C : Cx p s m meth c Z own bytes maxL ret nm) {t : FieldType} {v : Value} {i : Instr} (hret : ret = some t) (hn' : narrow t v = v)
    (hi : (i = .ireturn ∧ (t = .int ∨ t = .boolean ∨ t = .byte ∨ t = .char ∨ t = .short) ∧ ∃ z, v = .int z) ∨ (i = .lreturn ∧ t = .long ∧ ∃ z, v = .long z) ∨ (i = .dreturn ∧ t = .double ∧ ∃ z, v = .double z) ∨ (i = .freturn ∧ t = .float ∧ ∃ z, v = .float z) ∨ (i = .areturn ∧ t.isReference = true ∧ v.isRef = true))
    (hd : decode bytes pc = .ok (i, 1)) (hc : cells ≤ R.cells) (hs : slots ≤ R.slots) (hQ : Q (some v) h) : AtW p l e R s m args below meth c n0 Q h cells slots (mkF m pc L (v :: S)) := by
  intro T locs k n X hk hn eT N
  obtain ⟨fs, hr, hrun, hended, hW, hsame⟩ := X.leave (v := some v) (fun h => by rw [C.2.2.2.2.2.1, hret] at h; cases h) C.2.2.2.2.2.2.1
  refine ⟨_, _, retOut X C.1 (t := t) (C.2.2.2.2.2.1.trans hret) hn' hi (hb C.2.1 hd) hr, hrun, hended, _, _, rfl, ⟨N, ?_⟩, ⟨_, rfl⟩, hW, hsame.mono (Nat.le_trans hk hc) (Nat.le_trans hn hs)⟩
  show Q _ T.heap
  rw [eT]; exact hQ
theorem w_retI (C : Cx p s m meth c Z own bytes maxL ret nm) {x : Int32} (hret : ret = some .int) (hd : decode bytes pc = .ok (.ireturn, 1)) (hc : cells ≤ R.cells) (hs : slots ≤ R.slots) (hQ : Q (some (.int x)) h) : AtW p l e R s m args below meth c n0 Q h cells slots (mkF m pc L (.int x :: S)) :=
  w_ret C hret rfl (Or.inl ⟨rfl, Or.inl rfl, _, rfl⟩) hd hc hs hQ
theorem w_retJ (C : Cx p s m meth c Z own bytes maxL ret nm) {x : Int64} (hret : ret = some .long) (hd : decode bytes pc = .ok (.lreturn, 1)) (hc : cells ≤ R.cells) (hs : slots ≤ R.slots) (hQ : Q (some (.long x)) h) : AtW p l e R s m args below meth c n0 Q h cells slots (mkF m pc L (.long x :: S)) :=
  w_ret C hret rfl (Or.inr (Or.inl ⟨rfl, rfl, _, rfl⟩)) hd hc hs hQ
theorem w_retA (C : Cx p s m meth c Z own bytes maxL ret nm) {t : FieldType} {v : Value} (hret : ret = some t) (ht : t.isReference = true) (hv : v.isRef = true) (hd : decode bytes pc = .ok (.areturn, 1)) (hc : cells ≤ R.cells) (hs : slots ≤ R.slots) (hQ : Q (some v) h) : AtW p l e R s m args below meth c n0 Q h cells slots (mkF m pc L (v :: S)) :=
  w_ret C hret (by rcases ref_cases hv with rfl | ⟨a, rfl⟩ <;> cases t <;> first | rfl | cases ht) (Or.inr (Or.inr (Or.inr (Or.inr ⟨rfl, ht, hv⟩)))) hd hc hs hQ
theorem w_retV (C : Cx p s m meth c Z own bytes maxL ret nm) (hret : ret = none) (hd : decode bytes pc = .ok (.return_, 1)) (hc : cells ≤ R.cells) (hs : slots ≤ R.slots) (hQ : Q none h) : AtW p l e R s m args below meth c n0 Q h cells slots (mkF m pc L []) := by
  intro T locs k n X hk hn eT N
  obtain ⟨fs, hr, hrun, hended, hW, hsame⟩ := X.leave (v := none) (fun _ => rfl) C.2.2.2.2.2.2.1
  refine ⟨_, _, X.returnOut C.1 (C.2.2.2.2.2.1.trans hret) (hb C.2.1 hd) hr, hrun, hended, _, _, rfl, ⟨N, ?_⟩, ⟨_, rfl⟩, hW, hsame.mono (Nat.le_trans hk hc) (Nat.le_trans hn hs)⟩
  show Q _ T.heap
  rw [eT]; exact hQ

theorem w_callS (C : Cx p s m meth c Z own bytes maxL ret nm) {y : MethodName} {i : Nat} {argsL : List Value} {bytesY : ByteArray} {maxY : Nat} {retY : Option FieldType} {rm : Room} {Qy : Option Value → Heap → Prop} (w1 : (Jvm.Cond.methodLink own i y).before a0 Z = true) (w2 : (Jvm.Cond.static y).before a0 Z = true) (wz : (Jvm.Cond.initialized y.cls).before a0 Z = true) (wc : (Jvm.Cond.code y bytesY maxY retY).before a0 Z = true)
    (hy : y.cls ≠ "java/lang/invoke/MethodHandle" ∧ y.cls ≠ "java/lang/invoke/VarHandle") (ct : Ct [] l Z n0 y bytesY maxY retY rm argsL.toArray h Qy) {S' : List Value} (hS : S' = argsL.reverse ++ S) (hlen : ∀ sig, parseMethodDescriptor y.desc = some sig → argsL.length = sig.parameters.length) (hL : L.size = maxL) (hf : rm.frames + 1 ≤ R.frames) {W : Nat} (hW : (S.map fun v => v.category).sum ≤ W) (hlo : W + (maxY + 11) + rm.locals ≤ R.locals) {cells' slots' : Nat} (hc1 : cells + rm.cells = cells') (hs1 : slots + rm.slots = slots') (hc : cells' ≤ R.cells) (hl : slots' ≤ R.slots)
    (hd : decode bytes pc = .ok (.invokestatic i, 3)) (hq : pc + 3 = q) (K : ∀ v h', Qy v h' → AtW p l e R s m args below meth c n0 Q h' cells' slots' (mkF m q L (v.toList ++ S))) : AtW p l e R s m args below meth c n0 Q h cells slots (mkF m pc L S') := by
  subst hq hc1 hs1
  intro T locs k n' X hk hn' eT N
  obtain ⟨v, _, ⟨T', L', k', n''⟩, -, X', ⟨Lc, hQ, hl', hc', hs'⟩, st⟩ := Jvm.LawKit.callS X C.1 (y := y) C.2.2.2.2.1 (mvT C.2.2.2.1 w1) (mvT C.2.2.2.1 w2) (mvT C.2.2.2.1 wz) (mvT C.2.2.2.1 wc) hy (backOf (W := W) (Q := fun v h L => Fr n0 L ∧ Qy v h) ct C.2.2.2.1 wc wz hf hlo) (g := mkF m pc L S') rfl (hL.trans C.2.2.1.symm) (argsL := argsL) (rest := S) hlen hS (by show 2 * 0 + _ ≤ _; omega) (hb C.2.1 hd) (fun _ _ => ⟨rfl, eT, (by show k + _ ≤ _; omega), (by show n' + _ ≤ _; omega)⟩)
  dsimp only [Pt.U, Pt.locs, Pt.cells, Pt.slots] at X' hl' hc' hs' st hQ
  subst hl' hc' hs'
  obtain ⟨t, o, r1, r⟩ := K v T'.heap hQ.2 T' _ _ _ X' (by omega) (by omega) rfl (Fr.app N hQ.1)
  exact ⟨t, o, st _ r1, r⟩
theorem w_callI (C : Cx p s m meth c Z own bytes maxL ret nm) {y : MethodName} {i : Nat} {a : Addr} {argsL : List Value} {bytesY : ByteArray} {maxY : Nat} {rm : Room} {Qy : Option Value → Heap → Prop} (hnm : y.name = "<init>") (w1 : (Jvm.Cond.methodLink own i y).before a0 Z = true) (w2 : (Jvm.Cond.instanceMethod y).before a0 Z = true) (wz : (Jvm.Cond.initialized y.cls).before a0 Z = true) (wc : (Jvm.Cond.code y bytesY maxY none).before a0 Z = true)
    (hy : y.cls ≠ "java/lang/invoke/MethodHandle" ∧ y.cls ≠ "java/lang/invoke/VarHandle") (ct : Ct [] l Z n0 y bytesY maxY none rm (.ref a :: argsL).toArray h Qy) {S' : List Value} (hS : S' = argsL.reverse ++ .ref a :: S) (hlen : ∀ sig, parseMethodDescriptor y.desc = some sig → argsL.length = sig.parameters.length) (hL : L.size = maxL) (hf : rm.frames + 1 ≤ R.frames) {W : Nat} (hW : (S.map fun v => v.category).sum ≤ W) (hlo : W + (maxY + 11) + rm.locals ≤ R.locals) {cells' slots' : Nat} (hc1 : cells + rm.cells = cells') (hs1 : slots + rm.slots = slots') (hc : cells' ≤ R.cells) (hl : slots' ≤ R.slots)
    (hd : decode bytes pc = .ok (.invokespecial i, 3)) (hq : pc + 3 = q) (K : ∀ v h', Qy v h' → AtW p l e R s m args below meth c n0 Q h' cells' slots' (mkF m q L (v.toList ++ S))) : AtW p l e R s m args below meth c n0 Q h cells slots (mkF m pc L S') := by
  subst hq hc1 hs1
  intro T locs k n' X hk hn' eT N
  obtain ⟨v, _, ⟨T', L', k', n''⟩, -, X', ⟨Lc, hQ, hl', hc', hs'⟩, st⟩ := X.specialBack C.1 (y := y) hnm C.2.2.2.2.1 (mvT C.2.2.2.1 w1) (mvT C.2.2.2.1 w2) (mvT C.2.2.2.1 wc) hy (backOf (W := W) (Q := fun v h L => Fr n0 L ∧ Qy v h) ct C.2.2.2.1 wc wz hf hlo) (g := mkF m pc L S') rfl (hL.trans C.2.2.1.symm) (Steps.refl _) (a := a) (argsL := argsL) (rest := S) hlen hS (by show 2 * 0 + _ ≤ _; omega) (hb C.2.1 hd) (fun _ _ => ⟨rfl, eT, (by show k + _ ≤ _; omega), (by show n' + _ ≤ _; omega)⟩)
  dsimp only [Pt.U, Pt.locs, Pt.cells, Pt.slots] at X' hl' hc' hs' st hQ
  subst hl' hc' hs'
  obtain ⟨t, o, r1, r⟩ := K v T'.heap hQ.2 T' _ _ _ X' (by omega) (by omega) rfl (Fr.app N hQ.1)
  exact ⟨t, o, st.trans r1, r⟩
theorem w_callV (C : Cx p s m meth c Z own bytes maxL ret nm) {y z : MethodName} {Cl : String} {i : Nat} {a : Addr} {argsL : List Value} {bytesY : ByteArray} {maxY : Nat} {retY : Option FieldType} {rm : Room} {Qy : Option Value → Heap → Prop} (E : Exa Z h a Cl) (w1 : (Jvm.Cond.methodLink own i y).before a0 Z = true) (w2 : (Jvm.Cond.declares y).before a0 Z = true) (hnf : NotFace s y) (w3 : (Jvm.Cond.selects Cl y z).before a0 Z = true) (w4 : (Jvm.Cond.instanceMethod z).before a0 Z = true) (wz : (Jvm.Cond.initialized z.cls).before a0 Z = true) (wc : (Jvm.Cond.code z bytesY maxY retY).before a0 Z = true)
    (hy : y.cls ≠ "java/lang/invoke/MethodHandle" ∧ y.cls ≠ "java/lang/invoke/VarHandle") (ct : Ct [] l Z n0 z bytesY maxY retY rm (.ref a :: argsL).toArray h Qy) {S' : List Value} (hS : S' = argsL.reverse ++ .ref a :: S) (hlen : ∀ sig, parseMethodDescriptor y.desc = some sig → argsL.length = sig.parameters.length) (hL : L.size = maxL) (hf : rm.frames + 1 ≤ R.frames) {W : Nat} (hW : (S.map fun v => v.category).sum ≤ W) (hlo : W + (maxY + 11) + rm.locals ≤ R.locals) {cells' slots' : Nat} (hc1 : cells + rm.cells = cells') (hs1 : slots + rm.slots = slots') (hc : cells' ≤ R.cells) (hl : slots' ≤ R.slots)
    (hd : decode bytes pc = .ok (.invokevirtual i, 3)) (hq : pc + 3 = q) (K : ∀ v h', Qy v h' → AtW p l e R s m args below meth c n0 Q h' cells' slots' (mkF m q L (v.toList ++ S))) : AtW p l e R s m args below meth c n0 Q h cells slots (mkF m pc L S') := by
  subst hq hc1 hs1
  intro T locs k n' X hk hn' eT N
  obtain ⟨cB, kB, q1, q2, q3⟩ := isOf C.2.2.2.1 eT E
  obtain ⟨v, _, ⟨T', L', k', n''⟩, -, X', ⟨Lc, hQ, hl', hc', hs'⟩, st⟩ := X.virtualBack C.1 (y := y) (z := z) C.2.2.2.2.1 (mvT C.2.2.2.1 w1) (mvT C.2.2.2.1 w2) hnf (mvT C.2.2.2.1 w3) (mvT C.2.2.2.1 w4) hy (backOf (W := W) (Q := fun v h L => Fr n0 L ∧ Qy v h) ct C.2.2.2.1 wc wz hf hlo) q1 q3 (g := mkF m pc L S') rfl (hL.trans C.2.2.1.symm) (Steps.refl _) (argsL := argsL) (rest := S) hlen hS (by show 2 * 0 + _ ≤ _; omega) (hb C.2.1 hd) (fun _ _ => ⟨rfl, eT, (by show k + _ ≤ _; omega), (by show n' + _ ≤ _; omega)⟩)
  dsimp only [Pt.U, Pt.locs, Pt.cells, Pt.slots] at X' hl' hc' hs' st hQ
  subst hl' hc' hs'
  obtain ⟨t, o, r1, r⟩ := K v T'.heap hQ.2 T' _ _ _ X' (by omega) (by omega) rfl (Fr.app N hQ.1)
  exact ⟨t, o, st.trans r1, r⟩
theorem w_nf (C : Cx p s m meth c Z own bytes maxL ret nm) {y : MethodName} {Cl : String} (w3 : (Jvm.Cond.selects Cl y y).before a0 Z = true) : NotFace s y := notFace_of_selects (args := #[]) (mvT C.2.2.2.1 w3)
theorem w_callP (C : Cx p s m meth c Z own bytes maxL ret nm) {y : MethodName} {Cl : String} {i : Nat} {a : Addr} {argsL : List Value} {bytesY : ByteArray} {maxY : Nat} {retY : Option FieldType} {rm : Room} {Qy : Option Value → Heap → Prop} (E : Exa Z h a Cl) (w1 : (Jvm.Cond.methodLink own i y).before a0 Z = true) (w4 : (Jvm.Cond.instanceMethod y).before a0 Z = true) (hni : NI s y.cls) (w5 : (Jvm.Cond.privateMethod y).before a0 Z = true) (wz : (Jvm.Cond.initialized y.cls).before a0 Z = true) (wc : (Jvm.Cond.code y bytesY maxY retY).before a0 Z = true)
    (hy : y.cls ≠ "java/lang/invoke/MethodHandle" ∧ y.cls ≠ "java/lang/invoke/VarHandle") (ct : Ct [] l Z n0 y bytesY maxY retY rm (.ref a :: argsL).toArray h Qy) {S' : List Value} (hS : S' = argsL.reverse ++ .ref a :: S) (hlen : ∀ sig, parseMethodDescriptor y.desc = some sig → argsL.length = sig.parameters.length) (hL : L.size = maxL) (hf : rm.frames + 1 ≤ R.frames) {W : Nat} (hW : (S.map fun v => v.category).sum ≤ W) (hlo : W + (maxY + 11) + rm.locals ≤ R.locals) {cells' slots' : Nat} (hc1 : cells + rm.cells = cells') (hs1 : slots + rm.slots = slots') (hc : cells' ≤ R.cells) (hl : slots' ≤ R.slots)
    (hd : decode bytes pc = .ok (.invokevirtual i, 3)) (hq : pc + 3 = q) (K : ∀ v h', Qy v h' → AtW p l e R s m args below meth c n0 Q h' cells' slots' (mkF m q L (v.toList ++ S))) : AtW p l e R s m args below meth c n0 Q h cells slots (mkF m pc L S') := by
  subst hq hc1 hs1
  intro T locs k n' X hk hn' eT N
  obtain ⟨cq, q1, q2⟩ := E.cell
  obtain ⟨cN, kN, n1, n2, n3⟩ := hni
  have hpv := Cond.privateMethod_at (mvP C.2.2.2.1 w5 (args := #[]))
  obtain ⟨v, _, ⟨T', L', k', n''⟩, -, X', ⟨Lc, hQ, hl', hc', hs'⟩, st⟩ := X.privateBack C.1 (y := y) C.2.2.2.2.1 (mvT C.2.2.2.1 w1) (mvT C.2.2.2.1 w4) (selects_self_of_private n1 n2 n3 hpv (mvT C.2.2.2.1 w4) hy) hpv (mvT C.2.2.2.1 wc) hy (backOf (W := W) (Q := fun v h L => Fr n0 L ∧ Qy v h) ct C.2.2.2.1 wc wz hf hlo) (g := mkF m pc L S') rfl (hL.trans C.2.2.1.symm) (Steps.refl _) (a := a) (by rw [eT]; exact q1) q2 (argsL := argsL) (rest := S) hlen hS (by show 2 * 0 + _ ≤ _; omega) (hb C.2.1 hd) (fun _ _ => ⟨rfl, eT, (by show k + _ ≤ _; omega), (by show n' + _ ≤ _; omega)⟩)
  dsimp only [Pt.U, Pt.locs, Pt.cells, Pt.slots] at X' hl' hc' hs' st hQ
  subst hl' hc' hs'
  obtain ⟨t, o, r1, r⟩ := K v T'.heap hQ.2 T' _ _ _ X' (by omega) (by omega) rfl (Fr.app N hQ.1)
  exact ⟨t, o, st.trans r1, r⟩
theorem w_callB (C : Cx p s m meth c Z own bytes maxL ret nm) {y : MethodName} {i : Nat} {a : Addr} {argsL : List Value} {bytesY : ByteArray} {maxY : Nat} {W : Nat} {dc ds : Nat} {P : Pt → Array Value → Prop} {Qy : Option Value → Heap → List Loc → Prop} (hnm : y.name = "<init>") (w1 : (Jvm.Cond.methodLink own i y).before a0 Z = true) (w2 : (Jvm.Cond.instanceMethod y).before a0 Z = true) (wc : (Jvm.Cond.code y bytesY maxY none).before a0 Z = true)
    (hy : y.cls ≠ "java/lang/invoke/MethodHandle" ∧ y.cls ≠ "java/lang/invoke/VarHandle") (bk : Back l R p e below s args y 3 W (fun A a' => a' = (Value.ref a :: argsL).toArray ∧ A.U.heap = h ∧ A.cells + dc ≤ R.cells ∧ A.slots + ds ≤ R.slots) (fun A _ v B => ∃ L, Qy v B.U.heap L ∧ B.locs = A.locs ++ L ∧ B.cells = A.cells + dc ∧ B.slots = A.slots + ds))
    {S' : List Value} (hS : S' = argsL.reverse ++ .ref a :: S) (hlen : ∀ sig, parseMethodDescriptor y.desc = some sig → argsL.length = sig.parameters.length) (hL : L.size = maxL) (hW : (S.map fun v => v.category).sum ≤ W) {cells' slots' : Nat} (hc1 : cells + dc = cells') (hs1 : slots + ds = slots') (hc : cells' ≤ R.cells) (hl : slots' ≤ R.slots)
    (hd : decode bytes pc = .ok (.invokespecial i, 3)) (hq : pc + 3 = q) (K : ∀ v h' Lc, Qy v h' Lc → Fr n0 Lc ∧ AtW p l e R s m args below meth c n0 Q h' cells' slots' (mkF m q L (v.toList ++ S))) : AtW p l e R s m args below meth c n0 Q h cells slots (mkF m pc L S') := by
  subst hq hc1 hs1
  intro T locs k n' X hk hn' eT N
  obtain ⟨v, _, ⟨T', L', k', n''⟩, -, X', ⟨Lc, hQ, hl', hc', hs'⟩, st⟩ := X.specialBack C.1 (y := y) hnm C.2.2.2.2.1 (mvT C.2.2.2.1 w1) (mvT C.2.2.2.1 w2) (mvT C.2.2.2.1 wc) hy bk (g := mkF m pc L S') rfl (hL.trans C.2.2.1.symm) (Steps.refl _) (a := a) (argsL := argsL) (rest := S) hlen hS (by show 2 * 0 + _ ≤ _; omega) (hb C.2.1 hd) (fun _ _ => ⟨rfl, eT, (by show k + _ ≤ _; omega), (by show n' + _ ≤ _; omega)⟩)
  dsimp only [Pt.U, Pt.locs, Pt.cells, Pt.slots] at X' hl' hc' hs' st hQ
  subst hl' hc' hs'
  obtain ⟨N2, K2⟩ := K v T'.heap Lc hQ
  obtain ⟨t, o, r1, r⟩ := K2 T' _ _ _ X' (by omega) (by omega) rfl (Fr.app N N2)
  exact ⟨t, o, st.trans r1, r⟩

end Wk
-- CUT
theorem own_lt {x y : Int32} : x < y ↔ x.toInt < y.toInt := Int32.lt_iff_toInt_lt
theorem own_eq {x y : Int32} : x = y ↔ x.toInt = y.toInt := Int32.toInt_inj.symm
theorem own_nat {n : Nat} (h : n < 2 ^ 31) : (Int32.ofNat n).toInt = n := Int32.toInt_ofNat_small h
theorem own_nlt {i n : Nat} (hi : i < 2 ^ 31) (hn : n < 2 ^ 31) : Int32.ofNat i < Int32.ofNat n ↔ i < n := by rw [own_lt, own_nat hi, own_nat hn]; omega
theorem own_neq {i n : Nat} (hi : i < 2 ^ 31) (hn : n < 2 ^ 31) : Int32.ofNat i = Int32.ofNat n ↔ i = n := by rw [own_eq, own_nat hi, own_nat hn]; omega
theorem own_one (i : Nat) : Int32.ofNat i + (1 : Int32) = Int32.ofNat (i + 1) := (Int32.ofNat_add i 1).symm
theorem own_shr0 (x : Int32) : x >>> ((0 : Int32) &&& 31) = x := by
  rw [own_eq, c_ishr x 0 0 (by decide)]; simp
theorem own_b8 {P : Int32 → Prop} (h : ∀ k : Fin 256, P (Int32.ofNat k.val)) {x : Int32} (h0 : ¬ x < 0) (h1 : ¬ 255 < x) : P x := by
  rw [own_lt] at h0 h1
  have e0 : (0 : Int32).toInt = 0 := rfl
  have e1 : (255 : Int32).toInt = 255 := rfl
  obtain ⟨k, hk⟩ : ∃ k : Nat, x.toInt = k := ⟨x.toInt.toNat, by omega⟩
  have hx : x = Int32.ofNat k := own_eq.mpr (by rw [hk, own_nat (by omega)])
  rw [hx]
  exact h ⟨k, by omega⟩
theorem own_lo8 {x : Int32} (h0 : ¬ x < 0) (h1 : ¬ 255 < x) : (x.toInt8.toInt32 &&& 255).toUInt32.toUInt16.toUInt32.toInt32 = x := own_b8 (P := fun x => (x.toInt8.toInt32 &&& 255).toUInt32.toUInt16.toUInt32.toInt32 = x) (by decide +kernel) h0 h1
theorem own_nar {x : Int32} (h0 : ¬ x < 0) (h1 : ¬ 255 < x) : nar .char x = x := own_b8 (P := fun x => nar .char x = x) (by decide +kernel) h0 h1
theorem own_nar8 (x : Int32) : nar .byte x.toInt8.toInt32 = x.toInt8.toInt32 := by show x.toInt8.toInt32.toInt8.toInt32 = x.toInt8.toInt32; simp
/-- chars as a Latin-1 String's bytes -/
def own_bs (cs : List Int32) : List Value := cs.map fun c => .int c.toInt8.toInt32
theorem own_bs_len (cs : List Int32) : (own_bs cs).length = cs.length := by simp [own_bs]
theorem own_bs_get {cs : List Int32} {i : Nat} {c : Int32} (h : cs[i]? = some c) : (own_bs cs)[i]? = some (.int c.toInt8.toInt32) := by simp [own_bs, h]
/-- each is a Latin-1 char -/
def L1 (cs : List Int32) : Prop := ∀ c ∈ cs, ¬ c < 0 ∧ ¬ 255 < c
theorem L1.get {cs : List Int32} (h : L1 cs) {i : Nat} {c : Int32} (q : cs[i]? = some c) : ¬ c < 0 ∧ ¬ 255 < c := h c (List.mem_of_getElem? q)
/-- a String of Latin-1 chars -/
def Str (Z : State) (h : Heap) (a : Addr) (cs : List Int32) : Prop := Exa Z h a "java/lang/String" ∧ L1 cs ∧ ∃ t, Fld Z h a "java/lang/String" "coder" "B" (.int 0) ∧ Fld Z h a "java/lang/String" "value" "[B" (.ref t) ∧ Ar Z h t .byte (own_bs cs)
section K0
variable {Z : State} {h h' : Heap} {a : Addr} {n0 : Nat}
theorem Str_k0 {cs : List Int32} (F : Str Z h a cs) (K : Keep h h' []) : Str Z h' a cs := by
  obtain ⟨E, L, t, f1, f2, A⟩ := F
  exact ⟨E.keep K, L, t, f1.keep K nin0, f2.keep K nin0, A.keep K nin0⟩
theorem Ar_k0 {ty : FieldType} {vs : List Value} (F : Ar Z h a ty vs) (K : Keep h h' []) : Ar Z h' a ty vs := F.keep K nin0
theorem Fld_k0 {C n d : String} {v : Value} (F : Fld Z h a C n d v) (K : Keep h h' []) : Fld Z h' a C n d v := F.keep K nin0
theorem Exa_k0 {C : String} (F : Exa Z h a C) (K : Keep h h' []) : Exa Z h' a C := F.keep K
theorem Old_k0 (O : Old Z n0 h) (K : Keep h h' []) : Old Z n0 h' := O.keep K all0
theorem Old_le (O : Old Z n0 h) : n0 ≤ h.size := by rw [← O.1]; exact O.2.1
theorem Str.lt {cs : List Int32} (F : Str Z h a cs) : a < h.size := F.1.lt
theorem Str.len {cs : List Int32} (F : Str Z h a cs) : cs.length < 2 ^ 31 := by
  obtain ⟨-, -, t, -, -, A⟩ := F
  have := A.1; rw [own_bs_len] at this; exact this
end K0
theorem own_L1c {c : Int32} {cs : List Int32} (h : ¬ c < 0 ∧ ¬ 255 < c) (r : L1 cs) : L1 (c :: cs) := fun x hx => by
  rcases List.mem_cons.mp hx with rfl | hx
  · exact h
  · exact r x hx
theorem own_255 (x : Int32) : ¬ (x &&& 255) < 0 ∧ ¬ 255 < (x &&& 255) := by
  have h := c_mask x 255 8 (by decide) (by decide)
  rw [own_lt, own_lt, h]
  constructor <;> (have e0 : (0 : Int32).toInt = 0 := rfl; have e1 : (255 : Int32).toInt = 255 := rfl; omega)
theorem own_i2c {x : Int32} (h : ¬ x < 0 ∧ ¬ 255 < x) : x.toUInt32.toUInt16.toUInt32.toInt32 = x := own_nar h.1 h.2
theorem own_maskN (x m : Int32) (k : Nat) (hk : k ≤ 30) (hm : m.toBitVec.toNat = 2 ^ k - 1) : ∃ j : Nat, j < 2 ^ k ∧ x &&& m = Int32.ofNat j := by
  have h := c_mask x m k (by omega) hm
  have hp : (2 ^ k : Nat) ≤ 2 ^ 30 := Nat.pow_le_pow_right (by decide) hk
  have h0 : (0 : Int) < ((2 ^ k : Nat) : Int) := by have := Nat.two_pow_pos k; omega
  have h1 : 0 ≤ x.toInt % ((2 ^ k : Nat) : Int) := Int.emod_nonneg _ (by omega)
  have h2 : x.toInt % ((2 ^ k : Nat) : Int) < ((2 ^ k : Nat) : Int) := Int.emod_lt_of_pos _ h0
  refine ⟨(x &&& m).toInt.toNat, by rw [h]; omega, ?_⟩
  rw [own_eq, own_nat (by rw [h]; omega), h]
  omega
theorem own_and3 (x : Int32) : x &&& 3 = 0 ∨ x &&& 3 = 1 ∨ x &&& 3 = 2 ∨ x &&& 3 = 3 := by
  have h := c_mask x 3 2 (by decide) (by decide)
  have h2 : 0 ≤ (x &&& 3).toInt ∧ (x &&& 3).toInt < 4 := by rw [h]; constructor <;> omega
  simp only [own_eq]
  show _ = 0 ∨ _ = 1 ∨ _ = 2 ∨ _ = 3
  omega

-- CUT
/-! ## the same for walks that may load String constants -/
/-- from every state that stands (over the tables vm0 so far) at heap h with frame g; mk: every booked constant lies below it; sf: addresses that no booked constant has -/
def AtS (p : Program) (l : Launch) (e : Env) (R : Room) (s : State) (m : MethodId) (args : Array Value) (below : List Frame) (meth : Method) (c : Code) (Z : State) (EL : List (String × Nat)) (own : String) (n0 : Nat) (Q : Option Value → Heap → Prop) (mk : Nat) (sf : List Addr) (h : Heap) (cells slots : Nat) (g : JFrame) : Prop :=
  ∀ (T : State) (locs : List Loc) (k n : Nat) (vm0 : Vm) (k0 : Nat), Stand p l e R (s.setVm vm0) m args below meth c T locs k n → k ≤ cells → n ≤ slots → T.heap = h → Fr n0 locs →
    Z.Warmed39 vm0 → vm0.findClass own = some m.cls → s.Since vm0 k0 → k0 ≤ h.size → CHr Z EL s.vm s.heap vm0 h → (∀ y, Bk Z EL vm0 h y → y < mk) → (∀ x ∈ sf, x < h.size ∧ Safe Z EL vm0 h x) →
    ∃ t o, Steps p.tables e below (T.setTop g) t ∧ t.status = .running ∧ Ended t below o ∧ ∃ v L, o = .returned v ∧ (Fr n0 L ∧ Q v t.heap) ∧ CHr Z EL s.vm s.heap t.vm t.heap ∧ ReturnedEndW s o t L R.cells R.slots
def Cs (ws : List Jvm.Cond) (l : Launch) (Z : State) (EL : List (String × Nat)) (n0 : Nat) (y : MethodName) (bytes : ByteArray) (maxL : Nat) (ret : Option FieldType) (rm : Room) (as : Array Value) (h0 : Heap) (Q : Option Value → Heap → Prop) : Prop :=
  MetFree l y (head1 (Jvm.Cond.code y bytes maxL ret :: ws) rm) (fun a U => a = as ∧ Z.Warmed39 U.vm ∧ U.heap = h0 ∧ CHv Z EL U.vm h0) (fun _ _ _ _ _ => True)
    (fun _ U o U' => ∃ v L, o = .returned v ∧ (Fr n0 L ∧ Q v U'.heap) ∧ CHr Z EL U.vm U.heap U'.vm U'.heap ∧ ReturnedEndW U o U' L rm.cells rm.slots)
section WkS
variable {p : Program} {l : Launch} {e : Env} {R : Room} {s : State} {m : MethodId} {args : Array Value} {below : List Frame} {meth : Method} {c : Code} {n0 : Nat} {Q : Option Value → Heap → Prop} {h : Heap} {cells slots : Nat} {Z : State} {own : String} {bytes : ByteArray} {maxL : Nat} {ret : Option FieldType} {nm : String} {a0 : Array Value} {pc q : Nat} {L L' : Array Slot} {S : List Value} {EL : List (String × Nat)} {mk : Nat} {sf : List Addr}
theorem bk_lt {vm : Vm} {y : Addr} (B : Bk Z EL vm h y) : y < h.size := by
  obtain ⟨cell, hc⟩ := B.there
  exact (Array.getElem?_eq_some_iff.mp hc).1
theorem Cs.intro {ws : List Jvm.Cond} {y : MethodName} {rm : Room} {as : Array Value} (hp : plainFor y = true)
    (k : ∀ p e s m below meth c, Cx p s m meth c Z y.cls bytes maxL ret y.name → AtS p l e rm s m as below meth c Z EL y.cls n0 Q h.size [] h 0 0 (entryFrame m as maxL)) : Cs ws l Z EL n0 y bytes maxL ret rm as h Q := by
  refine MetFree.of_bodySF hp hisR ?_
  intro p e s m args below meth c s₁ Bd hml0 hP hK
  obtain ⟨rfl, hZ, hh, hC⟩ := hP
  have X0 := Stand.of_body Bd
  have hown := findClass_of_methodNamed Bd.named
  refine k p e s m below meth c ⟨Bd.exec, Bd.bytes, hml0, hZ, hown, Bd.returns, Bd.notSynchronized, (name_of_methodNamed Bd.named Bd.method).1⟩ s₁ [] 0 0 s.vm s.heap.size X0 (Nat.le_refl _) (Nat.le_refl _) ?_ (Fr.nil n0) hZ hown ?_ ?_ ?_ ?_ ?_
  · rw [← hh, Bd.state]; rfl
  · exact ⟨State.Warmed39.refl s, fun j q hj hq => absurd (Array.getElem?_eq_some_iff.mp hq).1 (Nat.not_lt.mpr hj)⟩
  · rw [hh]; exact Nat.le_refl _
  · subst hh; exact CHr.refl hC
  · intro y hy; exact bk_lt hy
  · intro x hx; exact absurd hx (List.not_mem_nil)
theorem AtS.mono {g : JFrame} {cells' slots' : Nat} (K : AtS p l e R s m args below meth c Z EL own n0 Q mk sf h cells' slots' g) (h1 : cells ≤ cells') (h2 : slots ≤ slots') : AtS p l e R s m args below meth c Z EL own n0 Q mk sf h cells slots g :=
  fun T locs k n vm0 k0 X hk hn => K T locs k n vm0 k0 X (Nat.le_trans hk h1) (Nat.le_trans hn h2)
theorem AtS.weak {g : JFrame} {mk' : Nat} {sf' : List Addr} (K : AtS p l e R s m args below meth c Z EL own n0 Q mk' sf' h cells slots g) (h1 : mk ≤ mk') (h2 : ∀ x ∈ sf', x ∈ sf) : AtS p l e R s m args below meth c Z EL own n0 Q mk sf h cells slots g :=
  fun T locs k n vm0 k0 X hk hn eT N hZ hown hS hk0 hC hB hF => K T locs k n vm0 k0 X hk hn eT N hZ hown hS hk0 hC (fun y hy => Nat.lt_of_lt_of_le (hB y hy) h1) (fun x hx => hF x (h2 x hx))
/-- every booked constant lies below the heap's size -/
theorem AtS.mark {g : JFrame} (K : AtS p l e R s m args below meth c Z EL own n0 Q h.size sf h cells slots g) : AtS p l e R s m args below meth c Z EL own n0 Q mk sf h cells slots g :=
  fun T locs k n vm0 k0 X hk hn eT N hZ hown hS hk0 hC hB hF => K T locs k n vm0 k0 X hk hn eT N hZ hown hS hk0 hC (fun y hy => bk_lt hy) hF
theorem AtS.add {g : JFrame} {x : Addr} (h1 : mk ≤ x) (h2 : x < h.size) (K : AtS p l e R s m args below meth c Z EL own n0 Q mk (x :: sf) h cells slots g) : AtS p l e R s m args below meth c Z EL own n0 Q mk sf h cells slots g :=
  fun T locs k n vm0 k0 X hk hn eT N hZ hown hS hk0 hC hB hF => K T locs k n vm0 k0 X hk hn eT N hZ hown hS hk0 hC hB (fun y hy => by
    rcases List.mem_cons.mp hy with rfl | hy
    · exact ⟨h2, fun b => Nat.not_lt.mpr h1 (hB _ b)⟩
    · exact hF y hy)
theorem AtS.go {g g' : JFrame} (K : AtS p l e R s m args below meth c Z EL own n0 Q mk sf h cells slots g') (st : ∀ T, At T m c below → ∀ t, Steps p.tables e below (T.setTop g') t → Steps p.tables e below (T.setTop g) t) : AtS p l e R s m args below meth c Z EL own n0 Q mk sf h cells slots g :=
  fun T locs k n vm0 k0 X hk hn eT N hZ hown hS hk0 hC hB hF => by
    obtain ⟨t, o, r1, r⟩ := K T locs k n vm0 k0 X hk hn eT N hZ hown hS hk0 hC hB hF
    exact ⟨t, o, st T X.here t r1, r⟩
theorem AtS.goX {g g' : JFrame} (K : AtS p l e R s m args below meth c Z EL own n0 Q mk sf h cells slots g') (st : ∀ T locs k n vm0, Stand p l e R (s.setVm vm0) m args below meth c T locs k n → T.heap = h → Z.Warmed39 vm0 → vm0.findClass own = some m.cls → ∀ t, Steps p.tables e below (T.setTop g') t → Steps p.tables e below (T.setTop g) t) : AtS p l e R s m args below meth c Z EL own n0 Q mk sf h cells slots g :=
  fun T locs k n vm0 k0 X hk hn eT N hZ hown hS hk0 hC hB hF => by
    obtain ⟨t, o, r1, r⟩ := K T locs k n vm0 k0 X hk hn eT N hZ hown hS hk0 hC hB hF
    exact ⟨t, o, st T locs k n vm0 X eT hZ hown t r1, r⟩
theorem AtS.cast {g g' : JFrame} (K : AtS p l e R s m args below meth c Z EL own n0 Q mk sf h cells slots g') (q : g = g') : AtS p l e R s m args below meth c Z EL own n0 Q mk sf h cells slots g := by rw [q]; exact K

theorem s_iload (C : Cx p s m meth c Z own bytes maxL ret nm) {k : Nat} {v : Int32} (hl : L[k]? = some (.val (.int v))) (hd : decode bytes pc = .ok (.iload k, 2)) (hq : pc + 2 = q) (K : AtS p l e R s m args below meth c Z EL own n0 Q mk sf h cells slots (mkF m q L (.int v :: S))) : AtS p l e R s m args below meth c Z EL own n0 Q mk sf h cells slots (mkF m pc L S) := by
  subst hq
  exact K.go fun T hA t st => XS.iload hA C.1 rfl (hb C.2.1 hd) hl st
theorem s_iloadN (C : Cx p s m meth c Z own bytes maxL ret nm) {k : Fin 4} {v : Int32} (hl : L[k.val]? = some (.val (.int v))) (hd : decode bytes pc = .ok (.iload_n k, 1)) (hq : pc + 1 = q) (K : AtS p l e R s m args below meth c Z EL own n0 Q mk sf h cells slots (mkF m q L (.int v :: S))) : AtS p l e R s m args below meth c Z EL own n0 Q mk sf h cells slots (mkF m pc L S) := by
  subst hq
  exact K.go fun T hA t st => XS.iloadN hA C.1 rfl (hb C.2.1 hd) hl st
theorem s_istore (C : Cx p s m meth c Z own bytes maxL ret nm) {k : Nat} {v : Int32} (hl : storeLocals L k (.int v) = some L') (hd : decode bytes pc = .ok (.istore k, 2)) (hq : pc + 2 = q) (K : AtS p l e R s m args below meth c Z EL own n0 Q mk sf h cells slots (mkF m q L' S)) : AtS p l e R s m args below meth c Z EL own n0 Q mk sf h cells slots (mkF m pc L (.int v :: S)) := by
  subst hq
  exact K.go fun T hA t st => XS.istore hA C.1 rfl (hb C.2.1 hd) rfl hl st
theorem s_istoreN (C : Cx p s m meth c Z own bytes maxL ret nm) {k : Fin 4} {v : Int32} (hl : storeLocals L k.val (.int v) = some L') (hd : decode bytes pc = .ok (.istore_n k, 1)) (hq : pc + 1 = q) (K : AtS p l e R s m args below meth c Z EL own n0 Q mk sf h cells slots (mkF m q L' S)) : AtS p l e R s m args below meth c Z EL own n0 Q mk sf h cells slots (mkF m pc L (.int v :: S)) := by
  subst hq
  exact K.go fun T hA t st => XS.istoreN hA C.1 rfl (hb C.2.1 hd) rfl hl st
theorem s_lload (C : Cx p s m meth c Z own bytes maxL ret nm) {k : Nat} {v : Int64} (hl : L[k]? = some (.val (.long v))) (hd : decode bytes pc = .ok (.lload k, 2)) (hq : pc + 2 = q) (K : AtS p l e R s m args below meth c Z EL own n0 Q mk sf h cells slots (mkF m q L (.long v :: S))) : AtS p l e R s m args below meth c Z EL own n0 Q mk sf h cells slots (mkF m pc L S) := by
  subst hq
  exact K.go fun T hA t st => XS.lload hA C.1 rfl (hb C.2.1 hd) hl st
theorem s_lloadN (C : Cx p s m meth c Z own bytes maxL ret nm) {k : Fin 4} {v : Int64} (hl : L[k.val]? = some (.val (.long v))) (hd : decode bytes pc = .ok (.lload_n k, 1)) (hq : pc + 1 = q) (K : AtS p l e R s m args below meth c Z EL own n0 Q mk sf h cells slots (mkF m q L (.long v :: S))) : AtS p l e R s m args below meth c Z EL own n0 Q mk sf h cells slots (mkF m pc L S) := by
  subst hq
  exact K.go fun T hA t st => XS.lloadN hA C.1 rfl (hb C.2.1 hd) hl st
theorem s_lstore (C : Cx p s m meth c Z own bytes maxL ret nm) {k : Nat} {v : Int64} (hl : storeLocals L k (.long v) = some L') (hd : decode bytes pc = .ok (.lstore k, 2)) (hq : pc + 2 = q) (K : AtS p l e R s m args below meth c Z EL own n0 Q mk sf h cells slots (mkF m q L' S)) : AtS p l e R s m args below meth c Z EL own n0 Q mk sf h cells slots (mkF m pc L (.long v :: S)) := by
  subst hq
  exact K.go fun T hA t st => XS.lstore hA C.1 rfl (hb C.2.1 hd) rfl hl st
theorem s_lstoreN (C : Cx p s m meth c Z own bytes maxL ret nm) {k : Fin 4} {v : Int64} (hl : storeLocals L k.val (.long v) = some L') (hd : decode bytes pc = .ok (.lstore_n k, 1)) (hq : pc + 1 = q) (K : AtS p l e R s m args below meth c Z EL own n0 Q mk sf h cells slots (mkF m q L' S)) : AtS p l e R s m args below meth c Z EL own n0 Q mk sf h cells slots (mkF m pc L (.long v :: S)) := by
  subst hq
  exact K.go fun T hA t st => XS.lstoreN hA C.1 rfl (hb C.2.1 hd) rfl hl st
theorem s_aload (C : Cx p s m meth c Z own bytes maxL ret nm) {k : Nat} {v : Value} (hl : L[k]? = some (.val v)) (hv : v.isRef = true) (hd : decode bytes pc = .ok (.aload k, 2)) (hq : pc + 2 = q) (K : AtS p l e R s m args below meth c Z EL own n0 Q mk sf h cells slots (mkF m q L (v :: S))) : AtS p l e R s m args below meth c Z EL own n0 Q mk sf h cells slots (mkF m pc L S) := by
  subst hq
  exact K.go fun T hA t st => XS.aload hA C.1 rfl (hb C.2.1 hd) hl hv st
theorem s_aloadN (C : Cx p s m meth c Z own bytes maxL ret nm) {k : Fin 4} {v : Value} (hl : L[k.val]? = some (.val v)) (hv : v.isRef = true) (hd : decode bytes pc = .ok (.aload_n k, 1)) (hq : pc + 1 = q) (K : AtS p l e R s m args below meth c Z EL own n0 Q mk sf h cells slots (mkF m q L (v :: S))) : AtS p l e R s m args below meth c Z EL own n0 Q mk sf h cells slots (mkF m pc L S) := by
  subst hq
  exact K.go fun T hA t st => XS.aloadN hA C.1 rfl (hb C.2.1 hd) hl hv st
theorem s_astore (C : Cx p s m meth c Z own bytes maxL ret nm) {k : Nat} {v : Value} (hv : v.isRef = true) (hl : storeLocals L k v = some L') (hd : decode bytes pc = .ok (.astore k, 2)) (hq : pc + 2 = q) (K : AtS p l e R s m args below meth c Z EL own n0 Q mk sf h cells slots (mkF m q L' S)) : AtS p l e R s m args below meth c Z EL own n0 Q mk sf h cells slots (mkF m pc L (v :: S)) := by
  subst hq
  exact K.go fun T hA t st => XS.astore hA C.1 rfl (hb C.2.1 hd) rfl hv hl st
theorem s_astoreN (C : Cx p s m meth c Z own bytes maxL ret nm) {k : Fin 4} {v : Value} (hv : v.isRef = true) (hl : storeLocals L k.val v = some L') (hd : decode bytes pc = .ok (.astore_n k, 1)) (hq : pc + 1 = q) (K : AtS p l e R s m args below meth c Z EL own n0 Q mk sf h cells slots (mkF m q L' S)) : AtS p l e R s m args below meth c Z EL own n0 Q mk sf h cells slots (mkF m pc L (v :: S)) := by
  subst hq
  exact K.go fun T hA t st => XS.astoreN hA C.1 rfl (hb C.2.1 hd) rfl hv hl st
theorem s_iconst (C : Cx p s m meth c Z own bytes maxL ret nm) {i : Int} {v : Int32} (hv : Int32.ofInt i = v) (hd : decode bytes pc = .ok (.iconst i, 1)) (hq : pc + 1 = q) (K : AtS p l e R s m args below meth c Z EL own n0 Q mk sf h cells slots (mkF m q L (.int v :: S))) : AtS p l e R s m args below meth c Z EL own n0 Q mk sf h cells slots (mkF m pc L S) := by
  subst hq
  exact K.go fun T hA t st => by subst hv; exact XS.iconst hA C.1 rfl (hb C.2.1 hd) st
theorem s_bipush (C : Cx p s m meth c Z own bytes maxL ret nm) {i : Int} {v : Int32} (hv : (Int8.ofInt i).toInt32 = v) (hd : decode bytes pc = .ok (.bipush i, 2)) (hq : pc + 2 = q) (K : AtS p l e R s m args below meth c Z EL own n0 Q mk sf h cells slots (mkF m q L (.int v :: S))) : AtS p l e R s m args below meth c Z EL own n0 Q mk sf h cells slots (mkF m pc L S) := by
  subst hq
  exact K.go fun T hA t st => by subst hv; exact XS.bipush hA C.1 rfl (hb C.2.1 hd) st
theorem s_sipush (C : Cx p s m meth c Z own bytes maxL ret nm) {i : Int} {v : Int32} (hv : (Int16.ofInt i).toInt32 = v) (hd : decode bytes pc = .ok (.sipush i, 3)) (hq : pc + 3 = q) (K : AtS p l e R s m args below meth c Z EL own n0 Q mk sf h cells slots (mkF m q L (.int v :: S))) : AtS p l e R s m args below meth c Z EL own n0 Q mk sf h cells slots (mkF m pc L S) := by
  subst hq
  exact K.go fun T hA t st => by subst hv; exact XS.sipush hA C.1 rfl (hb C.2.1 hd) st
theorem s_lconst (C : Cx p s m meth c Z own bytes maxL ret nm) {k : Fin 2} {v : Int64} (hv : Int64.ofNat k = v) (hd : decode bytes pc = .ok (.lconst k, 1)) (hq : pc + 1 = q) (K : AtS p l e R s m args below meth c Z EL own n0 Q mk sf h cells slots (mkF m q L (.long v :: S))) : AtS p l e R s m args below meth c Z EL own n0 Q mk sf h cells slots (mkF m pc L S) := by
  subst hq
  exact K.go fun T hA t st => by subst hv; exact XS.lconst hA C.1 rfl (hb C.2.1 hd) st
theorem s_aconst_null (C : Cx p s m meth c Z own bytes maxL ret nm)  (hd : decode bytes pc = .ok (.aconst_null, 1)) (hq : pc + 1 = q) (K : AtS p l e R s m args below meth c Z EL own n0 Q mk sf h cells slots (mkF m q L (.null :: S))) : AtS p l e R s m args below meth c Z EL own n0 Q mk sf h cells slots (mkF m pc L S) := by
  subst hq
  exact K.go fun T hA t st => XS.aconstNull hA C.1 rfl (hb C.2.1 hd) st
theorem s_iadd (C : Cx p s m meth c Z own bytes maxL ret nm) {x y z : Int32} (hz : x + y = z) (hd : decode bytes pc = .ok (.iadd, 1)) (hq : pc + 1 = q) (K : AtS p l e R s m args below meth c Z EL own n0 Q mk sf h cells slots (mkF m q L (.int z :: S))) : AtS p l e R s m args below meth c Z EL own n0 Q mk sf h cells slots (mkF m pc L (.int y :: .int x :: S)) := by
  subst hq
  exact K.go fun T hA t st => by subst hz; exact XS.iadd hA C.1 rfl (hb C.2.1 hd) rfl st
theorem s_isub (C : Cx p s m meth c Z own bytes maxL ret nm) {x y z : Int32} (hz : x - y = z) (hd : decode bytes pc = .ok (.isub, 1)) (hq : pc + 1 = q) (K : AtS p l e R s m args below meth c Z EL own n0 Q mk sf h cells slots (mkF m q L (.int z :: S))) : AtS p l e R s m args below meth c Z EL own n0 Q mk sf h cells slots (mkF m pc L (.int y :: .int x :: S)) := by
  subst hq
  exact K.go fun T hA t st => by subst hz; exact XS.isub hA C.1 rfl (hb C.2.1 hd) rfl st
theorem s_imul (C : Cx p s m meth c Z own bytes maxL ret nm) {x y z : Int32} (hz : x * y = z) (hd : decode bytes pc = .ok (.imul, 1)) (hq : pc + 1 = q) (K : AtS p l e R s m args below meth c Z EL own n0 Q mk sf h cells slots (mkF m q L (.int z :: S))) : AtS p l e R s m args below meth c Z EL own n0 Q mk sf h cells slots (mkF m pc L (.int y :: .int x :: S)) := by
  subst hq
  exact K.go fun T hA t st => by subst hz; exact XS.imul hA C.1 rfl (hb C.2.1 hd) rfl st
theorem s_iand (C : Cx p s m meth c Z own bytes maxL ret nm) {x y z : Int32} (hz : x &&& y = z) (hd : decode bytes pc = .ok (.iand, 1)) (hq : pc + 1 = q) (K : AtS p l e R s m args below meth c Z EL own n0 Q mk sf h cells slots (mkF m q L (.int z :: S))) : AtS p l e R s m args below meth c Z EL own n0 Q mk sf h cells slots (mkF m pc L (.int y :: .int x :: S)) := by
  subst hq
  exact K.go fun T hA t st => by subst hz; exact XS.iand hA C.1 rfl (hb C.2.1 hd) rfl st
theorem s_ior (C : Cx p s m meth c Z own bytes maxL ret nm) {x y z : Int32} (hz : x ||| y = z) (hd : decode bytes pc = .ok (.ior, 1)) (hq : pc + 1 = q) (K : AtS p l e R s m args below meth c Z EL own n0 Q mk sf h cells slots (mkF m q L (.int z :: S))) : AtS p l e R s m args below meth c Z EL own n0 Q mk sf h cells slots (mkF m pc L (.int y :: .int x :: S)) := by
  subst hq
  exact K.go fun T hA t st => by subst hz; exact XS.ior hA C.1 rfl (hb C.2.1 hd) rfl st
theorem s_ixor (C : Cx p s m meth c Z own bytes maxL ret nm) {x y z : Int32} (hz : x ^^^ y = z) (hd : decode bytes pc = .ok (.ixor, 1)) (hq : pc + 1 = q) (K : AtS p l e R s m args below meth c Z EL own n0 Q mk sf h cells slots (mkF m q L (.int z :: S))) : AtS p l e R s m args below meth c Z EL own n0 Q mk sf h cells slots (mkF m pc L (.int y :: .int x :: S)) := by
  subst hq
  exact K.go fun T hA t st => by subst hz; exact XS.ixor hA C.1 rfl (hb C.2.1 hd) rfl st
theorem s_ladd (C : Cx p s m meth c Z own bytes maxL ret nm) {x y z : Int64} (hz : x + y = z) (hd : decode bytes pc = .ok (.ladd, 1)) (hq : pc + 1 = q) (K : AtS p l e R s m args below meth c Z EL own n0 Q mk sf h cells slots (mkF m q L (.long z :: S))) : AtS p l e R s m args below meth c Z EL own n0 Q mk sf h cells slots (mkF m pc L (.long y :: .long x :: S)) := by
  subst hq
  exact K.go fun T hA t st => by subst hz; exact XS.ladd hA C.1 rfl (hb C.2.1 hd) rfl st
theorem s_lsub (C : Cx p s m meth c Z own bytes maxL ret nm) {x y z : Int64} (hz : x - y = z) (hd : decode bytes pc = .ok (.lsub, 1)) (hq : pc + 1 = q) (K : AtS p l e R s m args below meth c Z EL own n0 Q mk sf h cells slots (mkF m q L (.long z :: S))) : AtS p l e R s m args below meth c Z EL own n0 Q mk sf h cells slots (mkF m pc L (.long y :: .long x :: S)) := by
  subst hq
  exact K.go fun T hA t st => by subst hz; exact XS.lsub hA C.1 rfl (hb C.2.1 hd) rfl st
theorem s_lmul (C : Cx p s m meth c Z own bytes maxL ret nm) {x y z : Int64} (hz : x * y = z) (hd : decode bytes pc = .ok (.lmul, 1)) (hq : pc + 1 = q) (K : AtS p l e R s m args below meth c Z EL own n0 Q mk sf h cells slots (mkF m q L (.long z :: S))) : AtS p l e R s m args below meth c Z EL own n0 Q mk sf h cells slots (mkF m pc L (.long y :: .long x :: S)) := by
  subst hq
  exact K.go fun T hA t st => by subst hz; exact XS.lmul hA C.1 rfl (hb C.2.1 hd) rfl st
theorem s_land (C : Cx p s m meth c Z own bytes maxL ret nm) {x y z : Int64} (hz : x &&& y = z) (hd : decode bytes pc = .ok (.land, 1)) (hq : pc + 1 = q) (K : AtS p l e R s m args below meth c Z EL own n0 Q mk sf h cells slots (mkF m q L (.long z :: S))) : AtS p l e R s m args below meth c Z EL own n0 Q mk sf h cells slots (mkF m pc L (.long y :: .long x :: S)) := by
  subst hq
  exact K.go fun T hA t st => by subst hz; exact XS.land hA C.1 rfl (hb C.2.1 hd) rfl st
theorem s_lor (C : Cx p s m meth c Z own bytes maxL ret nm) {x y z : Int64} (hz : x ||| y = z) (hd : decode bytes pc = .ok (.lor, 1)) (hq : pc + 1 = q) (K : AtS p l e R s m args below meth c Z EL own n0 Q mk sf h cells slots (mkF m q L (.long z :: S))) : AtS p l e R s m args below meth c Z EL own n0 Q mk sf h cells slots (mkF m pc L (.long y :: .long x :: S)) := by
  subst hq
  exact K.go fun T hA t st => by subst hz; exact XS.lor hA C.1 rfl (hb C.2.1 hd) rfl st
theorem s_lxor (C : Cx p s m meth c Z own bytes maxL ret nm) {x y z : Int64} (hz : x ^^^ y = z) (hd : decode bytes pc = .ok (.lxor, 1)) (hq : pc + 1 = q) (K : AtS p l e R s m args below meth c Z EL own n0 Q mk sf h cells slots (mkF m q L (.long z :: S))) : AtS p l e R s m args below meth c Z EL own n0 Q mk sf h cells slots (mkF m pc L (.long y :: .long x :: S)) := by
  subst hq
  exact K.go fun T hA t st => by subst hz; exact XS.lxor hA C.1 rfl (hb C.2.1 hd) rfl st
theorem s_ishl (C : Cx p s m meth c Z own bytes maxL ret nm) {x y z : Int32} (hz : x <<< (y &&& 31) = z) (hd : decode bytes pc = .ok (.ishl, 1)) (hq : pc + 1 = q) (K : AtS p l e R s m args below meth c Z EL own n0 Q mk sf h cells slots (mkF m q L (.int z :: S))) : AtS p l e R s m args below meth c Z EL own n0 Q mk sf h cells slots (mkF m pc L (.int y :: .int x :: S)) := by
  subst hq
  exact K.go fun T hA t st => by subst hz; exact XS.ishl hA C.1 rfl (hb C.2.1 hd) rfl st
theorem s_ishr (C : Cx p s m meth c Z own bytes maxL ret nm) {x y z : Int32} (hz : x >>> (y &&& 31) = z) (hd : decode bytes pc = .ok (.ishr, 1)) (hq : pc + 1 = q) (K : AtS p l e R s m args below meth c Z EL own n0 Q mk sf h cells slots (mkF m q L (.int z :: S))) : AtS p l e R s m args below meth c Z EL own n0 Q mk sf h cells slots (mkF m pc L (.int y :: .int x :: S)) := by
  subst hq
  exact K.go fun T hA t st => by subst hz; exact XS.ishr hA C.1 rfl (hb C.2.1 hd) rfl st
theorem s_iushr (C : Cx p s m meth c Z own bytes maxL ret nm) {x y z : Int32} (hz : (x.toUInt32 >>> (y &&& 31).toUInt32).toInt32 = z) (hd : decode bytes pc = .ok (.iushr, 1)) (hq : pc + 1 = q) (K : AtS p l e R s m args below meth c Z EL own n0 Q mk sf h cells slots (mkF m q L (.int z :: S))) : AtS p l e R s m args below meth c Z EL own n0 Q mk sf h cells slots (mkF m pc L (.int y :: .int x :: S)) := by
  subst hq
  exact K.go fun T hA t st => by subst hz; exact XS.iushr hA C.1 rfl (hb C.2.1 hd) rfl st
theorem s_lshl (C : Cx p s m meth c Z own bytes maxL ret nm) {x z : Int64} {y : Int32} (hz : x <<< (y &&& 0x3f).toInt64 = z) (hd : decode bytes pc = .ok (.lshl, 1)) (hq : pc + 1 = q) (K : AtS p l e R s m args below meth c Z EL own n0 Q mk sf h cells slots (mkF m q L (.long z :: S))) : AtS p l e R s m args below meth c Z EL own n0 Q mk sf h cells slots (mkF m pc L (.int y :: .long x :: S)) := by
  subst hq
  exact K.go fun T hA t st => by subst hz; exact XS.lshl hA C.1 rfl (hb C.2.1 hd) rfl st
theorem s_lshr (C : Cx p s m meth c Z own bytes maxL ret nm) {x z : Int64} {y : Int32} (hz : x >>> (y &&& 0x3f).toInt64 = z) (hd : decode bytes pc = .ok (.lshr, 1)) (hq : pc + 1 = q) (K : AtS p l e R s m args below meth c Z EL own n0 Q mk sf h cells slots (mkF m q L (.long z :: S))) : AtS p l e R s m args below meth c Z EL own n0 Q mk sf h cells slots (mkF m pc L (.int y :: .long x :: S)) := by
  subst hq
  exact K.go fun T hA t st => by subst hz; exact XS.lshr hA C.1 rfl (hb C.2.1 hd) rfl st
theorem s_lushr (C : Cx p s m meth c Z own bytes maxL ret nm) {x z : Int64} {y : Int32} (hz : (x.toUInt64 >>> (y &&& 0x3f).toInt64.toUInt64).toInt64 = z) (hd : decode bytes pc = .ok (.lushr, 1)) (hq : pc + 1 = q) (K : AtS p l e R s m args below meth c Z EL own n0 Q mk sf h cells slots (mkF m q L (.long z :: S))) : AtS p l e R s m args below meth c Z EL own n0 Q mk sf h cells slots (mkF m pc L (.int y :: .long x :: S)) := by
  subst hq
  exact K.go fun T hA t st => by subst hz; exact XS.lushr hA C.1 rfl (hb C.2.1 hd) rfl st
theorem s_idiv (C : Cx p s m meth c Z own bytes maxL ret nm) {x y z : Int32} (hy : y ≠ 0) (hz : x / y = z) (hd : decode bytes pc = .ok (.idiv, 1)) (hq : pc + 1 = q) (K : AtS p l e R s m args below meth c Z EL own n0 Q mk sf h cells slots (mkF m q L (.int z :: S))) : AtS p l e R s m args below meth c Z EL own n0 Q mk sf h cells slots (mkF m pc L (.int y :: .int x :: S)) := by
  subst hq
  exact K.go fun T hA t st => by subst hz; exact XS.idiv hA C.1 rfl (hb C.2.1 hd) rfl hy st
theorem s_ldiv (C : Cx p s m meth c Z own bytes maxL ret nm) {x y z : Int64} (hy : y ≠ 0) (hz : x / y = z) (hd : decode bytes pc = .ok (.ldiv, 1)) (hq : pc + 1 = q) (K : AtS p l e R s m args below meth c Z EL own n0 Q mk sf h cells slots (mkF m q L (.long z :: S))) : AtS p l e R s m args below meth c Z EL own n0 Q mk sf h cells slots (mkF m pc L (.long y :: .long x :: S)) := by
  subst hq
  exact K.go fun T hA t st => by subst hz; exact XS.ldiv hA C.1 rfl (hb C.2.1 hd) rfl hy st
theorem s_irem (C : Cx p s m meth c Z own bytes maxL ret nm) {x y z : Int32} (hy : y ≠ 0) (hz : x % y = z) (hd : decode bytes pc = .ok (.irem, 1)) (hq : pc + 1 = q) (K : AtS p l e R s m args below meth c Z EL own n0 Q mk sf h cells slots (mkF m q L (.int z :: S))) : AtS p l e R s m args below meth c Z EL own n0 Q mk sf h cells slots (mkF m pc L (.int y :: .int x :: S)) := by
  subst hq
  exact K.go fun T hA t st => by subst hz; rw [← irem_eq_mod x y] at st; exact XS.irem hA C.1 rfl (hb C.2.1 hd) rfl hy st
theorem s_lrem (C : Cx p s m meth c Z own bytes maxL ret nm) {x y z : Int64} (hy : y ≠ 0) (hz : x % y = z) (hd : decode bytes pc = .ok (.lrem, 1)) (hq : pc + 1 = q) (K : AtS p l e R s m args below meth c Z EL own n0 Q mk sf h cells slots (mkF m q L (.long z :: S))) : AtS p l e R s m args below meth c Z EL own n0 Q mk sf h cells slots (mkF m pc L (.long y :: .long x :: S)) := by
  subst hq
  exact K.go fun T hA t st => by subst hz; rw [← lrem_mod x y] at st; exact XS.lrem hA C.1 rfl (hb C.2.1 hd) rfl hy st
theorem s_ineg (C : Cx p s m meth c Z own bytes maxL ret nm) {x : Int32} {z : Int32} (hz : -x = z) (hd : decode bytes pc = .ok (.ineg, 1)) (hq : pc + 1 = q) (K : AtS p l e R s m args below meth c Z EL own n0 Q mk sf h cells slots (mkF m q L (.int z :: S))) : AtS p l e R s m args below meth c Z EL own n0 Q mk sf h cells slots (mkF m pc L (.int x :: S)) := by
  subst hq
  exact K.go fun T hA t st => by subst hz; exact XS.ineg hA C.1 rfl (hb C.2.1 hd) rfl st
theorem s_lneg (C : Cx p s m meth c Z own bytes maxL ret nm) {x : Int64} {z : Int64} (hz : -x = z) (hd : decode bytes pc = .ok (.lneg, 1)) (hq : pc + 1 = q) (K : AtS p l e R s m args below meth c Z EL own n0 Q mk sf h cells slots (mkF m q L (.long z :: S))) : AtS p l e R s m args below meth c Z EL own n0 Q mk sf h cells slots (mkF m pc L (.long x :: S)) := by
  subst hq
  exact K.go fun T hA t st => by subst hz; exact XS.lneg hA C.1 rfl (hb C.2.1 hd) rfl st
theorem s_i2l (C : Cx p s m meth c Z own bytes maxL ret nm) {x : Int32} {z : Int64} (hz : x.toInt64 = z) (hd : decode bytes pc = .ok (.i2l, 1)) (hq : pc + 1 = q) (K : AtS p l e R s m args below meth c Z EL own n0 Q mk sf h cells slots (mkF m q L (.long z :: S))) : AtS p l e R s m args below meth c Z EL own n0 Q mk sf h cells slots (mkF m pc L (.int x :: S)) := by
  subst hq
  exact K.go fun T hA t st => by subst hz; exact XS.i2l hA C.1 rfl (hb C.2.1 hd) rfl st
theorem s_l2i (C : Cx p s m meth c Z own bytes maxL ret nm) {x : Int64} {z : Int32} (hz : x.toInt32 = z) (hd : decode bytes pc = .ok (.l2i, 1)) (hq : pc + 1 = q) (K : AtS p l e R s m args below meth c Z EL own n0 Q mk sf h cells slots (mkF m q L (.int z :: S))) : AtS p l e R s m args below meth c Z EL own n0 Q mk sf h cells slots (mkF m pc L (.long x :: S)) := by
  subst hq
  exact K.go fun T hA t st => by subst hz; exact XS.l2i hA C.1 rfl (hb C.2.1 hd) rfl st
theorem s_i2b (C : Cx p s m meth c Z own bytes maxL ret nm) {x : Int32} {z : Int32} (hz : x.toInt8.toInt32 = z) (hd : decode bytes pc = .ok (.i2b, 1)) (hq : pc + 1 = q) (K : AtS p l e R s m args below meth c Z EL own n0 Q mk sf h cells slots (mkF m q L (.int z :: S))) : AtS p l e R s m args below meth c Z EL own n0 Q mk sf h cells slots (mkF m pc L (.int x :: S)) := by
  subst hq
  exact K.go fun T hA t st => by subst hz; exact XS.i2b hA C.1 rfl (hb C.2.1 hd) rfl st
theorem s_i2s (C : Cx p s m meth c Z own bytes maxL ret nm) {x : Int32} {z : Int32} (hz : x.toInt16.toInt32 = z) (hd : decode bytes pc = .ok (.i2s, 1)) (hq : pc + 1 = q) (K : AtS p l e R s m args below meth c Z EL own n0 Q mk sf h cells slots (mkF m q L (.int z :: S))) : AtS p l e R s m args below meth c Z EL own n0 Q mk sf h cells slots (mkF m pc L (.int x :: S)) := by
  subst hq
  exact K.go fun T hA t st => by subst hz; exact XS.i2s hA C.1 rfl (hb C.2.1 hd) rfl st
theorem s_i2c (C : Cx p s m meth c Z own bytes maxL ret nm) {x : Int32} {z : Int32} (hz : x.toUInt32.toUInt16.toUInt32.toInt32 = z) (hd : decode bytes pc = .ok (.i2c, 1)) (hq : pc + 1 = q) (K : AtS p l e R s m args below meth c Z EL own n0 Q mk sf h cells slots (mkF m q L (.int z :: S))) : AtS p l e R s m args below meth c Z EL own n0 Q mk sf h cells slots (mkF m pc L (.int x :: S)) := by
  subst hq
  exact K.go fun T hA t st => by subst hz; exact XS.i2c hA C.1 rfl (hb C.2.1 hd) rfl st
theorem s_lcmp (C : Cx p s m meth c Z own bytes maxL ret nm) {x y : Int64} {z : Int32} (hz : lcmpW x y = z) (hd : decode bytes pc = .ok (.lcmp, 1)) (hq : pc + 1 = q) (K : AtS p l e R s m args below meth c Z EL own n0 Q mk sf h cells slots (mkF m q L (.int z :: S))) : AtS p l e R s m args below meth c Z EL own n0 Q mk sf h cells slots (mkF m pc L (.long y :: .long x :: S)) := by
  subst hq
  exact K.go fun T hA t st => by subst hz; exact XS.lcmp hA C.1 rfl (hb C.2.1 hd) rfl st
theorem s_dup (C : Cx p s m meth c Z own bytes maxL ret nm) {x : Value} (hc : x.category = 1) (hd : decode bytes pc = .ok (.dup, 1)) (hq : pc + 1 = q) (K : AtS p l e R s m args below meth c Z EL own n0 Q mk sf h cells slots (mkF m q L (x :: x :: S))) : AtS p l e R s m args below meth c Z EL own n0 Q mk sf h cells slots (mkF m pc L (x :: S)) := by
  subst hq
  exact K.go fun T hA t st => XS.dup hA C.1 rfl (hb C.2.1 hd) rfl hc st
theorem s_pop (C : Cx p s m meth c Z own bytes maxL ret nm) {x : Value} (hc : x.category = 1) (hd : decode bytes pc = .ok (.pop, 1)) (hq : pc + 1 = q) (K : AtS p l e R s m args below meth c Z EL own n0 Q mk sf h cells slots (mkF m q L S)) : AtS p l e R s m args below meth c Z EL own n0 Q mk sf h cells slots (mkF m pc L (x :: S)) := by
  subst hq
  exact K.go fun T hA t st => XS.pop hA C.1 rfl (hb C.2.1 hd) rfl hc st
theorem s_dup_x1 (C : Cx p s m meth c Z own bytes maxL ret nm) {x y : Value} (hc : x.category = 1) (hc' : y.category = 1) (hd : decode bytes pc = .ok (.dup_x1, 1)) (hq : pc + 1 = q) (K : AtS p l e R s m args below meth c Z EL own n0 Q mk sf h cells slots (mkF m q L (x :: y :: x :: S))) : AtS p l e R s m args below meth c Z EL own n0 Q mk sf h cells slots (mkF m pc L (x :: y :: S)) := by
  subst hq
  exact K.go fun T hA t st => XS.dupX1 hA C.1 rfl (hb C.2.1 hd) rfl hc hc' st
theorem s_iinc (C : Cx p s m meth c Z own bytes maxL ret nm) {k : Nat} {cst : Int} {x z : Int32} (hl : L[k]? = some (.val (.int x))) (hz : x + Int32.ofInt cst = z) (hl' : storeLocals L k (.int z) = some L') (hd : decode bytes pc = .ok (.iinc k cst, 3)) (hq : pc + 3 = q) (K : AtS p l e R s m args below meth c Z EL own n0 Q mk sf h cells slots (mkF m q L' S)) : AtS p l e R s m args below meth c Z EL own n0 Q mk sf h cells slots (mkF m pc L S) := by
  subst hq
  exact K.go fun T hA t st => by subst hz; exact XS.iinc hA C.1 rfl (hb C.2.1 hd) hl hl' st
theorem s_goto (C : Cx p s m meth c Z own bytes maxL ret nm) {o : Int} (hd : decode bytes pc = .ok (.goto o, 3)) (ho : 0 ≤ (pc : Int) + o) (hp : ((pc : Int) + o).toNat = q) (K : AtS p l e R s m args below meth c Z EL own n0 Q mk sf h cells slots (mkF m q L S)) : AtS p l e R s m args below meth c Z EL own n0 Q mk sf h cells slots (mkF m pc L S) :=
  K.go fun T hA t st => XS.goto hA C.1 rfl (pc0 := pc) (pc' := q) rfl (hb C.2.1 hd) ho hp st
theorem s_icmp_lt_t (C : Cx p s m meth c Z own bytes maxL ret nm) {o : Int} {x y : Int32} (hd : decode bytes pc = .ok (.if_icmp .lt o, 3)) (ho : 0 ≤ (pc : Int) + o) (hp : ((pc : Int) + o).toNat = q) (hc : x < y) (K : AtS p l e R s m args below meth c Z EL own n0 Q mk sf h cells slots (mkF m q L S)) : AtS p l e R s m args below meth c Z EL own n0 Q mk sf h cells slots (mkF m pc L (.int y :: .int x :: S)) :=
  K.go fun T hA t st => XS.icmpYes hA C.1 rfl (pc0 := pc) (pc' := q) rfl (hb C.2.1 hd) rfl (tlt hc).1 ho hp st
theorem s_icmp_lt_f (C : Cx p s m meth c Z own bytes maxL ret nm) {o : Int} {x y : Int32} (hd : decode bytes pc = .ok (.if_icmp .lt o, 3)) (hq : pc + 3 = q) (hc : ¬ x < y) (K : AtS p l e R s m args below meth c Z EL own n0 Q mk sf h cells slots (mkF m q L S)) : AtS p l e R s m args below meth c Z EL own n0 Q mk sf h cells slots (mkF m pc L (.int y :: .int x :: S)) := by
  subst hq
  exact K.go fun T hA t st => XS.icmpNo hA C.1 rfl (hb C.2.1 hd) rfl (flt hc).1 st
theorem s_if_lt_t (C : Cx p s m meth c Z own bytes maxL ret nm) {o : Int} {x : Int32} (hd : decode bytes pc = .ok (.ifCond .lt o, 3)) (ho : 0 ≤ (pc : Int) + o) (hp : ((pc : Int) + o).toNat = q) (hc : x < 0) (K : AtS p l e R s m args below meth c Z EL own n0 Q mk sf h cells slots (mkF m q L S)) : AtS p l e R s m args below meth c Z EL own n0 Q mk sf h cells slots (mkF m pc L (.int x :: S)) :=
  K.go fun T hA t st => XS.ifYes hA C.1 rfl (pc0 := pc) (pc' := q) rfl (hb C.2.1 hd) rfl ((if0 _ _).trans (tlt hc).1) ho hp st
theorem s_if_lt_f (C : Cx p s m meth c Z own bytes maxL ret nm) {o : Int} {x : Int32} (hd : decode bytes pc = .ok (.ifCond .lt o, 3)) (hq : pc + 3 = q) (hc : ¬ x < 0) (K : AtS p l e R s m args below meth c Z EL own n0 Q mk sf h cells slots (mkF m q L S)) : AtS p l e R s m args below meth c Z EL own n0 Q mk sf h cells slots (mkF m pc L (.int x :: S)) := by
  subst hq
  exact K.go fun T hA t st => XS.ifNo hA C.1 rfl (hb C.2.1 hd) rfl ((if0 _ _).trans (flt hc).1) st
theorem s_icmp_ge_t (C : Cx p s m meth c Z own bytes maxL ret nm) {o : Int} {x y : Int32} (hd : decode bytes pc = .ok (.if_icmp .ge o, 3)) (ho : 0 ≤ (pc : Int) + o) (hp : ((pc : Int) + o).toNat = q) (hc : ¬ x < y) (K : AtS p l e R s m args below meth c Z EL own n0 Q mk sf h cells slots (mkF m q L S)) : AtS p l e R s m args below meth c Z EL own n0 Q mk sf h cells slots (mkF m pc L (.int y :: .int x :: S)) :=
  K.go fun T hA t st => XS.icmpYes hA C.1 rfl (pc0 := pc) (pc' := q) rfl (hb C.2.1 hd) rfl (flt hc).2.1 ho hp st
theorem s_icmp_ge_f (C : Cx p s m meth c Z own bytes maxL ret nm) {o : Int} {x y : Int32} (hd : decode bytes pc = .ok (.if_icmp .ge o, 3)) (hq : pc + 3 = q) (hc : x < y) (K : AtS p l e R s m args below meth c Z EL own n0 Q mk sf h cells slots (mkF m q L S)) : AtS p l e R s m args below meth c Z EL own n0 Q mk sf h cells slots (mkF m pc L (.int y :: .int x :: S)) := by
  subst hq
  exact K.go fun T hA t st => XS.icmpNo hA C.1 rfl (hb C.2.1 hd) rfl (tlt hc).2.1 st
theorem s_if_ge_t (C : Cx p s m meth c Z own bytes maxL ret nm) {o : Int} {x : Int32} (hd : decode bytes pc = .ok (.ifCond .ge o, 3)) (ho : 0 ≤ (pc : Int) + o) (hp : ((pc : Int) + o).toNat = q) (hc : ¬ x < 0) (K : AtS p l e R s m args below meth c Z EL own n0 Q mk sf h cells slots (mkF m q L S)) : AtS p l e R s m args below meth c Z EL own n0 Q mk sf h cells slots (mkF m pc L (.int x :: S)) :=
  K.go fun T hA t st => XS.ifYes hA C.1 rfl (pc0 := pc) (pc' := q) rfl (hb C.2.1 hd) rfl ((if0 _ _).trans (flt hc).2.1) ho hp st
theorem s_if_ge_f (C : Cx p s m meth c Z own bytes maxL ret nm) {o : Int} {x : Int32} (hd : decode bytes pc = .ok (.ifCond .ge o, 3)) (hq : pc + 3 = q) (hc : x < 0) (K : AtS p l e R s m args below meth c Z EL own n0 Q mk sf h cells slots (mkF m q L S)) : AtS p l e R s m args below meth c Z EL own n0 Q mk sf h cells slots (mkF m pc L (.int x :: S)) := by
  subst hq
  exact K.go fun T hA t st => XS.ifNo hA C.1 rfl (hb C.2.1 hd) rfl ((if0 _ _).trans (tlt hc).2.1) st
theorem s_icmp_gt_t (C : Cx p s m meth c Z own bytes maxL ret nm) {o : Int} {x y : Int32} (hd : decode bytes pc = .ok (.if_icmp .gt o, 3)) (ho : 0 ≤ (pc : Int) + o) (hp : ((pc : Int) + o).toNat = q) (hc : y < x) (K : AtS p l e R s m args below meth c Z EL own n0 Q mk sf h cells slots (mkF m q L S)) : AtS p l e R s m args below meth c Z EL own n0 Q mk sf h cells slots (mkF m pc L (.int y :: .int x :: S)) :=
  K.go fun T hA t st => XS.icmpYes hA C.1 rfl (pc0 := pc) (pc' := q) rfl (hb C.2.1 hd) rfl (tlt hc).2.2.1 ho hp st
theorem s_icmp_gt_f (C : Cx p s m meth c Z own bytes maxL ret nm) {o : Int} {x y : Int32} (hd : decode bytes pc = .ok (.if_icmp .gt o, 3)) (hq : pc + 3 = q) (hc : ¬ y < x) (K : AtS p l e R s m args below meth c Z EL own n0 Q mk sf h cells slots (mkF m q L S)) : AtS p l e R s m args below meth c Z EL own n0 Q mk sf h cells slots (mkF m pc L (.int y :: .int x :: S)) := by
  subst hq
  exact K.go fun T hA t st => XS.icmpNo hA C.1 rfl (hb C.2.1 hd) rfl (flt hc).2.2.1 st
theorem s_if_gt_t (C : Cx p s m meth c Z own bytes maxL ret nm) {o : Int} {x : Int32} (hd : decode bytes pc = .ok (.ifCond .gt o, 3)) (ho : 0 ≤ (pc : Int) + o) (hp : ((pc : Int) + o).toNat = q) (hc : 0 < x) (K : AtS p l e R s m args below meth c Z EL own n0 Q mk sf h cells slots (mkF m q L S)) : AtS p l e R s m args below meth c Z EL own n0 Q mk sf h cells slots (mkF m pc L (.int x :: S)) :=
  K.go fun T hA t st => XS.ifYes hA C.1 rfl (pc0 := pc) (pc' := q) rfl (hb C.2.1 hd) rfl ((if0 _ _).trans (tlt hc).2.2.1) ho hp st
theorem s_if_gt_f (C : Cx p s m meth c Z own bytes maxL ret nm) {o : Int} {x : Int32} (hd : decode bytes pc = .ok (.ifCond .gt o, 3)) (hq : pc + 3 = q) (hc : ¬ 0 < x) (K : AtS p l e R s m args below meth c Z EL own n0 Q mk sf h cells slots (mkF m q L S)) : AtS p l e R s m args below meth c Z EL own n0 Q mk sf h cells slots (mkF m pc L (.int x :: S)) := by
  subst hq
  exact K.go fun T hA t st => XS.ifNo hA C.1 rfl (hb C.2.1 hd) rfl ((if0 _ _).trans (flt hc).2.2.1) st
theorem s_icmp_le_t (C : Cx p s m meth c Z own bytes maxL ret nm) {o : Int} {x y : Int32} (hd : decode bytes pc = .ok (.if_icmp .le o, 3)) (ho : 0 ≤ (pc : Int) + o) (hp : ((pc : Int) + o).toNat = q) (hc : ¬ y < x) (K : AtS p l e R s m args below meth c Z EL own n0 Q mk sf h cells slots (mkF m q L S)) : AtS p l e R s m args below meth c Z EL own n0 Q mk sf h cells slots (mkF m pc L (.int y :: .int x :: S)) :=
  K.go fun T hA t st => XS.icmpYes hA C.1 rfl (pc0 := pc) (pc' := q) rfl (hb C.2.1 hd) rfl (flt hc).2.2.2 ho hp st
theorem s_icmp_le_f (C : Cx p s m meth c Z own bytes maxL ret nm) {o : Int} {x y : Int32} (hd : decode bytes pc = .ok (.if_icmp .le o, 3)) (hq : pc + 3 = q) (hc : y < x) (K : AtS p l e R s m args below meth c Z EL own n0 Q mk sf h cells slots (mkF m q L S)) : AtS p l e R s m args below meth c Z EL own n0 Q mk sf h cells slots (mkF m pc L (.int y :: .int x :: S)) := by
  subst hq
  exact K.go fun T hA t st => XS.icmpNo hA C.1 rfl (hb C.2.1 hd) rfl (tlt hc).2.2.2 st
theorem s_if_le_t (C : Cx p s m meth c Z own bytes maxL ret nm) {o : Int} {x : Int32} (hd : decode bytes pc = .ok (.ifCond .le o, 3)) (ho : 0 ≤ (pc : Int) + o) (hp : ((pc : Int) + o).toNat = q) (hc : ¬ 0 < x) (K : AtS p l e R s m args below meth c Z EL own n0 Q mk sf h cells slots (mkF m q L S)) : AtS p l e R s m args below meth c Z EL own n0 Q mk sf h cells slots (mkF m pc L (.int x :: S)) :=
  K.go fun T hA t st => XS.ifYes hA C.1 rfl (pc0 := pc) (pc' := q) rfl (hb C.2.1 hd) rfl ((if0 _ _).trans (flt hc).2.2.2) ho hp st
theorem s_if_le_f (C : Cx p s m meth c Z own bytes maxL ret nm) {o : Int} {x : Int32} (hd : decode bytes pc = .ok (.ifCond .le o, 3)) (hq : pc + 3 = q) (hc : 0 < x) (K : AtS p l e R s m args below meth c Z EL own n0 Q mk sf h cells slots (mkF m q L S)) : AtS p l e R s m args below meth c Z EL own n0 Q mk sf h cells slots (mkF m pc L (.int x :: S)) := by
  subst hq
  exact K.go fun T hA t st => XS.ifNo hA C.1 rfl (hb C.2.1 hd) rfl ((if0 _ _).trans (tlt hc).2.2.2) st
theorem s_icmp_eq_t (C : Cx p s m meth c Z own bytes maxL ret nm) {o : Int} {x y : Int32} (hd : decode bytes pc = .ok (.if_icmp .eq o, 3)) (ho : 0 ≤ (pc : Int) + o) (hp : ((pc : Int) + o).toNat = q) (hc : x = y) (K : AtS p l e R s m args below meth c Z EL own n0 Q mk sf h cells slots (mkF m q L S)) : AtS p l e R s m args below meth c Z EL own n0 Q mk sf h cells slots (mkF m pc L (.int y :: .int x :: S)) :=
  K.go fun T hA t st => XS.icmpYes hA C.1 rfl (pc0 := pc) (pc' := q) rfl (hb C.2.1 hd) rfl (teq hc).1 ho hp st
theorem s_icmp_eq_f (C : Cx p s m meth c Z own bytes maxL ret nm) {o : Int} {x y : Int32} (hd : decode bytes pc = .ok (.if_icmp .eq o, 3)) (hq : pc + 3 = q) (hc : ¬ x = y) (K : AtS p l e R s m args below meth c Z EL own n0 Q mk sf h cells slots (mkF m q L S)) : AtS p l e R s m args below meth c Z EL own n0 Q mk sf h cells slots (mkF m pc L (.int y :: .int x :: S)) := by
  subst hq
  exact K.go fun T hA t st => XS.icmpNo hA C.1 rfl (hb C.2.1 hd) rfl (feq hc).1 st
theorem s_if_eq_t (C : Cx p s m meth c Z own bytes maxL ret nm) {o : Int} {x : Int32} (hd : decode bytes pc = .ok (.ifCond .eq o, 3)) (ho : 0 ≤ (pc : Int) + o) (hp : ((pc : Int) + o).toNat = q) (hc : x = 0) (K : AtS p l e R s m args below meth c Z EL own n0 Q mk sf h cells slots (mkF m q L S)) : AtS p l e R s m args below meth c Z EL own n0 Q mk sf h cells slots (mkF m pc L (.int x :: S)) :=
  K.go fun T hA t st => XS.ifYes hA C.1 rfl (pc0 := pc) (pc' := q) rfl (hb C.2.1 hd) rfl ((if0 _ _).trans (teq hc).1) ho hp st
theorem s_if_eq_f (C : Cx p s m meth c Z own bytes maxL ret nm) {o : Int} {x : Int32} (hd : decode bytes pc = .ok (.ifCond .eq o, 3)) (hq : pc + 3 = q) (hc : ¬ x = 0) (K : AtS p l e R s m args below meth c Z EL own n0 Q mk sf h cells slots (mkF m q L S)) : AtS p l e R s m args below meth c Z EL own n0 Q mk sf h cells slots (mkF m pc L (.int x :: S)) := by
  subst hq
  exact K.go fun T hA t st => XS.ifNo hA C.1 rfl (hb C.2.1 hd) rfl ((if0 _ _).trans (feq hc).1) st
theorem s_icmp_ne_t (C : Cx p s m meth c Z own bytes maxL ret nm) {o : Int} {x y : Int32} (hd : decode bytes pc = .ok (.if_icmp .ne o, 3)) (ho : 0 ≤ (pc : Int) + o) (hp : ((pc : Int) + o).toNat = q) (hc : ¬ x = y) (K : AtS p l e R s m args below meth c Z EL own n0 Q mk sf h cells slots (mkF m q L S)) : AtS p l e R s m args below meth c Z EL own n0 Q mk sf h cells slots (mkF m pc L (.int y :: .int x :: S)) :=
  K.go fun T hA t st => XS.icmpYes hA C.1 rfl (pc0 := pc) (pc' := q) rfl (hb C.2.1 hd) rfl (feq hc).2 ho hp st
theorem s_icmp_ne_f (C : Cx p s m meth c Z own bytes maxL ret nm) {o : Int} {x y : Int32} (hd : decode bytes pc = .ok (.if_icmp .ne o, 3)) (hq : pc + 3 = q) (hc : x = y) (K : AtS p l e R s m args below meth c Z EL own n0 Q mk sf h cells slots (mkF m q L S)) : AtS p l e R s m args below meth c Z EL own n0 Q mk sf h cells slots (mkF m pc L (.int y :: .int x :: S)) := by
  subst hq
  exact K.go fun T hA t st => XS.icmpNo hA C.1 rfl (hb C.2.1 hd) rfl (teq hc).2 st
theorem s_if_ne_t (C : Cx p s m meth c Z own bytes maxL ret nm) {o : Int} {x : Int32} (hd : decode bytes pc = .ok (.ifCond .ne o, 3)) (ho : 0 ≤ (pc : Int) + o) (hp : ((pc : Int) + o).toNat = q) (hc : ¬ x = 0) (K : AtS p l e R s m args below meth c Z EL own n0 Q mk sf h cells slots (mkF m q L S)) : AtS p l e R s m args below meth c Z EL own n0 Q mk sf h cells slots (mkF m pc L (.int x :: S)) :=
  K.go fun T hA t st => XS.ifYes hA C.1 rfl (pc0 := pc) (pc' := q) rfl (hb C.2.1 hd) rfl ((if0 _ _).trans (feq hc).2) ho hp st
theorem s_if_ne_f (C : Cx p s m meth c Z own bytes maxL ret nm) {o : Int} {x : Int32} (hd : decode bytes pc = .ok (.ifCond .ne o, 3)) (hq : pc + 3 = q) (hc : x = 0) (K : AtS p l e R s m args below meth c Z EL own n0 Q mk sf h cells slots (mkF m q L S)) : AtS p l e R s m args below meth c Z EL own n0 Q mk sf h cells slots (mkF m pc L (.int x :: S)) := by
  subst hq
  exact K.go fun T hA t st => XS.ifNo hA C.1 rfl (hb C.2.1 hd) rfl ((if0 _ _).trans (teq hc).2) st
theorem s_ifnull_t (C : Cx p s m meth c Z own bytes maxL ret nm) {o : Int} (hd : decode bytes pc = .ok (.ifnull o, 3)) (ho : 0 ≤ (pc : Int) + o) (hp : ((pc : Int) + o).toNat = q) (K : AtS p l e R s m args below meth c Z EL own n0 Q mk sf h cells slots (mkF m q L S)) : AtS p l e R s m args below meth c Z EL own n0 Q mk sf h cells slots (mkF m pc L (.null :: S)) :=
  K.go fun T hA t st => XS.ifnullYes hA C.1 rfl (pc0 := pc) (pc' := q) rfl (hb C.2.1 hd) rfl ho hp st
theorem s_ifnull_f (C : Cx p s m meth c Z own bytes maxL ret nm) {o : Int} {b : Addr} (hd : decode bytes pc = .ok (.ifnull o, 3)) (hq : pc + 3 = q) (K : AtS p l e R s m args below meth c Z EL own n0 Q mk sf h cells slots (mkF m q L S)) : AtS p l e R s m args below meth c Z EL own n0 Q mk sf h cells slots (mkF m pc L ((.ref b) :: S)) := by
  subst hq
  exact K.go fun T hA t st => XS.ifnullNo hA C.1 rfl (hb C.2.1 hd) rfl st
theorem s_ifnonnull_t (C : Cx p s m meth c Z own bytes maxL ret nm) {o : Int} {b : Addr} (hd : decode bytes pc = .ok (.ifnonnull o, 3)) (ho : 0 ≤ (pc : Int) + o) (hp : ((pc : Int) + o).toNat = q) (K : AtS p l e R s m args below meth c Z EL own n0 Q mk sf h cells slots (mkF m q L S)) : AtS p l e R s m args below meth c Z EL own n0 Q mk sf h cells slots (mkF m pc L ((.ref b) :: S)) :=
  K.go fun T hA t st => XS.ifnonnullYes hA C.1 rfl (pc0 := pc) (pc' := q) rfl (hb C.2.1 hd) rfl ho hp st
theorem s_ifnonnull_f (C : Cx p s m meth c Z own bytes maxL ret nm) {o : Int} (hd : decode bytes pc = .ok (.ifnonnull o, 3)) (hq : pc + 3 = q) (K : AtS p l e R s m args below meth c Z EL own n0 Q mk sf h cells slots (mkF m q L S)) : AtS p l e R s m args below meth c Z EL own n0 Q mk sf h cells slots (mkF m pc L (.null :: S)) := by
  subst hq
  exact K.go fun T hA t st => XS.ifnonnullNo hA C.1 rfl (hb C.2.1 hd) rfl st
theorem s_acmp_t (C : Cx p s m meth c Z own bytes maxL ret nm) {cd : ACond} {o : Int} {x y : Value} (hd : decode bytes pc = .ok (.if_acmp cd o, 3)) (h1 : x.isRef = true) (h2 : y.isRef = true) {same : Bool} (hs : decide (x = y) = same) (hcd : acV cd same = true) (ho : 0 ≤ (pc : Int) + o) (hp : ((pc : Int) + o).toNat = q) (K : AtS p l e R s m args below meth c Z EL own n0 Q mk sf h cells slots (mkF m q L S)) : AtS p l e R s m args below meth c Z EL own n0 Q mk sf h cells slots (mkF m pc L (y :: x :: S)) :=
  K.goX fun T locs k n vm0 X eT hZ hown t st => Jvm.RoadKit.acmp (g := mkF m pc L (y :: x :: S)) X C.1 rfl h1 h2 (pc0 := pc) (pc' := q) (same := same) rfl (hb C.2.1 hd) rfl hs ho (by rw [if_pos hcd]; exact hp.symm) st
theorem s_acmp_f (C : Cx p s m meth c Z own bytes maxL ret nm) {cd : ACond} {o : Int} {x y : Value} (hd : decode bytes pc = .ok (.if_acmp cd o, 3)) (h1 : x.isRef = true) (h2 : y.isRef = true) {same : Bool} (hs : decide (x = y) = same) (hcd : acV cd same = false) (ho : 0 ≤ (pc : Int) + o) (hq : pc + 3 = q) (K : AtS p l e R s m args below meth c Z EL own n0 Q mk sf h cells slots (mkF m q L S)) : AtS p l e R s m args below meth c Z EL own n0 Q mk sf h cells slots (mkF m pc L (y :: x :: S)) :=
  K.goX fun T locs k n vm0 X eT hZ hown t st => Jvm.RoadKit.acmp (g := mkF m pc L (y :: x :: S)) X C.1 rfl h1 h2 (pc0 := pc) (pc' := q) (same := same) rfl (hb C.2.1 hd) rfl hs ho (by rw [if_neg (by rw [hcd]; exact Bool.false_ne_true)]; exact hq.symm) st
theorem s_ldcI (C : Cx p s m meth c Z own bytes maxL ret nm) {i : Nat} {v : Int32} (w : (Jvm.Cond.constant own i v).before a0 Z = true) (hd : decode bytes pc = .ok (.ldc i, 2)) (hq : pc + 2 = q) (K : AtS p l e R s m args below meth c Z EL own n0 Q mk sf h cells slots (mkF m q L (.int v :: S))) : AtS p l e R s m args below meth c Z EL own n0 Q mk sf h cells slots (mkF m pc L S) := by
  subst hq
  exact K.goX fun T locs k n vm0 X eT hZ hown t st => X.ldcInt C.1 hown (mvT (s := s.setVm vm0) hZ w) (g := mkF m pc L S) rfl (hb C.2.1 hd) t st
theorem s_ldcwI (C : Cx p s m meth c Z own bytes maxL ret nm) {i : Nat} {v : Int32} (w : (Jvm.Cond.constant own i v).before a0 Z = true) (hd : decode bytes pc = .ok (.ldc_w i, 3)) (hq : pc + 3 = q) (K : AtS p l e R s m args below meth c Z EL own n0 Q mk sf h cells slots (mkF m q L (.int v :: S))) : AtS p l e R s m args below meth c Z EL own n0 Q mk sf h cells slots (mkF m pc L S) := by
  subst hq
  exact K.goX fun T locs k n vm0 X eT hZ hown t st => X.ldcwInt C.1 hown (mvT (s := s.setVm vm0) hZ w) (g := mkF m pc L S) rfl (hb C.2.1 hd) t st
theorem s_ldc2J (C : Cx p s m meth c Z own bytes maxL ret nm) {i : Nat} {v : Int64} (w : (Jvm.Cond.constantLong own i v).before a0 Z = true) (hd : decode bytes pc = .ok (.ldc2_w i, 3)) (hq : pc + 3 = q) (K : AtS p l e R s m args below meth c Z EL own n0 Q mk sf h cells slots (mkF m q L (.long v :: S))) : AtS p l e R s m args below meth c Z EL own n0 Q mk sf h cells slots (mkF m pc L S) := by
  subst hq
  exact K.goX fun T locs k n vm0 X eT hZ hown t st => X.ldc2Long C.1 hown (mvT (s := s.setVm vm0) hZ w) (g := mkF m pc L S) rfl (hb C.2.1 hd) t st

theorem s_getF (C : Cx p s m meth c Z own bytes maxL ret nm) {R0 O n d host : String} {i : Nat} {a : Addr} {v : Value} (w : (Jvm.Cond.fieldLink own i R0 n d).before a0 Z = true ∨ (Jvm.Cond.fieldLinkNest own i R0 n d host).before a0 Z = true) (via : Via Z R0 O n d) (F : Fld Z h a O n d v) (hd : decode bytes pc = .ok (.getfield i, 3)) (hq : pc + 3 = q) (K : AtS p l e R s m args below meth c Z EL own n0 Q mk sf h cells slots (mkF m q L (v :: S))) : AtS p l e R s m args below meth c Z EL own n0 Q mk sf h cells slots (mkF m pc L (.ref a :: S)) := by
  subst hq
  intro T locs k n vm0 k0 X hk hn eT N hZ hown hS hk0 hC hB hF
  obtain ⟨T', X', e', st⟩ := getF X C.1 (show Z.Warmed39 (s.setVm vm0).vm from hZ) (host := host) hown w via eT F (g := mkF m pc L (.ref a :: S)) rfl rfl (hb C.2.1 hd)
  obtain ⟨t, o, r1, r⟩ := K T' locs k n vm0 k0 X' hk hn e' N hZ hown hS hk0 hC hB hF
  exact ⟨t, o, st _ r1, r⟩
theorem s_getS (C : Cx p s m meth c Z own bytes maxL ret nm) {R0 O n d host : String} {i : Nat} {v : Value} (w : (Jvm.Cond.fieldLink own i R0 n d).before a0 Z = true ∨ (Jvm.Cond.fieldLinkNest own i R0 n d host).before a0 Z = true) (via : Via Z R0 O n d) (F : Sta Z h O n d v) (hd : decode bytes pc = .ok (.getstatic i, 3)) (hq : pc + 3 = q) (K : AtS p l e R s m args below meth c Z EL own n0 Q mk sf h cells slots (mkF m q L (v :: S))) : AtS p l e R s m args below meth c Z EL own n0 Q mk sf h cells slots (mkF m pc L S) := by
  subst hq
  intro T locs k n vm0 k0 X hk hn eT N hZ hown hS hk0 hC hB hF
  obtain ⟨T', X', e', st⟩ := getS2 X C.1 (show Z.Warmed39 (s.setVm vm0).vm from hZ) (host := host) hown w via eT F (g := mkF m pc L S) rfl (hb C.2.1 hd)
  obtain ⟨t, o, r1, r⟩ := K T' locs k n vm0 k0 X' hk hn e' N hZ hown hS hk0 hC hB hF
  exact ⟨t, o, st _ r1, r⟩
theorem s_cast (C : Cx p s m meth c Z own bytes maxL ret nm) {K : String} {i : Nat} {a : Addr} (w : (Jvm.Cond.classLink own i K).before a0 Z = true) (F : Ins Z h a K true) (hd : decode bytes pc = .ok (.checkcast i, 3)) (hq : pc + 3 = q) (K : AtS p l e R s m args below meth c Z EL own n0 Q mk sf h cells slots (mkF m q L (.ref a :: S))) : AtS p l e R s m args below meth c Z EL own n0 Q mk sf h cells slots (mkF m pc L (.ref a :: S)) := by
  subst hq
  intro T locs k n vm0 k0 X hk hn eT N hZ hown hS hk0 hC hB hF
  obtain ⟨T', X', e', st⟩ := castY X C.1 (show Z.Warmed39 (s.setVm vm0).vm from hZ) hown w eT F (g := mkF m pc L (.ref a :: S)) rfl rfl (hb C.2.1 hd)
  obtain ⟨t, o, r1, r⟩ := K T' locs k n vm0 k0 X' hk hn e' N hZ hown hS hk0 hC hB hF
  exact ⟨t, o, st _ r1, r⟩
theorem s_inst (C : Cx p s m meth c Z own bytes maxL ret nm) {K : String} {i : Nat} {a : Addr} (w : (Jvm.Cond.classLink own i K).before a0 Z = true) (F : Ins Z h a K true) (hd : decode bytes pc = .ok (.instanceof i, 3)) (hq : pc + 3 = q) (K : AtS p l e R s m args below meth c Z EL own n0 Q mk sf h cells slots (mkF m q L (.int 1 :: S))) : AtS p l e R s m args below meth c Z EL own n0 Q mk sf h cells slots (mkF m pc L (.ref a :: S)) := by
  subst hq
  intro T locs k n vm0 k0 X hk hn eT N hZ hown hS hk0 hC hB hF
  obtain ⟨T', X', e', st⟩ := instY X C.1 (show Z.Warmed39 (s.setVm vm0).vm from hZ) hown w eT F (g := mkF m pc L (.ref a :: S)) rfl rfl (hb C.2.1 hd)
  obtain ⟨t, o, r1, r⟩ := K T' locs k n vm0 k0 X' hk hn e' N hZ hown hS hk0 hC hB hF
  exact ⟨t, o, st _ r1, r⟩
theorem s_initO (C : Cx p s m meth c Z own bytes maxL ret nm) {i : Nat} {a : Addr} (w1 : (Jvm.Cond.methodLink own i Lib.objectInit).before a0 Z = true) (w2 : (Jvm.Cond.instanceMethod Lib.objectInit).before a0 Z = true) (w3 : (Jvm.Cond.code Lib.objectInit object_method_1_code 1 none).before a0 Z = true) (hL : L.size = maxL) (hf : 1 ≤ R.frames) {W : Nat} (hW : (S.map fun v => v.category).sum ≤ W) (hlo : W + 12 ≤ R.locals) (hd : decode bytes pc = .ok (.invokespecial i, 3)) (hq : pc + 3 = q) (K : AtS p l e R s m args below meth c Z EL own n0 Q mk sf h cells slots (mkF m q L S)) : AtS p l e R s m args below meth c Z EL own n0 Q mk sf h cells slots (mkF m pc L (.ref a :: S)) := by
  subst hq
  intro T locs k n vm0 k0 X hk hn eT N hZ hown hS hk0 hC hB hF
  obtain ⟨T', X', e', st⟩ := initO X C.1 (show Z.Warmed39 (s.setVm vm0).vm from hZ) hown w1 w2 w3 eT (g := mkF m pc L (.ref a :: S)) rfl (hL.trans C.2.2.1.symm) rfl (hb C.2.1 hd) hf (W := W) (by show 2 * 0 + _ ≤ _; omega) hlo
  obtain ⟨t, o, r1, r⟩ := K T' locs k n vm0 k0 X' hk hn e' N hZ hown hS hk0 hC hB hF
  exact ⟨t, o, st _ r1, r⟩
/-- an address that no booked constant has -/
def SfOk (Z : State) (h : Heap) (mk : Nat) (sf : List Addr) (x : Addr) : Prop := x ∈ sf ∨ mk ≤ x ∨ (∃ C, Exa Z h x C ∧ C ≠ "java/lang/String" ∧ C ≠ "[B") ∨ ∃ ty vs, Ar Z h x ty vs ∧ ty ≠ .byte
theorem SfOk.exa {x : Addr} {C : String} (E : Exa Z h x C) (h1 : C ≠ "java/lang/String" ∧ C ≠ "[B") : SfOk Z h mk sf x := Or.inr (Or.inr (Or.inl ⟨C, E, h1⟩))
theorem SfOk.arr {x : Addr} {ty : FieldType} {vs : List Value} (E : Ar Z h x ty vs) (h1 : ty ≠ .byte) : SfOk Z h mk sf x := Or.inr (Or.inr (Or.inr ⟨ty, vs, E, h1⟩))
theorem SfOk.mem {x : Addr} (q : x ∈ sf) : SfOk Z h mk sf x := Or.inl q
theorem SfOk.new {x : Addr} (q : mk ≤ x) : SfOk Z h mk sf x := Or.inr (Or.inl q)
theorem SfOk.safe {vm0 : Vm} {x : Addr} (F : SfOk Z h mk sf x) (hal : Z.vm.Alike vm0) (hB : ∀ y, Bk Z EL vm0 h y → y < mk) (hF : ∀ x ∈ sf, x < h.size ∧ Safe Z EL vm0 h x) : Safe Z EL vm0 h x := by
  rcases F with q | q | ⟨C, E, h1, h2⟩ | ⟨ty, vs, A, hne⟩
  · exact (hF x q).2
  · exact fun b => Nat.not_lt.mpr q (hB _ b)
  · exact Safe.exa hal E h1 h2
  · obtain ⟨-, k, V⟩ := A; exact Safe.arv hal V hne
theorem s_putF (C : Cx p s m meth c Z own bytes maxL ret nm) {R0 O n d host Cl : String} {i kk : Nat} {ty : FieldType} {a : Addr} {v v' old : Value} (w : (Jvm.Cond.fieldLink own i R0 n d).before a0 Z = true) (via : Via Z R0 O n d) (F : Fld Z h a O n d old) (E : Exa Z h a Cl)
    (hL : (Jvm.Cond.lays Cl O n d).before a0 Z = true ∨ ((Jvm.Cond.laysFinal Cl O n d).before a0 Z = true ∧ own = O ∧ nm = "<init>")) (wi : (Jvm.Cond.instantiable Cl kk).before a0 Z = true) (hty : parseFieldDescriptor d = some ty) (hn : narrow ty v = v') (hf : fits ty v' = true) (hge : n0 ≤ a) (hsf : SfOk Z h mk sf a)
    (hd : decode bytes pc = .ok (.putfield i, 3)) (hq : pc + 3 = q) (K : ∀ h', Wr h h' a (Jvm.RoadKit.slotOf Z O n d) v' → AtS p l e R s m args below meth c Z EL own n0 Q mk sf h' cells slots (mkF m q L S)) : AtS p l e R s m args below meth c Z EL own n0 Q mk sf h cells slots (mkF m pc L (v :: .ref a :: S)) := by
  subst hq
  intro T locs k n' vm0 k0 X hk hn' eT N hZ hown hS hk0 hC hB hF
  have hL' : (Jvm.Cond.lays Cl O n d).before a0 Z = true ∨ ((Jvm.Cond.laysFinal Cl O n d).before a0 Z = true ∧ own = O ∧ meth.name = "<init>") := hL.imp id fun x => ⟨x.1, x.2.1, C.2.2.2.2.2.2.2.trans x.2.2⟩
  obtain ⟨T', h', X', e', W, st⟩ := putFN X C.1 (show Z.Warmed39 (s.setVm vm0).vm from hZ) hown w via eT F E hL' wi hty hn hf (g := mkF m pc L (v :: .ref a :: S)) rfl rfl (hb C.2.1 hd)
  have hsafe := hsf.safe hZ.alike hB hF
  obtain ⟨H', hB'⟩ := hC.1.wrStep W hsafe
  obtain ⟨t, o, r1, r⟩ := K h' W T' _ k n' vm0 k0 X' hk hn' e' (Fr.snoc X' N hge) hZ hown hS (by rw [W.size]; exact hk0) (hC.trans (CHr.wr W hsafe hC.1)) (fun y hy => hB y (hB' y hy)) (fun x hx => ⟨by rw [W.size]; exact (hF x hx).1, Safe.wr W hsafe hC.1 (hF x hx).2⟩)
  exact ⟨t, o, st _ r1, r⟩
theorem s_new (C : Cx p s m meth c Z own bytes maxL ret nm) {Cl : String} {i n : Nat} (w : (Jvm.Cond.classLink own i Cl).before a0 Z = true) (wi : (Jvm.Cond.instantiable Cl n).before a0 Z = true) (wz : (Jvm.Cond.initialized Cl).before a0 Z = true) {cells' slots' : Nat} (hc1 : cells + 1 = cells') (hs1 : slots + n = slots') (hc : cells' ≤ R.cells) (hl : slots' ≤ R.slots)
    (hd : decode bytes pc = .ok (.new i, 3)) (hq : pc + 3 = q) (K : ∀ h' a, a = h.size → Ext h h' → Exa Z h' a Cl → (∀ {O nm d : String} {ty : FieldType}, RoadKit.Laid Z a0 Cl O nm d → parseFieldDescriptor d = some ty → Fld Z h' a O nm d (defaultValue ty)) → AtS p l e R s m args below meth c Z EL own n0 Q mk (a :: sf) h' cells' slots' (mkF m q L (.ref a :: S))) : AtS p l e R s m args below meth c Z EL own n0 Q mk sf h cells slots (mkF m pc L S) := by
  subst hq hc1 hs1
  intro T locs k n' vm0 k0 X hk hn' eT N hZ hown hS hk0 hC hB hF
  obtain ⟨T', h', X', e', E, A, D, -, st⟩ := newO X C.1 (show Z.Warmed39 (s.setVm vm0).vm from hZ) hown w wi wz eT (g := mkF m pc L S) rfl (hb C.2.1 hd) (by omega) (by omega)
  obtain ⟨H', hB'⟩ := hC.1.step (h' := h') fun y _ cell hc => E.2 _ _ hc
  have hs : ∀ x ∈ h.size :: sf, x < h'.size ∧ Safe Z EL vm0 h' x := fun x hx => by
    rcases List.mem_cons.mp hx with rfl | hx
    · exact ⟨A.lt, (Safe.new (Nat.le_refl _)).ext E hC.1⟩
    · exact ⟨Nat.lt_of_lt_of_le (hF x hx).1 E.1, (hF x hx).2.ext E hC.1⟩
  obtain ⟨t, o, r1, r⟩ := K h' h.size rfl E A D T' _ (k + 1) (n' + n) vm0 k0 X' (by omega) (by omega) e' N hZ hown hS (Nat.le_trans hk0 E.1) (hC.trans (CHr.ext E hC.1)) (fun y hy => hB y (hB' y hy)) hs
  exact ⟨t, o, st _ r1, r⟩
theorem s_newArr (C : Cx p s m meth c Z own bytes maxL ret nm) {aty : ArrayType} {ty : FieldType} {n : Int32} (w : (Jvm.Cond.arrayClass ty).before a0 Z = true) (hty : newarray.typeOf aty = ty) (hn : ¬ n < 0) {cap : Nat} (hcap : n.toNatClampNeg ≤ cap) (hb' : cap * 8 ≤ 536870912) {cells' slots' : Nat} (hc1 : cells + 1 = cells') (hs1 : slots + cap = slots') (hc : cells' ≤ R.cells) (hl : slots' ≤ R.slots)
    (hd : decode bytes pc = .ok (.newarray aty, 2)) (hq : pc + 2 = q) (K : ∀ h' a, a = h.size → Ext h h' → Ar Z h' a ty (List.replicate n.toNatClampNeg (defaultValue ty)) → AtS p l e R s m args below meth c Z EL own n0 Q mk (a :: sf) h' cells' slots' (mkF m q L (.ref a :: S))) : AtS p l e R s m args below meth c Z EL own n0 Q mk sf h cells slots (mkF m pc L (.int n :: S)) := by
  subst hq hc1 hs1 hty
  intro T locs k n' vm0 k0 X hk hn' eT N hZ hown hS hk0 hC hB hF
  obtain ⟨T', h', cA, X', e', E, A, st⟩ := newP X C.1 (show Z.Warmed39 (s.setVm vm0).vm from hZ) w eT (g := mkF m pc L (.int n :: S)) rfl (hb C.2.1 hd) rfl hn hcap hb' (by omega) (by omega)
  have q := nat_of_nonneg hn
  have V := (Arv.new A hn).pad (pad_rep [] (defaultValue (newarray.typeOf aty)) n.toNatClampNeg)
  obtain ⟨H', hB'⟩ := hC.1.step (h' := h') fun y _ cell hc => E.2 _ _ hc
  have hs : ∀ x ∈ h.size :: sf, x < h'.size ∧ Safe Z EL vm0 h' x := fun x hx => by
    rcases List.mem_cons.mp hx with rfl | hx
    · exact ⟨V.lt, (Safe.new (Nat.le_refl _)).ext E hC.1⟩
    · exact ⟨Nat.lt_of_lt_of_le (hF x hx).1 E.1, (hF x hx).2.ext E hC.1⟩
  obtain ⟨t, o, r1, r⟩ := K h' h.size rfl E ⟨by simpa using q.2, cA, by simpa [q.1] using V⟩ T' _ (k + 1) (n' + cap) vm0 k0 X' (by omega) (by omega) e' N hZ hown hS (Nat.le_trans hk0 E.1) (hC.trans (CHr.ext E hC.1)) (fun y hy => hB y (hB' y hy)) hs
  exact ⟨t, o, st _ r1, r⟩
theorem s_len (C : Cx p s m meth c Z own bytes maxL ret nm) {a : Addr} {ty : FieldType} {vs : List Value} {z : Int32} (A : Ar Z h a ty vs) (hz : Int32.ofNat vs.length = z) (hd : decode bytes pc = .ok (.arraylength, 1)) (hq : pc + 1 = q) (K : AtS p l e R s m args below meth c Z EL own n0 Q mk sf h cells slots (mkF m q L (.int z :: S))) : AtS p l e R s m args below meth c Z EL own n0 Q mk sf h cells slots (mkF m pc L (.ref a :: S)) := by
  subst hq hz
  obtain ⟨hlt, k, cl, Ar, -, hS, hM, -, -⟩ := A
  refine K.goX fun T locs k n vm0 X eT hZ hown t st => X.arraylength C.1 (by rw [eT]; exact Ar.1) (State.isArrayOf_alike (T := s.setVm vm0) hZ.alike Ar.2.1) (g := mkF m pc L (.ref a :: S)) rfl rfl (hb C.2.1 hd) t ?_
  rw [len_of hS hM]; exact st

theorem s_iaload (C : Cx p s m meth c Z own bytes maxL ret nm) {a : Addr} {vs : List Value} {j : Int32} {i : Nat} {v : Value} (A : Ar Z h a .int vs) (hj : j = Int32.ofNat i) (hv : vs[i]? = some v) (hd : decode bytes pc = .ok (.iaload, 1)) (hq : pc + 1 = q) (K : AtS p l e R s m args below meth c Z EL own n0 Q mk sf h cells slots (mkF m q L (v :: S))) : AtS p l e R s m args below meth c Z EL own n0 Q mk sf h cells slots (mkF m pc L (.int j :: .ref a :: S)) := by
  subst hq hj
  obtain ⟨hlt, k, cl, Ar, -, hS, hM, H, -⟩ := A
  obtain ⟨hi, hg⟩ := List.getElem?_eq_some_iff.mp hv
  have e1 := ofNat_nat (n := i) (by omega)
  have e2 := ofNat_nat hlt
  have hin : ¬ (Int32.ofNat i < 0 ∨ cl.slots.size ≤ (Int32.ofNat i).toNatClampNeg) := by
    rw [e1, hS, e2]; exact fun q => q.elim (ofNat_neg (by omega)) (by omega)
  refine K.goX fun T locs k n vm0 X eT hZ hown t st => X.iaload C.1 (j := Int32.ofNat i) (v := v) (by rw [eT]; exact Ar.1) (State.isArrayOf_alike (T := s.setVm vm0) hZ.alike Ar.2.1) Ar.2.2 hin (by rw [e1, H i (by rw [hS, e2]; exact hi)]; simp [List.getD, hv]) (g := mkF m pc L (.int (Int32.ofNat i) :: .ref a :: S)) rfl rfl (hb C.2.1 hd) t st
theorem s_caload (C : Cx p s m meth c Z own bytes maxL ret nm) {a : Addr} {vs : List Value} {j : Int32} {i : Nat} {v : Value} (A : Ar Z h a .char vs) (hj : j = Int32.ofNat i) (hv : vs[i]? = some v) (hd : decode bytes pc = .ok (.caload, 1)) (hq : pc + 1 = q) (K : AtS p l e R s m args below meth c Z EL own n0 Q mk sf h cells slots (mkF m q L (v :: S))) : AtS p l e R s m args below meth c Z EL own n0 Q mk sf h cells slots (mkF m pc L (.int j :: .ref a :: S)) := by
  subst hq hj
  obtain ⟨hlt, k, cl, Ar, -, hS, hM, H, -⟩ := A
  obtain ⟨hi, hg⟩ := List.getElem?_eq_some_iff.mp hv
  have e1 := ofNat_nat (n := i) (by omega)
  have e2 := ofNat_nat hlt
  have hin : ¬ (Int32.ofNat i < 0 ∨ cl.slots.size ≤ (Int32.ofNat i).toNatClampNeg) := by
    rw [e1, hS, e2]; exact fun q => q.elim (ofNat_neg (by omega)) (by omega)
  refine K.goX fun T locs k n vm0 X eT hZ hown t st => X.caload C.1 (j := Int32.ofNat i) (v := v) (by rw [eT]; exact Ar.1) (State.isArrayOf_alike (T := s.setVm vm0) hZ.alike Ar.2.1) Ar.2.2 hin (by rw [e1, H i (by rw [hS, e2]; exact hi)]; simp [List.getD, hv]) (g := mkF m pc L (.int (Int32.ofNat i) :: .ref a :: S)) rfl rfl (hb C.2.1 hd) t st
theorem s_baload (C : Cx p s m meth c Z own bytes maxL ret nm) {a : Addr} {vs : List Value} {j : Int32} {i : Nat} {v : Value} (A : Ar Z h a .byte vs) (hj : j = Int32.ofNat i) (hv : vs[i]? = some v) (hd : decode bytes pc = .ok (.baload, 1)) (hq : pc + 1 = q) (K : AtS p l e R s m args below meth c Z EL own n0 Q mk sf h cells slots (mkF m q L (v :: S))) : AtS p l e R s m args below meth c Z EL own n0 Q mk sf h cells slots (mkF m pc L (.int j :: .ref a :: S)) := by
  subst hq hj
  obtain ⟨hlt, k, cl, Ar, -, hS, hM, H, -⟩ := A
  obtain ⟨hi, hg⟩ := List.getElem?_eq_some_iff.mp hv
  have e1 := ofNat_nat (n := i) (by omega)
  have e2 := ofNat_nat hlt
  have hin : ¬ (Int32.ofNat i < 0 ∨ cl.slots.size ≤ (Int32.ofNat i).toNatClampNeg) := by
    rw [e1, hS, e2]; exact fun q => q.elim (ofNat_neg (by omega)) (by omega)
  refine K.goX fun T locs k n vm0 X eT hZ hown t st => X.baloadBytes C.1 (j := Int32.ofNat i) (v := v) (by rw [eT]; exact Ar.1) (State.isArrayOf_alike (T := s.setVm vm0) hZ.alike Ar.2.1) Ar.2.2 hin (by rw [e1, H i (by rw [hS, e2]; exact hi)]; simp [List.getD, hv]) (g := mkF m pc L (.int (Int32.ofNat i) :: .ref a :: S)) rfl rfl (hb C.2.1 hd) t st
theorem s_laload (C : Cx p s m meth c Z own bytes maxL ret nm) {a : Addr} {vs : List Value} {j : Int32} {i : Nat} {v : Value} (A : Ar Z h a .long vs) (hj : j = Int32.ofNat i) (hv : vs[i]? = some v) (hd : decode bytes pc = .ok (.laload, 1)) (hq : pc + 1 = q) (K : AtS p l e R s m args below meth c Z EL own n0 Q mk sf h cells slots (mkF m q L (v :: S))) : AtS p l e R s m args below meth c Z EL own n0 Q mk sf h cells slots (mkF m pc L (.int j :: .ref a :: S)) := by
  subst hq hj
  obtain ⟨hlt, k, cl, Ar, -, hS, hM, H, -⟩ := A
  obtain ⟨hi, hg⟩ := List.getElem?_eq_some_iff.mp hv
  have e1 := ofNat_nat (n := i) (by omega)
  have e2 := ofNat_nat hlt
  have hin : ¬ (Int32.ofNat i < 0 ∨ cl.slots.size ≤ (Int32.ofNat i).toNatClampNeg) := by
    rw [e1, hS, e2]; exact fun q => q.elim (ofNat_neg (by omega)) (by omega)
  refine K.goX fun T locs k n vm0 X eT hZ hown t st => X.laload C.1 (j := Int32.ofNat i) (v := v) (by rw [eT]; exact Ar.1) (State.isArrayOf_alike (T := s.setVm vm0) hZ.alike Ar.2.1) Ar.2.2 hin (by rw [e1, H i (by rw [hS, e2]; exact hi)]; simp [List.getD, hv]) (g := mkF m pc L (.int (Int32.ofNat i) :: .ref a :: S)) rfl rfl (hb C.2.1 hd) t st
theorem s_aaload (C : Cx p s m meth c Z own bytes maxL ret nm) {a : Addr} {ty : FieldType} {vs : List Value} {j : Int32} {i : Nat} {v : Value} (A : Ar Z h a ty vs) (hj : j = Int32.ofNat i) (hv : vs[i]? = some v) (hr : ty.isReference = true) (hd : decode bytes pc = .ok (.aaload, 1)) (hq : pc + 1 = q) (K : AtS p l e R s m args below meth c Z EL own n0 Q mk sf h cells slots (mkF m q L (v :: S))) : AtS p l e R s m args below meth c Z EL own n0 Q mk sf h cells slots (mkF m pc L (.int j :: .ref a :: S)) := by
  subst hq hj
  obtain ⟨hlt, k, cl, Ar, -, hS, hM, H, -⟩ := A
  obtain ⟨hi, hg⟩ := List.getElem?_eq_some_iff.mp hv
  have e1 := ofNat_nat (n := i) (by omega)
  have e2 := ofNat_nat hlt
  have hin : ¬ (Int32.ofNat i < 0 ∨ cl.slots.size ≤ (Int32.ofNat i).toNatClampNeg) := by
    rw [e1, hS, e2]; exact fun q => q.elim (ofNat_neg (by omega)) (by omega)
  refine K.goX fun T locs k n vm0 X eT hZ hown t st => X.aaload C.1 (j := Int32.ofNat i) (v := v) (by rw [eT]; exact Ar.1) (State.isArrayOf_alike (T := s.setVm vm0) hZ.alike Ar.2.1) hr Ar.2.2 hin (by rw [e1, H i (by rw [hS, e2]; exact hi)]; simp [List.getD, hv]) (g := mkF m pc L (.int (Int32.ofNat i) :: .ref a :: S)) rfl rfl (hb C.2.1 hd) t st
theorem s_iastore (C : Cx p s m meth c Z own bytes maxL ret nm) {a : Addr} {vs : List Value} {j : Int32} {i : Nat} {x : Int32} (A : Ar Z h a .int vs) (hj : j = Int32.ofNat i) (hi : i < vs.length) (hge : n0 ≤ a) (hd : decode bytes pc = .ok (.iastore, 1)) (hq : pc + 1 = q)
    (K : ∀ h', Wr h h' a i (.int x) → Ar Z h' a .int (vs.set i (.int x)) → AtS p l e R s m args below meth c Z EL own n0 Q mk sf h' cells slots (mkF m q L S)) : AtS p l e R s m args below meth c Z EL own n0 Q mk sf h cells slots (mkF m pc L (.int x :: .int j :: .ref a :: S)) := by
  subst hq hj
  intro T locs k n' vm0 k0 X hk hn' eT N hZ hown hS0 hk0 hC hB hF
  have hsafe := SfOk.safe (mk := mk) (sf := sf) (SfOk.arr A (by decide)) hZ.alike hB hF
  obtain ⟨hlt, k', cl, Ar, q1, hS, hM, H, G⟩ := A
  have e1 := ofNat_nat (n := i) (by omega)
  have e2 := ofNat_nat hlt
  have hin : ¬ (Int32.ofNat i < 0 ∨ cl.slots.size ≤ (Int32.ofNat i).toNatClampNeg) := by
    rw [e1, hS, e2]; exact fun q => q.elim (ofNat_neg (by omega)) (by omega)
  obtain ⟨T', h', X', e', W, st⟩ := stI X C.1 (show Z.Warmed39 (s.setVm vm0).vm from hZ) eT Ar (j := Int32.ofNat i) (x := x) hin (g := mkF m pc L (.int x :: .int (Int32.ofNat i) :: .ref a :: S)) rfl rfl (hb C.2.1 hd)
  have V := Arv.set Ar q1 hS hM H G (rfl) W i e1 hi
  obtain ⟨H', hB'⟩ := hC.1.wrStep W hsafe
  obtain ⟨t, o, r1, r⟩ := K h' (by rw [e1] at W; exact W) ⟨by simpa using hlt, k', by rw [List.length_set]; exact V⟩ T' _ k n' vm0 k0 X' hk hn' e' (Fr.snoc X' N hge) hZ hown hS0 (by rw [W.size]; exact hk0) (hC.trans (CHr.wr W hsafe hC.1)) (fun y hy => hB y (hB' y hy)) (fun x hx => ⟨by rw [W.size]; exact (hF x hx).1, Safe.wr W hsafe hC.1 (hF x hx).2⟩)
  exact ⟨t, o, st _ r1, r⟩
theorem s_castore (C : Cx p s m meth c Z own bytes maxL ret nm) {a : Addr} {vs : List Value} {j : Int32} {i : Nat} {x : Int32} {z : Int32} (hz : nar .char x = z) (A : Ar Z h a .char vs) (hj : j = Int32.ofNat i) (hi : i < vs.length) (hge : n0 ≤ a) (hd : decode bytes pc = .ok (.castore, 1)) (hq : pc + 1 = q)
    (K : ∀ h', Wr h h' a i (.int z) → Ar Z h' a .char (vs.set i (.int z)) → AtS p l e R s m args below meth c Z EL own n0 Q mk sf h' cells slots (mkF m q L S)) : AtS p l e R s m args below meth c Z EL own n0 Q mk sf h cells slots (mkF m pc L (.int x :: .int j :: .ref a :: S)) := by
  subst hq hj hz
  intro T locs k n' vm0 k0 X hk hn' eT N hZ hown hS0 hk0 hC hB hF
  have hsafe := SfOk.safe (mk := mk) (sf := sf) (SfOk.arr A (by decide)) hZ.alike hB hF
  obtain ⟨hlt, k', cl, Ar, q1, hS, hM, H, G⟩ := A
  have e1 := ofNat_nat (n := i) (by omega)
  have e2 := ofNat_nat hlt
  have hin : ¬ (Int32.ofNat i < 0 ∨ cl.slots.size ≤ (Int32.ofNat i).toNatClampNeg) := by
    rw [e1, hS, e2]; exact fun q => q.elim (ofNat_neg (by omega)) (by omega)
  obtain ⟨T', h', X', e', W, st⟩ := stC X C.1 (show Z.Warmed39 (s.setVm vm0).vm from hZ) eT Ar (j := Int32.ofNat i) (x := x) hin (g := mkF m pc L (.int x :: .int (Int32.ofNat i) :: .ref a :: S)) rfl rfl (hb C.2.1 hd)
  have V := Arv.set Ar q1 hS hM H G (fits_nar_char _) W i e1 hi
  obtain ⟨H', hB'⟩ := hC.1.wrStep W hsafe
  obtain ⟨t, o, r1, r⟩ := K h' (by rw [e1] at W; exact W) ⟨by simpa using hlt, k', by rw [List.length_set]; exact V⟩ T' _ k n' vm0 k0 X' hk hn' e' (Fr.snoc X' N hge) hZ hown hS0 (by rw [W.size]; exact hk0) (hC.trans (CHr.wr W hsafe hC.1)) (fun y hy => hB y (hB' y hy)) (fun x hx => ⟨by rw [W.size]; exact (hF x hx).1, Safe.wr W hsafe hC.1 (hF x hx).2⟩)
  exact ⟨t, o, st _ r1, r⟩
theorem s_bastore (C : Cx p s m meth c Z own bytes maxL ret nm) {a : Addr} {vs : List Value} {j : Int32} {i : Nat} {x : Int32} {z : Int32} (hz : nar .byte x = z) (A : Ar Z h a .byte vs) (hj : j = Int32.ofNat i) (hi : i < vs.length) (hge : n0 ≤ a) (hsf : SfOk Z h mk sf a) (hd : decode bytes pc = .ok (.bastore, 1)) (hq : pc + 1 = q)
    (K : ∀ h', Wr h h' a i (.int z) → Ar Z h' a .byte (vs.set i (.int z)) → AtS p l e R s m args below meth c Z EL own n0 Q mk sf h' cells slots (mkF m q L S)) : AtS p l e R s m args below meth c Z EL own n0 Q mk sf h cells slots (mkF m pc L (.int x :: .int j :: .ref a :: S)) := by
  subst hq hj hz
  intro T locs k n' vm0 k0 X hk hn' eT N hZ hown hS0 hk0 hC hB hF
  have hsafe := SfOk.safe (mk := mk) (sf := sf) hsf hZ.alike hB hF
  obtain ⟨hlt, k', cl, Ar, q1, hS, hM, H, G⟩ := A
  have e1 := ofNat_nat (n := i) (by omega)
  have e2 := ofNat_nat hlt
  have hin : ¬ (Int32.ofNat i < 0 ∨ cl.slots.size ≤ (Int32.ofNat i).toNatClampNeg) := by
    rw [e1, hS, e2]; exact fun q => q.elim (ofNat_neg (by omega)) (by omega)
  obtain ⟨T', h', X', e', W, st⟩ := stB X C.1 (show Z.Warmed39 (s.setVm vm0).vm from hZ) eT Ar (j := Int32.ofNat i) (x := x) hin (g := mkF m pc L (.int x :: .int (Int32.ofNat i) :: .ref a :: S)) rfl rfl (hb C.2.1 hd)
  have V := Arv.set Ar q1 hS hM H G (fits_nar_byte _) W i e1 hi
  obtain ⟨H', hB'⟩ := hC.1.wrStep W hsafe
  obtain ⟨t, o, r1, r⟩ := K h' (by rw [e1] at W; exact W) ⟨by simpa using hlt, k', by rw [List.length_set]; exact V⟩ T' _ k n' vm0 k0 X' hk hn' e' (Fr.snoc X' N hge) hZ hown hS0 (by rw [W.size]; exact hk0) (hC.trans (CHr.wr W hsafe hC.1)) (fun y hy => hB y (hB' y hy)) (fun x hx => ⟨by rw [W.size]; exact (hF x hx).1, Safe.wr W hsafe hC.1 (hF x hx).2⟩)
  exact ⟨t, o, st _ r1, r⟩
theorem s_lastore (C : Cx p s m meth c Z own bytes maxL ret nm) {a : Addr} {vs : List Value} {j : Int32} {i : Nat} {x : Int64} (A : Ar Z h a .long vs) (hj : j = Int32.ofNat i) (hi : i < vs.length) (hge : n0 ≤ a) (hd : decode bytes pc = .ok (.lastore, 1)) (hq : pc + 1 = q)
    (K : ∀ h', Wr h h' a i (.long x) → Ar Z h' a .long (vs.set i (.long x)) → AtS p l e R s m args below meth c Z EL own n0 Q mk sf h' cells slots (mkF m q L S)) : AtS p l e R s m args below meth c Z EL own n0 Q mk sf h cells slots (mkF m pc L (.long x :: .int j :: .ref a :: S)) := by
  subst hq hj
  intro T locs k n' vm0 k0 X hk hn' eT N hZ hown hS0 hk0 hC hB hF
  have hsafe := SfOk.safe (mk := mk) (sf := sf) (SfOk.arr A (by decide)) hZ.alike hB hF
  obtain ⟨hlt, k', cl, Ar, q1, hS, hM, H, G⟩ := A
  have e1 := ofNat_nat (n := i) (by omega)
  have e2 := ofNat_nat hlt
  have hin : ¬ (Int32.ofNat i < 0 ∨ cl.slots.size ≤ (Int32.ofNat i).toNatClampNeg) := by
    rw [e1, hS, e2]; exact fun q => q.elim (ofNat_neg (by omega)) (by omega)
  obtain ⟨T', h', X', e', W, st⟩ := stJ X C.1 (show Z.Warmed39 (s.setVm vm0).vm from hZ) eT Ar (j := Int32.ofNat i) (x := x) hin (g := mkF m pc L (.long x :: .int (Int32.ofNat i) :: .ref a :: S)) rfl rfl (hb C.2.1 hd)
  have V := Arv.set Ar q1 hS hM H G (rfl) W i e1 hi
  obtain ⟨H', hB'⟩ := hC.1.wrStep W hsafe
  obtain ⟨t, o, r1, r⟩ := K h' (by rw [e1] at W; exact W) ⟨by simpa using hlt, k', by rw [List.length_set]; exact V⟩ T' _ k n' vm0 k0 X' hk hn' e' (Fr.snoc X' N hge) hZ hown hS0 (by rw [W.size]; exact hk0) (hC.trans (CHr.wr W hsafe hC.1)) (fun y hy => hB y (hB' y hy)) (fun x hx => ⟨by rw [W.size]; exact (hF x hx).1, Safe.wr W hsafe hC.1 (hF x hx).2⟩)
  exact ⟨t, o, st _ r1, r⟩
theorem s_retZ (C : Cx p s m meth c Z own bytes maxL ret nm) (hEL : EW Z a0 EL) {t : FieldType} {x z : Int32} (hret : ret = some t) (ht : t = .boolean ∨ t = .byte ∨ t = .char ∨ t = .short) (hz : nar t x = z) (hd : decode bytes pc = .ok (.ireturn, 1)) (hc : cells ≤ R.cells) (hs : slots ≤ R.slots) (hQ : Q (some (.int z)) h) : AtS p l e R s m args below meth c Z EL own n0 Q mk sf h cells slots (mkF m pc L (.int x :: S)) := by
  subst hz
  intro T locs k n vm0 k0 X hk hn eT N hZ hown hS hk0 hC hB hF
  obtain ⟨fs, hr, hrun, hended, hW1, hW2, hW3, hW4⟩ := X.leaveW hS (by rw [eT]; exact hk0) (v := some (.int (nar t x))) (fun h => by rw [C.2.2.2.2.2.1, hret] at h; cases h) C.2.2.2.2.2.2.1
  have hA := hC.trans (CHv.at (h := h) X hZ hEL hC.1)
  refine ⟨_, _, retN X C.1 (t := t) (C.2.2.2.2.2.1.trans hret) ht (hb C.2.1 hd) hr, hrun, hended, _, _, rfl, ⟨N, ?_⟩, ?_, hW1, hW2, hW3, hW4.mono (Nat.le_trans hk hc) (Nat.le_trans hn hs)⟩
  · show Q _ T.heap
    rw [eT]; exact hQ
  · show CHr Z EL s.vm s.heap T.vm T.heap
    rw [eT]; exact hA
theorem s_ret (C : Cx p s m meth c Z own bytes maxL ret nm) (hEL : EW Z a0 EL) {t : FieldType} {v : Value} {i : Instr} (hret : ret = some t) (hn' : narrow t v = v)
    (hi : (i = .ireturn ∧ (t = .int ∨ t = .boolean ∨ t = .byte ∨ t = .char ∨ t = .short) ∧ ∃ z, v = .int z) ∨ (i = .lreturn ∧ t = .long ∧ ∃ z, v = .long z) ∨ (i = .dreturn ∧ t = .double ∧ ∃ z, v = .double z) ∨ (i = .freturn ∧ t = .float ∧ ∃ z, v = .float z) ∨ (i = .areturn ∧ t.isReference = true ∧ v.isRef = true))
    (hd : decode bytes pc = .ok (i, 1)) (hc : cells ≤ R.cells) (hs : slots ≤ R.slots) (hQ : Q (some v) h) : AtS p l e R s m args below meth c Z EL own n0 Q mk sf h cells slots (mkF m pc L (v :: S)) := by
  intro T locs k n vm0 k0 X hk hn eT N hZ hown hS hk0 hC hB hF
  obtain ⟨fs, hr, hrun, hended, hW1, hW2, hW3, hW4⟩ := X.leaveW hS (by rw [eT]; exact hk0) (v := some v) (fun h => by rw [C.2.2.2.2.2.1, hret] at h; cases h) C.2.2.2.2.2.2.1
  have hA := hC.trans (CHv.at (h := h) X hZ hEL hC.1)
  refine ⟨_, _, retOut X C.1 (t := t) (C.2.2.2.2.2.1.trans hret) hn' hi (hb C.2.1 hd) hr, hrun, hended, _, _, rfl, ⟨N, ?_⟩, ?_, hW1, hW2, hW3, hW4.mono (Nat.le_trans hk hc) (Nat.le_trans hn hs)⟩
  · show Q _ T.heap
    rw [eT]; exact hQ
  · show CHr Z EL s.vm s.heap T.vm T.heap
    rw [eT]; exact hA
theorem s_retI (C : Cx p s m meth c Z own bytes maxL ret nm) (hEL : EW Z a0 EL) {x : Int32} (hret : ret = some .int) (hd : decode bytes pc = .ok (.ireturn, 1)) (hc : cells ≤ R.cells) (hs : slots ≤ R.slots) (hQ : Q (some (.int x)) h) : AtS p l e R s m args below meth c Z EL own n0 Q mk sf h cells slots (mkF m pc L (.int x :: S)) :=
  s_ret C hEL hret rfl (Or.inl ⟨rfl, Or.inl rfl, _, rfl⟩) hd hc hs hQ
theorem s_retJ (C : Cx p s m meth c Z own bytes maxL ret nm) (hEL : EW Z a0 EL) {x : Int64} (hret : ret = some .long) (hd : decode bytes pc = .ok (.lreturn, 1)) (hc : cells ≤ R.cells) (hs : slots ≤ R.slots) (hQ : Q (some (.long x)) h) : AtS p l e R s m args below meth c Z EL own n0 Q mk sf h cells slots (mkF m pc L (.long x :: S)) :=
  s_ret C hEL hret rfl (Or.inr (Or.inl ⟨rfl, rfl, _, rfl⟩)) hd hc hs hQ
theorem s_retA (C : Cx p s m meth c Z own bytes maxL ret nm) (hEL : EW Z a0 EL) {t : FieldType} {v : Value} (hret : ret = some t) (ht : t.isReference = true) (hv : v.isRef = true) (hd : decode bytes pc = .ok (.areturn, 1)) (hc : cells ≤ R.cells) (hs : slots ≤ R.slots) (hQ : Q (some v) h) : AtS p l e R s m args below meth c Z EL own n0 Q mk sf h cells slots (mkF m pc L (v :: S)) :=
  s_ret C hEL hret (by rcases ref_cases hv with rfl | ⟨a, rfl⟩ <;> cases t <;> first | rfl | cases ht) (Or.inr (Or.inr (Or.inr (Or.inr ⟨rfl, ht, hv⟩)))) hd hc hs hQ
theorem s_retV (C : Cx p s m meth c Z own bytes maxL ret nm) (hEL : EW Z a0 EL) (hret : ret = none) (hd : decode bytes pc = .ok (.return_, 1)) (hc : cells ≤ R.cells) (hs : slots ≤ R.slots) (hQ : Q none h) : AtS p l e R s m args below meth c Z EL own n0 Q mk sf h cells slots (mkF m pc L []) := by
  intro T locs k n vm0 k0 X hk hn eT N hZ hown hS hk0 hC hB hF
  obtain ⟨fs, hr, hrun, hended, hW1, hW2, hW3, hW4⟩ := X.leaveW hS (by rw [eT]; exact hk0) (v := none) (fun h => by rfl) C.2.2.2.2.2.2.1
  have hA := hC.trans (CHv.at (h := h) X hZ hEL hC.1)
  refine ⟨_, _, X.returnOut C.1 (C.2.2.2.2.2.1.trans hret) (hb C.2.1 hd) hr, hrun, hended, _, _, rfl, ⟨N, ?_⟩, ?_, hW1, hW2, hW3, hW4.mono (Nat.le_trans hk hc) (Nat.le_trans hn hs)⟩
  · show Q _ T.heap
    rw [eT]; exact hQ
  · show CHr Z EL s.vm s.heap T.vm T.heap
    rw [eT]; exact hA

theorem s_callS1 (C : Cx p s m meth c Z own bytes maxL ret nm) {y : MethodName} {i : Nat} {argsL : List Value} {bytesY : ByteArray} {maxY : Nat} {retY : Option FieldType} {rm : Room} {Qy : Option Value → Heap → Prop} (w1 : (Jvm.Cond.methodLink own i y).before a0 Z = true) (w2 : (Jvm.Cond.static y).before a0 Z = true) (wz : (Jvm.Cond.initialized y.cls).before a0 Z = true) (wc : (Jvm.Cond.code y bytesY maxY retY).before a0 Z = true)
    (hy : y.cls ≠ "java/lang/invoke/MethodHandle" ∧ y.cls ≠ "java/lang/invoke/VarHandle") (ct : Ct [] l Z n0 y bytesY maxY retY rm argsL.toArray h Qy) {S' : List Value} (hS : S' = argsL.reverse ++ S) (hlen : ∀ sig, parseMethodDescriptor y.desc = some sig → argsL.length = sig.parameters.length) (hL : L.size = maxL) (hf : rm.frames + 1 ≤ R.frames) {W : Nat} (hW : (S.map fun v => v.category).sum ≤ W) (hlo : W + (maxY + 11) + rm.locals ≤ R.locals) {cells' slots' : Nat} (hc1 : cells + rm.cells = cells') (hs1 : slots + rm.slots = slots') (hc : cells' ≤ R.cells) (hl : slots' ≤ R.slots) {wl : List Addr} (hKp : ∀ v h', Qy v h' → Keep h h' wl) (hSf : ∀ x ∈ wl, SfOk Z h mk sf x)
    (hd : decode bytes pc = .ok (.invokestatic i, 3)) (hq : pc + 3 = q) (K : ∀ v h', Qy v h' → AtS p l e R s m args below meth c Z EL own n0 Q mk sf h' cells' slots' (mkF m q L (v.toList ++ S))) : AtS p l e R s m args below meth c Z EL own n0 Q mk sf h cells slots (mkF m pc L S') := by
  subst hq hc1 hs1
  intro T locs k n' vm0 k0 X hk hn' eT N hZ hown hS0 hk0 hC hB hF
  obtain ⟨v, _, ⟨T', L', k', n''⟩, -, X', ⟨Lc, hQ, hl', hc', hs'⟩, st⟩ := Jvm.LawKit.callS X C.1 (y := y) hown (mvT (s := s.setVm vm0) hZ w1) (mvT (s := s.setVm vm0) hZ w2) (mvT (s := s.setVm vm0) hZ wz) (mvT (s := s.setVm vm0) hZ wc) hy (backOf (s := s.setVm vm0) (W := W) (Q := fun v h L => Fr n0 L ∧ Qy v h) ct hZ wc wz hf hlo) (g := mkF m pc L S') rfl (hL.trans C.2.2.1.symm) (argsL := argsL) (rest := S) hlen hS (by show 2 * 0 + _ ≤ _; omega) (hb C.2.1 hd) (fun _ _ => ⟨rfl, eT, (by show k + _ ≤ _; omega), (by show n' + _ ≤ _; omega)⟩)
  dsimp only [Pt.U, Pt.locs, Pt.cells, Pt.slots] at X' hl' hc' hs' st hQ
  subst hl' hc' hs'
  have hKp' := hKp v T'.heap hQ.2
  have hsafe : ∀ x ∈ wl, Safe Z EL vm0 h x := fun x hx => (hSf x hx).safe hZ.alike hB hF
  obtain ⟨H', hB'⟩ := hC.1.keepStep hKp' hsafe
  obtain ⟨t, o, r1, r⟩ := K v T'.heap hQ.2 T' _ _ _ vm0 k0 X' (by omega) (by omega) rfl (Fr.app N hQ.1) hZ hown hS0 (Nat.le_trans hk0 hKp'.1) (hC.trans (CHr.keep hKp' hsafe hC.1)) (fun y hy => hB y (hB' y hy)) (fun x hx => ⟨Nat.lt_of_lt_of_le (hF x hx).1 hKp'.1, (hF x hx).2.keep hKp' hsafe hC.1⟩)
  exact ⟨t, o, st _ r1, r⟩
theorem s_callI1 (C : Cx p s m meth c Z own bytes maxL ret nm) {y : MethodName} {i : Nat} {a : Addr} {argsL : List Value} {bytesY : ByteArray} {maxY : Nat} {rm : Room} {Qy : Option Value → Heap → Prop} (hnm : y.name = "<init>") (w1 : (Jvm.Cond.methodLink own i y).before a0 Z = true) (w2 : (Jvm.Cond.instanceMethod y).before a0 Z = true) (wz : (Jvm.Cond.initialized y.cls).before a0 Z = true) (wc : (Jvm.Cond.code y bytesY maxY none).before a0 Z = true)
    (hy : y.cls ≠ "java/lang/invoke/MethodHandle" ∧ y.cls ≠ "java/lang/invoke/VarHandle") (ct : Ct [] l Z n0 y bytesY maxY none rm (.ref a :: argsL).toArray h Qy) {S' : List Value} (hS : S' = argsL.reverse ++ .ref a :: S) (hlen : ∀ sig, parseMethodDescriptor y.desc = some sig → argsL.length = sig.parameters.length) (hL : L.size = maxL) (hf : rm.frames + 1 ≤ R.frames) {W : Nat} (hW : (S.map fun v => v.category).sum ≤ W) (hlo : W + (maxY + 11) + rm.locals ≤ R.locals) {cells' slots' : Nat} (hc1 : cells + rm.cells = cells') (hs1 : slots + rm.slots = slots') (hc : cells' ≤ R.cells) (hl : slots' ≤ R.slots) {wl : List Addr} (hKp : ∀ v h', Qy v h' → Keep h h' wl) (hSf : ∀ x ∈ wl, SfOk Z h mk sf x)
    (hd : decode bytes pc = .ok (.invokespecial i, 3)) (hq : pc + 3 = q) (K : ∀ v h', Qy v h' → AtS p l e R s m args below meth c Z EL own n0 Q mk sf h' cells' slots' (mkF m q L (v.toList ++ S))) : AtS p l e R s m args below meth c Z EL own n0 Q mk sf h cells slots (mkF m pc L S') := by
  subst hq hc1 hs1
  intro T locs k n' vm0 k0 X hk hn' eT N hZ hown hS0 hk0 hC hB hF
  obtain ⟨v, _, ⟨T', L', k', n''⟩, -, X', ⟨Lc, hQ, hl', hc', hs'⟩, st⟩ := X.specialBack C.1 (y := y) hnm hown (mvT (s := s.setVm vm0) hZ w1) (mvT (s := s.setVm vm0) hZ w2) (mvT (s := s.setVm vm0) hZ wc) hy (backOf (s := s.setVm vm0) (W := W) (Q := fun v h L => Fr n0 L ∧ Qy v h) ct hZ wc wz hf hlo) (g := mkF m pc L S') rfl (hL.trans C.2.2.1.symm) (Steps.refl _) (a := a) (argsL := argsL) (rest := S) hlen hS (by show 2 * 0 + _ ≤ _; omega) (hb C.2.1 hd) (fun _ _ => ⟨rfl, eT, (by show k + _ ≤ _; omega), (by show n' + _ ≤ _; omega)⟩)
  dsimp only [Pt.U, Pt.locs, Pt.cells, Pt.slots] at X' hl' hc' hs' st hQ
  subst hl' hc' hs'
  have hKp' := hKp v T'.heap hQ.2
  have hsafe : ∀ x ∈ wl, Safe Z EL vm0 h x := fun x hx => (hSf x hx).safe hZ.alike hB hF
  obtain ⟨H', hB'⟩ := hC.1.keepStep hKp' hsafe
  obtain ⟨t, o, r1, r⟩ := K v T'.heap hQ.2 T' _ _ _ vm0 k0 X' (by omega) (by omega) rfl (Fr.app N hQ.1) hZ hown hS0 (Nat.le_trans hk0 hKp'.1) (hC.trans (CHr.keep hKp' hsafe hC.1)) (fun y hy => hB y (hB' y hy)) (fun x hx => ⟨Nat.lt_of_lt_of_le (hF x hx).1 hKp'.1, (hF x hx).2.keep hKp' hsafe hC.1⟩)
  exact ⟨t, o, st.trans r1, r⟩
theorem s_callV1 (C : Cx p s m meth c Z own bytes maxL ret nm) {y z : MethodName} {Cl : String} {i : Nat} {a : Addr} {argsL : List Value} {bytesY : ByteArray} {maxY : Nat} {retY : Option FieldType} {rm : Room} {Qy : Option Value → Heap → Prop} (E : Exa Z h a Cl) (w1 : (Jvm.Cond.methodLink own i y).before a0 Z = true) (w2 : (Jvm.Cond.declares y).before a0 Z = true) (hnf : ∀ vm0, Z.Warmed39 vm0 → NotFace (s.setVm vm0) y) (w3 : (Jvm.Cond.selects Cl y z).before a0 Z = true) (w4 : (Jvm.Cond.instanceMethod z).before a0 Z = true) (wz : (Jvm.Cond.initialized z.cls).before a0 Z = true) (wc : (Jvm.Cond.code z bytesY maxY retY).before a0 Z = true)
    (hy : y.cls ≠ "java/lang/invoke/MethodHandle" ∧ y.cls ≠ "java/lang/invoke/VarHandle") (ct : Ct [] l Z n0 z bytesY maxY retY rm (.ref a :: argsL).toArray h Qy) {S' : List Value} (hS : S' = argsL.reverse ++ .ref a :: S) (hlen : ∀ sig, parseMethodDescriptor y.desc = some sig → argsL.length = sig.parameters.length) (hL : L.size = maxL) (hf : rm.frames + 1 ≤ R.frames) {W : Nat} (hW : (S.map fun v => v.category).sum ≤ W) (hlo : W + (maxY + 11) + rm.locals ≤ R.locals) {cells' slots' : Nat} (hc1 : cells + rm.cells = cells') (hs1 : slots + rm.slots = slots') (hc : cells' ≤ R.cells) (hl : slots' ≤ R.slots) {wl : List Addr} (hKp : ∀ v h', Qy v h' → Keep h h' wl) (hSf : ∀ x ∈ wl, SfOk Z h mk sf x)
    (hd : decode bytes pc = .ok (.invokevirtual i, 3)) (hq : pc + 3 = q) (K : ∀ v h', Qy v h' → AtS p l e R s m args below meth c Z EL own n0 Q mk sf h' cells' slots' (mkF m q L (v.toList ++ S))) : AtS p l e R s m args below meth c Z EL own n0 Q mk sf h cells slots (mkF m pc L S') := by
  subst hq hc1 hs1
  intro T locs k n' vm0 k0 X hk hn' eT N hZ hown hS0 hk0 hC hB hF
  obtain ⟨cB, kB, q1, q2, q3⟩ := isOf (s := s.setVm vm0) hZ eT E
  obtain ⟨v, _, ⟨T', L', k', n''⟩, -, X', ⟨Lc, hQ, hl', hc', hs'⟩, st⟩ := X.virtualBack C.1 (y := y) (z := z) hown (mvT (s := s.setVm vm0) hZ w1) (mvT (s := s.setVm vm0) hZ w2) (hnf vm0 hZ) (mvT (s := s.setVm vm0) hZ w3) (mvT (s := s.setVm vm0) hZ w4) hy (backOf (s := s.setVm vm0) (W := W) (Q := fun v h L => Fr n0 L ∧ Qy v h) ct hZ wc wz hf hlo) q1 q3 (g := mkF m pc L S') rfl (hL.trans C.2.2.1.symm) (Steps.refl _) (argsL := argsL) (rest := S) hlen hS (by show 2 * 0 + _ ≤ _; omega) (hb C.2.1 hd) (fun _ _ => ⟨rfl, eT, (by show k + _ ≤ _; omega), (by show n' + _ ≤ _; omega)⟩)
  dsimp only [Pt.U, Pt.locs, Pt.cells, Pt.slots] at X' hl' hc' hs' st hQ
  subst hl' hc' hs'
  have hKp' := hKp v T'.heap hQ.2
  have hsafe : ∀ x ∈ wl, Safe Z EL vm0 h x := fun x hx => (hSf x hx).safe hZ.alike hB hF
  obtain ⟨H', hB'⟩ := hC.1.keepStep hKp' hsafe
  obtain ⟨t, o, r1, r⟩ := K v T'.heap hQ.2 T' _ _ _ vm0 k0 X' (by omega) (by omega) rfl (Fr.app N hQ.1) hZ hown hS0 (Nat.le_trans hk0 hKp'.1) (hC.trans (CHr.keep hKp' hsafe hC.1)) (fun y hy => hB y (hB' y hy)) (fun x hx => ⟨Nat.lt_of_lt_of_le (hF x hx).1 hKp'.1, (hF x hx).2.keep hKp' hsafe hC.1⟩)
  exact ⟨t, o, st.trans r1, r⟩
theorem s_callP1 (C : Cx p s m meth c Z own bytes maxL ret nm) {y : MethodName} {Cl : String} {i : Nat} {a : Addr} {argsL : List Value} {bytesY : ByteArray} {maxY : Nat} {retY : Option FieldType} {rm : Room} {Qy : Option Value → Heap → Prop} (E : Exa Z h a Cl) (w1 : (Jvm.Cond.methodLink own i y).before a0 Z = true) (w4 : (Jvm.Cond.instanceMethod y).before a0 Z = true) (hni : ∀ vm0, Z.Warmed39 vm0 → NI (s.setVm vm0) y.cls) (w5 : (Jvm.Cond.privateMethod y).before a0 Z = true) (wz : (Jvm.Cond.initialized y.cls).before a0 Z = true) (wc : (Jvm.Cond.code y bytesY maxY retY).before a0 Z = true)
    (hy : y.cls ≠ "java/lang/invoke/MethodHandle" ∧ y.cls ≠ "java/lang/invoke/VarHandle") (ct : Ct [] l Z n0 y bytesY maxY retY rm (.ref a :: argsL).toArray h Qy) {S' : List Value} (hS : S' = argsL.reverse ++ .ref a :: S) (hlen : ∀ sig, parseMethodDescriptor y.desc = some sig → argsL.length = sig.parameters.length) (hL : L.size = maxL) (hf : rm.frames + 1 ≤ R.frames) {W : Nat} (hW : (S.map fun v => v.category).sum ≤ W) (hlo : W + (maxY + 11) + rm.locals ≤ R.locals) {cells' slots' : Nat} (hc1 : cells + rm.cells = cells') (hs1 : slots + rm.slots = slots') (hc : cells' ≤ R.cells) (hl : slots' ≤ R.slots) {wl : List Addr} (hKp : ∀ v h', Qy v h' → Keep h h' wl) (hSf : ∀ x ∈ wl, SfOk Z h mk sf x)
    (hd : decode bytes pc = .ok (.invokevirtual i, 3)) (hq : pc + 3 = q) (K : ∀ v h', Qy v h' → AtS p l e R s m args below meth c Z EL own n0 Q mk sf h' cells' slots' (mkF m q L (v.toList ++ S))) : AtS p l e R s m args below meth c Z EL own n0 Q mk sf h cells slots (mkF m pc L S') := by
  subst hq hc1 hs1
  intro T locs k n' vm0 k0 X hk hn' eT N hZ hown hS0 hk0 hC hB hF
  obtain ⟨cq, q1, q2⟩ := E.cell
  obtain ⟨cN, kN, n1, n2, n3⟩ := hni vm0 hZ
  have hpv := Cond.privateMethod_at (mvP (s := s.setVm vm0) hZ w5 (args := #[]))
  obtain ⟨v, _, ⟨T', L', k', n''⟩, -, X', ⟨Lc, hQ, hl', hc', hs'⟩, st⟩ := X.privateBack C.1 (y := y) hown (mvT (s := s.setVm vm0) hZ w1) (mvT (s := s.setVm vm0) hZ w4) (selects_self_of_private n1 n2 n3 hpv (mvT (s := s.setVm vm0) hZ w4) hy) hpv (mvT (s := s.setVm vm0) hZ wc) hy (backOf (s := s.setVm vm0) (W := W) (Q := fun v h L => Fr n0 L ∧ Qy v h) ct hZ wc wz hf hlo) (g := mkF m pc L S') rfl (hL.trans C.2.2.1.symm) (Steps.refl _) (a := a) (by rw [eT]; exact q1) q2 (argsL := argsL) (rest := S) hlen hS (by show 2 * 0 + _ ≤ _; omega) (hb C.2.1 hd) (fun _ _ => ⟨rfl, eT, (by show k + _ ≤ _; omega), (by show n' + _ ≤ _; omega)⟩)
  dsimp only [Pt.U, Pt.locs, Pt.cells, Pt.slots] at X' hl' hc' hs' st hQ
  subst hl' hc' hs'
  have hKp' := hKp v T'.heap hQ.2
  have hsafe : ∀ x ∈ wl, Safe Z EL vm0 h x := fun x hx => (hSf x hx).safe hZ.alike hB hF
  obtain ⟨H', hB'⟩ := hC.1.keepStep hKp' hsafe
  obtain ⟨t, o, r1, r⟩ := K v T'.heap hQ.2 T' _ _ _ vm0 k0 X' (by omega) (by omega) rfl (Fr.app N hQ.1) hZ hown hS0 (Nat.le_trans hk0 hKp'.1) (hC.trans (CHr.keep hKp' hsafe hC.1)) (fun y hy => hB y (hB' y hy)) (fun x hx => ⟨Nat.lt_of_lt_of_le (hF x hx).1 hKp'.1, (hF x hx).2.keep hKp' hsafe hC.1⟩)
  exact ⟨t, o, st.trans r1, r⟩
theorem s_callS2 (C : Cx p s m meth c Z own bytes maxL ret nm) (hEL : EW Z a0 EL) {y : MethodName} {i : Nat} {argsL : List Value} {bytesY : ByteArray} {maxY : Nat} {retY : Option FieldType} {rm : Room} {Qy : Option Value → Heap → Prop} (w1 : (Jvm.Cond.methodLink own i y).before a0 Z = true) (w2 : (Jvm.Cond.static y).before a0 Z = true) (wz : (Jvm.Cond.initialized y.cls).before a0 Z = true) (wc : (Jvm.Cond.code y bytesY maxY retY).before a0 Z = true)
    (hy : y.cls ≠ "java/lang/invoke/MethodHandle" ∧ y.cls ≠ "java/lang/invoke/VarHandle") (ct : Cs [] l Z EL n0 y bytesY maxY retY rm argsL.toArray h Qy) {S' : List Value} (hS : S' = argsL.reverse ++ S) (hlen : ∀ sig, parseMethodDescriptor y.desc = some sig → argsL.length = sig.parameters.length) (hL : L.size = maxL) (hf : rm.frames + 1 ≤ R.frames) {W : Nat} (hW : (S.map fun v => v.category).sum ≤ W) (hlo : W + (maxY + 11) + rm.locals ≤ R.locals) {cells' slots' : Nat} (hc1 : cells + rm.cells = cells') (hs1 : slots + rm.slots = slots') (hc : cells' ≤ R.cells) (hl : slots' ≤ R.slots) 
    (hd : decode bytes pc = .ok (.invokestatic i, 3)) (hq : pc + 3 = q) (K : ∀ v h', Qy v h' → AtS p l e R s m args below meth c Z EL own n0 Q h'.size sf h' cells' slots' (mkF m q L (v.toList ++ S))) : AtS p l e R s m args below meth c Z EL own n0 Q mk sf h cells slots (mkF m pc L S') := by
  subst hq hc1 hs1
  intro T locs k n' vm0 k0 X hk hn' eT N hZ hown hS0 hk0 hC hB hF
  obtain ⟨v, _, ⟨T', L', k', n''⟩, -, X', hSn, hgr, ⟨Lc, hQ, hl', hc', hs', hCr⟩, st⟩ := callSS X C.1 (y := y) hown (mvT (s := s.setVm vm0) hZ w1) (mvT (s := s.setVm vm0) hZ w2) (mvT (s := s.setVm vm0) hZ wz) (mvT (s := s.setVm vm0) hZ wc) hy (backOfSH (W := W) (Q := fun v h L => Fr n0 L ∧ Qy v h) ct hZ wc wz hf hlo hEL hC.1) (g := mkF m pc L S') rfl (hL.trans C.2.2.1.symm) (argsL := argsL) (rest := S) hlen hS (by show 2 * 0 + _ ≤ _; omega) (hb C.2.1 hd) (fun _ _ => ⟨rfl, eT, (by show k + _ ≤ _; omega), (by show n' + _ ≤ _; omega)⟩)
  dsimp only [Pt.U, Pt.locs, Pt.cells, Pt.slots] at X' hSn hgr hl' hc' hs' st hQ hCr
  subst hl' hc' hs'
  rw [eT] at hgr
  obtain ⟨X2, hS2, hZ2, hown2⟩ := rebS hS0 hk0 X' hSn hgr (show Z.Warmed39 (s.setVm vm0).vm from hZ) hown
  obtain ⟨t, o, r1, r⟩ := K v T'.heap hQ.2 T' _ _ _ T'.vm T'.heap.size X2 (by omega) (by omega) rfl (Fr.app N hQ.1) hZ2 hown2 hS2 (Nat.le_refl _) (hC.trans hCr) (fun y hy => bk_lt hy) (fun x hx => ⟨Nat.lt_of_lt_of_le (hF x hx).1 hgr, hCr.safe (hF x hx).1 (hF x hx).2⟩)
  exact ⟨t, o, st.trans r1, r⟩
theorem s_callI2 (C : Cx p s m meth c Z own bytes maxL ret nm) (hEL : EW Z a0 EL) {y : MethodName} {i : Nat} {a : Addr} {argsL : List Value} {bytesY : ByteArray} {maxY : Nat} {rm : Room} {Qy : Option Value → Heap → Prop} (hnm : y.name = "<init>") (w1 : (Jvm.Cond.methodLink own i y).before a0 Z = true) (w2 : (Jvm.Cond.instanceMethod y).before a0 Z = true) (wz : (Jvm.Cond.initialized y.cls).before a0 Z = true) (wc : (Jvm.Cond.code y bytesY maxY none).before a0 Z = true)
    (hy : y.cls ≠ "java/lang/invoke/MethodHandle" ∧ y.cls ≠ "java/lang/invoke/VarHandle") (ct : Cs [] l Z EL n0 y bytesY maxY none rm (.ref a :: argsL).toArray h Qy) {S' : List Value} (hS : S' = argsL.reverse ++ .ref a :: S) (hlen : ∀ sig, parseMethodDescriptor y.desc = some sig → argsL.length = sig.parameters.length) (hL : L.size = maxL) (hf : rm.frames + 1 ≤ R.frames) {W : Nat} (hW : (S.map fun v => v.category).sum ≤ W) (hlo : W + (maxY + 11) + rm.locals ≤ R.locals) {cells' slots' : Nat} (hc1 : cells + rm.cells = cells') (hs1 : slots + rm.slots = slots') (hc : cells' ≤ R.cells) (hl : slots' ≤ R.slots) 
    (hd : decode bytes pc = .ok (.invokespecial i, 3)) (hq : pc + 3 = q) (K : ∀ v h', Qy v h' → AtS p l e R s m args below meth c Z EL own n0 Q h'.size sf h' cells' slots' (mkF m q L (v.toList ++ S))) : AtS p l e R s m args below meth c Z EL own n0 Q mk sf h cells slots (mkF m pc L S') := by
  subst hq hc1 hs1
  intro T locs k n' vm0 k0 X hk hn' eT N hZ hown hS0 hk0 hC hB hF
  obtain ⟨v, _, ⟨T', L', k', n''⟩, -, X', hSn, hgr, ⟨Lc, hQ, hl', hc', hs', hCr⟩, st⟩ := X.specialBackS C.1 (y := y) hnm hown (mvT (s := s.setVm vm0) hZ w1) (mvT (s := s.setVm vm0) hZ w2) (mvT (s := s.setVm vm0) hZ wc) hy (backOfSH (W := W) (Q := fun v h L => Fr n0 L ∧ Qy v h) ct hZ wc wz hf hlo hEL hC.1) (g := mkF m pc L S') rfl (hL.trans C.2.2.1.symm) (Steps.refl _) (a := a) (argsL := argsL) (rest := S) hlen hS (by show 2 * 0 + _ ≤ _; omega) (hb C.2.1 hd) (fun _ _ => ⟨rfl, eT, (by show k + _ ≤ _; omega), (by show n' + _ ≤ _; omega)⟩)
  dsimp only [Pt.U, Pt.locs, Pt.cells, Pt.slots] at X' hSn hgr hl' hc' hs' st hQ hCr
  subst hl' hc' hs'
  rw [eT] at hgr
  obtain ⟨X2, hS2, hZ2, hown2⟩ := rebS hS0 hk0 X' hSn hgr (show Z.Warmed39 (s.setVm vm0).vm from hZ) hown
  obtain ⟨t, o, r1, r⟩ := K v T'.heap hQ.2 T' _ _ _ T'.vm T'.heap.size X2 (by omega) (by omega) rfl (Fr.app N hQ.1) hZ2 hown2 hS2 (Nat.le_refl _) (hC.trans hCr) (fun y hy => bk_lt hy) (fun x hx => ⟨Nat.lt_of_lt_of_le (hF x hx).1 hgr, hCr.safe (hF x hx).1 (hF x hx).2⟩)
  exact ⟨t, o, st.trans r1, r⟩
theorem s_callV2 (C : Cx p s m meth c Z own bytes maxL ret nm) (hEL : EW Z a0 EL) {y z : MethodName} {Cl : String} {i : Nat} {a : Addr} {argsL : List Value} {bytesY : ByteArray} {maxY : Nat} {retY : Option FieldType} {rm : Room} {Qy : Option Value → Heap → Prop} (E : Exa Z h a Cl) (w1 : (Jvm.Cond.methodLink own i y).before a0 Z = true) (w2 : (Jvm.Cond.declares y).before a0 Z = true) (hnf : ∀ vm0, Z.Warmed39 vm0 → NotFace (s.setVm vm0) y) (w3 : (Jvm.Cond.selects Cl y z).before a0 Z = true) (w4 : (Jvm.Cond.instanceMethod z).before a0 Z = true) (wz : (Jvm.Cond.initialized z.cls).before a0 Z = true) (wc : (Jvm.Cond.code z bytesY maxY retY).before a0 Z = true)
    (hy : y.cls ≠ "java/lang/invoke/MethodHandle" ∧ y.cls ≠ "java/lang/invoke/VarHandle") (ct : Cs [] l Z EL n0 z bytesY maxY retY rm (.ref a :: argsL).toArray h Qy) {S' : List Value} (hS : S' = argsL.reverse ++ .ref a :: S) (hlen : ∀ sig, parseMethodDescriptor y.desc = some sig → argsL.length = sig.parameters.length) (hL : L.size = maxL) (hf : rm.frames + 1 ≤ R.frames) {W : Nat} (hW : (S.map fun v => v.category).sum ≤ W) (hlo : W + (maxY + 11) + rm.locals ≤ R.locals) {cells' slots' : Nat} (hc1 : cells + rm.cells = cells') (hs1 : slots + rm.slots = slots') (hc : cells' ≤ R.cells) (hl : slots' ≤ R.slots) 
    (hd : decode bytes pc = .ok (.invokevirtual i, 3)) (hq : pc + 3 = q) (K : ∀ v h', Qy v h' → AtS p l e R s m args below meth c Z EL own n0 Q h'.size sf h' cells' slots' (mkF m q L (v.toList ++ S))) : AtS p l e R s m args below meth c Z EL own n0 Q mk sf h cells slots (mkF m pc L S') := by
  subst hq hc1 hs1
  intro T locs k n' vm0 k0 X hk hn' eT N hZ hown hS0 hk0 hC hB hF
  obtain ⟨cB, kB, q1, q2, q3⟩ := isOf (s := s.setVm vm0) hZ eT E
  obtain ⟨v, _, ⟨T', L', k', n''⟩, -, X', hSn, hgr, ⟨Lc, hQ, hl', hc', hs', hCr⟩, st⟩ := X.virtualBackS C.1 (y := y) (z := z) hown (mvT (s := s.setVm vm0) hZ w1) (mvT (s := s.setVm vm0) hZ w2) (hnf vm0 hZ) (mvT (s := s.setVm vm0) hZ w3) (mvT (s := s.setVm vm0) hZ w4) hy (backOfSH (W := W) (Q := fun v h L => Fr n0 L ∧ Qy v h) ct hZ wc wz hf hlo hEL hC.1) q1 q3 (g := mkF m pc L S') rfl (hL.trans C.2.2.1.symm) (Steps.refl _) (argsL := argsL) (rest := S) hlen hS (by show 2 * 0 + _ ≤ _; omega) (hb C.2.1 hd) (fun _ _ => ⟨rfl, eT, (by show k + _ ≤ _; omega), (by show n' + _ ≤ _; omega)⟩)
  dsimp only [Pt.U, Pt.locs, Pt.cells, Pt.slots] at X' hSn hgr hl' hc' hs' st hQ hCr
  subst hl' hc' hs'
  rw [eT] at hgr
  obtain ⟨X2, hS2, hZ2, hown2⟩ := rebS hS0 hk0 X' hSn hgr (show Z.Warmed39 (s.setVm vm0).vm from hZ) hown
  obtain ⟨t, o, r1, r⟩ := K v T'.heap hQ.2 T' _ _ _ T'.vm T'.heap.size X2 (by omega) (by omega) rfl (Fr.app N hQ.1) hZ2 hown2 hS2 (Nat.le_refl _) (hC.trans hCr) (fun y hy => bk_lt hy) (fun x hx => ⟨Nat.lt_of_lt_of_le (hF x hx).1 hgr, hCr.safe (hF x hx).1 (hF x hx).2⟩)
  exact ⟨t, o, st.trans r1, r⟩
theorem s_callP2 (C : Cx p s m meth c Z own bytes maxL ret nm) (hEL : EW Z a0 EL) {y : MethodName} {Cl : String} {i : Nat} {a : Addr} {argsL : List Value} {bytesY : ByteArray} {maxY : Nat} {retY : Option FieldType} {rm : Room} {Qy : Option Value → Heap → Prop} (E : Exa Z h a Cl) (w1 : (Jvm.Cond.methodLink own i y).before a0 Z = true) (w4 : (Jvm.Cond.instanceMethod y).before a0 Z = true) (hni : ∀ vm0, Z.Warmed39 vm0 → NI (s.setVm vm0) y.cls) (w5 : (Jvm.Cond.privateMethod y).before a0 Z = true) (wz : (Jvm.Cond.initialized y.cls).before a0 Z = true) (wc : (Jvm.Cond.code y bytesY maxY retY).before a0 Z = true)
    (hy : y.cls ≠ "java/lang/invoke/MethodHandle" ∧ y.cls ≠ "java/lang/invoke/VarHandle") (ct : Cs [] l Z EL n0 y bytesY maxY retY rm (.ref a :: argsL).toArray h Qy) {S' : List Value} (hS : S' = argsL.reverse ++ .ref a :: S) (hlen : ∀ sig, parseMethodDescriptor y.desc = some sig → argsL.length = sig.parameters.length) (hL : L.size = maxL) (hf : rm.frames + 1 ≤ R.frames) {W : Nat} (hW : (S.map fun v => v.category).sum ≤ W) (hlo : W + (maxY + 11) + rm.locals ≤ R.locals) {cells' slots' : Nat} (hc1 : cells + rm.cells = cells') (hs1 : slots + rm.slots = slots') (hc : cells' ≤ R.cells) (hl : slots' ≤ R.slots) 
    (hd : decode bytes pc = .ok (.invokevirtual i, 3)) (hq : pc + 3 = q) (K : ∀ v h', Qy v h' → AtS p l e R s m args below meth c Z EL own n0 Q h'.size sf h' cells' slots' (mkF m q L (v.toList ++ S))) : AtS p l e R s m args below meth c Z EL own n0 Q mk sf h cells slots (mkF m pc L S') := by
  subst hq hc1 hs1
  intro T locs k n' vm0 k0 X hk hn' eT N hZ hown hS0 hk0 hC hB hF
  obtain ⟨cq, q1, q2⟩ := E.cell
  obtain ⟨cN, kN, n1, n2, n3⟩ := hni vm0 hZ
  have hpv := Cond.privateMethod_at (mvP (s := s.setVm vm0) hZ w5 (args := #[]))
  obtain ⟨v, _, ⟨T', L', k', n''⟩, -, X', hSn, hgr, ⟨Lc, hQ, hl', hc', hs', hCr⟩, st⟩ := X.privateBackS C.1 (y := y) hown (mvT (s := s.setVm vm0) hZ w1) (mvT (s := s.setVm vm0) hZ w4) (selects_self_of_private n1 n2 n3 hpv (mvT (s := s.setVm vm0) hZ w4) hy) hpv (mvT (s := s.setVm vm0) hZ wc) hy (backOfSH (W := W) (Q := fun v h L => Fr n0 L ∧ Qy v h) ct hZ wc wz hf hlo hEL hC.1) (g := mkF m pc L S') rfl (hL.trans C.2.2.1.symm) (Steps.refl _) (a := a) (by rw [eT]; exact q1) q2 (argsL := argsL) (rest := S) hlen hS (by show 2 * 0 + _ ≤ _; omega) (hb C.2.1 hd) (fun _ _ => ⟨rfl, eT, (by show k + _ ≤ _; omega), (by show n' + _ ≤ _; omega)⟩)
  dsimp only [Pt.U, Pt.locs, Pt.cells, Pt.slots] at X' hSn hgr hl' hc' hs' st hQ hCr
  subst hl' hc' hs'
  rw [eT] at hgr
  obtain ⟨X2, hS2, hZ2, hown2⟩ := rebS hS0 hk0 X' hSn hgr (show Z.Warmed39 (s.setVm vm0).vm from hZ) hown
  obtain ⟨t, o, r1, r⟩ := K v T'.heap hQ.2 T' _ _ _ T'.vm T'.heap.size X2 (by omega) (by omega) rfl (Fr.app N hQ.1) hZ2 hown2 hS2 (Nat.le_refl _) (hC.trans hCr) (fun y hy => bk_lt hy) (fun x hx => ⟨Nat.lt_of_lt_of_le (hF x hx).1 hgr, hCr.safe (hF x hx).1 (hF x hx).2⟩)
  exact ⟨t, o, st.trans r1, r⟩
theorem s_nf {y : MethodName} {Cl : String} (w3 : (Jvm.Cond.selects Cl y y).before a0 Z = true) : ∀ vm0, Z.Warmed39 vm0 → NotFace (s.setVm vm0) y := fun vm0 hZ => notFace_of_selects (args := #[]) (mvT (s := s.setVm vm0) hZ w3)
theorem s_nfs {y : MethodName} {Cl : String} (w3 : (Jvm.Cond.superclass y.cls Cl).before a0 Z = true) : ∀ vm0, Z.Warmed39 vm0 → NotFace (s.setVm vm0) y := fun vm0 hZ => nf_super (args := #[]) (mvT (s := s.setVm vm0) hZ w3)
/-- ldc of a String constant: what it spells -/
theorem s_ldc (C : Cx p s m meth c Z own bytes maxL ret nm) (hEL : EW Z a0 EL) (wS : ∀ a ∈ Bundle.stringAtoms, a.before a0 Z = true) {text : String} {i : Nat} (w : (Jvm.Cond.stringLink own i text).before a0 Z = true) (hmem : (own, i) ∈ EL) {vs : List Value} (ht : (∀ c ∈ text.toList, c.toNat < 256) ∧ text.toList.map (fun c => Value.int (Jvm.Lit.byteI c.toNat.toUInt16)) = vs) (hvl : vs.length < 2 ^ 31)
    {n : Nat} (hn1 : 4 * text.toList.length ≤ n) (hbig : n ≤ 536870912) {cells' slots' : Nat} (hc1 : cells + 2 = cells') (hs1 : slots + (n + 4) = slots') (hc : cells' ≤ R.cells) (hl : slots' ≤ R.slots)
    (hd : decode bytes pc = .ok (.ldc i, 2)) (hq : pc + 2 = q) (K : ∀ h' a b, Ext h h' → Exa Z h' a "java/lang/String" → Fld Z h' a "java/lang/String" "coder" "B" (.int 0) → Fld Z h' a "java/lang/String" "value" "[B" (.ref b) → Ar Z h' b .byte vs → (∀ x ∈ sf, x ≠ a ∧ x ≠ b) → AtS p l e R s m args below meth c Z EL own n0 Q h'.size sf h' cells' slots' (mkF m q L (.ref a :: S))) : AtS p l e R s m args below meth c Z EL own n0 Q mk sf h cells slots (mkF m pc L S) := by
  subst hq hc1 hs1
  intro T locs k n' vm0 k0 X hk hn' eT N hZ hown hS0 hk0 hC hB hF
  obtain ⟨a, T', h', k1, b, kc, X', e', E, hS1, hk1, hZ1, hown1, f1, f2, f3, f4, -, -, hCr, -, hne, st⟩ := ldcCH X C.1 hZ hown w wS eT hS0 hk0 hEL hmem hC.1 ht (ofNat_neg hvl) (ofNat_nat hvl) (g := mkF m pc L S) rfl (hb C.2.1 hd) hn1 hbig (by omega) (by omega)
  have hsf : ∀ x ∈ sf, x < h'.size ∧ Safe Z EL T'.vm h' x := fun x hx => ⟨Nat.lt_of_lt_of_le (hF x hx).1 E.1, hCr.safe (hF x hx).1 (hF x hx).2⟩
  obtain ⟨t, o, r1, r⟩ := K h' a b E f1 f2 f3 ⟨hvl, kc, f4⟩ (fun x hx => hne x (hsf x hx).2) T' _ _ _ T'.vm k1 X' (by omega) (by omega) e' N hZ1 hown1 hS1 hk1 (hC.trans hCr) (fun y hy => bk_lt hy) hsf
  exact ⟨t, o, st _ r1, r⟩
/-- ldc of a String constant of which nothing is said -/
theorem s_ldcO (C : Cx p s m meth c Z own bytes maxL ret nm) (hEL : EW Z a0 EL) (wS : ∀ a ∈ Bundle.stringAtoms, a.before a0 Z = true) {text : String} {i : Nat} (w : (Jvm.Cond.stringLink own i text).before a0 Z = true)
    {n : Nat} (hn1 : 4 * text.toList.length ≤ n) (hbig : n ≤ 536870912) {cells' slots' : Nat} (hc1 : cells + 2 = cells') (hs1 : slots + (n + 4) = slots') (hc : cells' ≤ R.cells) (hl : slots' ≤ R.slots)
    (hd : decode bytes pc = .ok (.ldc i, 2)) (hq : pc + 2 = q) (K : ∀ h' a, Ext h h' → AtS p l e R s m args below meth c Z EL own n0 Q h'.size sf h' cells' slots' (mkF m q L (.ref a :: S))) : AtS p l e R s m args below meth c Z EL own n0 Q mk sf h cells slots (mkF m pc L S) := by
  subst hq hc1 hs1
  intro T locs k n' vm0 k0 X hk hn' eT N hZ hown hS0 hk0 hC hB hF
  obtain ⟨a, T', h', k1, X', e', E, hS1, hk1, hZ1, hown1, hCr, -, st⟩ := ldcOH X C.1 hZ hown w wS eT hS0 hk0 hEL hC.1 (g := mkF m pc L S) rfl (hb C.2.1 hd) hn1 hbig (by omega) (by omega)
  have hsf : ∀ x ∈ sf, x < h'.size ∧ Safe Z EL T'.vm h' x := fun x hx => ⟨Nat.lt_of_lt_of_le (hF x hx).1 E.1, hCr.safe (hF x hx).1 (hF x hx).2⟩
  obtain ⟨t, o, r1, r⟩ := K h' a E T' _ _ _ T'.vm k1 X' (by omega) (by omega) e' N hZ1 hown1 hS1 hk1 (hC.trans hCr) (fun y hy => bk_lt hy) hsf
  exact ⟨t, o, st _ r1, r⟩
end WkS
-- CUT
def own_off : List Int32 := [(111 : Int32), (102 : Int32), (102 : Int32), (108 : Int32), (105 : Int32), (110 : Int32), (101 : Int32), (95 : Int32), (97 : Int32), (99 : Int32), (99 : Int32), (101 : Int32), (115 : Int32), (115 : Int32)]
def own_onl : List Int32 := [(111 : Int32), (110 : Int32), (108 : Int32), (105 : Int32), (110 : Int32), (101 : Int32), (95 : Int32), (97 : Int32), (99 : Int32), (99 : Int32), (101 : Int32), (115 : Int32), (115 : Int32)]
/-- what the enum's statics say -/
def En (Z : State) (vv x1 x2 r1 r2 : Addr) : Prop := Sta Z Z.heap "com/example/anteroom/anteroom/scopes/RefreshScope" "$VALUES" "[Lcom/example/anteroom/anteroom/scopes/RefreshScope;" (.ref vv) ∧ Exa Z Z.heap vv "[Lcom/example/anteroom/anteroom/scopes/RefreshScope;" ∧ Ar Z Z.heap vv (.object "com/example/anteroom/anteroom/scopes/RefreshScope") [.ref x1, .ref x2] ∧ Sta Z Z.heap "com/example/anteroom/anteroom/scopes/RefreshScope" "OFFLINE" "Lcom/example/anteroom/anteroom/scopes/RefreshScope;" (.ref x1) ∧ Sta Z Z.heap "com/example/anteroom/anteroom/scopes/RefreshScope" "ONLINE" "Lcom/example/anteroom/anteroom/scopes/RefreshScope;" (.ref x2) ∧ Fld Z Z.heap x1 "com/example/anteroom/anteroom/scopes/RefreshScope" "scope" "Ljava/lang/String;" (.ref r1) ∧ Str Z Z.heap r1 own_off ∧ Fld Z Z.heap x2 "com/example/anteroom/anteroom/scopes/RefreshScope" "scope" "Ljava/lang/String;" (.ref r2) ∧ Str Z Z.heap r2 own_onl
theorem own_L1off : L1 own_off := by unfold L1 own_off; decide
theorem own_L1onl : L1 own_onl := by unfold L1 own_onl; decide
theorem own_bsoff : own_bs own_off = own_off.map Value.int := by first | decide | rfl
theorem own_bsonl : own_bs own_onl = own_onl.map Value.int := by first | decide | rfl
def own_elc (args : Array Value) (s : State) (t : Jvm.Term) : Nat → List Int32 → Prop
  | _, [] => True
  | i, c :: r => (Jvm.Cond.eq (Jvm.Term.elem t (Jvm.Term.int (Int32.ofNat i))) (Jvm.Term.int c)).value args s none s [] = some true ∧ own_elc args s t (i + 1) r
theorem own_elh {args : Array Value} {s : State} {t : Jvm.Term} {x : Addr} {cl : Cell} (et : t.eval args s none [] s = some (.ref x)) (hA : s.heap[x]? = some cl) : ∀ (cs : List Int32) (i : Nat), own_elc args s t i cs → i + cs.length < 2 ^ 31 → HasL cl i (cs.map Value.int)
  | [], _, _, _ => trivial
  | c :: r, i, h, hb => by
    rw [List.length_cons] at hb
    refine ⟨?_, own_elh et hA r (i + 1) h.2 (by omega)⟩
    have q := (elem_in (Cond.eq_int (Cond.before_iff.mpr h.1) rfl) et (Term.int_eval _) hA).2
    rw [ofNat_nat (by omega)] at q
    exact q
theorem own_ent {s : State} {args : Array Value} (hf : Fit s) {u : Jvm.Term} {x : Addr} {cs : List Int32} (hL : L1 cs) (hbs : own_bs cs = cs.map Value.int) (hv : cs.length < 2 ^ 30)
    (eu : u.eval args s none [] s = some (.ref x)) (hs : (Jvm.Cond.exactly (Jvm.Term.field u "com/example/anteroom/anteroom/scopes/RefreshScope" "scope" "Ljava/lang/String;") "java/lang/String").value args s none s [] = some true)
    (hc : (Jvm.Cond.eq (Jvm.Term.field (Jvm.Term.field u "com/example/anteroom/anteroom/scopes/RefreshScope" "scope" "Ljava/lang/String;") "java/lang/String" "coder" "B") (Jvm.Term.int (0 : Int32))).value args s none s [] = some true)
    (ha : (Jvm.Cond.arrayOf (Jvm.Term.field (Jvm.Term.field u "com/example/anteroom/anteroom/scopes/RefreshScope" "scope" "Ljava/lang/String;") "java/lang/String" "value" "[B") Jvm.ClassFile.FieldType.byte).value args s none s [] = some true)
    (hl : (Jvm.Cond.eq (Jvm.Term.length (Jvm.Term.field (Jvm.Term.field u "com/example/anteroom/anteroom/scopes/RefreshScope" "scope" "Ljava/lang/String;") "java/lang/String" "value" "[B")) (Jvm.Term.int (Int32.ofNat cs.length))).value args s none s [] = some true)
    (hel : own_elc args s (Jvm.Term.field (Jvm.Term.field u "com/example/anteroom/anteroom/scopes/RefreshScope" "scope" "Ljava/lang/String;") "java/lang/String" "value" "[B") 0 cs) : ∃ a, Fld s s.heap x "com/example/anteroom/anteroom/scopes/RefreshScope" "scope" "Ljava/lang/String;" (.ref a) ∧ Str s s.heap a cs := by
  obtain ⟨a, ea⟩ := exa_v hs
  have F : Fld s s.heap x "com/example/anteroom/anteroom/scopes/RefreshScope" "scope" "Ljava/lang/String;" (.ref a) := Fld.start ((fld_at eu).symm.trans ea)
  have E : Exa s s.heap a "java/lang/String" := Exa.start ea hs
  have ec := Cond.eq_int (Cond.before_iff.mpr hc) rfl
  have FC : Fld s s.heap a "java/lang/String" "coder" "B" (.int (0 : Int32)) := Fld.start ((fld_at ea).symm.trans ec)
  have el := Cond.eq_int (Cond.before_iff.mpr hl) rfl
  obtain ⟨t, et⟩ := len_v el
  have FV : Fld s s.heap a "java/lang/String" "value" "[B" (.ref t) := Fld.start ((fld_at ea).symm.trans et)
  obtain ⟨cl, Aa⟩ := Arr.start et ha
  have hat := Arr.fin (Vm.Alike.refl _) Aa
  have h31 := SBG.length_lt et hat el
  have e3 : cl.slots.size.toInt32 = Int32.ofNat cs.length := by simpa using Option.some.inj ((len_f et hat h31).symm.trans el)
  have hb := own_bs_len cs
  have hlt : cs.length < 2 ^ 31 := by omega
  refine ⟨a, F, E, hL, t, FC, FV, by rw [hb]; exact hlt, cl.cls, ?_⟩
  rw [hb]
  exact Arv.start hf Aa h31 e3 (ofNat_neg hlt) (by rw [ofNat_nat hlt, hb]) (by rw [hbs]; exact own_elh et Aa.1 cs 0 hel (by omega))
theorem own_vals {s : State} {args : Array Value} (hf : Fit s) {t : Jvm.Term} {ty : FieldType} {x x1 x2 : Addr} (et : t.eval args s none [] s = some (.ref x)) (ha : (Jvm.Cond.arrayOf t ty).value args s none s [] = some true) (hl : (Jvm.Cond.eq (Jvm.Term.length t) (Jvm.Term.int (2 : Int32))).value args s none s [] = some true)
    (e1 : (Jvm.Term.elem t (Jvm.Term.int (0 : Int32))).eval args s none [] s = some (.ref x1)) (e2 : (Jvm.Term.elem t (Jvm.Term.int (1 : Int32))).eval args s none [] s = some (.ref x2)) : Ar s s.heap x ty [.ref x1, .ref x2] := by
  have el := Cond.eq_int (Cond.before_iff.mpr hl) rfl
  obtain ⟨cl, Aa⟩ := Arr.start et ha
  have hat := Arr.fin (Vm.Alike.refl _) Aa
  have h31 := SBG.length_lt et hat el
  have e3 : cl.slots.size.toInt32 = (2 : Int32) := by simpa using Option.some.inj ((len_f et hat h31).symm.trans el)
  have q1 := (elem_in e1 et (Term.int_eval _) Aa.1).2
  have q2 := (elem_in e2 et (Term.int_eval _) Aa.1).2
  exact ⟨own_ltb rfl, cl.cls, Arv.start hf Aa h31 e3 (ofNat_neg (own_ltb rfl)) (ofNat_nat (own_ltb rfl)) ⟨q1, q2, trivial⟩⟩

def Gl (Z : State) (a0 : Array Value) (n0 : Nat) : Prop := (∀ d ∈ tables_1, d.before a0 Z = true) ∧ (∃ z : Int32, Sta Z Z.heap "java/lang/String" "COMPACT_STRINGS" "Z" (.int z) ∧ ¬ z = 0) ∧ (∃ v : Value, Sta Z Z.heap "jdk/internal/util/Preconditions" "SIOOBE_FORMATTER" "Ljava/util/function/BiFunction;" v ∧ v.isRef = true ∧ v.category = 1) ∧ EW Z a0 consts_1 ∧ (∃ vv x1 x2 r1 r2 : Addr, En Z vv x1 x2 r1 r2) ∧ True
theorem Gl.cs {Z : State} {a0 : Array Value} {n0 : Nat} (G : Gl Z a0 n0) : ∃ z : Int32, Sta Z Z.heap "java/lang/String" "COMPACT_STRINGS" "Z" (.int z) ∧ ¬ z = 0 := G.2.1
theorem Gl.fm {Z : State} {a0 : Array Value} {n0 : Nat} (G : Gl Z a0 n0) : ∃ v : Value, Sta Z Z.heap "jdk/internal/util/Preconditions" "SIOOBE_FORMATTER" "Ljava/util/function/BiFunction;" v ∧ v.isRef = true ∧ v.category = 1 := G.2.2.1
theorem Gl.el {Z : State} {a0 : Array Value} {n0 : Nat} (G : Gl Z a0 n0) : EW Z a0 consts_1 := G.2.2.2.1
theorem Gl.en {Z : State} {a0 : Array Value} {n0 : Nat} (G : Gl Z a0 n0) : ∃ vv x1 x2 r1 r2 : Addr, En Z vv x1 x2 r1 r2 := G.2.2.2.2.1
theorem own_sa : ∀ d ∈ Bundle.stringAtoms, d ∈ tables_1 := by decide +kernel
theorem Gl.sa {Z : State} {a0 : Array Value} {n0 : Nat} (G : Gl Z a0 n0) : ∀ d ∈ Bundle.stringAtoms, d.before a0 Z = true := fun d hd => G.1 d (own_sa d hd)
theorem pd_1 : parseMethodDescriptor "(Ljava/lang/String;IC)C" = some ⟨[(.object "java/lang/String"), .int, .char], some .char⟩ := by decide +kernel
theorem pd_2 : parseMethodDescriptor "()I" = some ⟨[], some .int⟩ := by decide +kernel
theorem pd_3 : parseMethodDescriptor "()B" = some ⟨[], some .byte⟩ := by decide +kernel
theorem pd_4 : parseMethodDescriptor "(I)C" = some ⟨[.int], some .char⟩ := by decide +kernel
theorem pd_5 : parseMethodDescriptor "()Z" = some ⟨[], some .boolean⟩ := by decide +kernel
theorem pd_6 : parseMethodDescriptor "([BI)C" = some ⟨[(.array .byte), .int], some .char⟩ := by decide +kernel
theorem pd_7 : parseMethodDescriptor "(II)V" = some ⟨[.int, .int], none⟩ := by decide +kernel
theorem pd_8 : parseMethodDescriptor "(IILjava/util/function/BiFunction;)I" = some ⟨[.int, .int, (.object "java/util/function/BiFunction")], some .int⟩ := by decide +kernel
theorem pd_9 : parseMethodDescriptor "([C)V" = some ⟨[(.array .char)], none⟩ := by decide +kernel
theorem pd_10 : parseMethodDescriptor "([CIILjava/lang/Void;)V" = some ⟨[(.array .char), .int, .int, (.object "java/lang/Void")], none⟩ := by decide +kernel
theorem pd_11 : parseMethodDescriptor "()V" = some ⟨[], none⟩ := by decide +kernel
theorem pd_12 : parseMethodDescriptor "([CII)[B" = some ⟨[(.array .char), .int, .int], some (.array .byte)⟩ := by decide +kernel
theorem pd_13 : parseMethodDescriptor "([CI[BII)I" = some ⟨[(.array .char), .int, (.array .byte), .int, .int], some .int⟩ := by decide +kernel
theorem pd_14 : parseMethodDescriptor "([BI)B" = some ⟨[(.array .byte), .int], some .byte⟩ := by decide +kernel
theorem pd_15 : parseMethodDescriptor "(Ljava/lang/String;)Lcom/example/anteroom/anteroom/scopes/RefreshScope;" = some ⟨[(.object "java/lang/String")], some (.object "com/example/anteroom/anteroom/scopes/RefreshScope")⟩ := by decide +kernel
theorem pd_16 : parseMethodDescriptor "()[Lcom/example/anteroom/anteroom/scopes/RefreshScope;" = some ⟨[], some (.array (.object "com/example/anteroom/anteroom/scopes/RefreshScope"))⟩ := by decide +kernel
theorem pd_17 : parseMethodDescriptor "()Ljava/lang/Object;" = some ⟨[], some (.object "java/lang/Object")⟩ := by decide +kernel
theorem pd_18 : parseMethodDescriptor "(Ljava/lang/Object;)Z" = some ⟨[(.object "java/lang/Object")], some .boolean⟩ := by decide +kernel
theorem pd_19 : parseMethodDescriptor "([B[B)Z" = some ⟨[(.array .byte), (.array .byte)], some .boolean⟩ := by decide +kernel
theorem own_K1 {h0 h1 h2 : Heap} {t : Addr} (K1 : Keep h0 h1 []) (K2 : Keep h1 h2 [t]) (g : h0.size ≤ t) : Keep h0 h2 [] := K1.trans K2 (allS (P := fun x => x ∈ [] ∨ h0.size ≤ x) (Or.inr g) all0)
theorem own_K0 {h0 h1 h2 : Heap} {ws : List Addr} (K1 : Keep h0 h1 ws) (K2 : Keep h1 h2 []) : Keep h0 h2 ws := K1.trans K2 (all0 (P := fun x => x ∈ ws ∨ h0.size ≤ x))

section WkSb
variable {p : Program} {l : Launch} {e : Env} {R : Room} {s : State} {m : MethodId} {args : Array Value} {below : List Frame} {meth : Method} {c : Code} {n0 : Nat} {Q : Option Value → Heap → Prop} {h : Heap} {cells slots : Nat} {Z : State} {own : String} {bytes : ByteArray} {maxL : Nat} {ret : Option FieldType} {nm : String} {a0 : Array Value} {pc q : Nat} {L L' : Array Slot} {S : List Value}
theorem own_rng (vs : List Value) (dv : Value) (sp nn : Nat) (h : sp + nn ≤ vs.length) : (List.range nn).map (fun i => vs.getD (sp + i) dv) = (vs.drop sp).take nn := by
  apply List.ext_getElem?
  intro i
  rw [List.getElem?_map, List.getElem?_take, List.getElem?_drop]
  by_cases hi : i < nn
  · rw [List.getElem?_range hi, if_pos hi, List.getElem?_eq_getElem (show sp + i < vs.length by omega)]
    simp [List.getD, List.getElem?_eq_getElem (show sp + i < vs.length by omega)]
  · rw [if_neg hi, List.getElem?_eq_none (by simpa using hi)]; rfl
theorem w_copy (C : Cx p s m meth c Z own bytes maxL ret nm) {i : Nat} {a b : Addr} {ty : FieldType} {vs vd : List Value} {sp dp nn : Nat} (w1 : (Jvm.Cond.methodLink own i Jvm.Stand.acN).before a0 Z = true) (w2 : (Jvm.Cond.native Jvm.Stand.acN).before a0 Z = true) (w3 : (Jvm.Cond.static Jvm.Stand.acN).before a0 Z = true) (w4 : (Jvm.Cond.initialized "java/lang/System").before a0 Z = true)
    (A : Ar Z h a ty vs) (B : Ar Z h b ty vd) (hp : refKind ty = false) (h4 : sp + nn ≤ vs.length) (h5 : dp + nn ≤ vd.length) (ge : n0 ≤ b) (hL : L.size = maxL) (hf : 1 ≤ R.frames) {W : Nat} (hW : (S.map fun v => v.category).sum ≤ W) (hlo : W + 18 ≤ R.locals)
    {S' : List Value} (hS : S' = .int (Int32.ofNat nn) :: .int (Int32.ofNat dp) :: .ref b :: .int (Int32.ofNat sp) :: .ref a :: S) (hd : decode bytes pc = .ok (.invokestatic i, 3)) (hq : pc + 3 = q) (K : ∀ h', Keep h h' [b] → Ar Z h' b ty (vd.take dp ++ (vs.drop sp).take nn ++ vd.drop (dp + nn)) → AtW p l e R s m args below meth c n0 Q h' cells slots (mkF m q L S)) : AtW p l e R s m args below meth c n0 Q h cells slots (mkF m pc L S') := by
  subst hq hS
  intro T locs k n' X hk hn' eT N
  obtain ⟨la, ka, VA⟩ := A
  obtain ⟨lb, kb, VB⟩ := B
  have e1 := ofNat_nat (n := sp) (by omega)
  have e2 := ofNat_nat (n := dp) (by omega)
  have e3 := ofNat_nat (n := nn) (by omega)
  have e4 := ofNat_nat la
  have e5 := ofNat_nat lb
  obtain ⟨T', h', L', X', e', N', K', V', st⟩ := cpA X C.1 C.2.2.2.1 C.2.2.2.2.1 w1 w2 w3 w4 eT VA VB (Or.inl ⟨rfl, hp⟩) (ofNat_neg (n := sp) (by omega)) (ofNat_neg (n := dp) (by omega)) (ofNat_neg (n := nn) (by omega)) (by rw [e1, e3, e4]; exact h4) (by rw [e2, e3, e5]; exact h5) (us := (vs.drop sp).take nn) (by rw [e3, e1, own_rng vs _ sp nn h4]) (by rw [e2, e3]; exact h5) N ge (g := mkF m pc L (.int (Int32.ofNat nn) :: .int (Int32.ofNat dp) :: .ref b :: .int (Int32.ofNat sp) :: .ref a :: S)) rfl (hL.trans C.2.2.1.symm) rfl (hb C.2.1 hd) hf (W := W) (by show 2 * 0 + _ ≤ _; omega) (by show W + (7 + 11) ≤ _; omega)
  rw [e2, e3] at V'
  have hlen : (vd.take dp ++ (vs.drop sp).take nn ++ vd.drop (dp + nn)).length = vd.length := by simp only [List.length_append, List.length_take, List.length_drop]; omega
  obtain ⟨t, o, r1, r⟩ := K h' K' ⟨by rw [hlen]; exact lb, kb, by rw [hlen]; exact V'⟩ T' _ k n' X' hk hn' e' N'
  exact ⟨t, o, st _ r1, r⟩
theorem w_newArrE (C : Cx p s m meth c Z own bytes maxL ret nm) {aty : ArrayType} {ty : FieldType} {n : Int32} (w : (Jvm.Cond.arrayClass ty).before a0 Z = true) (hty : newarray.typeOf aty = ty) (hn : ¬ n < 0) {cap : Nat} (hcap : n.toNatClampNeg ≤ cap) (hb' : cap * 8 ≤ 536870912) {cells' slots' : Nat} (hc1 : cells + 1 = cells') (hs1 : slots + cap = slots') (hc : cells' ≤ R.cells) (hl : slots' ≤ R.slots) {ad : String} (had : "[" ++ ty.toString = ad)
    (hd : decode bytes pc = .ok (.newarray aty, 2)) (hq : pc + 2 = q) (K : ∀ h' a, a = h.size → Ext h h' → Ar Z h' a ty (List.replicate n.toNatClampNeg (defaultValue ty)) → Exa Z h' a ad → AtW p l e R s m args below meth c n0 Q h' cells' slots' (mkF m q L (.ref a :: S))) : AtW p l e R s m args below meth c n0 Q h cells slots (mkF m pc L (.int n :: S)) := by
  subst hq hc1 hs1 hty
  intro T locs k n' X hk hn' eT N
  obtain ⟨T', h', cA, X', e', E, A, Ex, st⟩ := newPE X C.1 C.2.2.2.1 w eT (g := mkF m pc L (.int n :: S)) rfl (hb C.2.1 hd) rfl hn hcap hb' (by omega) (by omega) had
  have q := nat_of_nonneg hn
  have V := (Arv.new A hn).pad (pad_rep [] (defaultValue (newarray.typeOf aty)) n.toNatClampNeg)
  obtain ⟨t, o, r1, r⟩ := K h' h.size rfl E ⟨by simpa using q.2, cA, by simpa [q.1] using V⟩ Ex T' _ (k + 1) (n' + cap) X' (by omega) (by omega) e' N
  exact ⟨t, o, st _ r1, r⟩
theorem w_clone (C : Cx p s m meth c Z own bytes maxL ret nm) {i : Nat} {a : Addr} {ty : FieldType} {ad : String} {vs : List Value} (w1 : (Jvm.Cond.methodLink own i ⟨ad, "clone", "()Ljava/lang/Object;"⟩).before a0 Z = true) (w2 : (Jvm.Cond.sameMethod ad "java/lang/Object" "clone" "()Ljava/lang/Object;").before a0 Z = true) (w3 : (Jvm.Cond.native ⟨"java/lang/Object", "clone", "()Ljava/lang/Object;"⟩).before a0 Z = true) (w4 : (Jvm.Cond.instanceMethod ⟨"java/lang/Object", "clone", "()Ljava/lang/Object;"⟩).before a0 Z = true)
    (w5 : (Jvm.Cond.selects ad ⟨ad, "clone", "()Ljava/lang/Object;"⟩ ⟨"java/lang/Object", "clone", "()Ljava/lang/Object;"⟩).before a0 Z = true) (w6 : (Jvm.Cond.castable ad "java/lang/Cloneable").before a0 Z = true) (A : Ar Z h a ty vs) (E : Exa Z h a ad) (hL : L.size = maxL) (hf : 1 ≤ R.frames) {W cap : Nat} (hW : (S.map fun v => v.category).sum ≤ W) (hlo : W + 14 ≤ R.locals) (hcap : vs.length ≤ cap)
    {cells' slots' : Nat} (hc1 : cells + 1 = cells') (hs1 : slots + cap = slots') (hc : cells' ≤ R.cells) (hl : slots' ≤ R.slots) (hd : decode bytes pc = .ok (.invokevirtual i, 3)) (hq : pc + 3 = q) (K : ∀ h' b, b = h.size → Ext h h' → Ar Z h' b ty vs → Exa Z h' b ad → AtW p l e R s m args below meth c n0 Q h' cells' slots' (mkF m q L (.ref b :: S))) : AtW p l e R s m args below meth c n0 Q h cells slots (mkF m pc L (.ref a :: S)) := by
  subst hq hc1 hs1
  intro T locs k n' X hk hn' eT N
  obtain ⟨la, ka, VA⟩ := A
  obtain ⟨T', h', X', e', E', V', Ex, st⟩ := cloneH X C.1 C.2.2.2.1 C.2.2.2.2.1 w1 w2 w3 w4 w5 w6 eT VA.arh E (g := mkF m pc L (.ref a :: S)) rfl (hL.trans C.2.2.1.symm) rfl (hb C.2.1 hd) hf (W := W) (cap := cap) (by show 2 * 0 + _ ≤ _; omega) hlo (by rw [ofNat_nat la]; exact hcap) (by omega) (by omega)
  have V2 : Arv Z h' h.size ka ty (Int32.ofNat vs.length) vs (defaultValue ty) := by
    obtain ⟨cc, c1, c2, c3, c4, c5, c6⟩ := V'
    exact ⟨cc, c1, c2, c3, c4, c5, c6⟩
  obtain ⟨t, o, r1, r⟩ := K h' h.size rfl E' ⟨la, ka, V2⟩ Ex T' _ (k + 1) (n' + cap) X' (by omega) (by omega) e' N
  exact ⟨t, o, st _ r1, r⟩
theorem own_same {y : MethodName} (hy : y.cls ≠ "java/lang/invoke/MethodHandle" ∧ y.cls ≠ "java/lang/invoke/VarHandle") (w : (Jvm.Cond.instanceMethod y).before a0 Z = true) (ni : NI Z y.cls) : (Jvm.Cond.sameMethod y.cls y.cls y.name y.desc).before a0 Z = true := by
  obtain ⟨mk, methM, hnamed, -, -, -⟩ := Cond.instanceMethod_spec w
  have hf := State.methodFound?_of_named hnamed hy
  obtain ⟨c, k, hc, hk, hi⟩ := ni
  have hn2 : Z.methodNamed? ⟨y.cls, y.name, y.desc⟩ = some mk := hnamed
  simp [Cond.before, Cond.holds, Cond.value, hc, hf, hn2, hk, hi]
theorem w_callU (C : Cx p s m meth c Z own bytes maxL ret nm) {y : MethodName} {Cl : String} {i : Nat} {a : Addr} {argsL : List Value} {bytesY : ByteArray} {maxY : Nat} {retY : Option FieldType} {rm : Room} {Qy : Option Value → Heap → Prop} (E : Exa Z h a Cl) (w1 : (Jvm.Cond.methodLink own i y).before a0 Z = true) (w4 : (Jvm.Cond.instanceMethod y).before a0 Z = true) (ni : NI Z y.cls) (w5 : (Jvm.Cond.superclass own y.cls).before a0 Z = true) (wz : (Jvm.Cond.initialized y.cls).before a0 Z = true) (wc : (Jvm.Cond.code y bytesY maxY retY).before a0 Z = true) (hnn : y.name ≠ "<init>")
    (hy : y.cls ≠ "java/lang/invoke/MethodHandle" ∧ y.cls ≠ "java/lang/invoke/VarHandle") (ct : Ct [] l Z n0 y bytesY maxY retY rm (.ref a :: argsL).toArray h Qy) {S' : List Value} (hS : S' = argsL.reverse ++ .ref a :: S) (hlen : ∀ sig, parseMethodDescriptor y.desc = some sig → argsL.length = sig.parameters.length) (hL : L.size = maxL) (hf : rm.frames + 1 ≤ R.frames) {W : Nat} (hW : (S.map fun v => v.category).sum ≤ W) (hlo : W + (maxY + 11) + rm.locals ≤ R.locals) {cells' slots' : Nat} (hc1 : cells + rm.cells = cells') (hs1 : slots + rm.slots = slots') (hc : cells' ≤ R.cells) (hl : slots' ≤ R.slots)
    (hd : decode bytes pc = .ok (.invokespecial i, 3)) (hq : pc + 3 = q) (K : ∀ v h', Qy v h' → AtW p l e R s m args below meth c n0 Q h' cells' slots' (mkF m q L (v.toList ++ S))) : AtW p l e R s m args below meth c n0 Q h cells slots (mkF m pc L S') := by
  subst hq hc1 hs1
  intro T locs k n' X hk hn' eT N
  obtain ⟨v, _, ⟨T', L', k', n''⟩, -, X', ⟨Lc, hQ, hl', hc', hs'⟩, st⟩ := superBack X C.1 C.2.2.2.1 (y := y) C.2.2.2.2.1 w1 (own_same hy w4 ni) w4 w5 hnn (backOf (W := W) (Q := fun v h L => Fr n0 L ∧ Qy v h) ct C.2.2.2.1 wc wz hf hlo) eT (Ins.self E) (g := mkF m pc L S') rfl (hL.trans C.2.2.1.symm) wc (argsL := argsL) (rest := S) hlen hS (by show 2 * 0 + _ ≤ _; omega) (hb C.2.1 hd) (fun _ _ => ⟨rfl, eT, (by show k + _ ≤ _; omega), (by show n' + _ ≤ _; omega)⟩)
  dsimp only [Pt.U, Pt.locs, Pt.cells, Pt.slots] at X' hl' hc' hs' st hQ
  subst hl' hc' hs'
  obtain ⟨t, o, r1, r⟩ := K v T'.heap hQ.2 T' _ _ _ X' (by omega) (by omega) rfl (Fr.app N hQ.1)
  exact ⟨t, o, st.trans r1, r⟩
end WkSb

def own_ix (ch : Int32) : List Int32 → Nat → Int32
  | [], _ => -1
  | c :: r, i => if c = ch then Int32.ofNat i else own_ix ch r (i + 1)
theorem own_ix_cons (ch c : Int32) (r : List Int32) (i : Nat) : own_ix ch (c :: r) i = if c = ch then Int32.ofNat i else own_ix ch r (i + 1) := rfl
theorem own_b8inj {x y : Int32} (hx : ¬ x < 0 ∧ ¬ 255 < x) (hy : ¬ y < 0 ∧ ¬ 255 < y) : x.toInt8.toInt32 = y.toInt8.toInt32 ↔ x = y :=
  ⟨fun q => by rw [← own_lo8 hx.1 hx.2, ← own_lo8 hy.1 hy.2, q], fun q => by rw [q]⟩
theorem own_ix_neg (ch : Int32) : ∀ (cs : List Int32) (i : Nat), i + cs.length < 2 ^ 31 → (own_ix ch cs i < 0 ↔ ch ∉ cs)
  | [], i, _ => by simp only [own_ix]; exact ⟨fun _ => List.not_mem_nil, fun _ => by decide⟩
  | c :: r, i, h => by
    simp only [List.length_cons] at h
    unfold own_ix
    by_cases hc : c = ch
    · rw [if_pos hc]; subst hc
      exact ⟨fun q => absurd q (ofNat_neg (by omega)), fun q => absurd (List.mem_cons_self ..) q⟩
    · rw [if_neg hc, own_ix_neg ch r (i + 1) (by omega)]
      simp [List.mem_cons, Ne.symm hc]

section WkEq
variable {p : Program} {l : Launch} {e : Env} {R : Room} {s : State} {m : MethodId} {args : Array Value} {below : List Frame} {meth : Method} {c : Code} {n0 : Nat} {Q : Option Value → Heap → Prop} {h : Heap} {cells slots : Nat} {Z : State} {own : String} {bytes : ByteArray} {maxL : Nat} {ret : Option FieldType} {nm : String} {a0 : Array Value} {pc q : Nat} {L L' : Array Slot} {S : List Value}
theorem w_instZ (C : Cx p s m meth c Z own bytes maxL ret nm) {i : Nat} (hd : decode bytes pc = .ok (.instanceof i, 3)) (hq : pc + 3 = q) (K : AtW p l e R s m args below meth c n0 Q h cells slots (mkF m q L (.int 0 :: S))) : AtW p l e R s m args below meth c n0 Q h cells slots (mkF m pc L (.null :: S)) := by
  subst hq
  exact K.goX fun T locs k n X eT t st => Jvm.Stand.instanceofNull X C.1 (g := mkF m pc L (.null :: S)) rfl rfl (hb C.2.1 hd) t st
end WkEq
theorem own_fldinj {Z : State} {h : Heap} {a : Addr} {C n d : String} {v w : Value} (F : Fld Z h a C n d v) (G : Fld Z h a C n d w) : v = w := by
  obtain ⟨c1, cf1, k1, i1, f1, a1, a2, -, -, -, -, a7⟩ := F
  obtain ⟨c2, cf2, k2, i2, f2, b1, b2, -, -, -, -, b7⟩ := G
  cases a1.symm.trans b1
  cases a2.symm.trans b2
  exact Option.some.inj (a7.symm.trans b7)
theorem own_arinj {Z : State} {h : Heap} {a : Addr} {ty : FieldType} {vs ws : List Value} (A : Ar Z h a ty vs) (B : Ar Z h a ty ws) : vs = ws := by
  obtain ⟨l1, k1, c1, A1, -, s1, -, H1, -⟩ := A
  obtain ⟨l2, k2, c2, A2, -, s2, -, H2, -⟩ := B
  cases A1.1.symm.trans A2.1
  rw [ofNat_nat l1] at s1
  rw [ofNat_nat l2] at s2
  have hl : vs.length = ws.length := s1.symm.trans s2
  apply List.ext_getElem?
  intro j
  by_cases hj : j < vs.length
  · have hj2 : j < ws.length := by omega
    have q := Option.some.inj ((H1 j (by omega)).symm.trans (H2 j (by omega)))
    rw [List.getElem?_eq_getElem hj, List.getElem?_eq_getElem hj2]
    simpa [List.getD, hj, hj2] using q
  · rw [List.getElem?_eq_none (by omega), List.getElem?_eq_none (by omega)]
theorem own_bsinj : ∀ {cs ds : List Int32}, L1 cs → L1 ds → own_bs cs = own_bs ds → cs = ds
  | [], [], _, _, _ => rfl
  | [], d :: t, _, _, h => by simp [own_bs] at h
  | c :: r, [], _, _, h => by simp [own_bs] at h
  | c :: r, d :: t, h1, h2, h => by
    have h' : Value.int c.toInt8.toInt32 :: own_bs r = Value.int d.toInt8.toInt32 :: own_bs t := h
    injection h' with ha hb
    injection ha with ha
    rw [(own_b8inj (h1 c (List.mem_cons_self ..)) (h2 d (List.mem_cons_self ..))).mp ha, own_bsinj (fun x hx => h1 x (List.mem_cons_of_mem _ hx)) (fun x hx => h2 x (List.mem_cons_of_mem _ hx)) hb]
theorem Str.inj {Z : State} {h : Heap} {a : Addr} {cs ds : List Int32} (S : Str Z h a cs) (T : Str Z h a ds) : cs = ds := by
  obtain ⟨-, hr, t, -, f, A⟩ := S
  obtain ⟨-, hs, u, -, g, B⟩ := T
  have e : Value.ref t = .ref u := own_fldinj f g
  injection e with e
  subst e
  exact own_bsinj hr hs (own_arinj A B)

theorem d3_0 : decode jdk_42_method_152_code 0 = .ok (.getstatic 38, 3) := by decide +kernel
theorem d3_3 : decode jdk_42_method_152_code 3 = .ok (.ifCond .eq 10, 3) := by decide +kernel
theorem d3_6 : decode jdk_42_method_152_code 6 = .ok (.aload_n 0, 1) := by decide +kernel
theorem d3_7 : decode jdk_42_method_152_code 7 = .ok (.getfield 15, 3) := by decide +kernel
theorem d3_10 : decode jdk_42_method_152_code 10 = .ok (.goto 4, 3) := by decide +kernel
theorem d3_13 : decode jdk_42_method_152_code 13 = .ok (.iconst 1, 1) := by decide +kernel
theorem d3_14 : decode jdk_42_method_152_code 14 = .ok (.ireturn, 1) := by decide +kernel
theorem pf3 : plainFor (⟨"java/lang/String", "coder", "()B"⟩ : MethodName) = true := by first | exact plainFor_of_name (by first | (simp [plainName, overriddenIn]; done) | decide +kernel) | decide +kernel
theorem ef_coder (m : MethodId) (z0 : Addr) : entryFrame m #[(.ref z0)] 1 = mkF m 0 #[.val (.ref z0)] [] := by first | rfl | (simp [entryFrame, mkF, argsToLocals, Value.category, *]; done) | rfl
set_option maxRecDepth 65536 in
set_option maxHeartbeats 40000000 in
theorem rm_coder {l : Launch} {Z : State} {a0 : Array Value} {n0 : Nat} (G : Gl Z a0 n0) {h0 : Heap} (O : Old Z n0 h0) (a : Addr) (cs : List Int32) (S : Str Z h0 a cs) :
    Ct [] l Z n0 (⟨"java/lang/String", "coder", "()B"⟩ : MethodName) jdk_42_method_152_code 1 (some .byte) ({ frames := 0, cells := 0, slots := 0, locals := 0 } : Room) #[(.ref a)] h0 (fun v h => h = h0 ∧ v = some (.int 0)) := by
  refine Ct.intro pf3 ?_
  intro p e s m below meth c C
  refine AtW.cast ?_ (ef_coder m a)
  obtain ⟨E, hr, t, FC, FV, A⟩ := id S
  obtain ⟨zc, SC, hzc⟩ := G.cs
  refine w_getS (q := 3) (host := "") C (Or.inl (G.1 _ (List.mem_of_getElem? (i := 24) rfl))) Via.refl (SC.ext O.2) d3_0 rfl ?_
  refine w_if_eq_f (q := 6) C d3_3 rfl hzc ?_
  refine w_aloadN (q := 7) C rfl rfl d3_6 rfl ?_
  refine w_getF (q := 10) (host := "") C (Or.inl (G.1 _ (List.mem_of_getElem? (i := 25) rfl))) Via.refl FC d3_7 rfl ?_
  refine w_goto (q := 14) C d3_10 (by decide) (by decide) ?_
  exact w_retZ (z := (0 : Int32)) C (t := .byte) rfl (by simp) (by decide) d3_14 (by decide) (by decide) ⟨rfl, rfl⟩
theorem d2_0 : decode jdk_42_method_54_code 0 = .ok (.aload_n 0, 1) := by decide +kernel
theorem d2_1 : decode jdk_42_method_54_code 1 = .ok (.getfield 9, 3) := by decide +kernel
theorem d2_4 : decode jdk_42_method_54_code 4 = .ok (.arraylength, 1) := by decide +kernel
theorem d2_5 : decode jdk_42_method_54_code 5 = .ok (.aload_n 0, 1) := by decide +kernel
theorem d2_6 : decode jdk_42_method_54_code 6 = .ok (.invokevirtual 335, 3) := by decide +kernel
theorem d2_9 : decode jdk_42_method_54_code 9 = .ok (.ishr, 1) := by decide +kernel
theorem d2_10 : decode jdk_42_method_54_code 10 = .ok (.ireturn, 1) := by decide +kernel
theorem pf2 : plainFor (⟨"java/lang/String", "length", "()I"⟩ : MethodName) = true := by first | exact plainFor_of_name (by first | (simp [plainName, overriddenIn]; done) | decide +kernel) | decide +kernel
theorem ef_length (m : MethodId) (z0 : Addr) : entryFrame m #[(.ref z0)] 1 = mkF m 0 #[.val (.ref z0)] [] := by first | rfl | (simp [entryFrame, mkF, argsToLocals, Value.category, *]; done) | rfl
set_option maxRecDepth 65536 in
set_option maxHeartbeats 40000000 in
theorem rm_length {l : Launch} {Z : State} {a0 : Array Value} {n0 : Nat} (G : Gl Z a0 n0) {h0 : Heap} (O : Old Z n0 h0) (a : Addr) (cs : List Int32) (S : Str Z h0 a cs) :
    Ct [] l Z n0 (⟨"java/lang/String", "length", "()I"⟩ : MethodName) jdk_42_method_54_code 1 (some .int) ({ frames := 1, cells := 0, slots := 0, locals := 13 } : Room) #[(.ref a)] h0 (fun v h => h = h0 ∧ v = some (.int (Int32.ofNat cs.length))) := by
  refine Ct.intro pf2 ?_
  intro p e s m below meth c C
  refine AtW.cast ?_ (ef_length m a)
  obtain ⟨E, hr, t, FC, FV, A⟩ := id S
  refine w_aloadN (q := 1) C rfl rfl d2_0 rfl ?_
  refine w_getF (q := 4) (host := "") C (Or.inl (G.1 _ (List.mem_of_getElem? (i := 18) rfl))) Via.refl FV d2_1 rfl ?_
  refine w_len (q := 5) (z := (Int32.ofNat cs.length)) C A (by rw [own_bs_len]) d2_4 rfl ?_
  refine w_aloadN (q := 6) C rfl rfl d2_5 rfl ?_
  refine w_callV (q := 9) (argsL := []) (S := [(.int (Int32.ofNat cs.length))]) (W := 1) (cells' := 0) (slots' := 0) (a := a) C E (G.1 _ (List.mem_of_getElem? (i := 19) rfl)) (G.1 _ (List.mem_of_getElem? (i := 20) rfl)) (w_nf C (G.1 _ (List.mem_of_getElem? (i := 22) rfl))) (G.1 _ (List.mem_of_getElem? (i := 22) rfl)) (G.1 _ (List.mem_of_getElem? (i := 21) rfl)) (G.1 _ (List.mem_of_getElem? (i := 1) rfl)) (G.1 _ (List.mem_of_getElem? (i := 23) rfl)) (by decide) (rm_coder G O a cs S) rfl (lenOf pd_3 rfl) rfl (by decide) (own_leb rfl) (by decide) rfl rfl (by decide) (by decide) d2_6 rfl ?_
  rintro _ h1 ⟨eh2, rfl⟩
  rw [eh2]
  show AtW p l e _ s m _ below meth c n0 _ h0 0 0 (mkF m 9 #[.val (.ref a)] [(.int (0 : Int32)), (.int (Int32.ofNat cs.length))])
  refine w_ishr (q := 10) C rfl d2_9 rfl ?_
  rw [show ((Int32.ofNat cs.length) >>> ((0 : Int32) &&& 31)) = (Int32.ofNat cs.length) from own_shr0 _]
  exact w_retI C rfl d2_10 (by decide) (by decide) ⟨rfl, rfl⟩
theorem d5_0 : decode jdk_42_method_154_code 0 = .ok (.getstatic 38, 3) := by decide +kernel
theorem d5_3 : decode jdk_42_method_154_code 3 = .ok (.ifCond .eq 14, 3) := by decide +kernel
theorem d5_6 : decode jdk_42_method_154_code 6 = .ok (.aload_n 0, 1) := by decide +kernel
theorem d5_7 : decode jdk_42_method_154_code 7 = .ok (.getfield 15, 3) := by decide +kernel
theorem d5_10 : decode jdk_42_method_154_code 10 = .ok (.ifCond .ne 7, 3) := by decide +kernel
theorem d5_13 : decode jdk_42_method_154_code 13 = .ok (.iconst 1, 1) := by decide +kernel
theorem d5_14 : decode jdk_42_method_154_code 14 = .ok (.goto 4, 3) := by decide +kernel
theorem d5_17 : decode jdk_42_method_154_code 17 = .ok (.iconst 0, 1) := by decide +kernel
theorem d5_18 : decode jdk_42_method_154_code 18 = .ok (.ireturn, 1) := by decide +kernel
theorem pf5 : plainFor (⟨"java/lang/String", "isLatin1", "()Z"⟩ : MethodName) = true := by first | exact plainFor_of_name (by first | (simp [plainName, overriddenIn]; done) | decide +kernel) | decide +kernel
theorem ef_isLatin1 (m : MethodId) (z0 : Addr) : entryFrame m #[(.ref z0)] 1 = mkF m 0 #[.val (.ref z0)] [] := by first | rfl | (simp [entryFrame, mkF, argsToLocals, Value.category, *]; done) | rfl
set_option maxRecDepth 65536 in
set_option maxHeartbeats 40000000 in
theorem rm_isLatin1 {l : Launch} {Z : State} {a0 : Array Value} {n0 : Nat} (G : Gl Z a0 n0) {h0 : Heap} (O : Old Z n0 h0) (a : Addr) (cs : List Int32) (S : Str Z h0 a cs) :
    Ct [] l Z n0 (⟨"java/lang/String", "isLatin1", "()Z"⟩ : MethodName) jdk_42_method_154_code 1 (some .boolean) ({ frames := 0, cells := 0, slots := 0, locals := 0 } : Room) #[(.ref a)] h0 (fun v h => h = h0 ∧ v = some (.int 1)) := by
  refine Ct.intro pf5 ?_
  intro p e s m below meth c C
  refine AtW.cast ?_ (ef_isLatin1 m a)
  obtain ⟨E, hr, t, FC, FV, A⟩ := id S
  obtain ⟨zc, SC, hzc⟩ := G.cs
  refine w_getS (q := 3) (host := "") C (Or.inl (G.1 _ (List.mem_of_getElem? (i := 24) rfl))) Via.refl (SC.ext O.2) d5_0 rfl ?_
  refine w_if_eq_f (q := 6) C d5_3 rfl hzc ?_
  refine w_aloadN (q := 7) C rfl rfl d5_6 rfl ?_
  refine w_getF (q := 10) (host := "") C (Or.inl (G.1 _ (List.mem_of_getElem? (i := 25) rfl))) Via.refl FC d5_7 rfl ?_
  refine w_if_ne_f (q := 13) C d5_10 rfl (by decide) ?_
  refine w_iconst (q := 14) (v := (1 : Int32)) C (by rfl) d5_13 rfl ?_
  refine w_goto (q := 18) C d5_14 (by decide) (by decide) ?_
  exact w_retZ (z := (1 : Int32)) C (t := .boolean) rfl (by simp) (by decide) d5_18 (by decide) (by decide) ⟨rfl, rfl⟩
theorem d8_0 : decode jdk_41_method_11_code 0 = .ok (.iload_n 0, 1) := by decide +kernel
theorem d8_1 : decode jdk_41_method_11_code 1 = .ok (.ifCond .lt 8, 3) := by decide +kernel
theorem d8_4 : decode jdk_41_method_11_code 4 = .ok (.iload_n 0, 1) := by decide +kernel
theorem d8_5 : decode jdk_41_method_11_code 5 = .ok (.iload_n 1, 1) := by decide +kernel
theorem d8_6 : decode jdk_41_method_11_code 6 = .ok (.if_icmp .lt 10, 3) := by decide +kernel
theorem d8_9 : decode jdk_41_method_11_code 9 = .ok (.aload_n 2, 1) := by decide +kernel
theorem d8_10 : decode jdk_41_method_11_code 10 = .ok (.iload_n 0, 1) := by decide +kernel
theorem d8_11 : decode jdk_41_method_11_code 11 = .ok (.iload_n 1, 1) := by decide +kernel
theorem d8_12 : decode jdk_41_method_11_code 12 = .ok (.invokestatic 95, 3) := by decide +kernel
theorem d8_15 : decode jdk_41_method_11_code 15 = .ok (.athrow, 1) := by decide +kernel
theorem d8_16 : decode jdk_41_method_11_code 16 = .ok (.iload_n 0, 1) := by decide +kernel
theorem d8_17 : decode jdk_41_method_11_code 17 = .ok (.ireturn, 1) := by decide +kernel
theorem pf8 : plainFor (⟨"jdk/internal/util/Preconditions", "checkIndex", "(IILjava/util/function/BiFunction;)I"⟩ : MethodName) = true := by first | exact plainFor_of_name (by first | (simp [plainName, overriddenIn]; done) | decide +kernel) | decide +kernel
theorem ef_pcheck (m : MethodId) (z0 : Int32) (z1 : Int32) (z2 : Value) (cz2 : z2.category = 1) : entryFrame m #[(.int z0), (.int z1), z2] 3 = mkF m 0 #[.val (.int z0), .val (.int z1), .val z2] [] := by cases z2 <;> first | (simp [Value.category] at cz2; done) | first | rfl | (simp [entryFrame, mkF, argsToLocals, Value.category, *]; done) | rfl
set_option maxRecDepth 65536 in
set_option maxHeartbeats 40000000 in
theorem rm_pcheck {l : Launch} {Z : State} {a0 : Array Value} {n0 : Nat} (G : Gl Z a0 n0) {h0 : Heap} (O : Old Z n0 h0) (x : Int32) (y : Int32) (f : Value) (hf : f.isRef = true) (hfc : f.category = 1) (hx : ¬ x < 0) (hxy : x < y) :
    Ct [] l Z n0 (⟨"jdk/internal/util/Preconditions", "checkIndex", "(IILjava/util/function/BiFunction;)I"⟩ : MethodName) jdk_41_method_11_code 3 (some .int) ({ frames := 0, cells := 0, slots := 0, locals := 0 } : Room) #[(.int x), (.int y), f] h0 (fun v h => h = h0 ∧ v = some (.int x)) := by
  refine Ct.intro pf8 ?_
  intro p e s m below meth c C
  refine AtW.cast ?_ (ef_pcheck m x y f (by assumption))
  refine w_iloadN (q := 1) C rfl d8_0 rfl ?_
  refine w_if_lt_f (q := 4) C d8_1 rfl hx ?_
  refine w_iloadN (q := 5) C rfl d8_4 rfl ?_
  refine w_iloadN (q := 6) C rfl d8_5 rfl ?_
  refine w_icmp_lt_t (q := 16) C d8_6 (by decide) (by decide) hxy ?_
  refine w_iloadN (q := 17) C rfl d8_16 rfl ?_
  exact w_retI C rfl d8_17 (by decide) (by decide) ⟨rfl, rfl⟩
theorem d7_0 : decode jdk_42_method_155_code 0 = .ok (.iload_n 0, 1) := by decide +kernel
theorem d7_1 : decode jdk_42_method_155_code 1 = .ok (.iload_n 1, 1) := by decide +kernel
theorem d7_2 : decode jdk_42_method_155_code 2 = .ok (.getstatic 1053, 3) := by decide +kernel
theorem d7_5 : decode jdk_42_method_155_code 5 = .ok (.invokestatic 1059, 3) := by decide +kernel
theorem d7_8 : decode jdk_42_method_155_code 8 = .ok (.pop, 1) := by decide +kernel
theorem d7_9 : decode jdk_42_method_155_code 9 = .ok (.return_, 1) := by decide +kernel
theorem pf7 : plainFor (⟨"java/lang/String", "checkIndex", "(II)V"⟩ : MethodName) = true := by first | exact plainFor_of_name (by first | (simp [plainName, overriddenIn]; done) | decide +kernel) | decide +kernel
theorem ef_scheck (m : MethodId) (z0 : Int32) (z1 : Int32) : entryFrame m #[(.int z0), (.int z1)] 2 = mkF m 0 #[.val (.int z0), .val (.int z1)] [] := by first | rfl | (simp [entryFrame, mkF, argsToLocals, Value.category, *]; done) | rfl
set_option maxRecDepth 65536 in
set_option maxHeartbeats 40000000 in
theorem rm_scheck {l : Launch} {Z : State} {a0 : Array Value} {n0 : Nat} (G : Gl Z a0 n0) {h0 : Heap} (O : Old Z n0 h0) (x : Int32) (y : Int32) (hx : ¬ x < 0) (hxy : x < y) :
    Ct [] l Z n0 (⟨"java/lang/String", "checkIndex", "(II)V"⟩ : MethodName) jdk_42_method_155_code 2 none ({ frames := 1, cells := 0, slots := 0, locals := 14 } : Room) #[(.int x), (.int y)] h0 (fun v h => h = h0 ∧ v = none) := by
  refine Ct.intro pf7 ?_
  intro p e s m below meth c C
  refine AtW.cast ?_ (ef_scheck m x y)
  obtain ⟨f, Sf, hf, hfc⟩ := G.fm
  refine w_iloadN (q := 1) C rfl d7_0 rfl ?_
  refine w_iloadN (q := 2) C rfl d7_1 rfl ?_
  refine w_getS (q := 5) (host := "") C (Or.inl (G.1 _ (List.mem_of_getElem? (i := 43) rfl))) Via.refl (Sf.ext O.2) d7_2 rfl ?_
  refine w_callS (q := 8) (argsL := [(.int x), (.int y), f]) (S := []) (W := 0) (cells' := 0) (slots' := 0) C (G.1 _ (List.mem_of_getElem? (i := 45) rfl)) (G.1 _ (List.mem_of_getElem? (i := 46) rfl)) (G.1 _ (List.mem_of_getElem? (i := 44) rfl)) (G.1 _ (List.mem_of_getElem? (i := 47) rfl)) (by decide) (rm_pcheck G O x y f hf hfc hx hxy) rfl (lenOf pd_8 rfl) rfl (by decide) (own_leb rfl) (by decide) rfl rfl (by decide) (by decide) d7_5 rfl ?_
  rintro _ h3 ⟨eh4, rfl⟩
  rw [eh4]
  show AtW p l e _ s m _ below meth c n0 _ h0 0 0 (mkF m 8 #[.val (.int x), .val (.int y)] [(.int x)])
  refine w_pop (q := 9) C rfl d7_8 rfl ?_
  exact w_retV C rfl d7_9 (by decide) (by decide) ⟨rfl, rfl⟩
theorem d6_0 : decode jdk_43_method_2_code 0 = .ok (.iload_n 1, 1) := by decide +kernel
theorem d6_1 : decode jdk_43_method_2_code 1 = .ok (.aload_n 0, 1) := by decide +kernel
theorem d6_2 : decode jdk_43_method_2_code 2 = .ok (.arraylength, 1) := by decide +kernel
theorem d6_3 : decode jdk_43_method_2_code 3 = .ok (.invokestatic 9, 3) := by decide +kernel
theorem d6_6 : decode jdk_43_method_2_code 6 = .ok (.aload_n 0, 1) := by decide +kernel
theorem d6_7 : decode jdk_43_method_2_code 7 = .ok (.iload_n 1, 1) := by decide +kernel
theorem d6_8 : decode jdk_43_method_2_code 8 = .ok (.baload, 1) := by decide +kernel
theorem d6_9 : decode jdk_43_method_2_code 9 = .ok (.sipush 255, 3) := by decide +kernel
theorem d6_12 : decode jdk_43_method_2_code 12 = .ok (.iand, 1) := by decide +kernel
theorem d6_13 : decode jdk_43_method_2_code 13 = .ok (.i2c, 1) := by decide +kernel
theorem d6_14 : decode jdk_43_method_2_code 14 = .ok (.ireturn, 1) := by decide +kernel
theorem pf6 : plainFor (⟨"java/lang/StringLatin1", "charAt", "([BI)C"⟩ : MethodName) = true := by first | exact plainFor_of_name (by first | (simp [plainName, overriddenIn]; done) | decide +kernel) | decide +kernel
theorem ef_charAtL (m : MethodId) (z0 : Addr) (z1 : Int32) : entryFrame m #[(.ref z0), (.int z1)] 2 = mkF m 0 #[.val (.ref z0), .val (.int z1)] [] := by first | rfl | (simp [entryFrame, mkF, argsToLocals, Value.category, *]; done) | rfl
set_option maxRecDepth 65536 in
set_option maxHeartbeats 40000000 in
theorem rm_charAtL {l : Launch} {Z : State} {a0 : Array Value} {n0 : Nat} (G : Gl Z a0 n0) {h0 : Heap} (O : Old Z n0 h0) (t : Addr) (cs : List Int32) (i : Nat) (ch : Int32) (A : Ar Z h0 t .byte (own_bs cs)) (hr : L1 cs) (hi : cs[i]? = some ch) :
    Ct [] l Z n0 (⟨"java/lang/StringLatin1", "charAt", "([BI)C"⟩ : MethodName) jdk_43_method_2_code 2 (some .char) ({ frames := 2, cells := 0, slots := 0, locals := 27 } : Room) #[(.ref t), (.int (Int32.ofNat i))] h0 (fun v h => h = h0 ∧ v = some (.int ch)) := by
  refine Ct.intro pf6 ?_
  intro p e s m below meth c C
  refine AtW.cast ?_ (ef_charAtL m t (Int32.ofNat i))
  have hl := A.1
  rw [own_bs_len] at hl
  have hil : i < cs.length := (List.getElem?_eq_some_iff.mp hi).1
  have hc := hr.get hi
  refine w_iloadN (q := 1) C rfl d6_0 rfl ?_
  refine w_aloadN (q := 2) C rfl rfl d6_1 rfl ?_
  refine w_len (q := 3) (z := (Int32.ofNat cs.length)) C A (by rw [own_bs_len]) d6_2 rfl ?_
  refine w_callS (q := 6) (argsL := [(.int (Int32.ofNat i)), (.int (Int32.ofNat cs.length))]) (S := []) (W := 0) (cells' := 0) (slots' := 0) C (G.1 _ (List.mem_of_getElem? (i := 40) rfl)) (G.1 _ (List.mem_of_getElem? (i := 41) rfl)) (G.1 _ (List.mem_of_getElem? (i := 1) rfl)) (G.1 _ (List.mem_of_getElem? (i := 42) rfl)) (by decide) (rm_scheck G O _ _ (ofNat_neg (by omega)) ((own_nlt (by omega) hl).mpr hil)) rfl (lenOf pd_7 rfl) rfl (by decide) (own_leb rfl) (by decide) rfl rfl (by decide) (by decide) d6_3 rfl ?_
  rintro _ h5 ⟨eh6, rfl⟩
  rw [eh6]
  show AtW p l e _ s m _ below meth c n0 _ h0 0 0 (mkF m 6 #[.val (.ref t), .val (.int (Int32.ofNat i))] [])
  refine w_aloadN (q := 7) C rfl rfl d6_6 rfl ?_
  refine w_iloadN (q := 8) C rfl d6_7 rfl ?_
  refine w_baload (q := 9) (i := i) (v := (.int ch.toInt8.toInt32)) C A rfl (own_bs_get hi) d6_8 rfl ?_
  refine w_sipush (q := 12) (v := (255 : Int32)) C (by rfl) d6_9 rfl ?_
  refine w_iand (q := 13) C rfl d6_12 rfl ?_
  refine w_i2c (q := 14) C rfl d6_13 rfl ?_
  rw [show ((ch.toInt8.toInt32 &&& (255 : Int32)).toUInt32.toUInt16.toUInt32.toInt32) = ch from own_lo8 hc.1 hc.2]
  exact w_retZ (z := ch) C (t := .char) rfl (by simp) (own_nar hc.1 hc.2) d6_14 (by decide) (by decide) ⟨rfl, rfl⟩
theorem d4_0 : decode jdk_42_method_56_code 0 = .ok (.aload_n 0, 1) := by decide +kernel
theorem d4_1 : decode jdk_42_method_56_code 1 = .ok (.invokevirtual 492, 3) := by decide +kernel
theorem d4_4 : decode jdk_42_method_56_code 4 = .ok (.ifCond .eq 12, 3) := by decide +kernel
theorem d4_7 : decode jdk_42_method_56_code 7 = .ok (.aload_n 0, 1) := by decide +kernel
theorem d4_8 : decode jdk_42_method_56_code 8 = .ok (.getfield 9, 3) := by decide +kernel
theorem d4_11 : decode jdk_42_method_56_code 11 = .ok (.iload_n 1, 1) := by decide +kernel
theorem d4_12 : decode jdk_42_method_56_code 12 = .ok (.invokestatic 495, 3) := by decide +kernel
theorem d4_15 : decode jdk_42_method_56_code 15 = .ok (.ireturn, 1) := by decide +kernel
theorem d4_16 : decode jdk_42_method_56_code 16 = .ok (.aload_n 0, 1) := by decide +kernel
theorem d4_17 : decode jdk_42_method_56_code 17 = .ok (.getfield 9, 3) := by decide +kernel
theorem d4_20 : decode jdk_42_method_56_code 20 = .ok (.iload_n 1, 1) := by decide +kernel
theorem d4_21 : decode jdk_42_method_56_code 21 = .ok (.invokestatic 498, 3) := by decide +kernel
theorem d4_24 : decode jdk_42_method_56_code 24 = .ok (.ireturn, 1) := by decide +kernel
theorem pf4 : plainFor (⟨"java/lang/String", "charAt", "(I)C"⟩ : MethodName) = true := by first | exact plainFor_of_name (by first | (simp [plainName, overriddenIn]; done) | decide +kernel) | decide +kernel
theorem ef_charAt (m : MethodId) (z0 : Addr) (z1 : Int32) : entryFrame m #[(.ref z0), (.int z1)] 2 = mkF m 0 #[.val (.ref z0), .val (.int z1)] [] := by first | rfl | (simp [entryFrame, mkF, argsToLocals, Value.category, *]; done) | rfl
set_option maxRecDepth 65536 in
set_option maxHeartbeats 40000000 in
theorem rm_charAt {l : Launch} {Z : State} {a0 : Array Value} {n0 : Nat} (G : Gl Z a0 n0) {h0 : Heap} (O : Old Z n0 h0) (a : Addr) (cs : List Int32) (i : Nat) (ch : Int32) (S : Str Z h0 a cs) (hi : cs[i]? = some ch) :
    Ct [] l Z n0 (⟨"java/lang/String", "charAt", "(I)C"⟩ : MethodName) jdk_42_method_56_code 2 (some .char) ({ frames := 3, cells := 0, slots := 0, locals := 40 } : Room) #[(.ref a), (.int (Int32.ofNat i))] h0 (fun v h => h = h0 ∧ v = some (.int ch)) := by
  refine Ct.intro pf4 ?_
  intro p e s m below meth c C
  refine AtW.cast ?_ (ef_charAt m a (Int32.ofNat i))
  obtain ⟨E, hr, t, FC, FV, A⟩ := id S
  have hc := hr.get hi
  refine w_aloadN (q := 1) C rfl rfl d4_0 rfl ?_
  refine w_callV (q := 4) (argsL := []) (S := []) (W := 0) (cells' := 0) (slots' := 0) (a := a) C E (G.1 _ (List.mem_of_getElem? (i := 31) rfl)) (G.1 _ (List.mem_of_getElem? (i := 32) rfl)) (w_nf C (G.1 _ (List.mem_of_getElem? (i := 34) rfl))) (G.1 _ (List.mem_of_getElem? (i := 34) rfl)) (G.1 _ (List.mem_of_getElem? (i := 33) rfl)) (G.1 _ (List.mem_of_getElem? (i := 1) rfl)) (G.1 _ (List.mem_of_getElem? (i := 35) rfl)) (by decide) (rm_isLatin1 G O a cs S) rfl (lenOf pd_5 rfl) rfl (by decide) (own_leb rfl) (by decide) rfl rfl (by decide) (by decide) d4_1 rfl ?_
  rintro _ h7 ⟨eh8, rfl⟩
  rw [eh8]
  show AtW p l e _ s m _ below meth c n0 _ h0 0 0 (mkF m 4 #[.val (.ref a), .val (.int (Int32.ofNat i))] [(.int (1 : Int32))])
  refine w_if_eq_f (q := 7) C d4_4 rfl (by decide) ?_
  refine w_aloadN (q := 8) C rfl rfl d4_7 rfl ?_
  refine w_getF (q := 11) (host := "") C (Or.inl (G.1 _ (List.mem_of_getElem? (i := 18) rfl))) Via.refl FV d4_8 rfl ?_
  refine w_iloadN (q := 12) C rfl d4_11 rfl ?_
  refine w_callS (q := 15) (argsL := [(.ref t), (.int (Int32.ofNat i))]) (S := []) (W := 0) (cells' := 0) (slots' := 0) C (G.1 _ (List.mem_of_getElem? (i := 36) rfl)) (G.1 _ (List.mem_of_getElem? (i := 37) rfl)) (G.1 _ (List.mem_of_getElem? (i := 38) rfl)) (G.1 _ (List.mem_of_getElem? (i := 39) rfl)) (by decide) (rm_charAtL G O t cs i ch A hr hi) rfl (lenOf pd_6 rfl) rfl (by decide) (own_leb rfl) (by decide) rfl rfl (by decide) (by decide) d4_12 rfl ?_
  rintro _ h9 ⟨eh10, rfl⟩
  rw [eh10]
  show AtW p l e _ s m _ below meth c n0 _ h0 0 0 (mkF m 15 #[.val (.ref a), .val (.int (Int32.ofNat i))] [(.int ch)])
  exact w_retZ (z := ch) C (t := .char) rfl (by simp) (own_nar hc.1 hc.2) d4_15 (by decide) (by decide) ⟨rfl, rfl⟩
theorem own_fill (cs : List Int32) (i k : Nat) (c : Int32) (h : cs[i]? = some c) : (own_bs (cs.take i) ++ List.replicate (k + 1) (Value.int (0 : Int32))).set i (.int c.toInt8.toInt32) = own_bs (cs.take (i + 1)) ++ List.replicate k (Value.int (0 : Int32)) := by
  obtain ⟨hi, hg⟩ := List.getElem?_eq_some_iff.mp h
  have hl : (own_bs (cs.take i)).length = i := by rw [own_bs_len, List.length_take]; omega
  rw [List.set_append_right _ _ (by omega), hl, Nat.sub_self, List.replicate_succ, List.set_cons_zero, List.take_add_one, h]
  simp [own_bs]

theorem d13_0 : decode jdk_52_method_21_code 0 = .ok (.iconst 0, 1) := by decide +kernel
theorem d13_1 : decode jdk_52_method_21_code 1 = .ok (.istore 5, 2) := by decide +kernel
theorem d13_3 : decode jdk_52_method_21_code 3 = .ok (.iload 5, 2) := by decide +kernel
theorem d13_5 : decode jdk_52_method_21_code 5 = .ok (.iload 4, 2) := by decide +kernel
theorem d13_7 : decode jdk_52_method_21_code 7 = .ok (.if_icmp .ge 37, 3) := by decide +kernel
theorem d13_10 : decode jdk_52_method_21_code 10 = .ok (.aload_n 0, 1) := by decide +kernel
theorem d13_11 : decode jdk_52_method_21_code 11 = .ok (.iload_n 1, 1) := by decide +kernel
theorem d13_12 : decode jdk_52_method_21_code 12 = .ok (.caload, 1) := by decide +kernel
theorem d13_13 : decode jdk_52_method_21_code 13 = .ok (.istore 6, 2) := by decide +kernel
theorem d13_15 : decode jdk_52_method_21_code 15 = .ok (.iload 6, 2) := by decide +kernel
theorem d13_17 : decode jdk_52_method_21_code 17 = .ok (.sipush 255, 3) := by decide +kernel
theorem d13_20 : decode jdk_52_method_21_code 20 = .ok (.if_icmp .le 6, 3) := by decide +kernel
theorem d13_23 : decode jdk_52_method_21_code 23 = .ok (.iload 5, 2) := by decide +kernel
theorem d13_25 : decode jdk_52_method_21_code 25 = .ok (.ireturn, 1) := by decide +kernel
theorem d13_26 : decode jdk_52_method_21_code 26 = .ok (.aload_n 2, 1) := by decide +kernel
theorem d13_27 : decode jdk_52_method_21_code 27 = .ok (.iload_n 3, 1) := by decide +kernel
theorem d13_28 : decode jdk_52_method_21_code 28 = .ok (.iload 6, 2) := by decide +kernel
theorem d13_30 : decode jdk_52_method_21_code 30 = .ok (.i2b, 1) := by decide +kernel
theorem d13_31 : decode jdk_52_method_21_code 31 = .ok (.bastore, 1) := by decide +kernel
theorem d13_32 : decode jdk_52_method_21_code 32 = .ok (.iinc 1 1, 3) := by decide +kernel
theorem d13_35 : decode jdk_52_method_21_code 35 = .ok (.iinc 3 1, 3) := by decide +kernel
theorem d13_38 : decode jdk_52_method_21_code 38 = .ok (.iinc 5 1, 3) := by decide +kernel
theorem d13_41 : decode jdk_52_method_21_code 41 = .ok (.goto (-38), 3) := by decide +kernel
theorem d13_44 : decode jdk_52_method_21_code 44 = .ok (.iload 4, 2) := by decide +kernel
theorem d13_46 : decode jdk_52_method_21_code 46 = .ok (.ireturn, 1) := by decide +kernel
theorem pf13 : plainFor (⟨"java/lang/StringUTF16", "compress", "([CI[BII)I"⟩ : MethodName) = true := by first | exact plainFor_of_name (by first | (simp [plainName, overriddenIn]; done) | decide +kernel) | decide +kernel
theorem ef_comp5 (m : MethodId) (z0 : Addr) (z1 : Int32) (z2 : Addr) (z3 : Int32) (z4 : Int32) : entryFrame m #[(.ref z0), (.int z1), (.ref z2), (.int z3), (.int z4)] 7 = mkF m 0 #[.val (.ref z0), .val (.int z1), .val (.ref z2), .val (.int z3), .val (.int z4), .unset, .unset] [] := by first | rfl | (simp [entryFrame, mkF, argsToLocals, Value.category, *]; done) | rfl
set_option maxRecDepth 65536 in
set_option maxHeartbeats 40000000 in
theorem rm_comp5 {l : Launch} {Z : State} {a0 : Array Value} {n0 : Nat} (G : Gl Z a0 n0) {h0 : Heap} (O : Old Z n0 h0) (a : Addr) (cs : List Int32) (t : Addr) (A : Ar Z h0 a .char (cs.map Value.int)) (hr : L1 cs) (B : Ar Z h0 t .byte (List.replicate cs.length (Value.int (0 : Int32)))) (hne : a ≠ t) (hge : n0 ≤ t) :
    Ct [] l Z n0 (⟨"java/lang/StringUTF16", "compress", "([CI[BII)I"⟩ : MethodName) jdk_52_method_21_code 7 (some .int) ({ frames := 0, cells := 0, slots := 0, locals := 0 } : Room) #[(.ref a), (.int (0 : Int32)), (.ref t), (.int (0 : Int32)), (.int (Int32.ofNat cs.length))] h0 (fun v h => Keep h0 h [t] ∧ v = some (.int (Int32.ofNat cs.length)) ∧ Ar Z h t .byte (own_bs cs)) := by
  refine Ct.intro pf13 ?_
  intro p e s m below meth c C
  refine AtW.cast ?_ (ef_comp5 m a (0 : Int32) t (0 : Int32) (Int32.ofNat cs.length))
  have hl : cs.length < 2 ^ 31 := by have := A.1; rw [List.length_map] at this; exact this
  have LOOP : ∀ (k i : Nat) (h1 : Heap) (s6 : Slot), i + k = cs.length → One s6 → Keep h0 h1 [t] → Ar Z h1 t .byte (own_bs (cs.take i) ++ List.replicate k (Value.int (0 : Int32))) → AtW p l e ({ frames := 0, cells := 0, slots := 0, locals := 0 } : Room) s m #[(.ref a), (.int (0 : Int32)), (.ref t), (.int (0 : Int32)), (.int (Int32.ofNat cs.length))] below meth c n0 (fun v h => Keep h0 h [t] ∧ v = some (.int (Int32.ofNat cs.length)) ∧ Ar Z h t .byte (own_bs cs)) h1 0 0 (mkF m 3 #[.val (.ref a), .val (.int (Int32.ofNat i)), .val (.ref t), .val (.int (Int32.ofNat i)), .val (.int (Int32.ofNat cs.length)), .val (.int (Int32.ofNat i)), s6] []) := by
    intro k
    induction k with
    | zero =>
      intro i h1 s6 hik hs K V
      obtain rfl : i = cs.length := by omega
      refine w_iload (q := 5) C rfl d13_3 rfl ?_
      refine w_iload (q := 7) C rfl d13_5 rfl ?_
      refine w_icmp_ge_t (q := 44) C d13_7 (by decide) (by decide) (fun q => Nat.lt_irrefl _ ((own_nlt hl hl).mp q)) ?_
      refine w_iload (q := 46) C rfl d13_44 rfl ?_
      exact w_retI C rfl d13_46 (by decide) (by decide) ⟨K, rfl, by simpa using V⟩
    | succ k ih =>
      intro i h1 s6 hik hs K V
      have hil : i < cs.length := by omega
      obtain ⟨ch, hch⟩ : ∃ ch, cs[i]? = some ch := ⟨_, List.getElem?_eq_getElem hil⟩
      have hc := hr.get hch
      refine w_iload (q := 5) C rfl d13_3 rfl ?_
      refine w_iload (q := 7) C rfl d13_5 rfl ?_
      refine w_icmp_ge_f (q := 10) C d13_7 rfl ((own_nlt (by omega) hl).mpr hil) ?_
      refine w_aloadN (q := 11) C rfl rfl d13_10 rfl ?_
      refine w_iloadN (q := 12) C rfl d13_11 rfl ?_
      refine w_caload (q := 13) (i := i) (v := (.int ch)) C (A.keep K (ninS hne nin0)) rfl (by simp [hch]) d13_12 rfl ?_
      refine w_istore (q := 15) (L' := #[.val (.ref a), .val (.int (Int32.ofNat i)), .val (.ref t), .val (.int (Int32.ofNat i)), .val (.int (Int32.ofNat cs.length)), .val (.int (Int32.ofNat i)), .val (.int ch)]) C (Jvm.Free.XS.store1 (o := s6) rfl hs rfl) d13_13 rfl ?_
      refine w_iload (q := 17) C rfl d13_15 rfl ?_
      refine w_sipush (q := 20) (v := (255 : Int32)) C (by rfl) d13_17 rfl ?_
      refine w_icmp_le_t (q := 26) C d13_20 (by decide) (by decide) hc.2 ?_
      refine w_aloadN (q := 27) C rfl rfl d13_26 rfl ?_
      refine w_iloadN (q := 28) C rfl d13_27 rfl ?_
      refine w_iload (q := 30) C rfl d13_28 rfl ?_
      refine w_i2b (q := 31) C rfl d13_30 rfl ?_
      refine w_bastore (q := 32) (z := ch.toInt8.toInt32) (i := i) C (own_nar8 ch) V rfl (by simp [own_bs_len]; omega) hge d13_31 rfl ?_
      intro h11 Wh11 Vh11
      rw [own_fill cs i k ch hch] at Vh11
      refine w_iinc (q := 35) (L' := #[.val (.ref a), .val (.int (Int32.ofNat (i + 1))), .val (.ref t), .val (.int (Int32.ofNat i)), .val (.int (Int32.ofNat cs.length)), .val (.int (Int32.ofNat i)), .val (.int ch)]) C rfl (own_one i) rfl d13_32 rfl ?_
      refine w_iinc (q := 38) (L' := #[.val (.ref a), .val (.int (Int32.ofNat (i + 1))), .val (.ref t), .val (.int (Int32.ofNat (i + 1))), .val (.int (Int32.ofNat cs.length)), .val (.int (Int32.ofNat i)), .val (.int ch)]) C rfl (own_one i) rfl d13_35 rfl ?_
      refine w_iinc (q := 41) (L' := #[.val (.ref a), .val (.int (Int32.ofNat (i + 1))), .val (.ref t), .val (.int (Int32.ofNat (i + 1))), .val (.int (Int32.ofNat cs.length)), .val (.int (Int32.ofNat (i + 1))), .val (.int ch)]) C rfl (own_one i) rfl d13_38 rfl ?_
      refine w_goto (q := 3) C d13_41 (by decide) (by decide) ?_
      exact ih (i + 1) h11 _ (by omega) (One.val rfl) (K.wr Wh11 (Or.inl (List.mem_cons_self ..))) Vh11
  refine w_iconst (q := 1) (v := (0 : Int32)) C (by rfl) d13_0 rfl ?_
  refine w_istore (q := 3) (L' := #[.val (.ref a), .val (.int (0 : Int32)), .val (.ref t), .val (.int (0 : Int32)), .val (.int (Int32.ofNat cs.length)), .val (.int (0 : Int32)), .unset]) C rfl d13_1 rfl ?_
  exact LOOP cs.length 0 h0 .unset (by omega) One.u (Keep.refl _ _) (by simpa [own_bs] using B)
theorem d12_0 : decode jdk_52_method_16_code 0 = .ok (.iload_n 2, 1) := by decide +kernel
theorem d12_1 : decode jdk_52_method_16_code 1 = .ok (.newarray .byte, 2) := by decide +kernel
theorem d12_3 : decode jdk_52_method_16_code 3 = .ok (.astore_n 3, 1) := by decide +kernel
theorem d12_4 : decode jdk_52_method_16_code 4 = .ok (.aload_n 0, 1) := by decide +kernel
theorem d12_5 : decode jdk_52_method_16_code 5 = .ok (.iload_n 1, 1) := by decide +kernel
theorem d12_6 : decode jdk_52_method_16_code 6 = .ok (.aload_n 3, 1) := by decide +kernel
theorem d12_7 : decode jdk_52_method_16_code 7 = .ok (.iconst 0, 1) := by decide +kernel
theorem d12_8 : decode jdk_52_method_16_code 8 = .ok (.iload_n 2, 1) := by decide +kernel
theorem d12_9 : decode jdk_52_method_16_code 9 = .ok (.invokestatic 115, 3) := by decide +kernel
theorem d12_12 : decode jdk_52_method_16_code 12 = .ok (.istore 4, 2) := by decide +kernel
theorem d12_14 : decode jdk_52_method_16_code 14 = .ok (.iload 4, 2) := by decide +kernel
theorem d12_16 : decode jdk_52_method_16_code 16 = .ok (.iload_n 2, 1) := by decide +kernel
theorem d12_17 : decode jdk_52_method_16_code 17 = .ok (.if_icmp .eq 40, 3) := by decide +kernel
theorem d12_20 : decode jdk_52_method_16_code 20 = .ok (.aload_n 0, 1) := by decide +kernel
theorem d12_21 : decode jdk_52_method_16_code 21 = .ok (.iload_n 1, 1) := by decide +kernel
theorem d12_22 : decode jdk_52_method_16_code 22 = .ok (.iload_n 2, 1) := by decide +kernel
theorem d12_23 : decode jdk_52_method_16_code 23 = .ok (.invokestatic 119, 3) := by decide +kernel
theorem d12_26 : decode jdk_52_method_16_code 26 = .ok (.astore 5, 2) := by decide +kernel
theorem d12_28 : decode jdk_52_method_16_code 28 = .ok (.aload 5, 2) := by decide +kernel
theorem d12_30 : decode jdk_52_method_16_code 30 = .ok (.iload 4, 2) := by decide +kernel
theorem d12_32 : decode jdk_52_method_16_code 32 = .ok (.invokestatic 71, 3) := by decide +kernel
theorem d12_35 : decode jdk_52_method_16_code 35 = .ok (.sipush 255, 3) := by decide +kernel
theorem d12_38 : decode jdk_52_method_16_code 38 = .ok (.if_icmp .gt 16, 3) := by decide +kernel
theorem d12_41 : decode jdk_52_method_16_code 41 = .ok (.aload 5, 2) := by decide +kernel
theorem d12_43 : decode jdk_52_method_16_code 43 = .ok (.iconst 0, 1) := by decide +kernel
theorem d12_44 : decode jdk_52_method_16_code 44 = .ok (.aload_n 3, 1) := by decide +kernel
theorem d12_45 : decode jdk_52_method_16_code 45 = .ok (.iconst 0, 1) := by decide +kernel
theorem d12_46 : decode jdk_52_method_16_code 46 = .ok (.iload_n 2, 1) := by decide +kernel
theorem d12_47 : decode jdk_52_method_16_code 47 = .ok (.invokestatic 123, 3) := by decide +kernel
theorem d12_50 : decode jdk_52_method_16_code 50 = .ok (.iload_n 2, 1) := by decide +kernel
theorem d12_51 : decode jdk_52_method_16_code 51 = .ok (.if_icmp .eq 6, 3) := by decide +kernel
theorem d12_54 : decode jdk_52_method_16_code 54 = .ok (.aload 5, 2) := by decide +kernel
theorem d12_56 : decode jdk_52_method_16_code 56 = .ok (.areturn, 1) := by decide +kernel
theorem d12_57 : decode jdk_52_method_16_code 57 = .ok (.aload_n 3, 1) := by decide +kernel
theorem d12_58 : decode jdk_52_method_16_code 58 = .ok (.areturn, 1) := by decide +kernel
theorem pf12 : plainFor (⟨"java/lang/StringUTF16", "compress", "([CII)[B"⟩ : MethodName) = true := by first | exact plainFor_of_name (by first | (simp [plainName, overriddenIn]; done) | decide +kernel) | decide +kernel
theorem ef_comp3 (m : MethodId) (z0 : Addr) (z1 : Int32) (z2 : Int32) : entryFrame m #[(.ref z0), (.int z1), (.int z2)] 6 = mkF m 0 #[.val (.ref z0), .val (.int z1), .val (.int z2), .unset, .unset, .unset] [] := by first | rfl | (simp [entryFrame, mkF, argsToLocals, Value.category, *]; done) | rfl
set_option maxRecDepth 65536 in
set_option maxHeartbeats 40000000 in
theorem rm_comp3 {l : Launch} {Z : State} {a0 : Array Value} {n0 : Nat} (G : Gl Z a0 n0) {h0 : Heap} (O : Old Z n0 h0) (a : Addr) (cs : List Int32) (A : Ar Z h0 a .char (cs.map Value.int)) (hr : L1 cs) (hcap : cs.length ≤ 15) :
    Ct [] l Z n0 (⟨"java/lang/StringUTF16", "compress", "([CII)[B"⟩ : MethodName) jdk_52_method_16_code 6 (some (.array .byte)) ({ frames := 1, cells := 1, slots := 15, locals := 18 } : Room) #[(.ref a), (.int (0 : Int32)), (.int (Int32.ofNat cs.length))] h0 (fun v h => Keep h0 h [] ∧ ∃ t, v = some (.ref t) ∧ h0.size ≤ t ∧ Ar Z h t .byte (own_bs cs)) := by
  refine Ct.intro pf12 ?_
  intro p e s m below meth c C
  refine AtW.cast ?_ (ef_comp3 m a (0 : Int32) (Int32.ofNat cs.length))
  have hl : cs.length < 2 ^ 31 := by omega
  refine w_iloadN (q := 1) C rfl d12_0 rfl ?_
  refine w_newArr (q := 3) (cap := 15) (cells' := 1) (slots' := 15) C (G.1 _ (List.mem_of_getElem? (i := 3) rfl)) rfl (ofNat_neg hl) (by rw [ofNat_nat hl]; exact hcap) (by decide) rfl rfl (by decide) (by decide) d12_1 rfl ?_
  intro h12 t g_t Eh12 V_t
  replace V_t : Ar Z h12 t .byte (List.replicate cs.length (Value.int (0 : Int32))) := by rw [ofNat_nat hl] at V_t; exact V_t
  have hge : n0 ≤ t := by rw [g_t]; exact Old_le O
  have hg0 : h0.size ≤ t := Nat.le_of_eq g_t.symm
  have K1 : Keep h0 h12 [] := Keep.of_ext Eh12
  replace O := Old_k0 O K1
  refine w_astoreN (q := 4) (L' := #[.val (.ref a), .val (.int (0 : Int32)), .val (.int (Int32.ofNat cs.length)), .val (.ref t), .unset, .unset]) C rfl rfl d12_3 rfl ?_
  refine w_aloadN (q := 5) C rfl rfl d12_4 rfl ?_
  refine w_iloadN (q := 6) C rfl d12_5 rfl ?_
  refine w_aloadN (q := 7) C rfl rfl d12_6 rfl ?_
  refine w_iconst (q := 8) (v := (0 : Int32)) C (by rfl) d12_7 rfl ?_
  refine w_iloadN (q := 9) C rfl d12_8 rfl ?_
  refine w_callS (q := 12) (argsL := [(.ref a), (.int (0 : Int32)), (.ref t), (.int (0 : Int32)), (.int (Int32.ofNat cs.length))]) (S := []) (W := 0) (cells' := 1) (slots' := 15) C (G.1 _ (List.mem_of_getElem? (i := 63) rfl)) (G.1 _ (List.mem_of_getElem? (i := 64) rfl)) (G.1 _ (List.mem_of_getElem? (i := 61) rfl)) (G.1 _ (List.mem_of_getElem? (i := 65) rfl)) (by decide) (rm_comp5 G O a cs t (Ar_k0 A K1) hr V_t (Nat.ne_of_lt (by rw [g_t]; exact A.lt)) hge) rfl (lenOf pd_13 rfl) rfl (by decide) (own_leb rfl) (by decide) rfl rfl (by decide) (by decide) d12_9 rfl ?_
  rintro _ h13 ⟨Kh13, rfl, B2⟩
  show AtW p l e _ s m _ below meth c n0 _ h13 1 15 (mkF m 12 #[.val (.ref a), .val (.int (0 : Int32)), .val (.int (Int32.ofNat cs.length)), .val (.ref t), .unset, .unset] [(.int (Int32.ofNat cs.length))])
  refine w_istore (q := 14) (L' := #[.val (.ref a), .val (.int (0 : Int32)), .val (.int (Int32.ofNat cs.length)), .val (.ref t), .val (.int (Int32.ofNat cs.length)), .unset]) C rfl d12_12 rfl ?_
  refine w_iload (q := 16) C rfl d12_14 rfl ?_
  refine w_iloadN (q := 17) C rfl d12_16 rfl ?_
  refine w_icmp_eq_t (q := 57) C d12_17 (by decide) (by decide) rfl ?_
  refine w_aloadN (q := 58) C rfl rfl d12_57 rfl ?_
  exact w_retA C rfl rfl rfl d12_58 (by decide) (by decide) ⟨own_K1 K1 Kh13 hg0, t, rfl, hg0, B2⟩
theorem d14_0 : decode jdk_52_method_15_code 0 = .ok (.iload_n 1, 1) := by decide +kernel
theorem d14_1 : decode jdk_52_method_15_code 1 = .ok (.aload_n 0, 1) := by decide +kernel
theorem d14_2 : decode jdk_52_method_15_code 2 = .ok (.arraylength, 1) := by decide +kernel
theorem d14_3 : decode jdk_52_method_15_code 3 = .ok (.isub, 1) := by decide +kernel
theorem d14_4 : decode jdk_52_method_15_code 4 = .ok (.bipush 31, 2) := by decide +kernel
theorem d14_6 : decode jdk_52_method_15_code 6 = .ok (.iushr, 1) := by decide +kernel
theorem d14_7 : decode jdk_52_method_15_code 7 = .ok (.i2b, 1) := by decide +kernel
theorem d14_8 : decode jdk_52_method_15_code 8 = .ok (.ireturn, 1) := by decide +kernel
theorem pf14 : plainFor (⟨"java/lang/StringUTF16", "coderFromArrayLen", "([BI)B"⟩ : MethodName) = true := by first | exact plainFor_of_name (by first | (simp [plainName, overriddenIn]; done) | decide +kernel) | decide +kernel
theorem ef_codL (m : MethodId) (z0 : Addr) (z1 : Int32) : entryFrame m #[(.ref z0), (.int z1)] 2 = mkF m 0 #[.val (.ref z0), .val (.int z1)] [] := by first | rfl | (simp [entryFrame, mkF, argsToLocals, Value.category, *]; done) | rfl
set_option maxRecDepth 65536 in
set_option maxHeartbeats 40000000 in
theorem rm_codL {l : Launch} {Z : State} {a0 : Array Value} {n0 : Nat} (G : Gl Z a0 n0) {h0 : Heap} (O : Old Z n0 h0) (t : Addr) (cs : List Int32) (A : Ar Z h0 t .byte (own_bs cs)) :
    Ct [] l Z n0 (⟨"java/lang/StringUTF16", "coderFromArrayLen", "([BI)B"⟩ : MethodName) jdk_52_method_15_code 2 (some .byte) ({ frames := 0, cells := 0, slots := 0, locals := 0 } : Room) #[(.ref t), (.int (Int32.ofNat cs.length))] h0 (fun v h => h = h0 ∧ v = some (.int 0)) := by
  refine Ct.intro pf14 ?_
  intro p e s m below meth c C
  refine AtW.cast ?_ (ef_codL m t (Int32.ofNat cs.length))
  refine w_iloadN (q := 1) C rfl d14_0 rfl ?_
  refine w_aloadN (q := 2) C rfl rfl d14_1 rfl ?_
  refine w_len (q := 3) (z := (Int32.ofNat cs.length)) C A (by rw [own_bs_len]) d14_2 rfl ?_
  refine w_isub (q := 4) C rfl d14_3 rfl ?_
  rw [show ((Int32.ofNat cs.length) - (Int32.ofNat cs.length)) = (0 : Int32) from Int32.sub_self _]
  refine w_bipush (q := 6) (v := (31 : Int32)) C (by rfl) d14_4 rfl ?_
  refine w_iushr (q := 7) (z := (0 : Int32)) C (by decide) d14_6 rfl ?_
  refine w_i2b (q := 8) (z := (0 : Int32)) C (by decide) d14_7 rfl ?_
  exact w_retZ (z := (0 : Int32)) C (t := .byte) rfl (by simp) (by decide) d14_8 (by decide) (by decide) ⟨rfl, rfl⟩
theorem d10_0 : decode jdk_42_method_149_code 0 = .ok (.aload_n 0, 1) := by decide +kernel
theorem d10_1 : decode jdk_42_method_149_code 1 = .ok (.invokespecial 1, 3) := by decide +kernel
theorem d10_4 : decode jdk_42_method_149_code 4 = .ok (.iload_n 3, 1) := by decide +kernel
theorem d10_5 : decode jdk_42_method_149_code 5 = .ok (.ifCond .ne 22, 3) := by decide +kernel
theorem d10_8 : decode jdk_42_method_149_code 8 = .ok (.aload_n 0, 1) := by decide +kernel
theorem d10_9 : decode jdk_42_method_149_code 9 = .ok (.ldc 7, 2) := by decide +kernel
theorem d10_11 : decode jdk_42_method_149_code 11 = .ok (.getfield 9, 3) := by decide +kernel
theorem d10_14 : decode jdk_42_method_149_code 14 = .ok (.putfield 9, 3) := by decide +kernel
theorem d10_17 : decode jdk_42_method_149_code 17 = .ok (.aload_n 0, 1) := by decide +kernel
theorem d10_18 : decode jdk_42_method_149_code 18 = .ok (.ldc 7, 2) := by decide +kernel
theorem d10_20 : decode jdk_42_method_149_code 20 = .ok (.getfield 15, 3) := by decide +kernel
theorem d10_23 : decode jdk_42_method_149_code 23 = .ok (.putfield 15, 3) := by decide +kernel
theorem d10_26 : decode jdk_42_method_149_code 26 = .ok (.return_, 1) := by decide +kernel
theorem d10_27 : decode jdk_42_method_149_code 27 = .ok (.getstatic 38, 3) := by decide +kernel
theorem d10_30 : decode jdk_42_method_149_code 30 = .ok (.ifCond .eq 28, 3) := by decide +kernel
theorem d10_33 : decode jdk_42_method_149_code 33 = .ok (.aload_n 1, 1) := by decide +kernel
theorem d10_34 : decode jdk_42_method_149_code 34 = .ok (.iload_n 2, 1) := by decide +kernel
theorem d10_35 : decode jdk_42_method_149_code 35 = .ok (.iload_n 3, 1) := by decide +kernel
theorem d10_36 : decode jdk_42_method_149_code 36 = .ok (.invokestatic 177, 3) := by decide +kernel
theorem d10_39 : decode jdk_42_method_149_code 39 = .ok (.astore 5, 2) := by decide +kernel
theorem d10_41 : decode jdk_42_method_149_code 41 = .ok (.aload_n 0, 1) := by decide +kernel
theorem d10_42 : decode jdk_42_method_149_code 42 = .ok (.aload 5, 2) := by decide +kernel
theorem d10_44 : decode jdk_42_method_149_code 44 = .ok (.iload_n 3, 1) := by decide +kernel
theorem d10_45 : decode jdk_42_method_149_code 45 = .ok (.invokestatic 47, 3) := by decide +kernel
theorem d10_48 : decode jdk_42_method_149_code 48 = .ok (.putfield 15, 3) := by decide +kernel
theorem d10_51 : decode jdk_42_method_149_code 51 = .ok (.aload_n 0, 1) := by decide +kernel
theorem d10_52 : decode jdk_42_method_149_code 52 = .ok (.aload 5, 2) := by decide +kernel
theorem d10_54 : decode jdk_42_method_149_code 54 = .ok (.putfield 9, 3) := by decide +kernel
theorem d10_57 : decode jdk_42_method_149_code 57 = .ok (.return_, 1) := by decide +kernel
theorem d10_58 : decode jdk_42_method_149_code 58 = .ok (.aload_n 0, 1) := by decide +kernel
theorem d10_59 : decode jdk_42_method_149_code 59 = .ok (.iconst 1, 1) := by decide +kernel
theorem d10_60 : decode jdk_42_method_149_code 60 = .ok (.putfield 15, 3) := by decide +kernel
theorem d10_63 : decode jdk_42_method_149_code 63 = .ok (.aload_n 0, 1) := by decide +kernel
theorem d10_64 : decode jdk_42_method_149_code 64 = .ok (.aload_n 1, 1) := by decide +kernel
theorem d10_65 : decode jdk_42_method_149_code 65 = .ok (.iload_n 2, 1) := by decide +kernel
theorem d10_66 : decode jdk_42_method_149_code 66 = .ok (.iload_n 3, 1) := by decide +kernel
theorem d10_67 : decode jdk_42_method_149_code 67 = .ok (.invokestatic 180, 3) := by decide +kernel
theorem d10_70 : decode jdk_42_method_149_code 70 = .ok (.putfield 9, 3) := by decide +kernel
theorem d10_73 : decode jdk_42_method_149_code 73 = .ok (.return_, 1) := by decide +kernel
theorem pf10 : plainFor (⟨"java/lang/String", "<init>", "([CIILjava/lang/Void;)V"⟩ : MethodName) = true := by first | exact plainFor_of_name (by first | (simp [plainName, overriddenIn]; done) | decide +kernel) | decide +kernel
theorem ef_strinit4 (m : MethodId) (z0 : Addr) (z1 : Addr) (z2 : Int32) (z3 : Int32) : entryFrame m #[(.ref z0), (.ref z1), (.int z2), (.int z3), .null] 6 = mkF m 0 #[.val (.ref z0), .val (.ref z1), .val (.int z2), .val (.int z3), .val .null, .unset] [] := by first | rfl | (simp [entryFrame, mkF, argsToLocals, Value.category, *]; done) | rfl
set_option maxRecDepth 65536 in
set_option maxHeartbeats 40000000 in
theorem rm_strinit4 {l : Launch} {Z : State} {a0 : Array Value} {n0 : Nat} (G : Gl Z a0 n0) {h0 : Heap} (O : Old Z n0 h0) (a : Addr) (b : Addr) (cs : List Int32) (E : Exa Z h0 a "java/lang/String") (FV : Fld Z h0 a "java/lang/String" "value" "[B" .null) (FC : Fld Z h0 a "java/lang/String" "coder" "B" (.int (0 : Int32))) (hge : n0 ≤ a) (A : Ar Z h0 b .char (cs.map Value.int)) (hr : L1 cs) (hcap : cs.length ≤ 15) (h1 : cs.length ≠ 0) :
    Ct [] l Z n0 (⟨"java/lang/String", "<init>", "([CIILjava/lang/Void;)V"⟩ : MethodName) jdk_42_method_149_code 6 none ({ frames := 2, cells := 1, slots := 15, locals := 35 } : Room) #[(.ref a), (.ref b), (.int (0 : Int32)), (.int (Int32.ofNat cs.length)), .null] h0 (fun v h => Keep h0 h [a] ∧ v = none ∧ Str Z h a cs) := by
  refine Ct.intro pf10 ?_
  intro p e s m below meth c C
  refine AtW.cast ?_ (ef_strinit4 m a b (0 : Int32) (Int32.ofNat cs.length))
  obtain ⟨zc, SC, hzc⟩ := G.cs
  refine w_aloadN (q := 1) C rfl rfl d10_0 rfl ?_
  refine w_initO (q := 4) (W := 0) C (G.1 _ (List.mem_of_getElem? (i := 56) rfl)) (G.1 _ (List.mem_of_getElem? (i := 57) rfl)) (G.1 _ (List.mem_of_getElem? (i := 58) rfl)) rfl (by decide) (own_leb rfl) (by decide) d10_1 rfl ?_
  refine w_iloadN (q := 5) C rfl d10_4 rfl ?_
  refine w_if_ne_t (q := 27) C d10_5 (by decide) (by decide) (fun q => h1 ((own_neq (n := 0) (by omega) (by omega)).mp q)) ?_
  refine w_getS (q := 30) (host := "") C (Or.inl (G.1 _ (List.mem_of_getElem? (i := 24) rfl))) Via.refl (SC.ext O.2) d10_27 rfl ?_
  refine w_if_eq_f (q := 33) C d10_30 rfl hzc ?_
  refine w_aloadN (q := 34) C rfl rfl d10_33 rfl ?_
  refine w_iloadN (q := 35) C rfl d10_34 rfl ?_
  refine w_iloadN (q := 36) C rfl d10_35 rfl ?_
  have A_lt := E.lt
  refine w_callS (q := 39) (argsL := [(.ref b), (.int (0 : Int32)), (.int (Int32.ofNat cs.length))]) (S := []) (W := 0) (cells' := 1) (slots' := 15) C (G.1 _ (List.mem_of_getElem? (i := 59) rfl)) (G.1 _ (List.mem_of_getElem? (i := 60) rfl)) (G.1 _ (List.mem_of_getElem? (i := 61) rfl)) (G.1 _ (List.mem_of_getElem? (i := 62) rfl)) (by decide) (rm_comp3 G O b cs A hr hcap) rfl (lenOf pd_12 rfl) rfl (by decide) (own_leb rfl) (by decide) rfl rfl (by decide) (by decide) d10_36 rfl ?_
  rintro _ h14 ⟨Kh14, t, rfl, hg, B⟩
  show AtW p l e _ s m _ below meth c n0 _ h14 1 15 (mkF m 39 #[.val (.ref a), .val (.ref b), .val (.int (0 : Int32)), .val (.int (Int32.ofNat cs.length)), .val .null, .unset] [(.ref t)])
  replace O := Old_k0 O Kh14
  replace E := Exa_k0 E Kh14
  replace FV := Fld_k0 FV Kh14
  replace FC := Fld_k0 FC Kh14
  have hne : t ≠ a := Ne.symm (Nat.ne_of_lt (Nat.lt_of_lt_of_le A_lt hg))
  refine w_astore (q := 41) (L' := #[.val (.ref a), .val (.ref b), .val (.int (0 : Int32)), .val (.int (Int32.ofNat cs.length)), .val .null, .val (.ref t)]) C rfl rfl d10_39 rfl ?_
  refine w_aloadN (q := 42) C rfl rfl d10_41 rfl ?_
  refine w_aload (q := 44) C rfl rfl d10_42 rfl ?_
  refine w_iloadN (q := 45) C rfl d10_44 rfl ?_
  refine w_callS (q := 48) (argsL := [(.ref t), (.int (Int32.ofNat cs.length))]) (S := [(.ref a)]) (W := 1) (cells' := 1) (slots' := 15) C (G.1 _ (List.mem_of_getElem? (i := 66) rfl)) (G.1 _ (List.mem_of_getElem? (i := 67) rfl)) (G.1 _ (List.mem_of_getElem? (i := 61) rfl)) (G.1 _ (List.mem_of_getElem? (i := 68) rfl)) (by decide) (rm_codL G O t cs B) rfl (lenOf pd_14 rfl) rfl (by decide) (own_leb rfl) (by decide) rfl rfl (by decide) (by decide) d10_45 rfl ?_
  rintro _ h15 ⟨eh16, rfl⟩
  rw [eh16]
  show AtW p l e _ s m _ below meth c n0 _ h14 1 15 (mkF m 48 #[.val (.ref a), .val (.ref b), .val (.int (0 : Int32)), .val (.int (Int32.ofNat cs.length)), .val .null, .val (.ref t)] [(.int (0 : Int32)), (.ref a)])
  refine w_putF (q := 51) (host := "") (v' := (.int (0 : Int32))) C (G.1 _ (List.mem_of_getElem? (i := 25) rfl)) Via.refl FC E (Or.inr ⟨(G.1 _ (List.mem_of_getElem? (i := 5) rfl)), rfl, rfl⟩) (G.1 _ (List.mem_of_getElem? (i := 2) rfl)) (ty := .byte) (by decide) rfl rfl hge d10_48 rfl ?_
  intro h17 Wh17
  have K2 : Keep h0 h17 [a] := ((Keep.refl h0 [a]).trans Kh14 (all0 (P := fun x => x ∈ [a] ∨ h0.size ≤ x))).wr Wh17 (Or.inl (List.mem_cons_self ..))
  replace FC := FC.same Wh17
  replace FV := FV.other Wh17 (Or.inr (slot_ne (Or.inr (G.1 _ (List.mem_of_getElem? (i := 4) rfl))) (Or.inr (G.1 _ (List.mem_of_getElem? (i := 5) rfl))) (by decide) (t := .array .byte) (t' := .byte) (by decide) (by decide)))
  replace E := E.wr Wh17
  replace B := B.other Wh17 hne
  refine w_aloadN (q := 52) C rfl rfl d10_51 rfl ?_
  refine w_aload (q := 54) C rfl rfl d10_52 rfl ?_
  refine w_putF (q := 57) (host := "") (v' := (.ref t)) C (G.1 _ (List.mem_of_getElem? (i := 18) rfl)) Via.refl FV E (Or.inr ⟨(G.1 _ (List.mem_of_getElem? (i := 4) rfl)), rfl, rfl⟩) (G.1 _ (List.mem_of_getElem? (i := 2) rfl)) (ty := (.array .byte)) (by decide) rfl rfl hge d10_54 rfl ?_
  intro h18 Wh18
  replace FV := FV.same Wh18
  replace FC := FC.other Wh18 (Or.inr (slot_ne (Or.inr (G.1 _ (List.mem_of_getElem? (i := 5) rfl))) (Or.inr (G.1 _ (List.mem_of_getElem? (i := 4) rfl))) (by decide) (t := .byte) (t' := .array .byte) (by decide) (by decide)))
  replace E := E.wr Wh18
  replace B := B.other Wh18 hne
  exact w_retV C rfl d10_57 (by decide) (by decide) ⟨K2.wr Wh18 (Or.inl (List.mem_cons_self ..)), rfl, E, hr, t, FC, FV, B⟩
theorem d9_0 : decode jdk_42_method_3_code 0 = .ok (.aload_n 0, 1) := by decide +kernel
theorem d9_1 : decode jdk_42_method_3_code 1 = .ok (.aload_n 1, 1) := by decide +kernel
theorem d9_2 : decode jdk_42_method_3_code 2 = .ok (.iconst 0, 1) := by decide +kernel
theorem d9_3 : decode jdk_42_method_3_code 3 = .ok (.aload_n 1, 1) := by decide +kernel
theorem d9_4 : decode jdk_42_method_3_code 4 = .ok (.arraylength, 1) := by decide +kernel
theorem d9_5 : decode jdk_42_method_3_code 5 = .ok (.aconst_null, 1) := by decide +kernel
theorem d9_6 : decode jdk_42_method_3_code 6 = .ok (.invokespecial 27, 3) := by decide +kernel
theorem d9_9 : decode jdk_42_method_3_code 9 = .ok (.return_, 1) := by decide +kernel
theorem pf9 : plainFor (⟨"java/lang/String", "<init>", "([C)V"⟩ : MethodName) = true := by first | exact plainFor_of_name (by first | (simp [plainName, overriddenIn]; done) | decide +kernel) | decide +kernel
theorem ef_strinit (m : MethodId) (z0 : Addr) (z1 : Addr) : entryFrame m #[(.ref z0), (.ref z1)] 2 = mkF m 0 #[.val (.ref z0), .val (.ref z1)] [] := by first | rfl | (simp [entryFrame, mkF, argsToLocals, Value.category, *]; done) | rfl
set_option maxRecDepth 65536 in
set_option maxHeartbeats 40000000 in
theorem rm_strinit {l : Launch} {Z : State} {a0 : Array Value} {n0 : Nat} (G : Gl Z a0 n0) {h0 : Heap} (O : Old Z n0 h0) (a : Addr) (b : Addr) (cs : List Int32) (E : Exa Z h0 a "java/lang/String") (FV : Fld Z h0 a "java/lang/String" "value" "[B" .null) (FC : Fld Z h0 a "java/lang/String" "coder" "B" (.int (0 : Int32))) (hge : n0 ≤ a) (A : Ar Z h0 b .char (cs.map Value.int)) (hr : L1 cs) (hcap : cs.length ≤ 15) (h1 : cs.length ≠ 0) :
    Ct [] l Z n0 (⟨"java/lang/String", "<init>", "([C)V"⟩ : MethodName) jdk_42_method_3_code 2 none ({ frames := 3, cells := 1, slots := 15, locals := 52 } : Room) #[(.ref a), (.ref b)] h0 (fun v h => Keep h0 h [a] ∧ v = none ∧ Str Z h a cs) := by
  refine Ct.intro pf9 ?_
  intro p e s m below meth c C
  refine AtW.cast ?_ (ef_strinit m a b)
  refine w_aloadN (q := 1) C rfl rfl d9_0 rfl ?_
  refine w_aloadN (q := 2) C rfl rfl d9_1 rfl ?_
  refine w_iconst (q := 3) (v := (0 : Int32)) C (by rfl) d9_2 rfl ?_
  refine w_aloadN (q := 4) C rfl rfl d9_3 rfl ?_
  refine w_len (q := 5) (z := (Int32.ofNat cs.length)) C A (by rw [List.length_map]) d9_4 rfl ?_
  refine w_aconst_null (q := 6) C d9_5 rfl ?_
  refine w_callI (q := 9) (argsL := [(.ref b), (.int (0 : Int32)), (.int (Int32.ofNat cs.length)), .null]) (S := []) (W := 0) (cells' := 1) (slots' := 15) (a := a) C rfl (G.1 _ (List.mem_of_getElem? (i := 52) rfl)) (G.1 _ (List.mem_of_getElem? (i := 53) rfl)) (G.1 _ (List.mem_of_getElem? (i := 1) rfl)) (G.1 _ (List.mem_of_getElem? (i := 55) rfl)) (by decide) (rm_strinit4 G O a b cs E FV FC hge A hr hcap h1) rfl (lenOf pd_10 rfl) rfl (by decide) (own_leb rfl) (by decide) rfl rfl (by decide) (by decide) d9_6 rfl ?_
  rintro _ h19 ⟨Kh19, rfl, S⟩
  show AtW p l e _ s m _ below meth c n0 _ h19 1 15 (mkF m 9 #[.val (.ref a), .val (.ref b)] [])
  exact w_retV C rfl d9_9 (by decide) (by decide) ⟨Kh19, rfl, S⟩
theorem AtS.addS {p : Program} {l : Launch} {e : Env} {R : Room} {s : State} {m : MethodId} {args : Array Value} {below : List Frame} {meth : Method} {c : Code} {n0 : Nat} {Q : Option Value → Heap → Prop} {h : Heap} {cells slots : Nat} {Z : State} {own : String} {EL : List (String × Nat)} {mk : Nat} {sf : List Addr} {g : JFrame} {x : Addr} (E : Exa Z h x "java/lang/String") (F : Fld Z h x "java/lang/String" "value" "[B" .null)
    (K : AtS p l e R s m args below meth c Z EL own n0 Q mk (x :: sf) h cells slots g) : AtS p l e R s m args below meth c Z EL own n0 Q mk sf h cells slots g :=
  fun T locs k n vm0 k0 X hk hn eT N hZ hown hS hk0 hC hB hF => K T locs k n vm0 k0 X hk hn eT N hZ hown hS hk0 hC hB (fun y hy => by
    rcases List.mem_cons.mp hy with rfl | hy
    · refine ⟨E.lt, fun B => ?_⟩
      obtain ⟨cell, cf, kf, jf, f, f1, f2, -, -, -, -, f7⟩ := F
      obtain ⟨cE, kE, e1, e2, -, -, -⟩ := E
      cases f1.symm.trans e1
      obtain ⟨pr, -, u, a, -, q, -, ⟨cS, ⟨⟨s1, s2, s3, ⟨cv, kv, iv, s4, s4'⟩, s5, s6, s7, s8, s9⟩, hfS, hcS⟩, -, hb, -⟩, rfl | rfl⟩ := B
      · obtain ⟨kv', z4⟩ := ff_back (Z := Z) (U := Wst Z vm0 h) hZ.alike s4
        cases (show h[q.sa]? = some q.sC from s1).symm.trans f1
        cases f2.symm.trans z4
        rw [f7] at s8; cases s8
      · have hd : h[q.sd]? = some q.SA := s9.2.1
        cases hd.symm.trans f1
        have hb' : vm0.findClass "[B" = some q.SA.cls := hb
        rw [hZ.alike.findClass] at hb'
        obtain ⟨k1, q1, q2⟩ := Vm.findClass_spec hb'
        obtain ⟨k2, q3, q4⟩ := Vm.findClass_spec e2
        cases q1.symm.trans q3
        exact absurd (q2.symm.trans q4) (by decide)
    · exact hF y hy)

theorem ef_strinit4e (m : MethodId) (z0 : Addr) (z1 : Addr) (z2 : Int32) (z3 : Int32) : entryFrame m #[(.ref z0), (.ref z1), (.int z2), (.int z3), .null] 6 = mkF m 0 #[.val (.ref z0), .val (.ref z1), .val (.int z2), .val (.int z3), .val .null, .unset] [] := by first | rfl | (simp [entryFrame, mkF, argsToLocals, Value.category, *]; done) | rfl
set_option maxRecDepth 65536 in
set_option maxHeartbeats 40000000 in
theorem rm_strinit4e {l : Launch} {Z : State} {a0 : Array Value} {n0 : Nat} (G : Gl Z a0 n0) {h0 : Heap} (O : Old Z n0 h0) (a : Addr) (b : Addr) (E : Exa Z h0 a "java/lang/String") (FV : Fld Z h0 a "java/lang/String" "value" "[B" .null) (FC : Fld Z h0 a "java/lang/String" "coder" "B" (.int (0 : Int32))) (hge : n0 ≤ a) :
    Cs [] l Z consts_1 n0 (⟨"java/lang/String", "<init>", "([CIILjava/lang/Void;)V"⟩ : MethodName) jdk_42_method_149_code 6 none ({ frames := 1, cells := 4, slots := 8, locals := 12 } : Room) #[(.ref a), (.ref b), (.int (0 : Int32)), (.int (0 : Int32)), .null] h0 (fun v h => Keep h0 h [a] ∧ v = none ∧ Str Z h a []) := by
  refine Cs.intro pf10 ?_
  intro p e s m below meth c C
  refine AtS.cast ?_ (ef_strinit4e m a b (0 : Int32) (0 : Int32))
  refine AtS.addS E FV ?_
  refine s_aloadN (q := 1) C rfl rfl d10_0 rfl ?_
  refine s_initO (q := 4) (W := 0) C (G.1 _ (List.mem_of_getElem? (i := 56) rfl)) (G.1 _ (List.mem_of_getElem? (i := 57) rfl)) (G.1 _ (List.mem_of_getElem? (i := 58) rfl)) rfl (by decide) (own_leb rfl) (by decide) d10_1 rfl ?_
  refine s_iloadN (q := 5) C rfl d10_4 rfl ?_
  refine s_if_ne_f (q := 8) C d10_5 rfl (by decide) ?_
  refine s_aloadN (q := 9) C rfl rfl d10_8 rfl ?_
  refine s_ldc (q := 11) (n := 0) (cells' := 2) (slots' := 4) (vs := []) C G.el G.sa (G.1 _ (List.mem_of_getElem? (i := 106) rfl)) (by decide) (by decide +kernel) (by decide) (by decide +kernel) (by decide) rfl rfl (by decide) (by decide) d10_9 rfl ?_
  intro h20 s t21 Eh20 e1_s e2_s e3_s e4_s hne_s
  have S_s : Str Z h20 s [] := ⟨e1_s, (fun c hc => absurd hc List.not_mem_nil), t21, e2_s, e3_s, e4_s⟩
  have K1 : Keep h0 h20 [a] := (Keep.refl h0 [a]).ext Eh20
  replace FV := FV.ext Eh20
  replace FC := FC.ext Eh20
  replace E := E.ext Eh20
  have hne := (hne_s a (List.mem_cons_self ..)).2
  refine s_getF (q := 14) (host := "") C (Or.inl (G.1 _ (List.mem_of_getElem? (i := 18) rfl))) Via.refl e3_s d10_11 rfl ?_
  refine s_putF (q := 17) (host := "") (v' := (.ref t21)) C (G.1 _ (List.mem_of_getElem? (i := 18) rfl)) Via.refl FV E (Or.inr ⟨(G.1 _ (List.mem_of_getElem? (i := 4) rfl)), rfl, rfl⟩) (G.1 _ (List.mem_of_getElem? (i := 2) rfl)) (ty := (.array .byte)) (by decide) rfl rfl hge (SfOk.mem (List.mem_cons_self ..)) d10_14 rfl ?_
  intro h22 Wh22
  have K2 := K1.wr Wh22 (Or.inl (List.mem_cons_self ..))
  replace FV := FV.same Wh22
  replace FC := FC.other Wh22 (Or.inr (slot_ne (Or.inr (G.1 _ (List.mem_of_getElem? (i := 5) rfl))) (Or.inr (G.1 _ (List.mem_of_getElem? (i := 4) rfl))) (by decide) (t := .byte) (t' := .array .byte) (by decide) (by decide)))
  replace E := E.wr Wh22
  have B := e4_s.other Wh22 (Ne.symm hne)
  refine s_aloadN (q := 18) C rfl rfl d10_17 rfl ?_
  refine s_ldc (q := 20) (n := 0) (cells' := 4) (slots' := 8) (vs := []) C G.el G.sa (G.1 _ (List.mem_of_getElem? (i := 106) rfl)) (by decide) (by decide +kernel) (by decide) (by decide +kernel) (by decide) rfl rfl (by decide) (by decide) d10_18 rfl ?_
  intro h23 s2 t24 Eh23 e1_s2 e2_s2 e3_s2 e4_s2 hne_s2
  have S_s2 : Str Z h23 s2 [] := ⟨e1_s2, (fun c hc => absurd hc List.not_mem_nil), t24, e2_s2, e3_s2, e4_s2⟩
  have K3 := K2.ext Eh23
  replace FV := FV.ext Eh23
  replace FC := FC.ext Eh23
  replace E := E.ext Eh23
  replace B := B.ext Eh23
  refine s_getF (q := 23) (host := "") C (Or.inl (G.1 _ (List.mem_of_getElem? (i := 25) rfl))) Via.refl e2_s2 d10_20 rfl ?_
  refine s_putF (q := 26) (host := "") (v' := (.int (0 : Int32))) C (G.1 _ (List.mem_of_getElem? (i := 25) rfl)) Via.refl FC E (Or.inr ⟨(G.1 _ (List.mem_of_getElem? (i := 5) rfl)), rfl, rfl⟩) (G.1 _ (List.mem_of_getElem? (i := 2) rfl)) (ty := .byte) (by decide) rfl rfl hge (SfOk.mem (List.mem_cons_self ..)) d10_23 rfl ?_
  intro h25 Wh25
  replace FC := FC.same Wh25
  replace FV := FV.other Wh25 (Or.inr (slot_ne (Or.inr (G.1 _ (List.mem_of_getElem? (i := 4) rfl))) (Or.inr (G.1 _ (List.mem_of_getElem? (i := 5) rfl))) (by decide) (t := .array .byte) (t' := .byte) (by decide) (by decide)))
  replace E := E.wr Wh25
  replace B := B.other Wh25 (Ne.symm hne)
  exact s_retV C G.el rfl d10_26 (by decide) (by decide) ⟨K3.wr Wh25 (Or.inl (List.mem_cons_self ..)), rfl, E, (fun c hc => absurd hc List.not_mem_nil), t21, FC, FV, B⟩
theorem ef_strinite (m : MethodId) (z0 : Addr) (z1 : Addr) : entryFrame m #[(.ref z0), (.ref z1)] 2 = mkF m 0 #[.val (.ref z0), .val (.ref z1)] [] := by first | rfl | (simp [entryFrame, mkF, argsToLocals, Value.category, *]; done) | rfl
set_option maxRecDepth 65536 in
set_option maxHeartbeats 40000000 in
theorem rm_strinite {l : Launch} {Z : State} {a0 : Array Value} {n0 : Nat} (G : Gl Z a0 n0) {h0 : Heap} (O : Old Z n0 h0) (a : Addr) (b : Addr) (E : Exa Z h0 a "java/lang/String") (FV : Fld Z h0 a "java/lang/String" "value" "[B" .null) (FC : Fld Z h0 a "java/lang/String" "coder" "B" (.int (0 : Int32))) (hge : n0 ≤ a) (A : Ar Z h0 b .char []) :
    Cs [] l Z consts_1 n0 (⟨"java/lang/String", "<init>", "([C)V"⟩ : MethodName) jdk_42_method_3_code 2 none ({ frames := 2, cells := 4, slots := 8, locals := 29 } : Room) #[(.ref a), (.ref b)] h0 (fun v h => Keep h0 h [a] ∧ v = none ∧ Str Z h a []) := by
  refine Cs.intro pf9 ?_
  intro p e s m below meth c C
  refine AtS.cast ?_ (ef_strinite m a b)
  refine s_aloadN (q := 1) C rfl rfl d9_0 rfl ?_
  refine s_aloadN (q := 2) C rfl rfl d9_1 rfl ?_
  refine s_iconst (q := 3) (v := (0 : Int32)) C (by rfl) d9_2 rfl ?_
  refine s_aloadN (q := 4) C rfl rfl d9_3 rfl ?_
  refine s_len (q := 5) (z := (0 : Int32)) C A rfl d9_4 rfl ?_
  refine s_aconst_null (q := 6) C d9_5 rfl ?_
  refine s_callI2 (q := 9) (argsL := [(.ref b), (.int (0 : Int32)), (.int (0 : Int32)), .null]) (S := []) (W := 0) (cells' := 4) (slots' := 8) (a := a) C G.el rfl (G.1 _ (List.mem_of_getElem? (i := 52) rfl)) (G.1 _ (List.mem_of_getElem? (i := 53) rfl)) (G.1 _ (List.mem_of_getElem? (i := 1) rfl)) (G.1 _ (List.mem_of_getElem? (i := 55) rfl)) (by decide) (rm_strinit4e G O a b E FV FC hge) rfl (lenOf pd_10 rfl) rfl (by decide) (own_leb rfl) (by decide) rfl rfl (by decide) (by decide) d9_6 rfl ?_
  rintro _ h26 ⟨Kh26, rfl, S⟩
  show AtS p l e _ s m _ below meth c Z _ _ n0 _ _ _ h26 4 8 (mkF m 9 #[.val (.ref a), .val (.ref b)] [])
  exact s_retV C G.el rfl d9_9 (by decide) (by decide) ⟨Kh26, rfl, S⟩
theorem d18_0 : decode jdk_43_method_13_code 0 = .ok (.aload_n 0, 1) := by decide +kernel
theorem d18_1 : decode jdk_43_method_13_code 1 = .ok (.arraylength, 1) := by decide +kernel
theorem d18_2 : decode jdk_43_method_13_code 2 = .ok (.aload_n 1, 1) := by decide +kernel
theorem d18_3 : decode jdk_43_method_13_code 3 = .ok (.arraylength, 1) := by decide +kernel
theorem d18_4 : decode jdk_43_method_13_code 4 = .ok (.if_icmp .ne 30, 3) := by decide +kernel
theorem d18_7 : decode jdk_43_method_13_code 7 = .ok (.iconst 0, 1) := by decide +kernel
theorem d18_8 : decode jdk_43_method_13_code 8 = .ok (.istore_n 2, 1) := by decide +kernel
theorem d18_9 : decode jdk_43_method_13_code 9 = .ok (.iload_n 2, 1) := by decide +kernel
theorem d18_10 : decode jdk_43_method_13_code 10 = .ok (.aload_n 0, 1) := by decide +kernel
theorem d18_11 : decode jdk_43_method_13_code 11 = .ok (.arraylength, 1) := by decide +kernel
theorem d18_12 : decode jdk_43_method_13_code 12 = .ok (.if_icmp .ge 20, 3) := by decide +kernel
theorem d18_15 : decode jdk_43_method_13_code 15 = .ok (.aload_n 0, 1) := by decide +kernel
theorem d18_16 : decode jdk_43_method_13_code 16 = .ok (.iload_n 2, 1) := by decide +kernel
theorem d18_17 : decode jdk_43_method_13_code 17 = .ok (.baload, 1) := by decide +kernel
theorem d18_18 : decode jdk_43_method_13_code 18 = .ok (.aload_n 1, 1) := by decide +kernel
theorem d18_19 : decode jdk_43_method_13_code 19 = .ok (.iload_n 2, 1) := by decide +kernel
theorem d18_20 : decode jdk_43_method_13_code 20 = .ok (.baload, 1) := by decide +kernel
theorem d18_21 : decode jdk_43_method_13_code 21 = .ok (.if_icmp .eq 5, 3) := by decide +kernel
theorem d18_24 : decode jdk_43_method_13_code 24 = .ok (.iconst 0, 1) := by decide +kernel
theorem d18_25 : decode jdk_43_method_13_code 25 = .ok (.ireturn, 1) := by decide +kernel
theorem d18_26 : decode jdk_43_method_13_code 26 = .ok (.iinc 2 1, 3) := by decide +kernel
theorem d18_29 : decode jdk_43_method_13_code 29 = .ok (.goto (-20), 3) := by decide +kernel
theorem d18_32 : decode jdk_43_method_13_code 32 = .ok (.iconst 1, 1) := by decide +kernel
theorem d18_33 : decode jdk_43_method_13_code 33 = .ok (.ireturn, 1) := by decide +kernel
theorem d18_34 : decode jdk_43_method_13_code 34 = .ok (.iconst 0, 1) := by decide +kernel
theorem d18_35 : decode jdk_43_method_13_code 35 = .ok (.ireturn, 1) := by decide +kernel
theorem pf18 : plainFor (⟨"java/lang/StringLatin1", "equals", "([B[B)Z"⟩ : MethodName) = true := by first | exact plainFor_of_name (by first | (simp [plainName, overriddenIn]; done) | decide +kernel) | decide +kernel
theorem ef_equalsL (m : MethodId) (z0 : Addr) (z1 : Addr) : entryFrame m #[(.ref z0), (.ref z1)] 3 = mkF m 0 #[.val (.ref z0), .val (.ref z1), .unset] [] := by first | rfl | (simp [entryFrame, mkF, argsToLocals, Value.category, *]; done) | rfl
set_option maxRecDepth 65536 in
set_option maxHeartbeats 40000000 in
theorem rm_equalsL {l : Launch} {Z : State} {a0 : Array Value} {n0 : Nat} (G : Gl Z a0 n0) {h0 : Heap} (O : Old Z n0 h0) (t : Addr) (u : Addr) (cs : List Int32) (ds : List Int32) (A : Ar Z h0 t .byte (own_bs cs)) (B : Ar Z h0 u .byte (own_bs ds)) (hr : L1 cs) (hs : L1 ds) :
    Ct [] l Z n0 (⟨"java/lang/StringLatin1", "equals", "([B[B)Z"⟩ : MethodName) jdk_43_method_13_code 3 (some .boolean) ({ frames := 0, cells := 0, slots := 0, locals := 0 } : Room) #[(.ref t), (.ref u)] h0 (fun v h => h = h0 ∧ v = some (.int (if cs = ds then (1 : Int32) else (0 : Int32)))) := by
  refine Ct.intro pf18 ?_
  intro p e s m below meth c C
  refine AtW.cast ?_ (ef_equalsL m t u)
  have hx : cs.length < 2 ^ 31 := by have := A.1; rw [own_bs_len] at this; exact this
  have hy : ds.length < 2 ^ 31 := by have := B.1; rw [own_bs_len] at this; exact this
  refine w_aloadN (q := 1) C rfl rfl d18_0 rfl ?_
  refine w_len (q := 2) (z := (Int32.ofNat cs.length)) C A (by rw [own_bs_len]) d18_1 rfl ?_
  refine w_aloadN (q := 3) C rfl rfl d18_2 rfl ?_
  refine w_len (q := 4) (z := (Int32.ofNat ds.length)) C B (by rw [own_bs_len]) d18_3 rfl ?_
  by_cases q0 : (Int32.ofNat cs.length) = (Int32.ofNat ds.length)
  · refine w_icmp_ne_f (q := 7) C d18_4 rfl q0 ?_
    rw [own_neq hx hy] at q0
    have LOOP : ∀ (k i : Nat), i + k = cs.length → (cs = ds ↔ cs.drop i = ds.drop i) → AtW p l e ({ frames := 0, cells := 0, slots := 0, locals := 0 } : Room) s m #[(.ref t), (.ref u)] below meth c n0 (fun v h => h = h0 ∧ v = some (.int (if cs = ds then (1 : Int32) else (0 : Int32)))) h0 0 0 (mkF m 9 #[.val (.ref t), .val (.ref u), .val (.int (Int32.ofNat i))] []) := by
      intro k
      induction k with
      | zero =>
        intro i hik e
        refine w_iloadN (q := 10) C rfl d18_9 rfl ?_
        refine w_aloadN (q := 11) C rfl rfl d18_10 rfl ?_
        refine w_len (q := 12) (z := (Int32.ofNat cs.length)) C A (by rw [own_bs_len]) d18_11 rfl ?_
        refine w_icmp_ge_t (q := 32) C d18_12 (by decide) (by decide) (fun q => by rw [own_nlt (by omega) hx] at q; omega) ?_
        refine w_iconst (q := 33) (v := (1 : Int32)) C (by rfl) d18_32 rfl ?_
        exact w_retZ (z := (1 : Int32)) C (t := .boolean) rfl (by simp) (by decide) d18_33 (by decide) (by decide) ⟨rfl, by rw [if_pos (e.mpr (by rw [List.drop_eq_nil_of_le (by omega), List.drop_eq_nil_of_le (by omega)]))]⟩
      | succ k ih =>
        intro i hik e
        have hil : i < cs.length := by omega
        have hjl : i < ds.length := by omega
        obtain ⟨c1, hc1⟩ : ∃ c1, cs[i]? = some c1 := ⟨_, List.getElem?_eq_getElem hil⟩
        obtain ⟨d1, hd1⟩ : ∃ d1, ds[i]? = some d1 := ⟨_, List.getElem?_eq_getElem hjl⟩
        have ed : cs.drop i = c1 :: cs.drop (i + 1) := by rw [List.drop_eq_getElem_cons hil]; congr 1; exact Option.some.inj ((List.getElem?_eq_getElem hil).symm.trans hc1)
        have ee : ds.drop i = d1 :: ds.drop (i + 1) := by rw [List.drop_eq_getElem_cons hjl]; congr 1; exact Option.some.inj ((List.getElem?_eq_getElem hjl).symm.trans hd1)
        rw [ed, ee] at e
        refine w_iloadN (q := 10) C rfl d18_9 rfl ?_
        refine w_aloadN (q := 11) C rfl rfl d18_10 rfl ?_
        refine w_len (q := 12) (z := (Int32.ofNat cs.length)) C A (by rw [own_bs_len]) d18_11 rfl ?_
        refine w_icmp_ge_f (q := 15) C d18_12 rfl ((own_nlt (by omega) hx).mpr hil) ?_
        refine w_aloadN (q := 16) C rfl rfl d18_15 rfl ?_
        refine w_iloadN (q := 17) C rfl d18_16 rfl ?_
        refine w_baload (q := 18) (i := i) (v := (.int c1.toInt8.toInt32)) C A rfl (own_bs_get hc1) d18_17 rfl ?_
        refine w_aloadN (q := 19) C rfl rfl d18_18 rfl ?_
        refine w_iloadN (q := 20) C rfl d18_19 rfl ?_
        refine w_baload (q := 21) (i := i) (v := (.int d1.toInt8.toInt32)) C B rfl (own_bs_get hd1) d18_20 rfl ?_
        by_cases q1 : c1.toInt8.toInt32 = d1.toInt8.toInt32
        · refine w_icmp_eq_t (q := 26) C d18_21 (by decide) (by decide) q1 ?_
          have qe : c1 = d1 := (own_b8inj (hr.get hc1) (hs.get hd1)).mp q1
          refine w_iinc (q := 29) (L' := #[.val (.ref t), .val (.ref u), .val (.int (Int32.ofNat (i + 1)))]) C rfl (own_one i) rfl d18_26 rfl ?_
          refine w_goto (q := 9) C d18_29 (by decide) (by decide) ?_
          exact ih (i + 1) (by omega) (by rw [e, qe]; exact ⟨fun z => (List.cons.inj z).2, fun z => by rw [z]⟩)
        · refine w_icmp_eq_f (q := 24) C d18_21 rfl q1 ?_
          refine w_iconst (q := 25) (v := (0 : Int32)) C (by rfl) d18_24 rfl ?_
          exact w_retZ (z := (0 : Int32)) C (t := .boolean) rfl (by simp) (by decide) d18_25 (by decide) (by decide) ⟨rfl, by rw [if_neg (fun z => q1 (by rw [(List.cons.inj (e.mp z)).1]))]⟩
    refine w_iconst (q := 8) (v := (0 : Int32)) C (by rfl) d18_7 rfl ?_
    refine w_istoreN (q := 9) (L' := #[.val (.ref t), .val (.ref u), .val (.int (0 : Int32))]) C rfl d18_8 rfl ?_
    exact LOOP cs.length 0 (by omega) Iff.rfl
  · refine w_icmp_ne_t (q := 34) C d18_4 (by decide) (by decide) q0 ?_
    refine w_iconst (q := 35) (v := (0 : Int32)) C (by rfl) d18_34 rfl ?_
    exact w_retZ (z := (0 : Int32)) C (t := .boolean) rfl (by simp) (by decide) d18_35 (by decide) (by decide) ⟨rfl, by rw [if_neg (fun z => q0 (by rw [z]))]⟩
theorem d17_0 : decode jdk_42_method_66_code 0 = .ok (.aload_n 0, 1) := by decide +kernel
theorem d17_1 : decode jdk_42_method_66_code 1 = .ok (.aload_n 1, 1) := by decide +kernel
theorem d17_2 : decode jdk_42_method_66_code 2 = .ok (.if_acmp .ne 5, 3) := by decide +kernel
theorem d17_5 : decode jdk_42_method_66_code 5 = .ok (.iconst 1, 1) := by decide +kernel
theorem d17_6 : decode jdk_42_method_66_code 6 = .ok (.ireturn, 1) := by decide +kernel
theorem d17_7 : decode jdk_42_method_66_code 7 = .ok (.aload_n 1, 1) := by decide +kernel
theorem d17_8 : decode jdk_42_method_66_code 8 = .ok (.instanceof 10, 3) := by decide +kernel
theorem d17_11 : decode jdk_42_method_66_code 11 = .ok (.ifCond .eq 43, 3) := by decide +kernel
theorem d17_14 : decode jdk_42_method_66_code 14 = .ok (.aload_n 1, 1) := by decide +kernel
theorem d17_15 : decode jdk_42_method_66_code 15 = .ok (.checkcast 10, 3) := by decide +kernel
theorem d17_18 : decode jdk_42_method_66_code 18 = .ok (.astore_n 2, 1) := by decide +kernel
theorem d17_19 : decode jdk_42_method_66_code 19 = .ok (.getstatic 38, 3) := by decide +kernel
theorem d17_22 : decode jdk_42_method_66_code 22 = .ok (.ifCond .eq 14, 3) := by decide +kernel
theorem d17_25 : decode jdk_42_method_66_code 25 = .ok (.aload_n 0, 1) := by decide +kernel
theorem d17_26 : decode jdk_42_method_66_code 26 = .ok (.getfield 15, 3) := by decide +kernel
theorem d17_29 : decode jdk_42_method_66_code 29 = .ok (.aload_n 2, 1) := by decide +kernel
theorem d17_30 : decode jdk_42_method_66_code 30 = .ok (.getfield 15, 3) := by decide +kernel
theorem d17_33 : decode jdk_42_method_66_code 33 = .ok (.if_icmp .ne 21, 3) := by decide +kernel
theorem d17_36 : decode jdk_42_method_66_code 36 = .ok (.aload_n 0, 1) := by decide +kernel
theorem d17_37 : decode jdk_42_method_66_code 37 = .ok (.getfield 9, 3) := by decide +kernel
theorem d17_40 : decode jdk_42_method_66_code 40 = .ok (.aload_n 2, 1) := by decide +kernel
theorem d17_41 : decode jdk_42_method_66_code 41 = .ok (.getfield 9, 3) := by decide +kernel
theorem d17_44 : decode jdk_42_method_66_code 44 = .ok (.invokestatic 541, 3) := by decide +kernel
theorem d17_47 : decode jdk_42_method_66_code 47 = .ok (.ifCond .eq 7, 3) := by decide +kernel
theorem d17_50 : decode jdk_42_method_66_code 50 = .ok (.iconst 1, 1) := by decide +kernel
theorem d17_51 : decode jdk_42_method_66_code 51 = .ok (.goto 4, 3) := by decide +kernel
theorem d17_54 : decode jdk_42_method_66_code 54 = .ok (.iconst 0, 1) := by decide +kernel
theorem d17_55 : decode jdk_42_method_66_code 55 = .ok (.ireturn, 1) := by decide +kernel
theorem pf17 : plainFor (⟨"java/lang/String", "equals", "(Ljava/lang/Object;)Z"⟩ : MethodName) = true := by first | exact plainFor_of_name (by first | (simp [plainName, overriddenIn]; done) | decide +kernel) | decide +kernel
theorem ef_equals (m : MethodId) (z0 : Addr) (z1 : Addr) : entryFrame m #[(.ref z0), (.ref z1)] 3 = mkF m 0 #[.val (.ref z0), .val (.ref z1), .unset] [] := by first | rfl | (simp [entryFrame, mkF, argsToLocals, Value.category, *]; done) | rfl
set_option maxRecDepth 65536 in
set_option maxHeartbeats 40000000 in
theorem rm_equals {l : Launch} {Z : State} {a0 : Array Value} {n0 : Nat} (G : Gl Z a0 n0) {h0 : Heap} (O : Old Z n0 h0) (a : Addr) (b : Addr) (cs : List Int32) (ds : List Int32) (S : Str Z h0 a cs) (S2 : Str Z h0 b ds) :
    Ct [] l Z n0 (⟨"java/lang/String", "equals", "(Ljava/lang/Object;)Z"⟩ : MethodName) jdk_42_method_66_code 3 (some .boolean) ({ frames := 1, cells := 0, slots := 0, locals := 14 } : Room) #[(.ref a), (.ref b)] h0 (fun v h => h = h0 ∧ v = some (.int (if cs = ds then (1 : Int32) else (0 : Int32)))) := by
  refine Ct.intro pf17 ?_
  intro p e s m below meth c C
  refine AtW.cast ?_ (ef_equals m a b)
  by_cases hab : a = b
  · rw [← hab]
    have hcd : cs = ds := S.inj (by rw [hab]; exact S2)
    show AtW p l e _ s m _ below meth c n0 _ h0 0 0 (mkF m 0 #[.val (.ref a), .val (.ref a), .unset] [])
    refine w_aloadN (q := 1) C rfl rfl d17_0 rfl ?_
    refine w_aloadN (q := 2) C rfl rfl d17_1 rfl ?_
    refine w_acmp_f (q := 5) C d17_2 rfl rfl (same := true) (decide_eq_true rfl) rfl (by decide) rfl ?_
    refine w_iconst (q := 6) (v := (1 : Int32)) C (by rfl) d17_5 rfl ?_
    exact w_retZ (z := (1 : Int32)) C (t := .boolean) rfl (by simp) (by decide) d17_6 (by decide) (by decide) ⟨rfl, by rw [if_pos hcd]⟩
  · obtain ⟨E, hr, t, FC, FV, A⟩ := id S
    obtain ⟨E2, hs, t2, FC2, FV2, B⟩ := id S2
    obtain ⟨zc, SC, hzc⟩ := G.cs
    refine w_aloadN (q := 1) C rfl rfl d17_0 rfl ?_
    refine w_aloadN (q := 2) C rfl rfl d17_1 rfl ?_
    refine w_acmp_t (q := 7) C d17_2 rfl rfl (same := false) (decide_eq_false (fun z => hab (by injection z))) rfl (by decide) (by decide) ?_
    refine w_aloadN (q := 8) C rfl rfl d17_7 rfl ?_
    refine w_inst (q := 11) C (G.1 _ (List.mem_of_getElem? (i := 97) rfl)) (Ins.self E2) d17_8 rfl ?_
    refine w_if_eq_f (q := 14) C d17_11 rfl (by decide) ?_
    refine w_aloadN (q := 15) C rfl rfl d17_14 rfl ?_
    refine w_cast (q := 18) C (G.1 _ (List.mem_of_getElem? (i := 97) rfl)) (Ins.self E2) d17_15 rfl ?_
    refine w_astoreN (q := 19) (L' := #[.val (.ref a), .val (.ref b), .val (.ref b)]) C rfl rfl d17_18 rfl ?_
    refine w_getS (q := 22) (host := "") C (Or.inl (G.1 _ (List.mem_of_getElem? (i := 24) rfl))) Via.refl (SC.ext O.2) d17_19 rfl ?_
    refine w_if_eq_f (q := 25) C d17_22 rfl hzc ?_
    refine w_aloadN (q := 26) C rfl rfl d17_25 rfl ?_
    refine w_getF (q := 29) (host := "") C (Or.inl (G.1 _ (List.mem_of_getElem? (i := 25) rfl))) Via.refl FC d17_26 rfl ?_
    refine w_aloadN (q := 30) C rfl rfl d17_29 rfl ?_
    refine w_getF (q := 33) (host := "") C (Or.inl (G.1 _ (List.mem_of_getElem? (i := 25) rfl))) Via.refl FC2 d17_30 rfl ?_
    refine w_icmp_ne_f (q := 36) C d17_33 rfl (by decide) ?_
    refine w_aloadN (q := 37) C rfl rfl d17_36 rfl ?_
    refine w_getF (q := 40) (host := "") C (Or.inl (G.1 _ (List.mem_of_getElem? (i := 18) rfl))) Via.refl FV d17_37 rfl ?_
    refine w_aloadN (q := 41) C rfl rfl d17_40 rfl ?_
    refine w_getF (q := 44) (host := "") C (Or.inl (G.1 _ (List.mem_of_getElem? (i := 18) rfl))) Via.refl FV2 d17_41 rfl ?_
    refine w_callS (q := 47) (argsL := [(.ref t), (.ref t2)]) (S := []) (W := 0) (cells' := 0) (slots' := 0) C (G.1 _ (List.mem_of_getElem? (i := 98) rfl)) (G.1 _ (List.mem_of_getElem? (i := 99) rfl)) (G.1 _ (List.mem_of_getElem? (i := 38) rfl)) (G.1 _ (List.mem_of_getElem? (i := 100) rfl)) (by decide) (rm_equalsL G O t t2 cs ds A B hr hs) rfl (lenOf pd_19 rfl) rfl (by decide) (own_leb rfl) (by decide) rfl rfl (by decide) (by decide) d17_44 rfl ?_
    rintro _ h27 ⟨eh28, rfl⟩
    rw [eh28]
    show AtW p l e _ s m _ below meth c n0 _ h0 0 0 (mkF m 47 #[.val (.ref a), .val (.ref b), .val (.ref b)] [(.int (if cs = ds then (1 : Int32) else (0 : Int32)))])
    by_cases hcd : cs = ds
    · rw [show (if cs = ds then (1 : Int32) else (0 : Int32)) = (1 : Int32) from if_pos hcd]
      refine w_if_eq_f (q := 50) C d17_47 rfl (by decide) ?_
      refine w_iconst (q := 51) (v := (1 : Int32)) C (by rfl) d17_50 rfl ?_
      refine w_goto (q := 55) C d17_51 (by decide) (by decide) ?_
      exact w_retZ (z := (1 : Int32)) C (t := .boolean) rfl (by simp) (by decide) d17_55 (by decide) (by decide) ⟨rfl, rfl⟩
    · rw [show (if cs = ds then (1 : Int32) else (0 : Int32)) = (0 : Int32) from if_neg hcd]
      refine w_if_eq_t (q := 54) C d17_47 (by decide) (by decide) (by decide) ?_
      refine w_iconst (q := 55) (v := (0 : Int32)) C (by rfl) d17_54 rfl ?_
      exact w_retZ (z := (0 : Int32)) C (t := .boolean) rfl (by simp) (by decide) d17_55 (by decide) (by decide) ⟨rfl, rfl⟩
theorem ef_equalsN (m : MethodId) (z0 : Addr) : entryFrame m #[(.ref z0), .null] 3 = mkF m 0 #[.val (.ref z0), .val .null, .unset] [] := by first | rfl | (simp [entryFrame, mkF, argsToLocals, Value.category, *]; done) | rfl
set_option maxRecDepth 65536 in
set_option maxHeartbeats 40000000 in
theorem rm_equalsN {l : Launch} {Z : State} {a0 : Array Value} {n0 : Nat} (G : Gl Z a0 n0) {h0 : Heap} (O : Old Z n0 h0) (a : Addr) :
    Ct [] l Z n0 (⟨"java/lang/String", "equals", "(Ljava/lang/Object;)Z"⟩ : MethodName) jdk_42_method_66_code 3 (some .boolean) ({ frames := 0, cells := 0, slots := 0, locals := 0 } : Room) #[(.ref a), .null] h0 (fun v h => h = h0 ∧ v = some (.int 0)) := by
  refine Ct.intro pf17 ?_
  intro p e s m below meth c C
  refine AtW.cast ?_ (ef_equalsN m a)
  refine w_aloadN (q := 1) C rfl rfl d17_0 rfl ?_
  refine w_aloadN (q := 2) C rfl rfl d17_1 rfl ?_
  refine w_acmp_t (q := 7) C d17_2 rfl rfl (same := false) (decide_eq_false nofun) rfl (by decide) (by decide) ?_
  refine w_aloadN (q := 8) C rfl rfl d17_7 rfl ?_
  refine w_instZ (q := 11) C d17_8 rfl ?_
  refine w_if_eq_t (q := 54) C d17_11 (by decide) (by decide) (by decide) ?_
  refine w_iconst (q := 55) (v := (0 : Int32)) C (by rfl) d17_54 rfl ?_
  exact w_retZ (z := (0 : Int32)) C (t := .boolean) rfl (by simp) (by decide) d17_55 (by decide) (by decide) ⟨rfl, rfl⟩
theorem d16_0 : decode prog_5_method_1_code 0 = .ok (.getstatic 10, 3) := by decide +kernel
theorem d16_3 : decode prog_5_method_1_code 3 = .ok (.invokevirtual 14, 3) := by decide +kernel
theorem d16_6 : decode prog_5_method_1_code 6 = .ok (.checkcast 15, 3) := by decide +kernel
theorem d16_9 : decode prog_5_method_1_code 9 = .ok (.areturn, 1) := by decide +kernel
theorem pf16 : plainFor (⟨"com/example/anteroom/anteroom/scopes/RefreshScope", "values", "()[Lcom/example/anteroom/anteroom/scopes/RefreshScope;"⟩ : MethodName) = true := by first | exact plainFor_of_name (by first | (simp [plainName, overriddenIn]; done) | decide +kernel) | decide +kernel
theorem ef_values (m : MethodId)  : entryFrame m #[] 0 = mkF m 0 #[] [] := by first | rfl | (simp [entryFrame, mkF, argsToLocals, Value.category, *]; done) | rfl
set_option maxRecDepth 65536 in
set_option maxHeartbeats 40000000 in
theorem rm_values {l : Launch} {Z : State} {a0 : Array Value} {n0 : Nat} (G : Gl Z a0 n0) {h0 : Heap} (O : Old Z n0 h0) (vv : Addr) (x1 : Addr) (x2 : Addr) (r1 : Addr) (r2 : Addr) (N1 : En Z vv x1 x2 r1 r2) :
    Ct [] l Z n0 (⟨"com/example/anteroom/anteroom/scopes/RefreshScope", "values", "()[Lcom/example/anteroom/anteroom/scopes/RefreshScope;"⟩ : MethodName) prog_5_method_1_code 0 (some (.array (.object "com/example/anteroom/anteroom/scopes/RefreshScope"))) ({ frames := 1, cells := 1, slots := 2, locals := 14 } : Room) #[] h0 (fun v h => Keep h0 h [] ∧ ∃ b, v = some (.ref b) ∧ Ar Z h b (.object "com/example/anteroom/anteroom/scopes/RefreshScope") [.ref x1, .ref x2]) := by
  refine Ct.intro pf16 ?_
  intro p e s m below meth c C
  refine AtW.cast ?_ (ef_values m)
  obtain ⟨SVV, EVV, AVV, SX1, SX2, FR1, SR1, FR2, SR2⟩ := id N1
  refine w_getS (q := 3) (host := "") C (Or.inl (G.1 _ (List.mem_of_getElem? (i := 76) rfl))) Via.refl (SVV.ext O.2) d16_0 rfl ?_
  refine w_clone (q := 6) (cap := 2) (W := 0) (cells' := 1) (slots' := 2) C (G.1 _ (List.mem_of_getElem? (i := 78) rfl)) (G.1 _ (List.mem_of_getElem? (i := 79) rfl)) (G.1 _ (List.mem_of_getElem? (i := 83) rfl)) (G.1 _ (List.mem_of_getElem? (i := 81) rfl)) (G.1 _ (List.mem_of_getElem? (i := 82) rfl)) (G.1 _ (List.mem_of_getElem? (i := 84) rfl)) (AVV.ext O.2) (EVV.ext O.2) rfl (by decide) (own_leb rfl) (by decide) (own_leb rfl) rfl rfl (by decide) (by decide) d16_3 rfl ?_
  intro h29 b g_b Eh29 V_b X_b
  refine w_cast (q := 9) C (G.1 _ (List.mem_of_getElem? (i := 88) rfl)) (Ins.self X_b) d16_6 rfl ?_
  exact w_retA C rfl rfl rfl d16_9 (by decide) (by decide) ⟨Keep.of_ext Eh29, b, rfl, V_b⟩
theorem d15_0 : decode prog_5_method_5_code 0 = .ok (.invokestatic 33, 3) := by decide +kernel
theorem d15_3 : decode prog_5_method_5_code 3 = .ok (.astore_n 1, 1) := by decide +kernel
theorem d15_4 : decode prog_5_method_5_code 4 = .ok (.aload_n 1, 1) := by decide +kernel
theorem d15_5 : decode prog_5_method_5_code 5 = .ok (.arraylength, 1) := by decide +kernel
theorem d15_6 : decode prog_5_method_5_code 6 = .ok (.istore_n 2, 1) := by decide +kernel
theorem d15_7 : decode prog_5_method_5_code 7 = .ok (.iconst 0, 1) := by decide +kernel
theorem d15_8 : decode prog_5_method_5_code 8 = .ok (.istore_n 3, 1) := by decide +kernel
theorem d15_9 : decode prog_5_method_5_code 9 = .ok (.iload_n 3, 1) := by decide +kernel
theorem d15_10 : decode prog_5_method_5_code 10 = .ok (.iload_n 2, 1) := by decide +kernel
theorem d15_11 : decode prog_5_method_5_code 11 = .ok (.if_icmp .ge 29, 3) := by decide +kernel
theorem d15_14 : decode prog_5_method_5_code 14 = .ok (.aload_n 1, 1) := by decide +kernel
theorem d15_15 : decode prog_5_method_5_code 15 = .ok (.iload_n 3, 1) := by decide +kernel
theorem d15_16 : decode prog_5_method_5_code 16 = .ok (.aaload, 1) := by decide +kernel
theorem d15_17 : decode prog_5_method_5_code 17 = .ok (.astore 4, 2) := by decide +kernel
theorem d15_19 : decode prog_5_method_5_code 19 = .ok (.aload 4, 2) := by decide +kernel
theorem d15_21 : decode prog_5_method_5_code 21 = .ok (.getfield 29, 3) := by decide +kernel
theorem d15_24 : decode prog_5_method_5_code 24 = .ok (.aload_n 0, 1) := by decide +kernel
theorem d15_25 : decode prog_5_method_5_code 25 = .ok (.invokevirtual 37, 3) := by decide +kernel
theorem d15_28 : decode prog_5_method_5_code 28 = .ok (.ifCond .eq 6, 3) := by decide +kernel
theorem d15_31 : decode prog_5_method_5_code 31 = .ok (.aload 4, 2) := by decide +kernel
theorem d15_33 : decode prog_5_method_5_code 33 = .ok (.areturn, 1) := by decide +kernel
theorem d15_34 : decode prog_5_method_5_code 34 = .ok (.iinc 3 1, 3) := by decide +kernel
theorem d15_37 : decode prog_5_method_5_code 37 = .ok (.goto (-28), 3) := by decide +kernel
theorem d15_40 : decode prog_5_method_5_code 40 = .ok (.aconst_null, 1) := by decide +kernel
theorem d15_41 : decode prog_5_method_5_code 41 = .ok (.areturn, 1) := by decide +kernel
theorem pf15 : plainFor (⟨"com/example/anteroom/anteroom/scopes/RefreshScope", "named", "(Ljava/lang/String;)Lcom/example/anteroom/anteroom/scopes/RefreshScope;"⟩ : MethodName) = true := by first | exact plainFor_of_name (by first | (simp [plainName, overriddenIn]; done) | decide +kernel) | decide +kernel
theorem ef_named (m : MethodId) (z0 : Addr) : entryFrame m #[(.ref z0)] 5 = mkF m 0 #[.val (.ref z0), .unset, .unset, .unset, .unset] [] := by first | rfl | (simp [entryFrame, mkF, argsToLocals, Value.category, *]; done) | rfl
set_option maxRecDepth 65536 in
set_option maxHeartbeats 40000000 in
theorem rm_named {l : Launch} {Z : State} {a0 : Array Value} {n0 : Nat} (G : Gl Z a0 n0) {h0 : Heap} (O : Old Z n0 h0) (vv : Addr) (x1 : Addr) (x2 : Addr) (r1 : Addr) (r2 : Addr) (s9 : Addr) (cs : List Int32) (N1 : En Z vv x1 x2 r1 r2) (S : Str Z h0 s9 cs) :
    Ct [] l Z n0 (⟨"com/example/anteroom/anteroom/scopes/RefreshScope", "named", "(Ljava/lang/String;)Lcom/example/anteroom/anteroom/scopes/RefreshScope;"⟩ : MethodName) prog_5_method_5_code 5 (some (.object "com/example/anteroom/anteroom/scopes/RefreshScope")) ({ frames := 2, cells := 1, slots := 2, locals := 28 } : Room) #[(.ref s9)] h0 (fun v h => Keep h0 h [] ∧ ∃ r : Value, v = some r ∧ (own_off = cs → r = .ref x1) ∧ (¬ own_off = cs → own_onl = cs → r = .ref x2) ∧ (¬ own_off = cs → ¬ own_onl = cs → r = .null)) := by
  refine Ct.intro pf15 ?_
  intro p e s m below meth c C
  refine AtW.cast ?_ (ef_named m s9)
  obtain ⟨SVV, EVV, AVV, SX1, SX2, FR1, SR1, FR2, SR2⟩ := id N1
  refine w_callS (q := 3) (argsL := []) (S := []) (W := 0) (cells' := 1) (slots' := 2) C (G.1 _ (List.mem_of_getElem? (i := 73) rfl)) (G.1 _ (List.mem_of_getElem? (i := 74) rfl)) (G.1 _ (List.mem_of_getElem? (i := 71) rfl)) (G.1 _ (List.mem_of_getElem? (i := 75) rfl)) (by decide) (rm_values G O vv x1 x2 r1 r2 N1) rfl (lenOf pd_16 rfl) rfl (by decide) (own_leb rfl) (by decide) rfl rfl (by decide) (by decide) d15_0 rfl ?_
  rintro _ h30 ⟨Kh30, b, rfl, V⟩
  show AtW p l e _ s m _ below meth c n0 _ h30 1 2 (mkF m 3 #[.val (.ref s9), .unset, .unset, .unset, .unset] [(.ref b)])
  have O1 := Old_k0 O Kh30
  have KZ : Keep Z.heap h30 [] := Keep.of_ext O1.2
  replace S := Str_k0 S Kh30
  refine w_astoreN (q := 4) (L' := #[.val (.ref s9), .val (.ref b), .unset, .unset, .unset]) C rfl rfl d15_3 rfl ?_
  refine w_aloadN (q := 5) C rfl rfl d15_4 rfl ?_
  refine w_len (q := 6) (z := (2 : Int32)) C V rfl d15_5 rfl ?_
  refine w_istoreN (q := 7) (L' := #[.val (.ref s9), .val (.ref b), .val (.int (2 : Int32)), .unset, .unset]) C rfl d15_6 rfl ?_
  refine w_iconst (q := 8) (v := (0 : Int32)) C (by rfl) d15_7 rfl ?_
  refine w_istoreN (q := 9) (L' := #[.val (.ref s9), .val (.ref b), .val (.int (2 : Int32)), .val (.int (0 : Int32)), .unset]) C rfl d15_8 rfl ?_
  refine w_iloadN (q := 10) C rfl d15_9 rfl ?_
  refine w_iloadN (q := 11) C rfl d15_10 rfl ?_
  refine w_icmp_ge_f (q := 14) C d15_11 rfl (by decide) ?_
  refine w_aloadN (q := 15) C rfl rfl d15_14 rfl ?_
  refine w_iloadN (q := 16) C rfl d15_15 rfl ?_
  refine w_aaload (q := 17) (i := 0) (v := (.ref x1)) C V rfl rfl rfl d15_16 rfl ?_
  refine w_astore (q := 19) (L' := #[.val (.ref s9), .val (.ref b), .val (.int (2 : Int32)), .val (.int (0 : Int32)), .val (.ref x1)]) C rfl rfl d15_17 rfl ?_
  refine w_aload (q := 21) C rfl rfl d15_19 rfl ?_
  refine w_getF (q := 24) (host := "") C (Or.inl (G.1 _ (List.mem_of_getElem? (i := 90) rfl))) Via.refl (FR1.ext O1.2) d15_21 rfl ?_
  refine w_aloadN (q := 25) C rfl rfl d15_24 rfl ?_
  refine w_callV (q := 28) (argsL := [(.ref s9)]) (S := []) (W := 0) (cells' := 1) (slots' := 2) (a := r1) C (SR1.1.ext O1.2) (G.1 _ (List.mem_of_getElem? (i := 92) rfl)) (G.1 _ (List.mem_of_getElem? (i := 93) rfl)) (w_nf C (G.1 _ (List.mem_of_getElem? (i := 95) rfl))) (G.1 _ (List.mem_of_getElem? (i := 95) rfl)) (G.1 _ (List.mem_of_getElem? (i := 94) rfl)) (G.1 _ (List.mem_of_getElem? (i := 1) rfl)) (G.1 _ (List.mem_of_getElem? (i := 96) rfl)) (by decide) (rm_equals G O1 r1 s9 own_off cs (Str_k0 SR1 KZ) S) rfl (lenOf pd_18 rfl) rfl (by decide) (own_leb rfl) (by decide) rfl rfl (by decide) (by decide) d15_25 rfl ?_
  rintro _ h31 ⟨eh32, rfl⟩
  rw [eh32]
  show AtW p l e _ s m _ below meth c n0 _ h30 1 2 (mkF m 28 #[.val (.ref s9), .val (.ref b), .val (.int (2 : Int32)), .val (.int (0 : Int32)), .val (.ref x1)] [(.int (if own_off = cs then (1 : Int32) else (0 : Int32)))])
  by_cases q0 : own_off = cs
  · rw [show (if own_off = cs then (1 : Int32) else (0 : Int32)) = (1 : Int32) from if_pos q0]
    refine w_if_eq_f (q := 31) C d15_28 rfl (by decide) ?_
    refine w_aload (q := 33) C rfl rfl d15_31 rfl ?_
    exact w_retA C rfl rfl rfl d15_33 (by decide) (by decide) ⟨Kh30, _, rfl, fun _ => rfl, fun z => absurd q0 z, fun z => absurd q0 z⟩
  · rw [show (if own_off = cs then (1 : Int32) else (0 : Int32)) = (0 : Int32) from if_neg q0]
    refine w_if_eq_t (q := 34) C d15_28 (by decide) (by decide) (by decide) ?_
    refine w_iinc (q := 37) (L' := #[.val (.ref s9), .val (.ref b), .val (.int (2 : Int32)), .val (.int (1 : Int32)), .val (.ref x1)]) C rfl (by decide) rfl d15_34 rfl ?_
    refine w_goto (q := 9) C d15_37 (by decide) (by decide) ?_
    refine w_iloadN (q := 10) C rfl d15_9 rfl ?_
    refine w_iloadN (q := 11) C rfl d15_10 rfl ?_
    refine w_icmp_ge_f (q := 14) C d15_11 rfl (by decide) ?_
    refine w_aloadN (q := 15) C rfl rfl d15_14 rfl ?_
    refine w_iloadN (q := 16) C rfl d15_15 rfl ?_
    refine w_aaload (q := 17) (i := 1) (v := (.ref x2)) C V rfl rfl rfl d15_16 rfl ?_
    refine w_astore (q := 19) (L' := #[.val (.ref s9), .val (.ref b), .val (.int (2 : Int32)), .val (.int (1 : Int32)), .val (.ref x2)]) C rfl rfl d15_17 rfl ?_
    refine w_aload (q := 21) C rfl rfl d15_19 rfl ?_
    refine w_getF (q := 24) (host := "") C (Or.inl (G.1 _ (List.mem_of_getElem? (i := 90) rfl))) Via.refl (FR2.ext O1.2) d15_21 rfl ?_
    refine w_aloadN (q := 25) C rfl rfl d15_24 rfl ?_
    refine w_callV (q := 28) (argsL := [(.ref s9)]) (S := []) (W := 0) (cells' := 1) (slots' := 2) (a := r2) C (SR2.1.ext O1.2) (G.1 _ (List.mem_of_getElem? (i := 92) rfl)) (G.1 _ (List.mem_of_getElem? (i := 93) rfl)) (w_nf C (G.1 _ (List.mem_of_getElem? (i := 95) rfl))) (G.1 _ (List.mem_of_getElem? (i := 95) rfl)) (G.1 _ (List.mem_of_getElem? (i := 94) rfl)) (G.1 _ (List.mem_of_getElem? (i := 1) rfl)) (G.1 _ (List.mem_of_getElem? (i := 96) rfl)) (by decide) (rm_equals G O1 r2 s9 own_onl cs (Str_k0 SR2 KZ) S) rfl (lenOf pd_18 rfl) rfl (by decide) (own_leb rfl) (by decide) rfl rfl (by decide) (by decide) d15_25 rfl ?_
    rintro _ h33 ⟨eh34, rfl⟩
    rw [eh34]
    show AtW p l e _ s m _ below meth c n0 _ h30 1 2 (mkF m 28 #[.val (.ref s9), .val (.ref b), .val (.int (2 : Int32)), .val (.int (1 : Int32)), .val (.ref x2)] [(.int (if own_onl = cs then (1 : Int32) else (0 : Int32)))])
    by_cases q1 : own_onl = cs
    · rw [show (if own_onl = cs then (1 : Int32) else (0 : Int32)) = (1 : Int32) from if_pos q1]
      refine w_if_eq_f (q := 31) C d15_28 rfl (by decide) ?_
      refine w_aload (q := 33) C rfl rfl d15_31 rfl ?_
      exact w_retA C rfl rfl rfl d15_33 (by decide) (by decide) ⟨Kh30, _, rfl, fun z => absurd z q0, fun _ _ => rfl, fun _ z => absurd q1 z⟩
    · rw [show (if own_onl = cs then (1 : Int32) else (0 : Int32)) = (0 : Int32) from if_neg q1]
      refine w_if_eq_t (q := 34) C d15_28 (by decide) (by decide) (by decide) ?_
      refine w_iinc (q := 37) (L' := #[.val (.ref s9), .val (.ref b), .val (.int (2 : Int32)), .val (.int (2 : Int32)), .val (.ref x2)]) C rfl (by decide) rfl d15_34 rfl ?_
      refine w_goto (q := 9) C d15_37 (by decide) (by decide) ?_
      refine w_iloadN (q := 10) C rfl d15_9 rfl ?_
      refine w_iloadN (q := 11) C rfl d15_10 rfl ?_
      refine w_icmp_ge_t (q := 40) C d15_11 (by decide) (by decide) (by decide) ?_
      refine w_aconst_null (q := 41) C d15_40 rfl ?_
      exact w_retA C rfl rfl rfl d15_41 (by decide) (by decide) ⟨Kh30, _, rfl, fun z => absurd z q0, fun _ z => absurd z q1, fun _ _ => rfl⟩
theorem ef_namedN (m : MethodId)  : entryFrame m #[.null] 5 = mkF m 0 #[.val .null, .unset, .unset, .unset, .unset] [] := by first | rfl | (simp [entryFrame, mkF, argsToLocals, Value.category, *]; done) | rfl
set_option maxRecDepth 65536 in
set_option maxHeartbeats 40000000 in
theorem rm_namedN {l : Launch} {Z : State} {a0 : Array Value} {n0 : Nat} (G : Gl Z a0 n0) {h0 : Heap} (O : Old Z n0 h0) (vv : Addr) (x1 : Addr) (x2 : Addr) (r1 : Addr) (r2 : Addr) (N1 : En Z vv x1 x2 r1 r2) :
    Ct [] l Z n0 (⟨"com/example/anteroom/anteroom/scopes/RefreshScope", "named", "(Ljava/lang/String;)Lcom/example/anteroom/anteroom/scopes/RefreshScope;"⟩ : MethodName) prog_5_method_5_code 5 (some (.object "com/example/anteroom/anteroom/scopes/RefreshScope")) ({ frames := 2, cells := 1, slots := 2, locals := 25 } : Room) #[.null] h0 (fun v h => Keep h0 h [] ∧ v = some .null) := by
  refine Ct.intro pf15 ?_
  intro p e s m below meth c C
  refine AtW.cast ?_ (ef_namedN m)
  obtain ⟨SVV, EVV, AVV, SX1, SX2, FR1, SR1, FR2, SR2⟩ := id N1
  refine w_callS (q := 3) (argsL := []) (S := []) (W := 0) (cells' := 1) (slots' := 2) C (G.1 _ (List.mem_of_getElem? (i := 73) rfl)) (G.1 _ (List.mem_of_getElem? (i := 74) rfl)) (G.1 _ (List.mem_of_getElem? (i := 71) rfl)) (G.1 _ (List.mem_of_getElem? (i := 75) rfl)) (by decide) (rm_values G O vv x1 x2 r1 r2 N1) rfl (lenOf pd_16 rfl) rfl (by decide) (own_leb rfl) (by decide) rfl rfl (by decide) (by decide) d15_0 rfl ?_
  rintro _ h35 ⟨Kh35, b, rfl, V⟩
  show AtW p l e _ s m _ below meth c n0 _ h35 1 2 (mkF m 3 #[.val .null, .unset, .unset, .unset, .unset] [(.ref b)])
  have O1 := Old_k0 O Kh35
  have KZ : Keep Z.heap h35 [] := Keep.of_ext O1.2
  refine w_astoreN (q := 4) (L' := #[.val .null, .val (.ref b), .unset, .unset, .unset]) C rfl rfl d15_3 rfl ?_
  refine w_aloadN (q := 5) C rfl rfl d15_4 rfl ?_
  refine w_len (q := 6) (z := (2 : Int32)) C V rfl d15_5 rfl ?_
  refine w_istoreN (q := 7) (L' := #[.val .null, .val (.ref b), .val (.int (2 : Int32)), .unset, .unset]) C rfl d15_6 rfl ?_
  refine w_iconst (q := 8) (v := (0 : Int32)) C (by rfl) d15_7 rfl ?_
  refine w_istoreN (q := 9) (L' := #[.val .null, .val (.ref b), .val (.int (2 : Int32)), .val (.int (0 : Int32)), .unset]) C rfl d15_8 rfl ?_
  refine w_iloadN (q := 10) C rfl d15_9 rfl ?_
  refine w_iloadN (q := 11) C rfl d15_10 rfl ?_
  refine w_icmp_ge_f (q := 14) C d15_11 rfl (by decide) ?_
  refine w_aloadN (q := 15) C rfl rfl d15_14 rfl ?_
  refine w_iloadN (q := 16) C rfl d15_15 rfl ?_
  refine w_aaload (q := 17) (i := 0) (v := (.ref x1)) C V rfl rfl rfl d15_16 rfl ?_
  refine w_astore (q := 19) (L' := #[.val .null, .val (.ref b), .val (.int (2 : Int32)), .val (.int (0 : Int32)), .val (.ref x1)]) C rfl rfl d15_17 rfl ?_
  refine w_aload (q := 21) C rfl rfl d15_19 rfl ?_
  refine w_getF (q := 24) (host := "") C (Or.inl (G.1 _ (List.mem_of_getElem? (i := 90) rfl))) Via.refl (FR1.ext O1.2) d15_21 rfl ?_
  refine w_aloadN (q := 25) C rfl rfl d15_24 rfl ?_
  refine w_callV (q := 28) (argsL := [.null]) (S := []) (W := 0) (cells' := 1) (slots' := 2) (a := r1) C (SR1.1.ext O1.2) (G.1 _ (List.mem_of_getElem? (i := 92) rfl)) (G.1 _ (List.mem_of_getElem? (i := 93) rfl)) (w_nf C (G.1 _ (List.mem_of_getElem? (i := 95) rfl))) (G.1 _ (List.mem_of_getElem? (i := 95) rfl)) (G.1 _ (List.mem_of_getElem? (i := 94) rfl)) (G.1 _ (List.mem_of_getElem? (i := 1) rfl)) (G.1 _ (List.mem_of_getElem? (i := 96) rfl)) (by decide) (rm_equalsN G O1 r1) rfl (lenOf pd_18 rfl) rfl (by decide) (own_leb rfl) (by decide) rfl rfl (by decide) (by decide) d15_25 rfl ?_
  rintro _ h36 ⟨eh37, rfl⟩
  rw [eh37]
  show AtW p l e _ s m _ below meth c n0 _ h35 1 2 (mkF m 28 #[.val .null, .val (.ref b), .val (.int (2 : Int32)), .val (.int (0 : Int32)), .val (.ref x1)] [(.int (0 : Int32))])
  refine w_if_eq_t (q := 34) C d15_28 (by decide) (by decide) (by decide) ?_
  refine w_iinc (q := 37) (L' := #[.val .null, .val (.ref b), .val (.int (2 : Int32)), .val (.int (1 : Int32)), .val (.ref x1)]) C rfl (by decide) rfl d15_34 rfl ?_
  refine w_goto (q := 9) C d15_37 (by decide) (by decide) ?_
  refine w_iloadN (q := 10) C rfl d15_9 rfl ?_
  refine w_iloadN (q := 11) C rfl d15_10 rfl ?_
  refine w_icmp_ge_f (q := 14) C d15_11 rfl (by decide) ?_
  refine w_aloadN (q := 15) C rfl rfl d15_14 rfl ?_
  refine w_iloadN (q := 16) C rfl d15_15 rfl ?_
  refine w_aaload (q := 17) (i := 1) (v := (.ref x2)) C V rfl rfl rfl d15_16 rfl ?_
  refine w_astore (q := 19) (L' := #[.val .null, .val (.ref b), .val (.int (2 : Int32)), .val (.int (1 : Int32)), .val (.ref x2)]) C rfl rfl d15_17 rfl ?_
  refine w_aload (q := 21) C rfl rfl d15_19 rfl ?_
  refine w_getF (q := 24) (host := "") C (Or.inl (G.1 _ (List.mem_of_getElem? (i := 90) rfl))) Via.refl (FR2.ext O1.2) d15_21 rfl ?_
  refine w_aloadN (q := 25) C rfl rfl d15_24 rfl ?_
  refine w_callV (q := 28) (argsL := [.null]) (S := []) (W := 0) (cells' := 1) (slots' := 2) (a := r2) C (SR2.1.ext O1.2) (G.1 _ (List.mem_of_getElem? (i := 92) rfl)) (G.1 _ (List.mem_of_getElem? (i := 93) rfl)) (w_nf C (G.1 _ (List.mem_of_getElem? (i := 95) rfl))) (G.1 _ (List.mem_of_getElem? (i := 95) rfl)) (G.1 _ (List.mem_of_getElem? (i := 94) rfl)) (G.1 _ (List.mem_of_getElem? (i := 1) rfl)) (G.1 _ (List.mem_of_getElem? (i := 96) rfl)) (by decide) (rm_equalsN G O1 r2) rfl (lenOf pd_18 rfl) rfl (by decide) (own_leb rfl) (by decide) rfl rfl (by decide) (by decide) d15_25 rfl ?_
  rintro _ h38 ⟨eh39, rfl⟩
  rw [eh39]
  show AtW p l e _ s m _ below meth c n0 _ h35 1 2 (mkF m 28 #[.val .null, .val (.ref b), .val (.int (2 : Int32)), .val (.int (1 : Int32)), .val (.ref x2)] [(.int (0 : Int32))])
  refine w_if_eq_t (q := 34) C d15_28 (by decide) (by decide) (by decide) ?_
  refine w_iinc (q := 37) (L' := #[.val .null, .val (.ref b), .val (.int (2 : Int32)), .val (.int (2 : Int32)), .val (.ref x2)]) C rfl (by decide) rfl d15_34 rfl ?_
  refine w_goto (q := 9) C d15_37 (by decide) (by decide) ?_
  refine w_iloadN (q := 10) C rfl d15_9 rfl ?_
  refine w_iloadN (q := 11) C rfl d15_10 rfl ?_
  refine w_icmp_ge_t (q := 40) C d15_11 (by decide) (by decide) (by decide) ?_
  refine w_aconst_null (q := 41) C d15_40 rfl ?_
  exact w_retA C rfl rfl rfl d15_41 (by decide) (by decide) ⟨Kh35, rfl⟩
theorem d1_0 : decode method_2_code 0 = .ok (.iload_n 1, 1) := by decide +kernel
theorem d1_1 : decode method_2_code 1 = .ok (.aload_n 0, 1) := by decide +kernel
theorem d1_2 : decode method_2_code 2 = .ok (.invokevirtual 7, 3) := by decide +kernel
theorem d1_5 : decode method_2_code 5 = .ok (.if_icmp .ge 11, 3) := by decide +kernel
theorem d1_8 : decode method_2_code 8 = .ok (.aload_n 0, 1) := by decide +kernel
theorem d1_9 : decode method_2_code 9 = .ok (.iload_n 1, 1) := by decide +kernel
theorem d1_10 : decode method_2_code 10 = .ok (.invokevirtual 13, 3) := by decide +kernel
theorem d1_13 : decode method_2_code 13 = .ok (.goto 4, 3) := by decide +kernel
theorem d1_16 : decode method_2_code 16 = .ok (.iload_n 2, 1) := by decide +kernel
theorem d1_17 : decode method_2_code 17 = .ok (.ireturn, 1) := by decide +kernel
theorem pf1 : plainFor (⟨"com/example/anteroom/anteroom/scopes/RefreshScopeNamedPinLaw", "at", "(Ljava/lang/String;IC)C"⟩ : MethodName) = true := by first | exact plainFor_of_name (by first | (simp [plainName, overriddenIn]; done) | decide +kernel) | decide +kernel
theorem ef_atf (m : MethodId) (z0 : Addr) (z1 : Int32) (z2 : Int32) : entryFrame m #[(.ref z0), (.int z1), (.int z2)] 3 = mkF m 0 #[.val (.ref z0), .val (.int z1), .val (.int z2)] [] := by first | rfl | (simp [entryFrame, mkF, argsToLocals, Value.category, *]; done) | rfl
set_option maxRecDepth 65536 in
set_option maxHeartbeats 40000000 in
theorem rm_atf {l : Launch} {Z : State} {a0 : Array Value} {n0 : Nat} (G : Gl Z a0 n0) {h0 : Heap} (O : Old Z n0 h0) (a : Addr) (cs : List Int32) (i : Nat) (dc : Int32) (S : Str Z h0 a cs) (hi : i < 15) (hd : ¬ dc < 0 ∧ ¬ 255 < dc) :
    Ct [] l Z n0 (⟨"com/example/anteroom/anteroom/scopes/RefreshScopeNamedPinLaw", "at", "(Ljava/lang/String;IC)C"⟩ : MethodName) method_2_code 3 (some .char) ({ frames := 4, cells := 0, slots := 0, locals := 53 } : Room) #[(.ref a), (.int (Int32.ofNat i)), (.int dc)] h0 (fun v h => h = h0 ∧ ∃ ch : Int32, v = some (.int ch) ∧ (¬ ch < 0 ∧ ¬ 255 < ch)) := by
  refine Ct.intro pf1 ?_
  intro p e s m below meth c C
  refine AtW.cast ?_ (ef_atf m a (Int32.ofNat i) dc)
  have hl := S.len
  refine w_iloadN (q := 1) C rfl d1_0 rfl ?_
  refine w_aloadN (q := 2) C rfl rfl d1_1 rfl ?_
  refine w_callV (q := 5) (argsL := []) (S := [(.int (Int32.ofNat i))]) (W := 1) (cells' := 0) (slots' := 0) (a := a) C S.1 (G.1 _ (List.mem_of_getElem? (i := 13) rfl)) (G.1 _ (List.mem_of_getElem? (i := 14) rfl)) (w_nf C (G.1 _ (List.mem_of_getElem? (i := 16) rfl))) (G.1 _ (List.mem_of_getElem? (i := 16) rfl)) (G.1 _ (List.mem_of_getElem? (i := 15) rfl)) (G.1 _ (List.mem_of_getElem? (i := 1) rfl)) (G.1 _ (List.mem_of_getElem? (i := 17) rfl)) (by decide) (rm_length G O a cs S) rfl (lenOf pd_2 rfl) rfl (by decide) (own_leb rfl) (by decide) rfl rfl (by decide) (by decide) d1_2 rfl ?_
  rintro _ h40 ⟨eh41, rfl⟩
  rw [eh41]
  show AtW p l e _ s m _ below meth c n0 _ h0 0 0 (mkF m 5 #[.val (.ref a), .val (.int (Int32.ofNat i)), .val (.int dc)] [(.int (Int32.ofNat cs.length)), (.int (Int32.ofNat i))])
  by_cases q1 : (Int32.ofNat i) < (Int32.ofNat cs.length)
  · refine w_icmp_ge_f (q := 8) C d1_5 rfl q1 ?_
    rw [own_nlt (by omega) hl] at q1
    obtain ⟨c1, e1⟩ : ∃ c1, cs[i]? = some c1 := ⟨_, List.getElem?_eq_getElem q1⟩
    have rc := S.2.1.get e1
    refine w_aloadN (q := 9) C rfl rfl d1_8 rfl ?_
    refine w_iloadN (q := 10) C rfl d1_9 rfl ?_
    refine w_callV (q := 13) (argsL := [(.int (Int32.ofNat i))]) (S := []) (W := 0) (cells' := 0) (slots' := 0) (a := a) C S.1 (G.1 _ (List.mem_of_getElem? (i := 26) rfl)) (G.1 _ (List.mem_of_getElem? (i := 27) rfl)) (w_nf C (G.1 _ (List.mem_of_getElem? (i := 29) rfl))) (G.1 _ (List.mem_of_getElem? (i := 29) rfl)) (G.1 _ (List.mem_of_getElem? (i := 28) rfl)) (G.1 _ (List.mem_of_getElem? (i := 1) rfl)) (G.1 _ (List.mem_of_getElem? (i := 30) rfl)) (by decide) (rm_charAt G O a cs i c1 S e1) rfl (lenOf pd_4 rfl) rfl (by decide) (own_leb rfl) (by decide) rfl rfl (by decide) (by decide) d1_10 rfl ?_
    rintro _ h42 ⟨eh43, rfl⟩
    rw [eh43]
    show AtW p l e _ s m _ below meth c n0 _ h0 0 0 (mkF m 13 #[.val (.ref a), .val (.int (Int32.ofNat i)), .val (.int dc)] [(.int c1)])
    refine w_goto (q := 17) C d1_13 (by decide) (by decide) ?_
    exact w_retZ (z := c1) C (t := .char) rfl (by simp) (own_nar rc.1 rc.2) d1_17 (by decide) (by decide) ⟨rfl, c1, rfl, rc⟩
  · refine w_icmp_ge_t (q := 16) C d1_5 (by decide) (by decide) q1 ?_
    refine w_iloadN (q := 17) C rfl d1_16 rfl ?_
    exact w_retZ (z := dc) C (t := .char) rfl (by simp) (own_nar hd.1 hd.2) d1_17 (by decide) (by decide) ⟨rfl, dc, rfl, hd⟩
theorem own_ixr {x : Int32} {n : Nat} (h0 : n ≠ 0) (hn : n < 2 ^ 31) : ∃ j : Nat, j < n ∧ (x &&& (2147483647 : Int32)) % (Int32.ofNat n) = Int32.ofNat j := by
  have e := c_mask x 2147483647 31 (by decide) (by decide)
  have r := c_irem (x &&& 2147483647) (Int32.ofNat n) n (own_nat hn)
  have hp : (0 : Int) < (n : Int) := by omega
  have h1 : 0 ≤ (x &&& 2147483647).toInt := by rw [e]; omega
  have r1 := r.1 h1
  have g0 : 0 ≤ (x &&& 2147483647).toInt % (n : Int) := Int.emod_nonneg _ (by omega)
  have g1 : (x &&& 2147483647).toInt % (n : Int) < n := Int.emod_lt_of_pos _ hp
  refine ⟨((x &&& 2147483647) % Int32.ofNat n).toInt.toNat, by rw [r1]; omega, ?_⟩
  rw [own_eq, own_nat (by rw [r1]; omega), r1]
  omega
theorem L1.set {cs : List Int32} (h : L1 cs) (j : Nat) {c : Int32} (hc : ¬ c < 0 ∧ ¬ 255 < c) : L1 (cs.set j c) := fun x hx => by
  rcases List.mem_or_eq_of_mem_set hx with q | q
  · exact h x q
  · rw [q]; exact hc
theorem own_nz {n : Nat} (hn : n < 2 ^ 31) (h : 0 < Int32.ofNat n) : n ≠ 0 := fun z => by rw [z] at h; exact absurd h (by decide)
-- CUT
theorem pf0 : plainFor (⟨"com/example/anteroom/anteroom/scopes/RefreshScopeNamedPinLaw", "law", "(III)Z"⟩ : MethodName) = true := by first | exact plainFor_of_name (by first | (simp [plainName, overriddenIn]; done) | decide +kernel) | decide +kernel
theorem ef_law (m : MethodId) (z0 : Int32) (z1 : Int32) (z2 : Int32) : entryFrame m #[(.int z0), (.int z1), (.int z2)] maxLocals = mkF m 0 #[.val (.int z0), .val (.int z1), .val (.int z2), .unset, .unset, .unset, .unset, .unset, .unset, .unset, .unset, .unset, .unset, .unset, .unset, .unset, .unset, .unset] [] := by first | (simp [entryFrame, mkF, argsToLocals, Value.category, *, maxLocals]; done) | rfl
set_option maxRecDepth 65536 in
set_option maxHeartbeats 40000000 in
theorem rm_law {l : Launch} {Z : State} {a0 : Array Value} {n0 : Nat} (G : Gl Z a0 n0) {h0 : Heap} (O : Old Z n0 h0) (k : Int32) (xx : Int32) (y : Int32) :
    Cs tables_1 l Z consts_1 n0 x code maxLocals ret room_1 #[(.int k), (.int xx), (.int y)] h0 (fun v h => v = some (.int 1)) := by
  refine Cs.intro pf0 ?_
  intro p e s m below meth c C
  refine AtS.cast ?_ (ef_law m k xx y)
  obtain ⟨vv, x1, x2, r1, r2, N1⟩ := G.en
  obtain ⟨SVV, EVV, AVV, SX1, SX2, FR1, SR1, FR2, SR2⟩ := id N1
  refine s_iloadN (q := 1) C rfl at_0 rfl ?_
  refine s_iconst (q := 2) (v := (1 : Int32)) C (by rfl) at_1 rfl ?_
  refine s_iand (q := 3) C rfl at_2 rfl ?_
  have J1 : ∀ (hJ1 : Heap) (b0 : Addr) (cs9 : List Int32), Keep h0 hJ1 [] → Str Z hJ1 b0 cs9 → AtS p l e room_1 s m #[(.int k), (.int xx), (.int y)] below meth c Z consts_1 "com/example/anteroom/anteroom/scopes/RefreshScopeNamedPinLaw" n0 (fun v h => v = some (.int 1)) hJ1.size [] hJ1 2 60 (mkF m 14 #[.val (.int k), .val (.int xx), .val (.int y), .val (.ref b0), .unset, .unset, .unset, .unset, .unset, .unset, .unset, .unset, .unset, .unset, .unset, .unset, .unset, .unset] []) := by
    intro hJ1 b0 cs9 KJ1 S9
    have O50 := Old_k0 O KJ1
    refine s_iloadN (q := 15) C rfl at_14 rfl ?_
    refine s_bipush (q := 17) (v := (8 : Int32)) C (by rfl) at_15 rfl ?_
    refine s_iushr (q := 18) C rfl at_17 rfl ?_
    refine s_sipush (q := 21) (v := (255 : Int32)) C (by rfl) at_18 rfl ?_
    refine s_iand (q := 22) C rfl at_21 rfl ?_
    refine s_i2c (q := 23) C rfl at_22 rfl ?_
    rw [show ((((y.toUInt32 >>> ((8 : Int32) &&& 31).toUInt32).toInt32) &&& (255 : Int32)).toUInt32.toUInt16.toUInt32.toInt32) = ((y.toUInt32 >>> ((8 : Int32) &&& 31).toUInt32).toInt32 &&& (255 : Int32)) from own_i2c (own_255 _)]
    generalize hec : ((y.toUInt32 >>> ((8 : Int32) &&& 31).toUInt32).toInt32 &&& (255 : Int32)) = ec
    have re : ¬ ec < 0 ∧ ¬ 255 < ec := by rw [← hec]; exact own_255 _
    clear hec
    refine s_istore (q := 25) (L' := #[.val (.int k), .val (.int xx), .val (.int y), .val (.ref b0), .val (.int ec), .unset, .unset, .unset, .unset, .unset, .unset, .unset, .unset, .unset, .unset, .unset, .unset, .unset]) C rfl at_23 rfl ?_
    refine s_iloadN (q := 26) C rfl at_25 rfl ?_
    refine s_sipush (q := 29) (v := (255 : Int32)) C (by rfl) at_26 rfl ?_
    refine s_iand (q := 30) C rfl at_29 rfl ?_
    refine s_i2c (q := 31) C rfl at_30 rfl ?_
    rw [show ((y &&& (255 : Int32)).toUInt32.toUInt16.toUInt32.toInt32) = (y &&& (255 : Int32)) from own_i2c (own_255 _)]
    generalize hcc : (y &&& (255 : Int32)) = cc
    have rc : ¬ cc < 0 ∧ ¬ 255 < cc := by rw [← hcc]; exact own_255 _
    clear hcc
    refine s_istore (q := 33) (L' := #[.val (.int k), .val (.int xx), .val (.int y), .val (.ref b0), .val (.int ec), .val (.int cc), .unset, .unset, .unset, .unset, .unset, .unset, .unset, .unset, .unset, .unset, .unset, .unset]) C rfl at_31 rfl ?_
    refine s_iloadN (q := 34) C rfl at_33 rfl ?_
    refine s_iconst (q := 35) (v := (1 : Int32)) C (by rfl) at_34 rfl ?_
    refine s_iushr (q := 36) C rfl at_35 rfl ?_
    refine s_bipush (q := 38) (v := (7 : Int32)) C (by rfl) at_36 rfl ?_
    refine s_iand (q := 39) C rfl at_38 rfl ?_
    obtain ⟨j, hj, ej⟩ := own_maskN ((k.toUInt32 >>> ((1 : Int32) &&& 31).toUInt32).toInt32) 7 3 (by decide) (by decide)
    rw [show (((k.toUInt32 >>> ((1 : Int32) &&& 31).toUInt32).toInt32) &&& (7 : Int32)) = (Int32.ofNat j) from ej]
    refine s_istore (q := 41) (L' := #[.val (.int k), .val (.int xx), .val (.int y), .val (.ref b0), .val (.int ec), .val (.int cc), .val (.int (Int32.ofNat j)), .unset, .unset, .unset, .unset, .unset, .unset, .unset, .unset, .unset, .unset, .unset]) C rfl at_39 rfl ?_
    refine s_iloadN (q := 42) C rfl at_41 rfl ?_
    refine s_iconst (q := 43) (v := (4 : Int32)) C (by rfl) at_42 rfl ?_
    refine s_iushr (q := 44) C rfl at_43 rfl ?_
    refine s_iconst (q := 45) (v := (1 : Int32)) C (by rfl) at_44 rfl ?_
    refine s_iand (q := 46) C rfl at_45 rfl ?_
    have J5 : ∀ pz : Int32, AtS p l e room_1 s m #[(.int k), (.int xx), (.int y)] below meth c Z consts_1 "com/example/anteroom/anteroom/scopes/RefreshScopeNamedPinLaw" n0 (fun v h => v = some (.int 1)) hJ1.size [] hJ1 2 60 (mkF m 54 #[.val (.int k), .val (.int xx), .val (.int y), .val (.ref b0), .val (.int ec), .val (.int cc), .val (.int (Int32.ofNat j)), .unset, .unset, .unset, .unset, .unset, .unset, .unset, .unset, .unset, .unset, .unset] [(.int pz)]) := by
      intro pz
      refine s_istore (q := 56) (L' := #[.val (.int k), .val (.int xx), .val (.int y), .val (.ref b0), .val (.int ec), .val (.int cc), .val (.int (Int32.ofNat j)), .val (.int pz), .unset, .unset, .unset, .unset, .unset, .unset, .unset, .unset, .unset, .unset]) C rfl at_54 rfl ?_
      refine s_bipush (q := 58) (v := (12 : Int32)) C (by rfl) at_56 rfl ?_
      refine s_newArr (q := 60) (cap := 12) (cells' := 3) (slots' := 72) C (G.1 _ (List.mem_of_getElem? (i := 8) rfl)) rfl (by decide) (by decide) (by decide) rfl rfl (by decide) (by decide) at_58 rfl ?_
      intro h51 o52 g_o52 Eh51 V_o52
      replace V_o52 : Ar Z h51 o52 .char [(.int (0 : Int32)), (.int (0 : Int32)), (.int (0 : Int32)), (.int (0 : Int32)), (.int (0 : Int32)), (.int (0 : Int32)), (.int (0 : Int32)), (.int (0 : Int32)), (.int (0 : Int32)), (.int (0 : Int32)), (.int (0 : Int32)), (.int (0 : Int32))] := V_o52
      have ge_o52 : n0 ≤ o52 := by rw [g_o52]; exact Old_le O50
      have sz_o52 : hJ1.size ≤ o52 := Nat.le_of_eq g_o52.symm
      have K53 : Keep hJ1 h51 [] := Keep.of_ext Eh51
      have O54 := Old_k0 O50 K53
      refine s_dup (q := 61) C rfl at_60 rfl ?_
      refine s_iconst (q := 62) (v := (0 : Int32)) C (by rfl) at_61 rfl ?_
      refine s_aloadN (q := 63) C rfl rfl at_62 rfl ?_
      refine s_iconst (q := 64) (v := (0 : Int32)) C (by rfl) at_63 rfl ?_
      refine s_iload (q := 66) C rfl at_64 rfl ?_
      refine s_callS1 (q := 69) (argsL := [(.ref b0), (.int (0 : Int32)), (.int ec)]) (S := [(.int (0 : Int32)), (.ref o52), (.ref o52)]) (W := 3) (cells' := 3) (slots' := 72) C (G.1 _ (List.mem_of_getElem? (i := 9) rfl)) (G.1 _ (List.mem_of_getElem? (i := 10) rfl)) (G.1 _ (List.mem_of_getElem? (i := 11) rfl)) (G.1 _ (List.mem_of_getElem? (i := 12) rfl)) (by decide) (rm_atf G O54 b0 cs9 0 ec (Str_k0 S9 K53) (by decide) re) rfl (lenOf pd_1 rfl) rfl (by decide) (own_leb rfl) (by decide) rfl rfl (by decide) (by decide) (wl := []) (fun _ _ q => by rw [q.1]; exact Keep.refl _ _) all0 at_66 rfl ?_
      rintro _ h57 ⟨eh58, c55, rfl, rc56⟩
      rw [eh58]
      show AtS p l e _ s m _ below meth c Z _ _ n0 _ _ _ h51 3 72 (mkF m 69 #[.val (.int k), .val (.int xx), .val (.int y), .val (.ref b0), .val (.int ec), .val (.int cc), .val (.int (Int32.ofNat j)), .val (.int pz), .unset, .unset, .unset, .unset, .unset, .unset, .unset, .unset, .unset, .unset] [(.int c55), (.int (0 : Int32)), (.ref o52), (.ref o52)])
      refine s_castore (q := 70) (z := c55) (i := 0) C (own_nar rc56.1 rc56.2) V_o52 rfl (own_ltb rfl) ge_o52 at_69 rfl ?_
      intro h59 Wh59 Vh59
      have K60 := K53.wr Wh59 (Or.inr sz_o52)
      have O61 := Old_k0 O50 K60
      refine s_dup (q := 71) C rfl at_70 rfl ?_
      refine s_iconst (q := 72) (v := (1 : Int32)) C (by rfl) at_71 rfl ?_
      refine s_aloadN (q := 73) C rfl rfl at_72 rfl ?_
      refine s_iconst (q := 74) (v := (1 : Int32)) C (by rfl) at_73 rfl ?_
      refine s_iload (q := 76) C rfl at_74 rfl ?_
      refine s_callS1 (q := 79) (argsL := [(.ref b0), (.int (1 : Int32)), (.int ec)]) (S := [(.int (1 : Int32)), (.ref o52), (.ref o52)]) (W := 3) (cells' := 3) (slots' := 72) C (G.1 _ (List.mem_of_getElem? (i := 9) rfl)) (G.1 _ (List.mem_of_getElem? (i := 10) rfl)) (G.1 _ (List.mem_of_getElem? (i := 11) rfl)) (G.1 _ (List.mem_of_getElem? (i := 12) rfl)) (by decide) (rm_atf G O61 b0 cs9 1 ec (Str_k0 S9 K60) (by decide) re) rfl (lenOf pd_1 rfl) rfl (by decide) (own_leb rfl) (by decide) rfl rfl (by decide) (by decide) (wl := []) (fun _ _ q => by rw [q.1]; exact Keep.refl _ _) all0 at_76 rfl ?_
      rintro _ h64 ⟨eh65, c62, rfl, rc63⟩
      rw [eh65]
      show AtS p l e _ s m _ below meth c Z _ _ n0 _ _ _ h59 3 72 (mkF m 79 #[.val (.int k), .val (.int xx), .val (.int y), .val (.ref b0), .val (.int ec), .val (.int cc), .val (.int (Int32.ofNat j)), .val (.int pz), .unset, .unset, .unset, .unset, .unset, .unset, .unset, .unset, .unset, .unset] [(.int c62), (.int (1 : Int32)), (.ref o52), (.ref o52)])
      refine s_castore (q := 80) (z := c62) (i := 1) C (own_nar rc63.1 rc63.2) Vh59 rfl (own_ltb rfl) ge_o52 at_79 rfl ?_
      intro h66 Wh66 Vh66
      have K67 := K60.wr Wh66 (Or.inr sz_o52)
      have O68 := Old_k0 O50 K67
      refine s_dup (q := 81) C rfl at_80 rfl ?_
      refine s_iconst (q := 82) (v := (2 : Int32)) C (by rfl) at_81 rfl ?_
      refine s_aloadN (q := 83) C rfl rfl at_82 rfl ?_
      refine s_iconst (q := 84) (v := (2 : Int32)) C (by rfl) at_83 rfl ?_
      refine s_iload (q := 86) C rfl at_84 rfl ?_
      refine s_callS1 (q := 89) (argsL := [(.ref b0), (.int (2 : Int32)), (.int ec)]) (S := [(.int (2 : Int32)), (.ref o52), (.ref o52)]) (W := 3) (cells' := 3) (slots' := 72) C (G.1 _ (List.mem_of_getElem? (i := 9) rfl)) (G.1 _ (List.mem_of_getElem? (i := 10) rfl)) (G.1 _ (List.mem_of_getElem? (i := 11) rfl)) (G.1 _ (List.mem_of_getElem? (i := 12) rfl)) (by decide) (rm_atf G O68 b0 cs9 2 ec (Str_k0 S9 K67) (by decide) re) rfl (lenOf pd_1 rfl) rfl (by decide) (own_leb rfl) (by decide) rfl rfl (by decide) (by decide) (wl := []) (fun _ _ q => by rw [q.1]; exact Keep.refl _ _) all0 at_86 rfl ?_
      rintro _ h71 ⟨eh72, c69, rfl, rc70⟩
      rw [eh72]
      show AtS p l e _ s m _ below meth c Z _ _ n0 _ _ _ h66 3 72 (mkF m 89 #[.val (.int k), .val (.int xx), .val (.int y), .val (.ref b0), .val (.int ec), .val (.int cc), .val (.int (Int32.ofNat j)), .val (.int pz), .unset, .unset, .unset, .unset, .unset, .unset, .unset, .unset, .unset, .unset] [(.int c69), (.int (2 : Int32)), (.ref o52), (.ref o52)])
      refine s_castore (q := 90) (z := c69) (i := 2) C (own_nar rc70.1 rc70.2) Vh66 rfl (own_ltb rfl) ge_o52 at_89 rfl ?_
      intro h73 Wh73 Vh73
      have K74 := K67.wr Wh73 (Or.inr sz_o52)
      have O75 := Old_k0 O50 K74
      refine s_dup (q := 91) C rfl at_90 rfl ?_
      refine s_iconst (q := 92) (v := (3 : Int32)) C (by rfl) at_91 rfl ?_
      refine s_aloadN (q := 93) C rfl rfl at_92 rfl ?_
      refine s_iconst (q := 94) (v := (3 : Int32)) C (by rfl) at_93 rfl ?_
      refine s_iload (q := 96) C rfl at_94 rfl ?_
      refine s_callS1 (q := 99) (argsL := [(.ref b0), (.int (3 : Int32)), (.int ec)]) (S := [(.int (3 : Int32)), (.ref o52), (.ref o52)]) (W := 3) (cells' := 3) (slots' := 72) C (G.1 _ (List.mem_of_getElem? (i := 9) rfl)) (G.1 _ (List.mem_of_getElem? (i := 10) rfl)) (G.1 _ (List.mem_of_getElem? (i := 11) rfl)) (G.1 _ (List.mem_of_getElem? (i := 12) rfl)) (by decide) (rm_atf G O75 b0 cs9 3 ec (Str_k0 S9 K74) (by decide) re) rfl (lenOf pd_1 rfl) rfl (by decide) (own_leb rfl) (by decide) rfl rfl (by decide) (by decide) (wl := []) (fun _ _ q => by rw [q.1]; exact Keep.refl _ _) all0 at_96 rfl ?_
      rintro _ h78 ⟨eh79, c76, rfl, rc77⟩
      rw [eh79]
      show AtS p l e _ s m _ below meth c Z _ _ n0 _ _ _ h73 3 72 (mkF m 99 #[.val (.int k), .val (.int xx), .val (.int y), .val (.ref b0), .val (.int ec), .val (.int cc), .val (.int (Int32.ofNat j)), .val (.int pz), .unset, .unset, .unset, .unset, .unset, .unset, .unset, .unset, .unset, .unset] [(.int c76), (.int (3 : Int32)), (.ref o52), (.ref o52)])
      refine s_castore (q := 100) (z := c76) (i := 3) C (own_nar rc77.1 rc77.2) Vh73 rfl (own_ltb rfl) ge_o52 at_99 rfl ?_
      intro h80 Wh80 Vh80
      have K81 := K74.wr Wh80 (Or.inr sz_o52)
      have O82 := Old_k0 O50 K81
      refine s_dup (q := 101) C rfl at_100 rfl ?_
      refine s_iconst (q := 102) (v := (4 : Int32)) C (by rfl) at_101 rfl ?_
      refine s_aloadN (q := 103) C rfl rfl at_102 rfl ?_
      refine s_iconst (q := 104) (v := (4 : Int32)) C (by rfl) at_103 rfl ?_
      refine s_iload (q := 106) C rfl at_104 rfl ?_
      refine s_callS1 (q := 109) (argsL := [(.ref b0), (.int (4 : Int32)), (.int ec)]) (S := [(.int (4 : Int32)), (.ref o52), (.ref o52)]) (W := 3) (cells' := 3) (slots' := 72) C (G.1 _ (List.mem_of_getElem? (i := 9) rfl)) (G.1 _ (List.mem_of_getElem? (i := 10) rfl)) (G.1 _ (List.mem_of_getElem? (i := 11) rfl)) (G.1 _ (List.mem_of_getElem? (i := 12) rfl)) (by decide) (rm_atf G O82 b0 cs9 4 ec (Str_k0 S9 K81) (by decide) re) rfl (lenOf pd_1 rfl) rfl (by decide) (own_leb rfl) (by decide) rfl rfl (by decide) (by decide) (wl := []) (fun _ _ q => by rw [q.1]; exact Keep.refl _ _) all0 at_106 rfl ?_
      rintro _ h85 ⟨eh86, c83, rfl, rc84⟩
      rw [eh86]
      show AtS p l e _ s m _ below meth c Z _ _ n0 _ _ _ h80 3 72 (mkF m 109 #[.val (.int k), .val (.int xx), .val (.int y), .val (.ref b0), .val (.int ec), .val (.int cc), .val (.int (Int32.ofNat j)), .val (.int pz), .unset, .unset, .unset, .unset, .unset, .unset, .unset, .unset, .unset, .unset] [(.int c83), (.int (4 : Int32)), (.ref o52), (.ref o52)])
      refine s_castore (q := 110) (z := c83) (i := 4) C (own_nar rc84.1 rc84.2) Vh80 rfl (own_ltb rfl) ge_o52 at_109 rfl ?_
      intro h87 Wh87 Vh87
      have K88 := K81.wr Wh87 (Or.inr sz_o52)
      have O89 := Old_k0 O50 K88
      refine s_dup (q := 111) C rfl at_110 rfl ?_
      refine s_iconst (q := 112) (v := (5 : Int32)) C (by rfl) at_111 rfl ?_
      refine s_aloadN (q := 113) C rfl rfl at_112 rfl ?_
      refine s_iconst (q := 114) (v := (5 : Int32)) C (by rfl) at_113 rfl ?_
      refine s_iload (q := 116) C rfl at_114 rfl ?_
      refine s_callS1 (q := 119) (argsL := [(.ref b0), (.int (5 : Int32)), (.int ec)]) (S := [(.int (5 : Int32)), (.ref o52), (.ref o52)]) (W := 3) (cells' := 3) (slots' := 72) C (G.1 _ (List.mem_of_getElem? (i := 9) rfl)) (G.1 _ (List.mem_of_getElem? (i := 10) rfl)) (G.1 _ (List.mem_of_getElem? (i := 11) rfl)) (G.1 _ (List.mem_of_getElem? (i := 12) rfl)) (by decide) (rm_atf G O89 b0 cs9 5 ec (Str_k0 S9 K88) (by decide) re) rfl (lenOf pd_1 rfl) rfl (by decide) (own_leb rfl) (by decide) rfl rfl (by decide) (by decide) (wl := []) (fun _ _ q => by rw [q.1]; exact Keep.refl _ _) all0 at_116 rfl ?_
      rintro _ h92 ⟨eh93, c90, rfl, rc91⟩
      rw [eh93]
      show AtS p l e _ s m _ below meth c Z _ _ n0 _ _ _ h87 3 72 (mkF m 119 #[.val (.int k), .val (.int xx), .val (.int y), .val (.ref b0), .val (.int ec), .val (.int cc), .val (.int (Int32.ofNat j)), .val (.int pz), .unset, .unset, .unset, .unset, .unset, .unset, .unset, .unset, .unset, .unset] [(.int c90), (.int (5 : Int32)), (.ref o52), (.ref o52)])
      refine s_castore (q := 120) (z := c90) (i := 5) C (own_nar rc91.1 rc91.2) Vh87 rfl (own_ltb rfl) ge_o52 at_119 rfl ?_
      intro h94 Wh94 Vh94
      have K95 := K88.wr Wh94 (Or.inr sz_o52)
      have O96 := Old_k0 O50 K95
      refine s_dup (q := 121) C rfl at_120 rfl ?_
      refine s_bipush (q := 123) (v := (6 : Int32)) C (by rfl) at_121 rfl ?_
      refine s_aloadN (q := 124) C rfl rfl at_123 rfl ?_
      refine s_bipush (q := 126) (v := (6 : Int32)) C (by rfl) at_124 rfl ?_
      refine s_iload (q := 128) C rfl at_126 rfl ?_
      refine s_callS1 (q := 131) (argsL := [(.ref b0), (.int (6 : Int32)), (.int ec)]) (S := [(.int (6 : Int32)), (.ref o52), (.ref o52)]) (W := 3) (cells' := 3) (slots' := 72) C (G.1 _ (List.mem_of_getElem? (i := 9) rfl)) (G.1 _ (List.mem_of_getElem? (i := 10) rfl)) (G.1 _ (List.mem_of_getElem? (i := 11) rfl)) (G.1 _ (List.mem_of_getElem? (i := 12) rfl)) (by decide) (rm_atf G O96 b0 cs9 6 ec (Str_k0 S9 K95) (by decide) re) rfl (lenOf pd_1 rfl) rfl (by decide) (own_leb rfl) (by decide) rfl rfl (by decide) (by decide) (wl := []) (fun _ _ q => by rw [q.1]; exact Keep.refl _ _) all0 at_128 rfl ?_
      rintro _ h99 ⟨eh100, c97, rfl, rc98⟩
      rw [eh100]
      show AtS p l e _ s m _ below meth c Z _ _ n0 _ _ _ h94 3 72 (mkF m 131 #[.val (.int k), .val (.int xx), .val (.int y), .val (.ref b0), .val (.int ec), .val (.int cc), .val (.int (Int32.ofNat j)), .val (.int pz), .unset, .unset, .unset, .unset, .unset, .unset, .unset, .unset, .unset, .unset] [(.int c97), (.int (6 : Int32)), (.ref o52), (.ref o52)])
      refine s_castore (q := 132) (z := c97) (i := 6) C (own_nar rc98.1 rc98.2) Vh94 rfl (own_ltb rfl) ge_o52 at_131 rfl ?_
      intro h101 Wh101 Vh101
      have K102 := K95.wr Wh101 (Or.inr sz_o52)
      have O103 := Old_k0 O50 K102
      refine s_dup (q := 133) C rfl at_132 rfl ?_
      refine s_bipush (q := 135) (v := (7 : Int32)) C (by rfl) at_133 rfl ?_
      refine s_aloadN (q := 136) C rfl rfl at_135 rfl ?_
      refine s_bipush (q := 138) (v := (7 : Int32)) C (by rfl) at_136 rfl ?_
      refine s_iload (q := 140) C rfl at_138 rfl ?_
      refine s_callS1 (q := 143) (argsL := [(.ref b0), (.int (7 : Int32)), (.int ec)]) (S := [(.int (7 : Int32)), (.ref o52), (.ref o52)]) (W := 3) (cells' := 3) (slots' := 72) C (G.1 _ (List.mem_of_getElem? (i := 9) rfl)) (G.1 _ (List.mem_of_getElem? (i := 10) rfl)) (G.1 _ (List.mem_of_getElem? (i := 11) rfl)) (G.1 _ (List.mem_of_getElem? (i := 12) rfl)) (by decide) (rm_atf G O103 b0 cs9 7 ec (Str_k0 S9 K102) (by decide) re) rfl (lenOf pd_1 rfl) rfl (by decide) (own_leb rfl) (by decide) rfl rfl (by decide) (by decide) (wl := []) (fun _ _ q => by rw [q.1]; exact Keep.refl _ _) all0 at_140 rfl ?_
      rintro _ h106 ⟨eh107, c104, rfl, rc105⟩
      rw [eh107]
      show AtS p l e _ s m _ below meth c Z _ _ n0 _ _ _ h101 3 72 (mkF m 143 #[.val (.int k), .val (.int xx), .val (.int y), .val (.ref b0), .val (.int ec), .val (.int cc), .val (.int (Int32.ofNat j)), .val (.int pz), .unset, .unset, .unset, .unset, .unset, .unset, .unset, .unset, .unset, .unset] [(.int c104), (.int (7 : Int32)), (.ref o52), (.ref o52)])
      refine s_castore (q := 144) (z := c104) (i := 7) C (own_nar rc105.1 rc105.2) Vh101 rfl (own_ltb rfl) ge_o52 at_143 rfl ?_
      intro h108 Wh108 Vh108
      have K109 := K102.wr Wh108 (Or.inr sz_o52)
      have O110 := Old_k0 O50 K109
      refine s_dup (q := 145) C rfl at_144 rfl ?_
      refine s_bipush (q := 147) (v := (8 : Int32)) C (by rfl) at_145 rfl ?_
      refine s_aloadN (q := 148) C rfl rfl at_147 rfl ?_
      refine s_bipush (q := 150) (v := (8 : Int32)) C (by rfl) at_148 rfl ?_
      refine s_iload (q := 152) C rfl at_150 rfl ?_
      refine s_callS1 (q := 155) (argsL := [(.ref b0), (.int (8 : Int32)), (.int ec)]) (S := [(.int (8 : Int32)), (.ref o52), (.ref o52)]) (W := 3) (cells' := 3) (slots' := 72) C (G.1 _ (List.mem_of_getElem? (i := 9) rfl)) (G.1 _ (List.mem_of_getElem? (i := 10) rfl)) (G.1 _ (List.mem_of_getElem? (i := 11) rfl)) (G.1 _ (List.mem_of_getElem? (i := 12) rfl)) (by decide) (rm_atf G O110 b0 cs9 8 ec (Str_k0 S9 K109) (by decide) re) rfl (lenOf pd_1 rfl) rfl (by decide) (own_leb rfl) (by decide) rfl rfl (by decide) (by decide) (wl := []) (fun _ _ q => by rw [q.1]; exact Keep.refl _ _) all0 at_152 rfl ?_
      rintro _ h113 ⟨eh114, c111, rfl, rc112⟩
      rw [eh114]
      show AtS p l e _ s m _ below meth c Z _ _ n0 _ _ _ h108 3 72 (mkF m 155 #[.val (.int k), .val (.int xx), .val (.int y), .val (.ref b0), .val (.int ec), .val (.int cc), .val (.int (Int32.ofNat j)), .val (.int pz), .unset, .unset, .unset, .unset, .unset, .unset, .unset, .unset, .unset, .unset] [(.int c111), (.int (8 : Int32)), (.ref o52), (.ref o52)])
      refine s_castore (q := 156) (z := c111) (i := 8) C (own_nar rc112.1 rc112.2) Vh108 rfl (own_ltb rfl) ge_o52 at_155 rfl ?_
      intro h115 Wh115 Vh115
      have K116 := K109.wr Wh115 (Or.inr sz_o52)
      have O117 := Old_k0 O50 K116
      refine s_dup (q := 157) C rfl at_156 rfl ?_
      refine s_bipush (q := 159) (v := (9 : Int32)) C (by rfl) at_157 rfl ?_
      refine s_aloadN (q := 160) C rfl rfl at_159 rfl ?_
      refine s_bipush (q := 162) (v := (9 : Int32)) C (by rfl) at_160 rfl ?_
      refine s_iload (q := 164) C rfl at_162 rfl ?_
      refine s_callS1 (q := 167) (argsL := [(.ref b0), (.int (9 : Int32)), (.int ec)]) (S := [(.int (9 : Int32)), (.ref o52), (.ref o52)]) (W := 3) (cells' := 3) (slots' := 72) C (G.1 _ (List.mem_of_getElem? (i := 9) rfl)) (G.1 _ (List.mem_of_getElem? (i := 10) rfl)) (G.1 _ (List.mem_of_getElem? (i := 11) rfl)) (G.1 _ (List.mem_of_getElem? (i := 12) rfl)) (by decide) (rm_atf G O117 b0 cs9 9 ec (Str_k0 S9 K116) (by decide) re) rfl (lenOf pd_1 rfl) rfl (by decide) (own_leb rfl) (by decide) rfl rfl (by decide) (by decide) (wl := []) (fun _ _ q => by rw [q.1]; exact Keep.refl _ _) all0 at_164 rfl ?_
      rintro _ h120 ⟨eh121, c118, rfl, rc119⟩
      rw [eh121]
      show AtS p l e _ s m _ below meth c Z _ _ n0 _ _ _ h115 3 72 (mkF m 167 #[.val (.int k), .val (.int xx), .val (.int y), .val (.ref b0), .val (.int ec), .val (.int cc), .val (.int (Int32.ofNat j)), .val (.int pz), .unset, .unset, .unset, .unset, .unset, .unset, .unset, .unset, .unset, .unset] [(.int c118), (.int (9 : Int32)), (.ref o52), (.ref o52)])
      refine s_castore (q := 168) (z := c118) (i := 9) C (own_nar rc119.1 rc119.2) Vh115 rfl (own_ltb rfl) ge_o52 at_167 rfl ?_
      intro h122 Wh122 Vh122
      have K123 := K116.wr Wh122 (Or.inr sz_o52)
      have O124 := Old_k0 O50 K123
      refine s_dup (q := 169) C rfl at_168 rfl ?_
      refine s_bipush (q := 171) (v := (10 : Int32)) C (by rfl) at_169 rfl ?_
      refine s_aloadN (q := 172) C rfl rfl at_171 rfl ?_
      refine s_bipush (q := 174) (v := (10 : Int32)) C (by rfl) at_172 rfl ?_
      refine s_iload (q := 176) C rfl at_174 rfl ?_
      refine s_callS1 (q := 179) (argsL := [(.ref b0), (.int (10 : Int32)), (.int ec)]) (S := [(.int (10 : Int32)), (.ref o52), (.ref o52)]) (W := 3) (cells' := 3) (slots' := 72) C (G.1 _ (List.mem_of_getElem? (i := 9) rfl)) (G.1 _ (List.mem_of_getElem? (i := 10) rfl)) (G.1 _ (List.mem_of_getElem? (i := 11) rfl)) (G.1 _ (List.mem_of_getElem? (i := 12) rfl)) (by decide) (rm_atf G O124 b0 cs9 10 ec (Str_k0 S9 K123) (by decide) re) rfl (lenOf pd_1 rfl) rfl (by decide) (own_leb rfl) (by decide) rfl rfl (by decide) (by decide) (wl := []) (fun _ _ q => by rw [q.1]; exact Keep.refl _ _) all0 at_176 rfl ?_
      rintro _ h127 ⟨eh128, c125, rfl, rc126⟩
      rw [eh128]
      show AtS p l e _ s m _ below meth c Z _ _ n0 _ _ _ h122 3 72 (mkF m 179 #[.val (.int k), .val (.int xx), .val (.int y), .val (.ref b0), .val (.int ec), .val (.int cc), .val (.int (Int32.ofNat j)), .val (.int pz), .unset, .unset, .unset, .unset, .unset, .unset, .unset, .unset, .unset, .unset] [(.int c125), (.int (10 : Int32)), (.ref o52), (.ref o52)])
      refine s_castore (q := 180) (z := c125) (i := 10) C (own_nar rc126.1 rc126.2) Vh122 rfl (own_ltb rfl) ge_o52 at_179 rfl ?_
      intro h129 Wh129 Vh129
      have K130 := K123.wr Wh129 (Or.inr sz_o52)
      have O131 := Old_k0 O50 K130
      refine s_dup (q := 181) C rfl at_180 rfl ?_
      refine s_bipush (q := 183) (v := (11 : Int32)) C (by rfl) at_181 rfl ?_
      refine s_aloadN (q := 184) C rfl rfl at_183 rfl ?_
      refine s_bipush (q := 186) (v := (11 : Int32)) C (by rfl) at_184 rfl ?_
      refine s_iload (q := 188) C rfl at_186 rfl ?_
      refine s_callS1 (q := 191) (argsL := [(.ref b0), (.int (11 : Int32)), (.int ec)]) (S := [(.int (11 : Int32)), (.ref o52), (.ref o52)]) (W := 3) (cells' := 3) (slots' := 72) C (G.1 _ (List.mem_of_getElem? (i := 9) rfl)) (G.1 _ (List.mem_of_getElem? (i := 10) rfl)) (G.1 _ (List.mem_of_getElem? (i := 11) rfl)) (G.1 _ (List.mem_of_getElem? (i := 12) rfl)) (by decide) (rm_atf G O131 b0 cs9 11 ec (Str_k0 S9 K130) (by decide) re) rfl (lenOf pd_1 rfl) rfl (by decide) (own_leb rfl) (by decide) rfl rfl (by decide) (by decide) (wl := []) (fun _ _ q => by rw [q.1]; exact Keep.refl _ _) all0 at_188 rfl ?_
      rintro _ h134 ⟨eh135, c132, rfl, rc133⟩
      rw [eh135]
      show AtS p l e _ s m _ below meth c Z _ _ n0 _ _ _ h129 3 72 (mkF m 191 #[.val (.int k), .val (.int xx), .val (.int y), .val (.ref b0), .val (.int ec), .val (.int cc), .val (.int (Int32.ofNat j)), .val (.int pz), .unset, .unset, .unset, .unset, .unset, .unset, .unset, .unset, .unset, .unset] [(.int c132), (.int (11 : Int32)), (.ref o52), (.ref o52)])
      refine s_castore (q := 192) (z := c132) (i := 11) C (own_nar rc133.1 rc133.2) Vh129 rfl (own_ltb rfl) ge_o52 at_191 rfl ?_
      intro h136 Wh136 Vh136
      have K137 := K130.wr Wh136 (Or.inr sz_o52)
      replace S9 := Str_k0 S9 K137
      replace O50 := Old_k0 O50 K137
      have VC12 : Ar Z h136 o52 .char (List.map Value.int [c55, c62, c69, c76, c83, c90, c97, c104, c111, c118, c125, c132]) := Vh136
      refine s_astore (q := 194) (L' := #[.val (.int k), .val (.int xx), .val (.int y), .val (.ref b0), .val (.int ec), .val (.int cc), .val (.int (Int32.ofNat j)), .val (.int pz), .val (.ref o52), .unset, .unset, .unset, .unset, .unset, .unset, .unset, .unset, .unset]) C rfl rfl at_192 rfl ?_
      refine s_bipush (q := 196) (v := (13 : Int32)) C (by rfl) at_194 rfl ?_
      refine s_newArr (q := 198) (cap := 13) (cells' := 4) (slots' := 85) C (G.1 _ (List.mem_of_getElem? (i := 8) rfl)) rfl (by decide) (by decide) (by decide) rfl rfl (by decide) (by decide) at_196 rfl ?_
      intro h138 o139 g_o139 Eh138 V_o139
      replace V_o139 : Ar Z h138 o139 .char [(.int (0 : Int32)), (.int (0 : Int32)), (.int (0 : Int32)), (.int (0 : Int32)), (.int (0 : Int32)), (.int (0 : Int32)), (.int (0 : Int32)), (.int (0 : Int32)), (.int (0 : Int32)), (.int (0 : Int32)), (.int (0 : Int32)), (.int (0 : Int32)), (.int (0 : Int32))] := V_o139
      have ge_o139 : n0 ≤ o139 := by rw [g_o139]; exact Old_le O50
      have sz_o139 : h136.size ≤ o139 := Nat.le_of_eq g_o139.symm
      have K140 : Keep h136 h138 [] := Keep.of_ext Eh138
      have O141 := Old_k0 O50 K140
      refine s_dup (q := 199) C rfl at_198 rfl ?_
      refine s_iconst (q := 200) (v := (0 : Int32)) C (by rfl) at_199 rfl ?_
      refine s_aloadN (q := 201) C rfl rfl at_200 rfl ?_
      refine s_iconst (q := 202) (v := (0 : Int32)) C (by rfl) at_201 rfl ?_
      refine s_iload (q := 204) C rfl at_202 rfl ?_
      refine s_callS1 (q := 207) (argsL := [(.ref b0), (.int (0 : Int32)), (.int ec)]) (S := [(.int (0 : Int32)), (.ref o139), (.ref o139)]) (W := 3) (cells' := 4) (slots' := 85) C (G.1 _ (List.mem_of_getElem? (i := 9) rfl)) (G.1 _ (List.mem_of_getElem? (i := 10) rfl)) (G.1 _ (List.mem_of_getElem? (i := 11) rfl)) (G.1 _ (List.mem_of_getElem? (i := 12) rfl)) (by decide) (rm_atf G O141 b0 cs9 0 ec (Str_k0 S9 K140) (by decide) re) rfl (lenOf pd_1 rfl) rfl (by decide) (own_leb rfl) (by decide) rfl rfl (by decide) (by decide) (wl := []) (fun _ _ q => by rw [q.1]; exact Keep.refl _ _) all0 at_204 rfl ?_
      rintro _ h144 ⟨eh145, c142, rfl, rc143⟩
      rw [eh145]
      show AtS p l e _ s m _ below meth c Z _ _ n0 _ _ _ h138 4 85 (mkF m 207 #[.val (.int k), .val (.int xx), .val (.int y), .val (.ref b0), .val (.int ec), .val (.int cc), .val (.int (Int32.ofNat j)), .val (.int pz), .val (.ref o52), .unset, .unset, .unset, .unset, .unset, .unset, .unset, .unset, .unset] [(.int c142), (.int (0 : Int32)), (.ref o139), (.ref o139)])
      refine s_castore (q := 208) (z := c142) (i := 0) C (own_nar rc143.1 rc143.2) V_o139 rfl (own_ltb rfl) ge_o139 at_207 rfl ?_
      intro h146 Wh146 Vh146
      have K147 := K140.wr Wh146 (Or.inr sz_o139)
      have O148 := Old_k0 O50 K147
      refine s_dup (q := 209) C rfl at_208 rfl ?_
      refine s_iconst (q := 210) (v := (1 : Int32)) C (by rfl) at_209 rfl ?_
      refine s_aloadN (q := 211) C rfl rfl at_210 rfl ?_
      refine s_iconst (q := 212) (v := (1 : Int32)) C (by rfl) at_211 rfl ?_
      refine s_iload (q := 214) C rfl at_212 rfl ?_
      refine s_callS1 (q := 217) (argsL := [(.ref b0), (.int (1 : Int32)), (.int ec)]) (S := [(.int (1 : Int32)), (.ref o139), (.ref o139)]) (W := 3) (cells' := 4) (slots' := 85) C (G.1 _ (List.mem_of_getElem? (i := 9) rfl)) (G.1 _ (List.mem_of_getElem? (i := 10) rfl)) (G.1 _ (List.mem_of_getElem? (i := 11) rfl)) (G.1 _ (List.mem_of_getElem? (i := 12) rfl)) (by decide) (rm_atf G O148 b0 cs9 1 ec (Str_k0 S9 K147) (by decide) re) rfl (lenOf pd_1 rfl) rfl (by decide) (own_leb rfl) (by decide) rfl rfl (by decide) (by decide) (wl := []) (fun _ _ q => by rw [q.1]; exact Keep.refl _ _) all0 at_214 rfl ?_
      rintro _ h151 ⟨eh152, c149, rfl, rc150⟩
      rw [eh152]
      show AtS p l e _ s m _ below meth c Z _ _ n0 _ _ _ h146 4 85 (mkF m 217 #[.val (.int k), .val (.int xx), .val (.int y), .val (.ref b0), .val (.int ec), .val (.int cc), .val (.int (Int32.ofNat j)), .val (.int pz), .val (.ref o52), .unset, .unset, .unset, .unset, .unset, .unset, .unset, .unset, .unset] [(.int c149), (.int (1 : Int32)), (.ref o139), (.ref o139)])
      refine s_castore (q := 218) (z := c149) (i := 1) C (own_nar rc150.1 rc150.2) Vh146 rfl (own_ltb rfl) ge_o139 at_217 rfl ?_
      intro h153 Wh153 Vh153
      have K154 := K147.wr Wh153 (Or.inr sz_o139)
      have O155 := Old_k0 O50 K154
      refine s_dup (q := 219) C rfl at_218 rfl ?_
      refine s_iconst (q := 220) (v := (2 : Int32)) C (by rfl) at_219 rfl ?_
      refine s_aloadN (q := 221) C rfl rfl at_220 rfl ?_
      refine s_iconst (q := 222) (v := (2 : Int32)) C (by rfl) at_221 rfl ?_
      refine s_iload (q := 224) C rfl at_222 rfl ?_
      refine s_callS1 (q := 227) (argsL := [(.ref b0), (.int (2 : Int32)), (.int ec)]) (S := [(.int (2 : Int32)), (.ref o139), (.ref o139)]) (W := 3) (cells' := 4) (slots' := 85) C (G.1 _ (List.mem_of_getElem? (i := 9) rfl)) (G.1 _ (List.mem_of_getElem? (i := 10) rfl)) (G.1 _ (List.mem_of_getElem? (i := 11) rfl)) (G.1 _ (List.mem_of_getElem? (i := 12) rfl)) (by decide) (rm_atf G O155 b0 cs9 2 ec (Str_k0 S9 K154) (by decide) re) rfl (lenOf pd_1 rfl) rfl (by decide) (own_leb rfl) (by decide) rfl rfl (by decide) (by decide) (wl := []) (fun _ _ q => by rw [q.1]; exact Keep.refl _ _) all0 at_224 rfl ?_
      rintro _ h158 ⟨eh159, c156, rfl, rc157⟩
      rw [eh159]
      show AtS p l e _ s m _ below meth c Z _ _ n0 _ _ _ h153 4 85 (mkF m 227 #[.val (.int k), .val (.int xx), .val (.int y), .val (.ref b0), .val (.int ec), .val (.int cc), .val (.int (Int32.ofNat j)), .val (.int pz), .val (.ref o52), .unset, .unset, .unset, .unset, .unset, .unset, .unset, .unset, .unset] [(.int c156), (.int (2 : Int32)), (.ref o139), (.ref o139)])
      refine s_castore (q := 228) (z := c156) (i := 2) C (own_nar rc157.1 rc157.2) Vh153 rfl (own_ltb rfl) ge_o139 at_227 rfl ?_
      intro h160 Wh160 Vh160
      have K161 := K154.wr Wh160 (Or.inr sz_o139)
      have O162 := Old_k0 O50 K161
      refine s_dup (q := 229) C rfl at_228 rfl ?_
      refine s_iconst (q := 230) (v := (3 : Int32)) C (by rfl) at_229 rfl ?_
      refine s_aloadN (q := 231) C rfl rfl at_230 rfl ?_
      refine s_iconst (q := 232) (v := (3 : Int32)) C (by rfl) at_231 rfl ?_
      refine s_iload (q := 234) C rfl at_232 rfl ?_
      refine s_callS1 (q := 237) (argsL := [(.ref b0), (.int (3 : Int32)), (.int ec)]) (S := [(.int (3 : Int32)), (.ref o139), (.ref o139)]) (W := 3) (cells' := 4) (slots' := 85) C (G.1 _ (List.mem_of_getElem? (i := 9) rfl)) (G.1 _ (List.mem_of_getElem? (i := 10) rfl)) (G.1 _ (List.mem_of_getElem? (i := 11) rfl)) (G.1 _ (List.mem_of_getElem? (i := 12) rfl)) (by decide) (rm_atf G O162 b0 cs9 3 ec (Str_k0 S9 K161) (by decide) re) rfl (lenOf pd_1 rfl) rfl (by decide) (own_leb rfl) (by decide) rfl rfl (by decide) (by decide) (wl := []) (fun _ _ q => by rw [q.1]; exact Keep.refl _ _) all0 at_234 rfl ?_
      rintro _ h165 ⟨eh166, c163, rfl, rc164⟩
      rw [eh166]
      show AtS p l e _ s m _ below meth c Z _ _ n0 _ _ _ h160 4 85 (mkF m 237 #[.val (.int k), .val (.int xx), .val (.int y), .val (.ref b0), .val (.int ec), .val (.int cc), .val (.int (Int32.ofNat j)), .val (.int pz), .val (.ref o52), .unset, .unset, .unset, .unset, .unset, .unset, .unset, .unset, .unset] [(.int c163), (.int (3 : Int32)), (.ref o139), (.ref o139)])
      refine s_castore (q := 238) (z := c163) (i := 3) C (own_nar rc164.1 rc164.2) Vh160 rfl (own_ltb rfl) ge_o139 at_237 rfl ?_
      intro h167 Wh167 Vh167
      have K168 := K161.wr Wh167 (Or.inr sz_o139)
      have O169 := Old_k0 O50 K168
      refine s_dup (q := 239) C rfl at_238 rfl ?_
      refine s_iconst (q := 240) (v := (4 : Int32)) C (by rfl) at_239 rfl ?_
      refine s_aloadN (q := 241) C rfl rfl at_240 rfl ?_
      refine s_iconst (q := 242) (v := (4 : Int32)) C (by rfl) at_241 rfl ?_
      refine s_iload (q := 244) C rfl at_242 rfl ?_
      refine s_callS1 (q := 247) (argsL := [(.ref b0), (.int (4 : Int32)), (.int ec)]) (S := [(.int (4 : Int32)), (.ref o139), (.ref o139)]) (W := 3) (cells' := 4) (slots' := 85) C (G.1 _ (List.mem_of_getElem? (i := 9) rfl)) (G.1 _ (List.mem_of_getElem? (i := 10) rfl)) (G.1 _ (List.mem_of_getElem? (i := 11) rfl)) (G.1 _ (List.mem_of_getElem? (i := 12) rfl)) (by decide) (rm_atf G O169 b0 cs9 4 ec (Str_k0 S9 K168) (by decide) re) rfl (lenOf pd_1 rfl) rfl (by decide) (own_leb rfl) (by decide) rfl rfl (by decide) (by decide) (wl := []) (fun _ _ q => by rw [q.1]; exact Keep.refl _ _) all0 at_244 rfl ?_
      rintro _ h172 ⟨eh173, c170, rfl, rc171⟩
      rw [eh173]
      show AtS p l e _ s m _ below meth c Z _ _ n0 _ _ _ h167 4 85 (mkF m 247 #[.val (.int k), .val (.int xx), .val (.int y), .val (.ref b0), .val (.int ec), .val (.int cc), .val (.int (Int32.ofNat j)), .val (.int pz), .val (.ref o52), .unset, .unset, .unset, .unset, .unset, .unset, .unset, .unset, .unset] [(.int c170), (.int (4 : Int32)), (.ref o139), (.ref o139)])
      refine s_castore (q := 248) (z := c170) (i := 4) C (own_nar rc171.1 rc171.2) Vh167 rfl (own_ltb rfl) ge_o139 at_247 rfl ?_
      intro h174 Wh174 Vh174
      have K175 := K168.wr Wh174 (Or.inr sz_o139)
      have O176 := Old_k0 O50 K175
      refine s_dup (q := 249) C rfl at_248 rfl ?_
      refine s_iconst (q := 250) (v := (5 : Int32)) C (by rfl) at_249 rfl ?_
      refine s_aloadN (q := 251) C rfl rfl at_250 rfl ?_
      refine s_iconst (q := 252) (v := (5 : Int32)) C (by rfl) at_251 rfl ?_
      refine s_iload (q := 254) C rfl at_252 rfl ?_
      refine s_callS1 (q := 257) (argsL := [(.ref b0), (.int (5 : Int32)), (.int ec)]) (S := [(.int (5 : Int32)), (.ref o139), (.ref o139)]) (W := 3) (cells' := 4) (slots' := 85) C (G.1 _ (List.mem_of_getElem? (i := 9) rfl)) (G.1 _ (List.mem_of_getElem? (i := 10) rfl)) (G.1 _ (List.mem_of_getElem? (i := 11) rfl)) (G.1 _ (List.mem_of_getElem? (i := 12) rfl)) (by decide) (rm_atf G O176 b0 cs9 5 ec (Str_k0 S9 K175) (by decide) re) rfl (lenOf pd_1 rfl) rfl (by decide) (own_leb rfl) (by decide) rfl rfl (by decide) (by decide) (wl := []) (fun _ _ q => by rw [q.1]; exact Keep.refl _ _) all0 at_254 rfl ?_
      rintro _ h179 ⟨eh180, c177, rfl, rc178⟩
      rw [eh180]
      show AtS p l e _ s m _ below meth c Z _ _ n0 _ _ _ h174 4 85 (mkF m 257 #[.val (.int k), .val (.int xx), .val (.int y), .val (.ref b0), .val (.int ec), .val (.int cc), .val (.int (Int32.ofNat j)), .val (.int pz), .val (.ref o52), .unset, .unset, .unset, .unset, .unset, .unset, .unset, .unset, .unset] [(.int c177), (.int (5 : Int32)), (.ref o139), (.ref o139)])
      refine s_castore (q := 258) (z := c177) (i := 5) C (own_nar rc178.1 rc178.2) Vh174 rfl (own_ltb rfl) ge_o139 at_257 rfl ?_
      intro h181 Wh181 Vh181
      have K182 := K175.wr Wh181 (Or.inr sz_o139)
      have O183 := Old_k0 O50 K182
      refine s_dup (q := 259) C rfl at_258 rfl ?_
      refine s_bipush (q := 261) (v := (6 : Int32)) C (by rfl) at_259 rfl ?_
      refine s_aloadN (q := 262) C rfl rfl at_261 rfl ?_
      refine s_bipush (q := 264) (v := (6 : Int32)) C (by rfl) at_262 rfl ?_
      refine s_iload (q := 266) C rfl at_264 rfl ?_
      refine s_callS1 (q := 269) (argsL := [(.ref b0), (.int (6 : Int32)), (.int ec)]) (S := [(.int (6 : Int32)), (.ref o139), (.ref o139)]) (W := 3) (cells' := 4) (slots' := 85) C (G.1 _ (List.mem_of_getElem? (i := 9) rfl)) (G.1 _ (List.mem_of_getElem? (i := 10) rfl)) (G.1 _ (List.mem_of_getElem? (i := 11) rfl)) (G.1 _ (List.mem_of_getElem? (i := 12) rfl)) (by decide) (rm_atf G O183 b0 cs9 6 ec (Str_k0 S9 K182) (by decide) re) rfl (lenOf pd_1 rfl) rfl (by decide) (own_leb rfl) (by decide) rfl rfl (by decide) (by decide) (wl := []) (fun _ _ q => by rw [q.1]; exact Keep.refl _ _) all0 at_266 rfl ?_
      rintro _ h186 ⟨eh187, c184, rfl, rc185⟩
      rw [eh187]
      show AtS p l e _ s m _ below meth c Z _ _ n0 _ _ _ h181 4 85 (mkF m 269 #[.val (.int k), .val (.int xx), .val (.int y), .val (.ref b0), .val (.int ec), .val (.int cc), .val (.int (Int32.ofNat j)), .val (.int pz), .val (.ref o52), .unset, .unset, .unset, .unset, .unset, .unset, .unset, .unset, .unset] [(.int c184), (.int (6 : Int32)), (.ref o139), (.ref o139)])
      refine s_castore (q := 270) (z := c184) (i := 6) C (own_nar rc185.1 rc185.2) Vh181 rfl (own_ltb rfl) ge_o139 at_269 rfl ?_
      intro h188 Wh188 Vh188
      have K189 := K182.wr Wh188 (Or.inr sz_o139)
      have O190 := Old_k0 O50 K189
      refine s_dup (q := 271) C rfl at_270 rfl ?_
      refine s_bipush (q := 273) (v := (7 : Int32)) C (by rfl) at_271 rfl ?_
      refine s_aloadN (q := 274) C rfl rfl at_273 rfl ?_
      refine s_bipush (q := 276) (v := (7 : Int32)) C (by rfl) at_274 rfl ?_
      refine s_iload (q := 278) C rfl at_276 rfl ?_
      refine s_callS1 (q := 281) (argsL := [(.ref b0), (.int (7 : Int32)), (.int ec)]) (S := [(.int (7 : Int32)), (.ref o139), (.ref o139)]) (W := 3) (cells' := 4) (slots' := 85) C (G.1 _ (List.mem_of_getElem? (i := 9) rfl)) (G.1 _ (List.mem_of_getElem? (i := 10) rfl)) (G.1 _ (List.mem_of_getElem? (i := 11) rfl)) (G.1 _ (List.mem_of_getElem? (i := 12) rfl)) (by decide) (rm_atf G O190 b0 cs9 7 ec (Str_k0 S9 K189) (by decide) re) rfl (lenOf pd_1 rfl) rfl (by decide) (own_leb rfl) (by decide) rfl rfl (by decide) (by decide) (wl := []) (fun _ _ q => by rw [q.1]; exact Keep.refl _ _) all0 at_278 rfl ?_
      rintro _ h193 ⟨eh194, c191, rfl, rc192⟩
      rw [eh194]
      show AtS p l e _ s m _ below meth c Z _ _ n0 _ _ _ h188 4 85 (mkF m 281 #[.val (.int k), .val (.int xx), .val (.int y), .val (.ref b0), .val (.int ec), .val (.int cc), .val (.int (Int32.ofNat j)), .val (.int pz), .val (.ref o52), .unset, .unset, .unset, .unset, .unset, .unset, .unset, .unset, .unset] [(.int c191), (.int (7 : Int32)), (.ref o139), (.ref o139)])
      refine s_castore (q := 282) (z := c191) (i := 7) C (own_nar rc192.1 rc192.2) Vh188 rfl (own_ltb rfl) ge_o139 at_281 rfl ?_
      intro h195 Wh195 Vh195
      have K196 := K189.wr Wh195 (Or.inr sz_o139)
      have O197 := Old_k0 O50 K196
      refine s_dup (q := 283) C rfl at_282 rfl ?_
      refine s_bipush (q := 285) (v := (8 : Int32)) C (by rfl) at_283 rfl ?_
      refine s_aloadN (q := 286) C rfl rfl at_285 rfl ?_
      refine s_bipush (q := 288) (v := (8 : Int32)) C (by rfl) at_286 rfl ?_
      refine s_iload (q := 290) C rfl at_288 rfl ?_
      refine s_callS1 (q := 293) (argsL := [(.ref b0), (.int (8 : Int32)), (.int ec)]) (S := [(.int (8 : Int32)), (.ref o139), (.ref o139)]) (W := 3) (cells' := 4) (slots' := 85) C (G.1 _ (List.mem_of_getElem? (i := 9) rfl)) (G.1 _ (List.mem_of_getElem? (i := 10) rfl)) (G.1 _ (List.mem_of_getElem? (i := 11) rfl)) (G.1 _ (List.mem_of_getElem? (i := 12) rfl)) (by decide) (rm_atf G O197 b0 cs9 8 ec (Str_k0 S9 K196) (by decide) re) rfl (lenOf pd_1 rfl) rfl (by decide) (own_leb rfl) (by decide) rfl rfl (by decide) (by decide) (wl := []) (fun _ _ q => by rw [q.1]; exact Keep.refl _ _) all0 at_290 rfl ?_
      rintro _ h200 ⟨eh201, c198, rfl, rc199⟩
      rw [eh201]
      show AtS p l e _ s m _ below meth c Z _ _ n0 _ _ _ h195 4 85 (mkF m 293 #[.val (.int k), .val (.int xx), .val (.int y), .val (.ref b0), .val (.int ec), .val (.int cc), .val (.int (Int32.ofNat j)), .val (.int pz), .val (.ref o52), .unset, .unset, .unset, .unset, .unset, .unset, .unset, .unset, .unset] [(.int c198), (.int (8 : Int32)), (.ref o139), (.ref o139)])
      refine s_castore (q := 294) (z := c198) (i := 8) C (own_nar rc199.1 rc199.2) Vh195 rfl (own_ltb rfl) ge_o139 at_293 rfl ?_
      intro h202 Wh202 Vh202
      have K203 := K196.wr Wh202 (Or.inr sz_o139)
      have O204 := Old_k0 O50 K203
      refine s_dup (q := 295) C rfl at_294 rfl ?_
      refine s_bipush (q := 297) (v := (9 : Int32)) C (by rfl) at_295 rfl ?_
      refine s_aloadN (q := 298) C rfl rfl at_297 rfl ?_
      refine s_bipush (q := 300) (v := (9 : Int32)) C (by rfl) at_298 rfl ?_
      refine s_iload (q := 302) C rfl at_300 rfl ?_
      refine s_callS1 (q := 305) (argsL := [(.ref b0), (.int (9 : Int32)), (.int ec)]) (S := [(.int (9 : Int32)), (.ref o139), (.ref o139)]) (W := 3) (cells' := 4) (slots' := 85) C (G.1 _ (List.mem_of_getElem? (i := 9) rfl)) (G.1 _ (List.mem_of_getElem? (i := 10) rfl)) (G.1 _ (List.mem_of_getElem? (i := 11) rfl)) (G.1 _ (List.mem_of_getElem? (i := 12) rfl)) (by decide) (rm_atf G O204 b0 cs9 9 ec (Str_k0 S9 K203) (by decide) re) rfl (lenOf pd_1 rfl) rfl (by decide) (own_leb rfl) (by decide) rfl rfl (by decide) (by decide) (wl := []) (fun _ _ q => by rw [q.1]; exact Keep.refl _ _) all0 at_302 rfl ?_
      rintro _ h207 ⟨eh208, c205, rfl, rc206⟩
      rw [eh208]
      show AtS p l e _ s m _ below meth c Z _ _ n0 _ _ _ h202 4 85 (mkF m 305 #[.val (.int k), .val (.int xx), .val (.int y), .val (.ref b0), .val (.int ec), .val (.int cc), .val (.int (Int32.ofNat j)), .val (.int pz), .val (.ref o52), .unset, .unset, .unset, .unset, .unset, .unset, .unset, .unset, .unset] [(.int c205), (.int (9 : Int32)), (.ref o139), (.ref o139)])
      refine s_castore (q := 306) (z := c205) (i := 9) C (own_nar rc206.1 rc206.2) Vh202 rfl (own_ltb rfl) ge_o139 at_305 rfl ?_
      intro h209 Wh209 Vh209
      have K210 := K203.wr Wh209 (Or.inr sz_o139)
      have O211 := Old_k0 O50 K210
      refine s_dup (q := 307) C rfl at_306 rfl ?_
      refine s_bipush (q := 309) (v := (10 : Int32)) C (by rfl) at_307 rfl ?_
      refine s_aloadN (q := 310) C rfl rfl at_309 rfl ?_
      refine s_bipush (q := 312) (v := (10 : Int32)) C (by rfl) at_310 rfl ?_
      refine s_iload (q := 314) C rfl at_312 rfl ?_
      refine s_callS1 (q := 317) (argsL := [(.ref b0), (.int (10 : Int32)), (.int ec)]) (S := [(.int (10 : Int32)), (.ref o139), (.ref o139)]) (W := 3) (cells' := 4) (slots' := 85) C (G.1 _ (List.mem_of_getElem? (i := 9) rfl)) (G.1 _ (List.mem_of_getElem? (i := 10) rfl)) (G.1 _ (List.mem_of_getElem? (i := 11) rfl)) (G.1 _ (List.mem_of_getElem? (i := 12) rfl)) (by decide) (rm_atf G O211 b0 cs9 10 ec (Str_k0 S9 K210) (by decide) re) rfl (lenOf pd_1 rfl) rfl (by decide) (own_leb rfl) (by decide) rfl rfl (by decide) (by decide) (wl := []) (fun _ _ q => by rw [q.1]; exact Keep.refl _ _) all0 at_314 rfl ?_
      rintro _ h214 ⟨eh215, c212, rfl, rc213⟩
      rw [eh215]
      show AtS p l e _ s m _ below meth c Z _ _ n0 _ _ _ h209 4 85 (mkF m 317 #[.val (.int k), .val (.int xx), .val (.int y), .val (.ref b0), .val (.int ec), .val (.int cc), .val (.int (Int32.ofNat j)), .val (.int pz), .val (.ref o52), .unset, .unset, .unset, .unset, .unset, .unset, .unset, .unset, .unset] [(.int c212), (.int (10 : Int32)), (.ref o139), (.ref o139)])
      refine s_castore (q := 318) (z := c212) (i := 10) C (own_nar rc213.1 rc213.2) Vh209 rfl (own_ltb rfl) ge_o139 at_317 rfl ?_
      intro h216 Wh216 Vh216
      have K217 := K210.wr Wh216 (Or.inr sz_o139)
      have O218 := Old_k0 O50 K217
      refine s_dup (q := 319) C rfl at_318 rfl ?_
      refine s_bipush (q := 321) (v := (11 : Int32)) C (by rfl) at_319 rfl ?_
      refine s_aloadN (q := 322) C rfl rfl at_321 rfl ?_
      refine s_bipush (q := 324) (v := (11 : Int32)) C (by rfl) at_322 rfl ?_
      refine s_iload (q := 326) C rfl at_324 rfl ?_
      refine s_callS1 (q := 329) (argsL := [(.ref b0), (.int (11 : Int32)), (.int ec)]) (S := [(.int (11 : Int32)), (.ref o139), (.ref o139)]) (W := 3) (cells' := 4) (slots' := 85) C (G.1 _ (List.mem_of_getElem? (i := 9) rfl)) (G.1 _ (List.mem_of_getElem? (i := 10) rfl)) (G.1 _ (List.mem_of_getElem? (i := 11) rfl)) (G.1 _ (List.mem_of_getElem? (i := 12) rfl)) (by decide) (rm_atf G O218 b0 cs9 11 ec (Str_k0 S9 K217) (by decide) re) rfl (lenOf pd_1 rfl) rfl (by decide) (own_leb rfl) (by decide) rfl rfl (by decide) (by decide) (wl := []) (fun _ _ q => by rw [q.1]; exact Keep.refl _ _) all0 at_326 rfl ?_
      rintro _ h221 ⟨eh222, c219, rfl, rc220⟩
      rw [eh222]
      show AtS p l e _ s m _ below meth c Z _ _ n0 _ _ _ h216 4 85 (mkF m 329 #[.val (.int k), .val (.int xx), .val (.int y), .val (.ref b0), .val (.int ec), .val (.int cc), .val (.int (Int32.ofNat j)), .val (.int pz), .val (.ref o52), .unset, .unset, .unset, .unset, .unset, .unset, .unset, .unset, .unset] [(.int c219), (.int (11 : Int32)), (.ref o139), (.ref o139)])
      refine s_castore (q := 330) (z := c219) (i := 11) C (own_nar rc220.1 rc220.2) Vh216 rfl (own_ltb rfl) ge_o139 at_329 rfl ?_
      intro h223 Wh223 Vh223
      have K224 := K217.wr Wh223 (Or.inr sz_o139)
      have O225 := Old_k0 O50 K224
      refine s_dup (q := 331) C rfl at_330 rfl ?_
      refine s_bipush (q := 333) (v := (12 : Int32)) C (by rfl) at_331 rfl ?_
      refine s_aloadN (q := 334) C rfl rfl at_333 rfl ?_
      refine s_bipush (q := 336) (v := (12 : Int32)) C (by rfl) at_334 rfl ?_
      refine s_iload (q := 338) C rfl at_336 rfl ?_
      refine s_callS1 (q := 341) (argsL := [(.ref b0), (.int (12 : Int32)), (.int ec)]) (S := [(.int (12 : Int32)), (.ref o139), (.ref o139)]) (W := 3) (cells' := 4) (slots' := 85) C (G.1 _ (List.mem_of_getElem? (i := 9) rfl)) (G.1 _ (List.mem_of_getElem? (i := 10) rfl)) (G.1 _ (List.mem_of_getElem? (i := 11) rfl)) (G.1 _ (List.mem_of_getElem? (i := 12) rfl)) (by decide) (rm_atf G O225 b0 cs9 12 ec (Str_k0 S9 K224) (by decide) re) rfl (lenOf pd_1 rfl) rfl (by decide) (own_leb rfl) (by decide) rfl rfl (by decide) (by decide) (wl := []) (fun _ _ q => by rw [q.1]; exact Keep.refl _ _) all0 at_338 rfl ?_
      rintro _ h228 ⟨eh229, c226, rfl, rc227⟩
      rw [eh229]
      show AtS p l e _ s m _ below meth c Z _ _ n0 _ _ _ h223 4 85 (mkF m 341 #[.val (.int k), .val (.int xx), .val (.int y), .val (.ref b0), .val (.int ec), .val (.int cc), .val (.int (Int32.ofNat j)), .val (.int pz), .val (.ref o52), .unset, .unset, .unset, .unset, .unset, .unset, .unset, .unset, .unset] [(.int c226), (.int (12 : Int32)), (.ref o139), (.ref o139)])
      refine s_castore (q := 342) (z := c226) (i := 12) C (own_nar rc227.1 rc227.2) Vh223 rfl (own_ltb rfl) ge_o139 at_341 rfl ?_
      intro h230 Wh230 Vh230
      have K231 := K224.wr Wh230 (Or.inr sz_o139)
      replace S9 := Str_k0 S9 K231
      replace VC12 := Ar_k0 VC12 K231
      replace O50 := Old_k0 O50 K231
      have VC13 : Ar Z h230 o139 .char (List.map Value.int [c142, c149, c156, c163, c170, c177, c184, c191, c198, c205, c212, c219, c226]) := Vh230
      refine s_astore (q := 344) (L' := #[.val (.int k), .val (.int xx), .val (.int y), .val (.ref b0), .val (.int ec), .val (.int cc), .val (.int (Int32.ofNat j)), .val (.int pz), .val (.ref o52), .val (.ref o139), .unset, .unset, .unset, .unset, .unset, .unset, .unset, .unset]) C rfl rfl at_342 rfl ?_
      refine s_bipush (q := 346) (v := (14 : Int32)) C (by rfl) at_344 rfl ?_
      refine s_newArr (q := 348) (cap := 14) (cells' := 5) (slots' := 99) C (G.1 _ (List.mem_of_getElem? (i := 8) rfl)) rfl (by decide) (by decide) (by decide) rfl rfl (by decide) (by decide) at_346 rfl ?_
      intro h232 o233 g_o233 Eh232 V_o233
      replace V_o233 : Ar Z h232 o233 .char [(.int (0 : Int32)), (.int (0 : Int32)), (.int (0 : Int32)), (.int (0 : Int32)), (.int (0 : Int32)), (.int (0 : Int32)), (.int (0 : Int32)), (.int (0 : Int32)), (.int (0 : Int32)), (.int (0 : Int32)), (.int (0 : Int32)), (.int (0 : Int32)), (.int (0 : Int32)), (.int (0 : Int32))] := V_o233
      have ge_o233 : n0 ≤ o233 := by rw [g_o233]; exact Old_le O50
      have sz_o233 : h230.size ≤ o233 := Nat.le_of_eq g_o233.symm
      have K234 : Keep h230 h232 [] := Keep.of_ext Eh232
      have O235 := Old_k0 O50 K234
      refine s_dup (q := 349) C rfl at_348 rfl ?_
      refine s_iconst (q := 350) (v := (0 : Int32)) C (by rfl) at_349 rfl ?_
      refine s_aloadN (q := 351) C rfl rfl at_350 rfl ?_
      refine s_iconst (q := 352) (v := (0 : Int32)) C (by rfl) at_351 rfl ?_
      refine s_iload (q := 354) C rfl at_352 rfl ?_
      refine s_callS1 (q := 357) (argsL := [(.ref b0), (.int (0 : Int32)), (.int ec)]) (S := [(.int (0 : Int32)), (.ref o233), (.ref o233)]) (W := 3) (cells' := 5) (slots' := 99) C (G.1 _ (List.mem_of_getElem? (i := 9) rfl)) (G.1 _ (List.mem_of_getElem? (i := 10) rfl)) (G.1 _ (List.mem_of_getElem? (i := 11) rfl)) (G.1 _ (List.mem_of_getElem? (i := 12) rfl)) (by decide) (rm_atf G O235 b0 cs9 0 ec (Str_k0 S9 K234) (by decide) re) rfl (lenOf pd_1 rfl) rfl (by decide) (own_leb rfl) (by decide) rfl rfl (by decide) (by decide) (wl := []) (fun _ _ q => by rw [q.1]; exact Keep.refl _ _) all0 at_354 rfl ?_
      rintro _ h238 ⟨eh239, c236, rfl, rc237⟩
      rw [eh239]
      show AtS p l e _ s m _ below meth c Z _ _ n0 _ _ _ h232 5 99 (mkF m 357 #[.val (.int k), .val (.int xx), .val (.int y), .val (.ref b0), .val (.int ec), .val (.int cc), .val (.int (Int32.ofNat j)), .val (.int pz), .val (.ref o52), .val (.ref o139), .unset, .unset, .unset, .unset, .unset, .unset, .unset, .unset] [(.int c236), (.int (0 : Int32)), (.ref o233), (.ref o233)])
      refine s_castore (q := 358) (z := c236) (i := 0) C (own_nar rc237.1 rc237.2) V_o233 rfl (own_ltb rfl) ge_o233 at_357 rfl ?_
      intro h240 Wh240 Vh240
      have K241 := K234.wr Wh240 (Or.inr sz_o233)
      have O242 := Old_k0 O50 K241
      refine s_dup (q := 359) C rfl at_358 rfl ?_
      refine s_iconst (q := 360) (v := (1 : Int32)) C (by rfl) at_359 rfl ?_
      refine s_aloadN (q := 361) C rfl rfl at_360 rfl ?_
      refine s_iconst (q := 362) (v := (1 : Int32)) C (by rfl) at_361 rfl ?_
      refine s_iload (q := 364) C rfl at_362 rfl ?_
      refine s_callS1 (q := 367) (argsL := [(.ref b0), (.int (1 : Int32)), (.int ec)]) (S := [(.int (1 : Int32)), (.ref o233), (.ref o233)]) (W := 3) (cells' := 5) (slots' := 99) C (G.1 _ (List.mem_of_getElem? (i := 9) rfl)) (G.1 _ (List.mem_of_getElem? (i := 10) rfl)) (G.1 _ (List.mem_of_getElem? (i := 11) rfl)) (G.1 _ (List.mem_of_getElem? (i := 12) rfl)) (by decide) (rm_atf G O242 b0 cs9 1 ec (Str_k0 S9 K241) (by decide) re) rfl (lenOf pd_1 rfl) rfl (by decide) (own_leb rfl) (by decide) rfl rfl (by decide) (by decide) (wl := []) (fun _ _ q => by rw [q.1]; exact Keep.refl _ _) all0 at_364 rfl ?_
      rintro _ h245 ⟨eh246, c243, rfl, rc244⟩
      rw [eh246]
      show AtS p l e _ s m _ below meth c Z _ _ n0 _ _ _ h240 5 99 (mkF m 367 #[.val (.int k), .val (.int xx), .val (.int y), .val (.ref b0), .val (.int ec), .val (.int cc), .val (.int (Int32.ofNat j)), .val (.int pz), .val (.ref o52), .val (.ref o139), .unset, .unset, .unset, .unset, .unset, .unset, .unset, .unset] [(.int c243), (.int (1 : Int32)), (.ref o233), (.ref o233)])
      refine s_castore (q := 368) (z := c243) (i := 1) C (own_nar rc244.1 rc244.2) Vh240 rfl (own_ltb rfl) ge_o233 at_367 rfl ?_
      intro h247 Wh247 Vh247
      have K248 := K241.wr Wh247 (Or.inr sz_o233)
      have O249 := Old_k0 O50 K248
      refine s_dup (q := 369) C rfl at_368 rfl ?_
      refine s_iconst (q := 370) (v := (2 : Int32)) C (by rfl) at_369 rfl ?_
      refine s_aloadN (q := 371) C rfl rfl at_370 rfl ?_
      refine s_iconst (q := 372) (v := (2 : Int32)) C (by rfl) at_371 rfl ?_
      refine s_iload (q := 374) C rfl at_372 rfl ?_
      refine s_callS1 (q := 377) (argsL := [(.ref b0), (.int (2 : Int32)), (.int ec)]) (S := [(.int (2 : Int32)), (.ref o233), (.ref o233)]) (W := 3) (cells' := 5) (slots' := 99) C (G.1 _ (List.mem_of_getElem? (i := 9) rfl)) (G.1 _ (List.mem_of_getElem? (i := 10) rfl)) (G.1 _ (List.mem_of_getElem? (i := 11) rfl)) (G.1 _ (List.mem_of_getElem? (i := 12) rfl)) (by decide) (rm_atf G O249 b0 cs9 2 ec (Str_k0 S9 K248) (by decide) re) rfl (lenOf pd_1 rfl) rfl (by decide) (own_leb rfl) (by decide) rfl rfl (by decide) (by decide) (wl := []) (fun _ _ q => by rw [q.1]; exact Keep.refl _ _) all0 at_374 rfl ?_
      rintro _ h252 ⟨eh253, c250, rfl, rc251⟩
      rw [eh253]
      show AtS p l e _ s m _ below meth c Z _ _ n0 _ _ _ h247 5 99 (mkF m 377 #[.val (.int k), .val (.int xx), .val (.int y), .val (.ref b0), .val (.int ec), .val (.int cc), .val (.int (Int32.ofNat j)), .val (.int pz), .val (.ref o52), .val (.ref o139), .unset, .unset, .unset, .unset, .unset, .unset, .unset, .unset] [(.int c250), (.int (2 : Int32)), (.ref o233), (.ref o233)])
      refine s_castore (q := 378) (z := c250) (i := 2) C (own_nar rc251.1 rc251.2) Vh247 rfl (own_ltb rfl) ge_o233 at_377 rfl ?_
      intro h254 Wh254 Vh254
      have K255 := K248.wr Wh254 (Or.inr sz_o233)
      have O256 := Old_k0 O50 K255
      refine s_dup (q := 379) C rfl at_378 rfl ?_
      refine s_iconst (q := 380) (v := (3 : Int32)) C (by rfl) at_379 rfl ?_
      refine s_aloadN (q := 381) C rfl rfl at_380 rfl ?_
      refine s_iconst (q := 382) (v := (3 : Int32)) C (by rfl) at_381 rfl ?_
      refine s_iload (q := 384) C rfl at_382 rfl ?_
      refine s_callS1 (q := 387) (argsL := [(.ref b0), (.int (3 : Int32)), (.int ec)]) (S := [(.int (3 : Int32)), (.ref o233), (.ref o233)]) (W := 3) (cells' := 5) (slots' := 99) C (G.1 _ (List.mem_of_getElem? (i := 9) rfl)) (G.1 _ (List.mem_of_getElem? (i := 10) rfl)) (G.1 _ (List.mem_of_getElem? (i := 11) rfl)) (G.1 _ (List.mem_of_getElem? (i := 12) rfl)) (by decide) (rm_atf G O256 b0 cs9 3 ec (Str_k0 S9 K255) (by decide) re) rfl (lenOf pd_1 rfl) rfl (by decide) (own_leb rfl) (by decide) rfl rfl (by decide) (by decide) (wl := []) (fun _ _ q => by rw [q.1]; exact Keep.refl _ _) all0 at_384 rfl ?_
      rintro _ h259 ⟨eh260, c257, rfl, rc258⟩
      rw [eh260]
      show AtS p l e _ s m _ below meth c Z _ _ n0 _ _ _ h254 5 99 (mkF m 387 #[.val (.int k), .val (.int xx), .val (.int y), .val (.ref b0), .val (.int ec), .val (.int cc), .val (.int (Int32.ofNat j)), .val (.int pz), .val (.ref o52), .val (.ref o139), .unset, .unset, .unset, .unset, .unset, .unset, .unset, .unset] [(.int c257), (.int (3 : Int32)), (.ref o233), (.ref o233)])
      refine s_castore (q := 388) (z := c257) (i := 3) C (own_nar rc258.1 rc258.2) Vh254 rfl (own_ltb rfl) ge_o233 at_387 rfl ?_
      intro h261 Wh261 Vh261
      have K262 := K255.wr Wh261 (Or.inr sz_o233)
      have O263 := Old_k0 O50 K262
      refine s_dup (q := 389) C rfl at_388 rfl ?_
      refine s_iconst (q := 390) (v := (4 : Int32)) C (by rfl) at_389 rfl ?_
      refine s_aloadN (q := 391) C rfl rfl at_390 rfl ?_
      refine s_iconst (q := 392) (v := (4 : Int32)) C (by rfl) at_391 rfl ?_
      refine s_iload (q := 394) C rfl at_392 rfl ?_
      refine s_callS1 (q := 397) (argsL := [(.ref b0), (.int (4 : Int32)), (.int ec)]) (S := [(.int (4 : Int32)), (.ref o233), (.ref o233)]) (W := 3) (cells' := 5) (slots' := 99) C (G.1 _ (List.mem_of_getElem? (i := 9) rfl)) (G.1 _ (List.mem_of_getElem? (i := 10) rfl)) (G.1 _ (List.mem_of_getElem? (i := 11) rfl)) (G.1 _ (List.mem_of_getElem? (i := 12) rfl)) (by decide) (rm_atf G O263 b0 cs9 4 ec (Str_k0 S9 K262) (by decide) re) rfl (lenOf pd_1 rfl) rfl (by decide) (own_leb rfl) (by decide) rfl rfl (by decide) (by decide) (wl := []) (fun _ _ q => by rw [q.1]; exact Keep.refl _ _) all0 at_394 rfl ?_
      rintro _ h266 ⟨eh267, c264, rfl, rc265⟩
      rw [eh267]
      show AtS p l e _ s m _ below meth c Z _ _ n0 _ _ _ h261 5 99 (mkF m 397 #[.val (.int k), .val (.int xx), .val (.int y), .val (.ref b0), .val (.int ec), .val (.int cc), .val (.int (Int32.ofNat j)), .val (.int pz), .val (.ref o52), .val (.ref o139), .unset, .unset, .unset, .unset, .unset, .unset, .unset, .unset] [(.int c264), (.int (4 : Int32)), (.ref o233), (.ref o233)])
      refine s_castore (q := 398) (z := c264) (i := 4) C (own_nar rc265.1 rc265.2) Vh261 rfl (own_ltb rfl) ge_o233 at_397 rfl ?_
      intro h268 Wh268 Vh268
      have K269 := K262.wr Wh268 (Or.inr sz_o233)
      have O270 := Old_k0 O50 K269
      refine s_dup (q := 399) C rfl at_398 rfl ?_
      refine s_iconst (q := 400) (v := (5 : Int32)) C (by rfl) at_399 rfl ?_
      refine s_aloadN (q := 401) C rfl rfl at_400 rfl ?_
      refine s_iconst (q := 402) (v := (5 : Int32)) C (by rfl) at_401 rfl ?_
      refine s_iload (q := 404) C rfl at_402 rfl ?_
      refine s_callS1 (q := 407) (argsL := [(.ref b0), (.int (5 : Int32)), (.int ec)]) (S := [(.int (5 : Int32)), (.ref o233), (.ref o233)]) (W := 3) (cells' := 5) (slots' := 99) C (G.1 _ (List.mem_of_getElem? (i := 9) rfl)) (G.1 _ (List.mem_of_getElem? (i := 10) rfl)) (G.1 _ (List.mem_of_getElem? (i := 11) rfl)) (G.1 _ (List.mem_of_getElem? (i := 12) rfl)) (by decide) (rm_atf G O270 b0 cs9 5 ec (Str_k0 S9 K269) (by decide) re) rfl (lenOf pd_1 rfl) rfl (by decide) (own_leb rfl) (by decide) rfl rfl (by decide) (by decide) (wl := []) (fun _ _ q => by rw [q.1]; exact Keep.refl _ _) all0 at_404 rfl ?_
      rintro _ h273 ⟨eh274, c271, rfl, rc272⟩
      rw [eh274]
      show AtS p l e _ s m _ below meth c Z _ _ n0 _ _ _ h268 5 99 (mkF m 407 #[.val (.int k), .val (.int xx), .val (.int y), .val (.ref b0), .val (.int ec), .val (.int cc), .val (.int (Int32.ofNat j)), .val (.int pz), .val (.ref o52), .val (.ref o139), .unset, .unset, .unset, .unset, .unset, .unset, .unset, .unset] [(.int c271), (.int (5 : Int32)), (.ref o233), (.ref o233)])
      refine s_castore (q := 408) (z := c271) (i := 5) C (own_nar rc272.1 rc272.2) Vh268 rfl (own_ltb rfl) ge_o233 at_407 rfl ?_
      intro h275 Wh275 Vh275
      have K276 := K269.wr Wh275 (Or.inr sz_o233)
      have O277 := Old_k0 O50 K276
      refine s_dup (q := 409) C rfl at_408 rfl ?_
      refine s_bipush (q := 411) (v := (6 : Int32)) C (by rfl) at_409 rfl ?_
      refine s_aloadN (q := 412) C rfl rfl at_411 rfl ?_
      refine s_bipush (q := 414) (v := (6 : Int32)) C (by rfl) at_412 rfl ?_
      refine s_iload (q := 416) C rfl at_414 rfl ?_
      refine s_callS1 (q := 419) (argsL := [(.ref b0), (.int (6 : Int32)), (.int ec)]) (S := [(.int (6 : Int32)), (.ref o233), (.ref o233)]) (W := 3) (cells' := 5) (slots' := 99) C (G.1 _ (List.mem_of_getElem? (i := 9) rfl)) (G.1 _ (List.mem_of_getElem? (i := 10) rfl)) (G.1 _ (List.mem_of_getElem? (i := 11) rfl)) (G.1 _ (List.mem_of_getElem? (i := 12) rfl)) (by decide) (rm_atf G O277 b0 cs9 6 ec (Str_k0 S9 K276) (by decide) re) rfl (lenOf pd_1 rfl) rfl (by decide) (own_leb rfl) (by decide) rfl rfl (by decide) (by decide) (wl := []) (fun _ _ q => by rw [q.1]; exact Keep.refl _ _) all0 at_416 rfl ?_
      rintro _ h280 ⟨eh281, c278, rfl, rc279⟩
      rw [eh281]
      show AtS p l e _ s m _ below meth c Z _ _ n0 _ _ _ h275 5 99 (mkF m 419 #[.val (.int k), .val (.int xx), .val (.int y), .val (.ref b0), .val (.int ec), .val (.int cc), .val (.int (Int32.ofNat j)), .val (.int pz), .val (.ref o52), .val (.ref o139), .unset, .unset, .unset, .unset, .unset, .unset, .unset, .unset] [(.int c278), (.int (6 : Int32)), (.ref o233), (.ref o233)])
      refine s_castore (q := 420) (z := c278) (i := 6) C (own_nar rc279.1 rc279.2) Vh275 rfl (own_ltb rfl) ge_o233 at_419 rfl ?_
      intro h282 Wh282 Vh282
      have K283 := K276.wr Wh282 (Or.inr sz_o233)
      have O284 := Old_k0 O50 K283
      refine s_dup (q := 421) C rfl at_420 rfl ?_
      refine s_bipush (q := 423) (v := (7 : Int32)) C (by rfl) at_421 rfl ?_
      refine s_aloadN (q := 424) C rfl rfl at_423 rfl ?_
      refine s_bipush (q := 426) (v := (7 : Int32)) C (by rfl) at_424 rfl ?_
      refine s_iload (q := 428) C rfl at_426 rfl ?_
      refine s_callS1 (q := 431) (argsL := [(.ref b0), (.int (7 : Int32)), (.int ec)]) (S := [(.int (7 : Int32)), (.ref o233), (.ref o233)]) (W := 3) (cells' := 5) (slots' := 99) C (G.1 _ (List.mem_of_getElem? (i := 9) rfl)) (G.1 _ (List.mem_of_getElem? (i := 10) rfl)) (G.1 _ (List.mem_of_getElem? (i := 11) rfl)) (G.1 _ (List.mem_of_getElem? (i := 12) rfl)) (by decide) (rm_atf G O284 b0 cs9 7 ec (Str_k0 S9 K283) (by decide) re) rfl (lenOf pd_1 rfl) rfl (by decide) (own_leb rfl) (by decide) rfl rfl (by decide) (by decide) (wl := []) (fun _ _ q => by rw [q.1]; exact Keep.refl _ _) all0 at_428 rfl ?_
      rintro _ h287 ⟨eh288, c285, rfl, rc286⟩
      rw [eh288]
      show AtS p l e _ s m _ below meth c Z _ _ n0 _ _ _ h282 5 99 (mkF m 431 #[.val (.int k), .val (.int xx), .val (.int y), .val (.ref b0), .val (.int ec), .val (.int cc), .val (.int (Int32.ofNat j)), .val (.int pz), .val (.ref o52), .val (.ref o139), .unset, .unset, .unset, .unset, .unset, .unset, .unset, .unset] [(.int c285), (.int (7 : Int32)), (.ref o233), (.ref o233)])
      refine s_castore (q := 432) (z := c285) (i := 7) C (own_nar rc286.1 rc286.2) Vh282 rfl (own_ltb rfl) ge_o233 at_431 rfl ?_
      intro h289 Wh289 Vh289
      have K290 := K283.wr Wh289 (Or.inr sz_o233)
      have O291 := Old_k0 O50 K290
      refine s_dup (q := 433) C rfl at_432 rfl ?_
      refine s_bipush (q := 435) (v := (8 : Int32)) C (by rfl) at_433 rfl ?_
      refine s_aloadN (q := 436) C rfl rfl at_435 rfl ?_
      refine s_bipush (q := 438) (v := (8 : Int32)) C (by rfl) at_436 rfl ?_
      refine s_iload (q := 440) C rfl at_438 rfl ?_
      refine s_callS1 (q := 443) (argsL := [(.ref b0), (.int (8 : Int32)), (.int ec)]) (S := [(.int (8 : Int32)), (.ref o233), (.ref o233)]) (W := 3) (cells' := 5) (slots' := 99) C (G.1 _ (List.mem_of_getElem? (i := 9) rfl)) (G.1 _ (List.mem_of_getElem? (i := 10) rfl)) (G.1 _ (List.mem_of_getElem? (i := 11) rfl)) (G.1 _ (List.mem_of_getElem? (i := 12) rfl)) (by decide) (rm_atf G O291 b0 cs9 8 ec (Str_k0 S9 K290) (by decide) re) rfl (lenOf pd_1 rfl) rfl (by decide) (own_leb rfl) (by decide) rfl rfl (by decide) (by decide) (wl := []) (fun _ _ q => by rw [q.1]; exact Keep.refl _ _) all0 at_440 rfl ?_
      rintro _ h294 ⟨eh295, c292, rfl, rc293⟩
      rw [eh295]
      show AtS p l e _ s m _ below meth c Z _ _ n0 _ _ _ h289 5 99 (mkF m 443 #[.val (.int k), .val (.int xx), .val (.int y), .val (.ref b0), .val (.int ec), .val (.int cc), .val (.int (Int32.ofNat j)), .val (.int pz), .val (.ref o52), .val (.ref o139), .unset, .unset, .unset, .unset, .unset, .unset, .unset, .unset] [(.int c292), (.int (8 : Int32)), (.ref o233), (.ref o233)])
      refine s_castore (q := 444) (z := c292) (i := 8) C (own_nar rc293.1 rc293.2) Vh289 rfl (own_ltb rfl) ge_o233 at_443 rfl ?_
      intro h296 Wh296 Vh296
      have K297 := K290.wr Wh296 (Or.inr sz_o233)
      have O298 := Old_k0 O50 K297
      refine s_dup (q := 445) C rfl at_444 rfl ?_
      refine s_bipush (q := 447) (v := (9 : Int32)) C (by rfl) at_445 rfl ?_
      refine s_aloadN (q := 448) C rfl rfl at_447 rfl ?_
      refine s_bipush (q := 450) (v := (9 : Int32)) C (by rfl) at_448 rfl ?_
      refine s_iload (q := 452) C rfl at_450 rfl ?_
      refine s_callS1 (q := 455) (argsL := [(.ref b0), (.int (9 : Int32)), (.int ec)]) (S := [(.int (9 : Int32)), (.ref o233), (.ref o233)]) (W := 3) (cells' := 5) (slots' := 99) C (G.1 _ (List.mem_of_getElem? (i := 9) rfl)) (G.1 _ (List.mem_of_getElem? (i := 10) rfl)) (G.1 _ (List.mem_of_getElem? (i := 11) rfl)) (G.1 _ (List.mem_of_getElem? (i := 12) rfl)) (by decide) (rm_atf G O298 b0 cs9 9 ec (Str_k0 S9 K297) (by decide) re) rfl (lenOf pd_1 rfl) rfl (by decide) (own_leb rfl) (by decide) rfl rfl (by decide) (by decide) (wl := []) (fun _ _ q => by rw [q.1]; exact Keep.refl _ _) all0 at_452 rfl ?_
      rintro _ h301 ⟨eh302, c299, rfl, rc300⟩
      rw [eh302]
      show AtS p l e _ s m _ below meth c Z _ _ n0 _ _ _ h296 5 99 (mkF m 455 #[.val (.int k), .val (.int xx), .val (.int y), .val (.ref b0), .val (.int ec), .val (.int cc), .val (.int (Int32.ofNat j)), .val (.int pz), .val (.ref o52), .val (.ref o139), .unset, .unset, .unset, .unset, .unset, .unset, .unset, .unset] [(.int c299), (.int (9 : Int32)), (.ref o233), (.ref o233)])
      refine s_castore (q := 456) (z := c299) (i := 9) C (own_nar rc300.1 rc300.2) Vh296 rfl (own_ltb rfl) ge_o233 at_455 rfl ?_
      intro h303 Wh303 Vh303
      have K304 := K297.wr Wh303 (Or.inr sz_o233)
      have O305 := Old_k0 O50 K304
      refine s_dup (q := 457) C rfl at_456 rfl ?_
      refine s_bipush (q := 459) (v := (10 : Int32)) C (by rfl) at_457 rfl ?_
      refine s_aloadN (q := 460) C rfl rfl at_459 rfl ?_
      refine s_bipush (q := 462) (v := (10 : Int32)) C (by rfl) at_460 rfl ?_
      refine s_iload (q := 464) C rfl at_462 rfl ?_
      refine s_callS1 (q := 467) (argsL := [(.ref b0), (.int (10 : Int32)), (.int ec)]) (S := [(.int (10 : Int32)), (.ref o233), (.ref o233)]) (W := 3) (cells' := 5) (slots' := 99) C (G.1 _ (List.mem_of_getElem? (i := 9) rfl)) (G.1 _ (List.mem_of_getElem? (i := 10) rfl)) (G.1 _ (List.mem_of_getElem? (i := 11) rfl)) (G.1 _ (List.mem_of_getElem? (i := 12) rfl)) (by decide) (rm_atf G O305 b0 cs9 10 ec (Str_k0 S9 K304) (by decide) re) rfl (lenOf pd_1 rfl) rfl (by decide) (own_leb rfl) (by decide) rfl rfl (by decide) (by decide) (wl := []) (fun _ _ q => by rw [q.1]; exact Keep.refl _ _) all0 at_464 rfl ?_
      rintro _ h308 ⟨eh309, c306, rfl, rc307⟩
      rw [eh309]
      show AtS p l e _ s m _ below meth c Z _ _ n0 _ _ _ h303 5 99 (mkF m 467 #[.val (.int k), .val (.int xx), .val (.int y), .val (.ref b0), .val (.int ec), .val (.int cc), .val (.int (Int32.ofNat j)), .val (.int pz), .val (.ref o52), .val (.ref o139), .unset, .unset, .unset, .unset, .unset, .unset, .unset, .unset] [(.int c306), (.int (10 : Int32)), (.ref o233), (.ref o233)])
      refine s_castore (q := 468) (z := c306) (i := 10) C (own_nar rc307.1 rc307.2) Vh303 rfl (own_ltb rfl) ge_o233 at_467 rfl ?_
      intro h310 Wh310 Vh310
      have K311 := K304.wr Wh310 (Or.inr sz_o233)
      have O312 := Old_k0 O50 K311
      refine s_dup (q := 469) C rfl at_468 rfl ?_
      refine s_bipush (q := 471) (v := (11 : Int32)) C (by rfl) at_469 rfl ?_
      refine s_aloadN (q := 472) C rfl rfl at_471 rfl ?_
      refine s_bipush (q := 474) (v := (11 : Int32)) C (by rfl) at_472 rfl ?_
      refine s_iload (q := 476) C rfl at_474 rfl ?_
      refine s_callS1 (q := 479) (argsL := [(.ref b0), (.int (11 : Int32)), (.int ec)]) (S := [(.int (11 : Int32)), (.ref o233), (.ref o233)]) (W := 3) (cells' := 5) (slots' := 99) C (G.1 _ (List.mem_of_getElem? (i := 9) rfl)) (G.1 _ (List.mem_of_getElem? (i := 10) rfl)) (G.1 _ (List.mem_of_getElem? (i := 11) rfl)) (G.1 _ (List.mem_of_getElem? (i := 12) rfl)) (by decide) (rm_atf G O312 b0 cs9 11 ec (Str_k0 S9 K311) (by decide) re) rfl (lenOf pd_1 rfl) rfl (by decide) (own_leb rfl) (by decide) rfl rfl (by decide) (by decide) (wl := []) (fun _ _ q => by rw [q.1]; exact Keep.refl _ _) all0 at_476 rfl ?_
      rintro _ h315 ⟨eh316, c313, rfl, rc314⟩
      rw [eh316]
      show AtS p l e _ s m _ below meth c Z _ _ n0 _ _ _ h310 5 99 (mkF m 479 #[.val (.int k), .val (.int xx), .val (.int y), .val (.ref b0), .val (.int ec), .val (.int cc), .val (.int (Int32.ofNat j)), .val (.int pz), .val (.ref o52), .val (.ref o139), .unset, .unset, .unset, .unset, .unset, .unset, .unset, .unset] [(.int c313), (.int (11 : Int32)), (.ref o233), (.ref o233)])
      refine s_castore (q := 480) (z := c313) (i := 11) C (own_nar rc314.1 rc314.2) Vh310 rfl (own_ltb rfl) ge_o233 at_479 rfl ?_
      intro h317 Wh317 Vh317
      have K318 := K311.wr Wh317 (Or.inr sz_o233)
      have O319 := Old_k0 O50 K318
      refine s_dup (q := 481) C rfl at_480 rfl ?_
      refine s_bipush (q := 483) (v := (12 : Int32)) C (by rfl) at_481 rfl ?_
      refine s_aloadN (q := 484) C rfl rfl at_483 rfl ?_
      refine s_bipush (q := 486) (v := (12 : Int32)) C (by rfl) at_484 rfl ?_
      refine s_iload (q := 488) C rfl at_486 rfl ?_
      refine s_callS1 (q := 491) (argsL := [(.ref b0), (.int (12 : Int32)), (.int ec)]) (S := [(.int (12 : Int32)), (.ref o233), (.ref o233)]) (W := 3) (cells' := 5) (slots' := 99) C (G.1 _ (List.mem_of_getElem? (i := 9) rfl)) (G.1 _ (List.mem_of_getElem? (i := 10) rfl)) (G.1 _ (List.mem_of_getElem? (i := 11) rfl)) (G.1 _ (List.mem_of_getElem? (i := 12) rfl)) (by decide) (rm_atf G O319 b0 cs9 12 ec (Str_k0 S9 K318) (by decide) re) rfl (lenOf pd_1 rfl) rfl (by decide) (own_leb rfl) (by decide) rfl rfl (by decide) (by decide) (wl := []) (fun _ _ q => by rw [q.1]; exact Keep.refl _ _) all0 at_488 rfl ?_
      rintro _ h322 ⟨eh323, c320, rfl, rc321⟩
      rw [eh323]
      show AtS p l e _ s m _ below meth c Z _ _ n0 _ _ _ h317 5 99 (mkF m 491 #[.val (.int k), .val (.int xx), .val (.int y), .val (.ref b0), .val (.int ec), .val (.int cc), .val (.int (Int32.ofNat j)), .val (.int pz), .val (.ref o52), .val (.ref o139), .unset, .unset, .unset, .unset, .unset, .unset, .unset, .unset] [(.int c320), (.int (12 : Int32)), (.ref o233), (.ref o233)])
      refine s_castore (q := 492) (z := c320) (i := 12) C (own_nar rc321.1 rc321.2) Vh317 rfl (own_ltb rfl) ge_o233 at_491 rfl ?_
      intro h324 Wh324 Vh324
      have K325 := K318.wr Wh324 (Or.inr sz_o233)
      have O326 := Old_k0 O50 K325
      refine s_dup (q := 493) C rfl at_492 rfl ?_
      refine s_bipush (q := 495) (v := (13 : Int32)) C (by rfl) at_493 rfl ?_
      refine s_aloadN (q := 496) C rfl rfl at_495 rfl ?_
      refine s_bipush (q := 498) (v := (13 : Int32)) C (by rfl) at_496 rfl ?_
      refine s_iload (q := 500) C rfl at_498 rfl ?_
      refine s_callS1 (q := 503) (argsL := [(.ref b0), (.int (13 : Int32)), (.int ec)]) (S := [(.int (13 : Int32)), (.ref o233), (.ref o233)]) (W := 3) (cells' := 5) (slots' := 99) C (G.1 _ (List.mem_of_getElem? (i := 9) rfl)) (G.1 _ (List.mem_of_getElem? (i := 10) rfl)) (G.1 _ (List.mem_of_getElem? (i := 11) rfl)) (G.1 _ (List.mem_of_getElem? (i := 12) rfl)) (by decide) (rm_atf G O326 b0 cs9 13 ec (Str_k0 S9 K325) (by decide) re) rfl (lenOf pd_1 rfl) rfl (by decide) (own_leb rfl) (by decide) rfl rfl (by decide) (by decide) (wl := []) (fun _ _ q => by rw [q.1]; exact Keep.refl _ _) all0 at_500 rfl ?_
      rintro _ h329 ⟨eh330, c327, rfl, rc328⟩
      rw [eh330]
      show AtS p l e _ s m _ below meth c Z _ _ n0 _ _ _ h324 5 99 (mkF m 503 #[.val (.int k), .val (.int xx), .val (.int y), .val (.ref b0), .val (.int ec), .val (.int cc), .val (.int (Int32.ofNat j)), .val (.int pz), .val (.ref o52), .val (.ref o139), .unset, .unset, .unset, .unset, .unset, .unset, .unset, .unset] [(.int c327), (.int (13 : Int32)), (.ref o233), (.ref o233)])
      refine s_castore (q := 504) (z := c327) (i := 13) C (own_nar rc328.1 rc328.2) Vh324 rfl (own_ltb rfl) ge_o233 at_503 rfl ?_
      intro h331 Wh331 Vh331
      have K332 := K325.wr Wh331 (Or.inr sz_o233)
      replace S9 := Str_k0 S9 K332
      replace VC12 := Ar_k0 VC12 K332
      replace VC13 := Ar_k0 VC13 K332
      replace O50 := Old_k0 O50 K332
      have VC14 : Ar Z h331 o233 .char (List.map Value.int [c236, c243, c250, c257, c264, c271, c278, c285, c292, c299, c306, c313, c320, c327]) := Vh331
      refine s_astore (q := 506) (L' := #[.val (.int k), .val (.int xx), .val (.int y), .val (.ref b0), .val (.int ec), .val (.int cc), .val (.int (Int32.ofNat j)), .val (.int pz), .val (.ref o52), .val (.ref o139), .val (.ref o233), .unset, .unset, .unset, .unset, .unset, .unset, .unset]) C rfl rfl at_504 rfl ?_
      refine s_bipush (q := 508) (v := (15 : Int32)) C (by rfl) at_506 rfl ?_
      refine s_newArr (q := 510) (cap := 15) (cells' := 6) (slots' := 114) C (G.1 _ (List.mem_of_getElem? (i := 8) rfl)) rfl (by decide) (by decide) (by decide) rfl rfl (by decide) (by decide) at_508 rfl ?_
      intro h333 o334 g_o334 Eh333 V_o334
      replace V_o334 : Ar Z h333 o334 .char [(.int (0 : Int32)), (.int (0 : Int32)), (.int (0 : Int32)), (.int (0 : Int32)), (.int (0 : Int32)), (.int (0 : Int32)), (.int (0 : Int32)), (.int (0 : Int32)), (.int (0 : Int32)), (.int (0 : Int32)), (.int (0 : Int32)), (.int (0 : Int32)), (.int (0 : Int32)), (.int (0 : Int32)), (.int (0 : Int32))] := V_o334
      have ge_o334 : n0 ≤ o334 := by rw [g_o334]; exact Old_le O50
      have sz_o334 : h331.size ≤ o334 := Nat.le_of_eq g_o334.symm
      have K335 : Keep h331 h333 [] := Keep.of_ext Eh333
      have O336 := Old_k0 O50 K335
      refine s_dup (q := 511) C rfl at_510 rfl ?_
      refine s_iconst (q := 512) (v := (0 : Int32)) C (by rfl) at_511 rfl ?_
      refine s_aloadN (q := 513) C rfl rfl at_512 rfl ?_
      refine s_iconst (q := 514) (v := (0 : Int32)) C (by rfl) at_513 rfl ?_
      refine s_iload (q := 516) C rfl at_514 rfl ?_
      refine s_callS1 (q := 519) (argsL := [(.ref b0), (.int (0 : Int32)), (.int ec)]) (S := [(.int (0 : Int32)), (.ref o334), (.ref o334)]) (W := 3) (cells' := 6) (slots' := 114) C (G.1 _ (List.mem_of_getElem? (i := 9) rfl)) (G.1 _ (List.mem_of_getElem? (i := 10) rfl)) (G.1 _ (List.mem_of_getElem? (i := 11) rfl)) (G.1 _ (List.mem_of_getElem? (i := 12) rfl)) (by decide) (rm_atf G O336 b0 cs9 0 ec (Str_k0 S9 K335) (by decide) re) rfl (lenOf pd_1 rfl) rfl (by decide) (own_leb rfl) (by decide) rfl rfl (by decide) (by decide) (wl := []) (fun _ _ q => by rw [q.1]; exact Keep.refl _ _) all0 at_516 rfl ?_
      rintro _ h339 ⟨eh340, c337, rfl, rc338⟩
      rw [eh340]
      show AtS p l e _ s m _ below meth c Z _ _ n0 _ _ _ h333 6 114 (mkF m 519 #[.val (.int k), .val (.int xx), .val (.int y), .val (.ref b0), .val (.int ec), .val (.int cc), .val (.int (Int32.ofNat j)), .val (.int pz), .val (.ref o52), .val (.ref o139), .val (.ref o233), .unset, .unset, .unset, .unset, .unset, .unset, .unset] [(.int c337), (.int (0 : Int32)), (.ref o334), (.ref o334)])
      refine s_castore (q := 520) (z := c337) (i := 0) C (own_nar rc338.1 rc338.2) V_o334 rfl (own_ltb rfl) ge_o334 at_519 rfl ?_
      intro h341 Wh341 Vh341
      have K342 := K335.wr Wh341 (Or.inr sz_o334)
      have O343 := Old_k0 O50 K342
      refine s_dup (q := 521) C rfl at_520 rfl ?_
      refine s_iconst (q := 522) (v := (1 : Int32)) C (by rfl) at_521 rfl ?_
      refine s_aloadN (q := 523) C rfl rfl at_522 rfl ?_
      refine s_iconst (q := 524) (v := (1 : Int32)) C (by rfl) at_523 rfl ?_
      refine s_iload (q := 526) C rfl at_524 rfl ?_
      refine s_callS1 (q := 529) (argsL := [(.ref b0), (.int (1 : Int32)), (.int ec)]) (S := [(.int (1 : Int32)), (.ref o334), (.ref o334)]) (W := 3) (cells' := 6) (slots' := 114) C (G.1 _ (List.mem_of_getElem? (i := 9) rfl)) (G.1 _ (List.mem_of_getElem? (i := 10) rfl)) (G.1 _ (List.mem_of_getElem? (i := 11) rfl)) (G.1 _ (List.mem_of_getElem? (i := 12) rfl)) (by decide) (rm_atf G O343 b0 cs9 1 ec (Str_k0 S9 K342) (by decide) re) rfl (lenOf pd_1 rfl) rfl (by decide) (own_leb rfl) (by decide) rfl rfl (by decide) (by decide) (wl := []) (fun _ _ q => by rw [q.1]; exact Keep.refl _ _) all0 at_526 rfl ?_
      rintro _ h346 ⟨eh347, c344, rfl, rc345⟩
      rw [eh347]
      show AtS p l e _ s m _ below meth c Z _ _ n0 _ _ _ h341 6 114 (mkF m 529 #[.val (.int k), .val (.int xx), .val (.int y), .val (.ref b0), .val (.int ec), .val (.int cc), .val (.int (Int32.ofNat j)), .val (.int pz), .val (.ref o52), .val (.ref o139), .val (.ref o233), .unset, .unset, .unset, .unset, .unset, .unset, .unset] [(.int c344), (.int (1 : Int32)), (.ref o334), (.ref o334)])
      refine s_castore (q := 530) (z := c344) (i := 1) C (own_nar rc345.1 rc345.2) Vh341 rfl (own_ltb rfl) ge_o334 at_529 rfl ?_
      intro h348 Wh348 Vh348
      have K349 := K342.wr Wh348 (Or.inr sz_o334)
      have O350 := Old_k0 O50 K349
      refine s_dup (q := 531) C rfl at_530 rfl ?_
      refine s_iconst (q := 532) (v := (2 : Int32)) C (by rfl) at_531 rfl ?_
      refine s_aloadN (q := 533) C rfl rfl at_532 rfl ?_
      refine s_iconst (q := 534) (v := (2 : Int32)) C (by rfl) at_533 rfl ?_
      refine s_iload (q := 536) C rfl at_534 rfl ?_
      refine s_callS1 (q := 539) (argsL := [(.ref b0), (.int (2 : Int32)), (.int ec)]) (S := [(.int (2 : Int32)), (.ref o334), (.ref o334)]) (W := 3) (cells' := 6) (slots' := 114) C (G.1 _ (List.mem_of_getElem? (i := 9) rfl)) (G.1 _ (List.mem_of_getElem? (i := 10) rfl)) (G.1 _ (List.mem_of_getElem? (i := 11) rfl)) (G.1 _ (List.mem_of_getElem? (i := 12) rfl)) (by decide) (rm_atf G O350 b0 cs9 2 ec (Str_k0 S9 K349) (by decide) re) rfl (lenOf pd_1 rfl) rfl (by decide) (own_leb rfl) (by decide) rfl rfl (by decide) (by decide) (wl := []) (fun _ _ q => by rw [q.1]; exact Keep.refl _ _) all0 at_536 rfl ?_
      rintro _ h353 ⟨eh354, c351, rfl, rc352⟩
      rw [eh354]
      show AtS p l e _ s m _ below meth c Z _ _ n0 _ _ _ h348 6 114 (mkF m 539 #[.val (.int k), .val (.int xx), .val (.int y), .val (.ref b0), .val (.int ec), .val (.int cc), .val (.int (Int32.ofNat j)), .val (.int pz), .val (.ref o52), .val (.ref o139), .val (.ref o233), .unset, .unset, .unset, .unset, .unset, .unset, .unset] [(.int c351), (.int (2 : Int32)), (.ref o334), (.ref o334)])
      refine s_castore (q := 540) (z := c351) (i := 2) C (own_nar rc352.1 rc352.2) Vh348 rfl (own_ltb rfl) ge_o334 at_539 rfl ?_
      intro h355 Wh355 Vh355
      have K356 := K349.wr Wh355 (Or.inr sz_o334)
      have O357 := Old_k0 O50 K356
      refine s_dup (q := 541) C rfl at_540 rfl ?_
      refine s_iconst (q := 542) (v := (3 : Int32)) C (by rfl) at_541 rfl ?_
      refine s_aloadN (q := 543) C rfl rfl at_542 rfl ?_
      refine s_iconst (q := 544) (v := (3 : Int32)) C (by rfl) at_543 rfl ?_
      refine s_iload (q := 546) C rfl at_544 rfl ?_
      refine s_callS1 (q := 549) (argsL := [(.ref b0), (.int (3 : Int32)), (.int ec)]) (S := [(.int (3 : Int32)), (.ref o334), (.ref o334)]) (W := 3) (cells' := 6) (slots' := 114) C (G.1 _ (List.mem_of_getElem? (i := 9) rfl)) (G.1 _ (List.mem_of_getElem? (i := 10) rfl)) (G.1 _ (List.mem_of_getElem? (i := 11) rfl)) (G.1 _ (List.mem_of_getElem? (i := 12) rfl)) (by decide) (rm_atf G O357 b0 cs9 3 ec (Str_k0 S9 K356) (by decide) re) rfl (lenOf pd_1 rfl) rfl (by decide) (own_leb rfl) (by decide) rfl rfl (by decide) (by decide) (wl := []) (fun _ _ q => by rw [q.1]; exact Keep.refl _ _) all0 at_546 rfl ?_
      rintro _ h360 ⟨eh361, c358, rfl, rc359⟩
      rw [eh361]
      show AtS p l e _ s m _ below meth c Z _ _ n0 _ _ _ h355 6 114 (mkF m 549 #[.val (.int k), .val (.int xx), .val (.int y), .val (.ref b0), .val (.int ec), .val (.int cc), .val (.int (Int32.ofNat j)), .val (.int pz), .val (.ref o52), .val (.ref o139), .val (.ref o233), .unset, .unset, .unset, .unset, .unset, .unset, .unset] [(.int c358), (.int (3 : Int32)), (.ref o334), (.ref o334)])
      refine s_castore (q := 550) (z := c358) (i := 3) C (own_nar rc359.1 rc359.2) Vh355 rfl (own_ltb rfl) ge_o334 at_549 rfl ?_
      intro h362 Wh362 Vh362
      have K363 := K356.wr Wh362 (Or.inr sz_o334)
      have O364 := Old_k0 O50 K363
      refine s_dup (q := 551) C rfl at_550 rfl ?_
      refine s_iconst (q := 552) (v := (4 : Int32)) C (by rfl) at_551 rfl ?_
      refine s_aloadN (q := 553) C rfl rfl at_552 rfl ?_
      refine s_iconst (q := 554) (v := (4 : Int32)) C (by rfl) at_553 rfl ?_
      refine s_iload (q := 556) C rfl at_554 rfl ?_
      refine s_callS1 (q := 559) (argsL := [(.ref b0), (.int (4 : Int32)), (.int ec)]) (S := [(.int (4 : Int32)), (.ref o334), (.ref o334)]) (W := 3) (cells' := 6) (slots' := 114) C (G.1 _ (List.mem_of_getElem? (i := 9) rfl)) (G.1 _ (List.mem_of_getElem? (i := 10) rfl)) (G.1 _ (List.mem_of_getElem? (i := 11) rfl)) (G.1 _ (List.mem_of_getElem? (i := 12) rfl)) (by decide) (rm_atf G O364 b0 cs9 4 ec (Str_k0 S9 K363) (by decide) re) rfl (lenOf pd_1 rfl) rfl (by decide) (own_leb rfl) (by decide) rfl rfl (by decide) (by decide) (wl := []) (fun _ _ q => by rw [q.1]; exact Keep.refl _ _) all0 at_556 rfl ?_
      rintro _ h367 ⟨eh368, c365, rfl, rc366⟩
      rw [eh368]
      show AtS p l e _ s m _ below meth c Z _ _ n0 _ _ _ h362 6 114 (mkF m 559 #[.val (.int k), .val (.int xx), .val (.int y), .val (.ref b0), .val (.int ec), .val (.int cc), .val (.int (Int32.ofNat j)), .val (.int pz), .val (.ref o52), .val (.ref o139), .val (.ref o233), .unset, .unset, .unset, .unset, .unset, .unset, .unset] [(.int c365), (.int (4 : Int32)), (.ref o334), (.ref o334)])
      refine s_castore (q := 560) (z := c365) (i := 4) C (own_nar rc366.1 rc366.2) Vh362 rfl (own_ltb rfl) ge_o334 at_559 rfl ?_
      intro h369 Wh369 Vh369
      have K370 := K363.wr Wh369 (Or.inr sz_o334)
      have O371 := Old_k0 O50 K370
      refine s_dup (q := 561) C rfl at_560 rfl ?_
      refine s_iconst (q := 562) (v := (5 : Int32)) C (by rfl) at_561 rfl ?_
      refine s_aloadN (q := 563) C rfl rfl at_562 rfl ?_
      refine s_iconst (q := 564) (v := (5 : Int32)) C (by rfl) at_563 rfl ?_
      refine s_iload (q := 566) C rfl at_564 rfl ?_
      refine s_callS1 (q := 569) (argsL := [(.ref b0), (.int (5 : Int32)), (.int ec)]) (S := [(.int (5 : Int32)), (.ref o334), (.ref o334)]) (W := 3) (cells' := 6) (slots' := 114) C (G.1 _ (List.mem_of_getElem? (i := 9) rfl)) (G.1 _ (List.mem_of_getElem? (i := 10) rfl)) (G.1 _ (List.mem_of_getElem? (i := 11) rfl)) (G.1 _ (List.mem_of_getElem? (i := 12) rfl)) (by decide) (rm_atf G O371 b0 cs9 5 ec (Str_k0 S9 K370) (by decide) re) rfl (lenOf pd_1 rfl) rfl (by decide) (own_leb rfl) (by decide) rfl rfl (by decide) (by decide) (wl := []) (fun _ _ q => by rw [q.1]; exact Keep.refl _ _) all0 at_566 rfl ?_
      rintro _ h374 ⟨eh375, c372, rfl, rc373⟩
      rw [eh375]
      show AtS p l e _ s m _ below meth c Z _ _ n0 _ _ _ h369 6 114 (mkF m 569 #[.val (.int k), .val (.int xx), .val (.int y), .val (.ref b0), .val (.int ec), .val (.int cc), .val (.int (Int32.ofNat j)), .val (.int pz), .val (.ref o52), .val (.ref o139), .val (.ref o233), .unset, .unset, .unset, .unset, .unset, .unset, .unset] [(.int c372), (.int (5 : Int32)), (.ref o334), (.ref o334)])
      refine s_castore (q := 570) (z := c372) (i := 5) C (own_nar rc373.1 rc373.2) Vh369 rfl (own_ltb rfl) ge_o334 at_569 rfl ?_
      intro h376 Wh376 Vh376
      have K377 := K370.wr Wh376 (Or.inr sz_o334)
      have O378 := Old_k0 O50 K377
      refine s_dup (q := 571) C rfl at_570 rfl ?_
      refine s_bipush (q := 573) (v := (6 : Int32)) C (by rfl) at_571 rfl ?_
      refine s_aloadN (q := 574) C rfl rfl at_573 rfl ?_
      refine s_bipush (q := 576) (v := (6 : Int32)) C (by rfl) at_574 rfl ?_
      refine s_iload (q := 578) C rfl at_576 rfl ?_
      refine s_callS1 (q := 581) (argsL := [(.ref b0), (.int (6 : Int32)), (.int ec)]) (S := [(.int (6 : Int32)), (.ref o334), (.ref o334)]) (W := 3) (cells' := 6) (slots' := 114) C (G.1 _ (List.mem_of_getElem? (i := 9) rfl)) (G.1 _ (List.mem_of_getElem? (i := 10) rfl)) (G.1 _ (List.mem_of_getElem? (i := 11) rfl)) (G.1 _ (List.mem_of_getElem? (i := 12) rfl)) (by decide) (rm_atf G O378 b0 cs9 6 ec (Str_k0 S9 K377) (by decide) re) rfl (lenOf pd_1 rfl) rfl (by decide) (own_leb rfl) (by decide) rfl rfl (by decide) (by decide) (wl := []) (fun _ _ q => by rw [q.1]; exact Keep.refl _ _) all0 at_578 rfl ?_
      rintro _ h381 ⟨eh382, c379, rfl, rc380⟩
      rw [eh382]
      show AtS p l e _ s m _ below meth c Z _ _ n0 _ _ _ h376 6 114 (mkF m 581 #[.val (.int k), .val (.int xx), .val (.int y), .val (.ref b0), .val (.int ec), .val (.int cc), .val (.int (Int32.ofNat j)), .val (.int pz), .val (.ref o52), .val (.ref o139), .val (.ref o233), .unset, .unset, .unset, .unset, .unset, .unset, .unset] [(.int c379), (.int (6 : Int32)), (.ref o334), (.ref o334)])
      refine s_castore (q := 582) (z := c379) (i := 6) C (own_nar rc380.1 rc380.2) Vh376 rfl (own_ltb rfl) ge_o334 at_581 rfl ?_
      intro h383 Wh383 Vh383
      have K384 := K377.wr Wh383 (Or.inr sz_o334)
      have O385 := Old_k0 O50 K384
      refine s_dup (q := 583) C rfl at_582 rfl ?_
      refine s_bipush (q := 585) (v := (7 : Int32)) C (by rfl) at_583 rfl ?_
      refine s_aloadN (q := 586) C rfl rfl at_585 rfl ?_
      refine s_bipush (q := 588) (v := (7 : Int32)) C (by rfl) at_586 rfl ?_
      refine s_iload (q := 590) C rfl at_588 rfl ?_
      refine s_callS1 (q := 593) (argsL := [(.ref b0), (.int (7 : Int32)), (.int ec)]) (S := [(.int (7 : Int32)), (.ref o334), (.ref o334)]) (W := 3) (cells' := 6) (slots' := 114) C (G.1 _ (List.mem_of_getElem? (i := 9) rfl)) (G.1 _ (List.mem_of_getElem? (i := 10) rfl)) (G.1 _ (List.mem_of_getElem? (i := 11) rfl)) (G.1 _ (List.mem_of_getElem? (i := 12) rfl)) (by decide) (rm_atf G O385 b0 cs9 7 ec (Str_k0 S9 K384) (by decide) re) rfl (lenOf pd_1 rfl) rfl (by decide) (own_leb rfl) (by decide) rfl rfl (by decide) (by decide) (wl := []) (fun _ _ q => by rw [q.1]; exact Keep.refl _ _) all0 at_590 rfl ?_
      rintro _ h388 ⟨eh389, c386, rfl, rc387⟩
      rw [eh389]
      show AtS p l e _ s m _ below meth c Z _ _ n0 _ _ _ h383 6 114 (mkF m 593 #[.val (.int k), .val (.int xx), .val (.int y), .val (.ref b0), .val (.int ec), .val (.int cc), .val (.int (Int32.ofNat j)), .val (.int pz), .val (.ref o52), .val (.ref o139), .val (.ref o233), .unset, .unset, .unset, .unset, .unset, .unset, .unset] [(.int c386), (.int (7 : Int32)), (.ref o334), (.ref o334)])
      refine s_castore (q := 594) (z := c386) (i := 7) C (own_nar rc387.1 rc387.2) Vh383 rfl (own_ltb rfl) ge_o334 at_593 rfl ?_
      intro h390 Wh390 Vh390
      have K391 := K384.wr Wh390 (Or.inr sz_o334)
      have O392 := Old_k0 O50 K391
      refine s_dup (q := 595) C rfl at_594 rfl ?_
      refine s_bipush (q := 597) (v := (8 : Int32)) C (by rfl) at_595 rfl ?_
      refine s_aloadN (q := 598) C rfl rfl at_597 rfl ?_
      refine s_bipush (q := 600) (v := (8 : Int32)) C (by rfl) at_598 rfl ?_
      refine s_iload (q := 602) C rfl at_600 rfl ?_
      refine s_callS1 (q := 605) (argsL := [(.ref b0), (.int (8 : Int32)), (.int ec)]) (S := [(.int (8 : Int32)), (.ref o334), (.ref o334)]) (W := 3) (cells' := 6) (slots' := 114) C (G.1 _ (List.mem_of_getElem? (i := 9) rfl)) (G.1 _ (List.mem_of_getElem? (i := 10) rfl)) (G.1 _ (List.mem_of_getElem? (i := 11) rfl)) (G.1 _ (List.mem_of_getElem? (i := 12) rfl)) (by decide) (rm_atf G O392 b0 cs9 8 ec (Str_k0 S9 K391) (by decide) re) rfl (lenOf pd_1 rfl) rfl (by decide) (own_leb rfl) (by decide) rfl rfl (by decide) (by decide) (wl := []) (fun _ _ q => by rw [q.1]; exact Keep.refl _ _) all0 at_602 rfl ?_
      rintro _ h395 ⟨eh396, c393, rfl, rc394⟩
      rw [eh396]
      show AtS p l e _ s m _ below meth c Z _ _ n0 _ _ _ h390 6 114 (mkF m 605 #[.val (.int k), .val (.int xx), .val (.int y), .val (.ref b0), .val (.int ec), .val (.int cc), .val (.int (Int32.ofNat j)), .val (.int pz), .val (.ref o52), .val (.ref o139), .val (.ref o233), .unset, .unset, .unset, .unset, .unset, .unset, .unset] [(.int c393), (.int (8 : Int32)), (.ref o334), (.ref o334)])
      refine s_castore (q := 606) (z := c393) (i := 8) C (own_nar rc394.1 rc394.2) Vh390 rfl (own_ltb rfl) ge_o334 at_605 rfl ?_
      intro h397 Wh397 Vh397
      have K398 := K391.wr Wh397 (Or.inr sz_o334)
      have O399 := Old_k0 O50 K398
      refine s_dup (q := 607) C rfl at_606 rfl ?_
      refine s_bipush (q := 609) (v := (9 : Int32)) C (by rfl) at_607 rfl ?_
      refine s_aloadN (q := 610) C rfl rfl at_609 rfl ?_
      refine s_bipush (q := 612) (v := (9 : Int32)) C (by rfl) at_610 rfl ?_
      refine s_iload (q := 614) C rfl at_612 rfl ?_
      refine s_callS1 (q := 617) (argsL := [(.ref b0), (.int (9 : Int32)), (.int ec)]) (S := [(.int (9 : Int32)), (.ref o334), (.ref o334)]) (W := 3) (cells' := 6) (slots' := 114) C (G.1 _ (List.mem_of_getElem? (i := 9) rfl)) (G.1 _ (List.mem_of_getElem? (i := 10) rfl)) (G.1 _ (List.mem_of_getElem? (i := 11) rfl)) (G.1 _ (List.mem_of_getElem? (i := 12) rfl)) (by decide) (rm_atf G O399 b0 cs9 9 ec (Str_k0 S9 K398) (by decide) re) rfl (lenOf pd_1 rfl) rfl (by decide) (own_leb rfl) (by decide) rfl rfl (by decide) (by decide) (wl := []) (fun _ _ q => by rw [q.1]; exact Keep.refl _ _) all0 at_614 rfl ?_
      rintro _ h402 ⟨eh403, c400, rfl, rc401⟩
      rw [eh403]
      show AtS p l e _ s m _ below meth c Z _ _ n0 _ _ _ h397 6 114 (mkF m 617 #[.val (.int k), .val (.int xx), .val (.int y), .val (.ref b0), .val (.int ec), .val (.int cc), .val (.int (Int32.ofNat j)), .val (.int pz), .val (.ref o52), .val (.ref o139), .val (.ref o233), .unset, .unset, .unset, .unset, .unset, .unset, .unset] [(.int c400), (.int (9 : Int32)), (.ref o334), (.ref o334)])
      refine s_castore (q := 618) (z := c400) (i := 9) C (own_nar rc401.1 rc401.2) Vh397 rfl (own_ltb rfl) ge_o334 at_617 rfl ?_
      intro h404 Wh404 Vh404
      have K405 := K398.wr Wh404 (Or.inr sz_o334)
      have O406 := Old_k0 O50 K405
      refine s_dup (q := 619) C rfl at_618 rfl ?_
      refine s_bipush (q := 621) (v := (10 : Int32)) C (by rfl) at_619 rfl ?_
      refine s_aloadN (q := 622) C rfl rfl at_621 rfl ?_
      refine s_bipush (q := 624) (v := (10 : Int32)) C (by rfl) at_622 rfl ?_
      refine s_iload (q := 626) C rfl at_624 rfl ?_
      refine s_callS1 (q := 629) (argsL := [(.ref b0), (.int (10 : Int32)), (.int ec)]) (S := [(.int (10 : Int32)), (.ref o334), (.ref o334)]) (W := 3) (cells' := 6) (slots' := 114) C (G.1 _ (List.mem_of_getElem? (i := 9) rfl)) (G.1 _ (List.mem_of_getElem? (i := 10) rfl)) (G.1 _ (List.mem_of_getElem? (i := 11) rfl)) (G.1 _ (List.mem_of_getElem? (i := 12) rfl)) (by decide) (rm_atf G O406 b0 cs9 10 ec (Str_k0 S9 K405) (by decide) re) rfl (lenOf pd_1 rfl) rfl (by decide) (own_leb rfl) (by decide) rfl rfl (by decide) (by decide) (wl := []) (fun _ _ q => by rw [q.1]; exact Keep.refl _ _) all0 at_626 rfl ?_
      rintro _ h409 ⟨eh410, c407, rfl, rc408⟩
      rw [eh410]
      show AtS p l e _ s m _ below meth c Z _ _ n0 _ _ _ h404 6 114 (mkF m 629 #[.val (.int k), .val (.int xx), .val (.int y), .val (.ref b0), .val (.int ec), .val (.int cc), .val (.int (Int32.ofNat j)), .val (.int pz), .val (.ref o52), .val (.ref o139), .val (.ref o233), .unset, .unset, .unset, .unset, .unset, .unset, .unset] [(.int c407), (.int (10 : Int32)), (.ref o334), (.ref o334)])
      refine s_castore (q := 630) (z := c407) (i := 10) C (own_nar rc408.1 rc408.2) Vh404 rfl (own_ltb rfl) ge_o334 at_629 rfl ?_
      intro h411 Wh411 Vh411
      have K412 := K405.wr Wh411 (Or.inr sz_o334)
      have O413 := Old_k0 O50 K412
      refine s_dup (q := 631) C rfl at_630 rfl ?_
      refine s_bipush (q := 633) (v := (11 : Int32)) C (by rfl) at_631 rfl ?_
      refine s_aloadN (q := 634) C rfl rfl at_633 rfl ?_
      refine s_bipush (q := 636) (v := (11 : Int32)) C (by rfl) at_634 rfl ?_
      refine s_iload (q := 638) C rfl at_636 rfl ?_
      refine s_callS1 (q := 641) (argsL := [(.ref b0), (.int (11 : Int32)), (.int ec)]) (S := [(.int (11 : Int32)), (.ref o334), (.ref o334)]) (W := 3) (cells' := 6) (slots' := 114) C (G.1 _ (List.mem_of_getElem? (i := 9) rfl)) (G.1 _ (List.mem_of_getElem? (i := 10) rfl)) (G.1 _ (List.mem_of_getElem? (i := 11) rfl)) (G.1 _ (List.mem_of_getElem? (i := 12) rfl)) (by decide) (rm_atf G O413 b0 cs9 11 ec (Str_k0 S9 K412) (by decide) re) rfl (lenOf pd_1 rfl) rfl (by decide) (own_leb rfl) (by decide) rfl rfl (by decide) (by decide) (wl := []) (fun _ _ q => by rw [q.1]; exact Keep.refl _ _) all0 at_638 rfl ?_
      rintro _ h416 ⟨eh417, c414, rfl, rc415⟩
      rw [eh417]
      show AtS p l e _ s m _ below meth c Z _ _ n0 _ _ _ h411 6 114 (mkF m 641 #[.val (.int k), .val (.int xx), .val (.int y), .val (.ref b0), .val (.int ec), .val (.int cc), .val (.int (Int32.ofNat j)), .val (.int pz), .val (.ref o52), .val (.ref o139), .val (.ref o233), .unset, .unset, .unset, .unset, .unset, .unset, .unset] [(.int c414), (.int (11 : Int32)), (.ref o334), (.ref o334)])
      refine s_castore (q := 642) (z := c414) (i := 11) C (own_nar rc415.1 rc415.2) Vh411 rfl (own_ltb rfl) ge_o334 at_641 rfl ?_
      intro h418 Wh418 Vh418
      have K419 := K412.wr Wh418 (Or.inr sz_o334)
      have O420 := Old_k0 O50 K419
      refine s_dup (q := 643) C rfl at_642 rfl ?_
      refine s_bipush (q := 645) (v := (12 : Int32)) C (by rfl) at_643 rfl ?_
      refine s_aloadN (q := 646) C rfl rfl at_645 rfl ?_
      refine s_bipush (q := 648) (v := (12 : Int32)) C (by rfl) at_646 rfl ?_
      refine s_iload (q := 650) C rfl at_648 rfl ?_
      refine s_callS1 (q := 653) (argsL := [(.ref b0), (.int (12 : Int32)), (.int ec)]) (S := [(.int (12 : Int32)), (.ref o334), (.ref o334)]) (W := 3) (cells' := 6) (slots' := 114) C (G.1 _ (List.mem_of_getElem? (i := 9) rfl)) (G.1 _ (List.mem_of_getElem? (i := 10) rfl)) (G.1 _ (List.mem_of_getElem? (i := 11) rfl)) (G.1 _ (List.mem_of_getElem? (i := 12) rfl)) (by decide) (rm_atf G O420 b0 cs9 12 ec (Str_k0 S9 K419) (by decide) re) rfl (lenOf pd_1 rfl) rfl (by decide) (own_leb rfl) (by decide) rfl rfl (by decide) (by decide) (wl := []) (fun _ _ q => by rw [q.1]; exact Keep.refl _ _) all0 at_650 rfl ?_
      rintro _ h423 ⟨eh424, c421, rfl, rc422⟩
      rw [eh424]
      show AtS p l e _ s m _ below meth c Z _ _ n0 _ _ _ h418 6 114 (mkF m 653 #[.val (.int k), .val (.int xx), .val (.int y), .val (.ref b0), .val (.int ec), .val (.int cc), .val (.int (Int32.ofNat j)), .val (.int pz), .val (.ref o52), .val (.ref o139), .val (.ref o233), .unset, .unset, .unset, .unset, .unset, .unset, .unset] [(.int c421), (.int (12 : Int32)), (.ref o334), (.ref o334)])
      refine s_castore (q := 654) (z := c421) (i := 12) C (own_nar rc422.1 rc422.2) Vh418 rfl (own_ltb rfl) ge_o334 at_653 rfl ?_
      intro h425 Wh425 Vh425
      have K426 := K419.wr Wh425 (Or.inr sz_o334)
      have O427 := Old_k0 O50 K426
      refine s_dup (q := 655) C rfl at_654 rfl ?_
      refine s_bipush (q := 657) (v := (13 : Int32)) C (by rfl) at_655 rfl ?_
      refine s_aloadN (q := 658) C rfl rfl at_657 rfl ?_
      refine s_bipush (q := 660) (v := (13 : Int32)) C (by rfl) at_658 rfl ?_
      refine s_iload (q := 662) C rfl at_660 rfl ?_
      refine s_callS1 (q := 665) (argsL := [(.ref b0), (.int (13 : Int32)), (.int ec)]) (S := [(.int (13 : Int32)), (.ref o334), (.ref o334)]) (W := 3) (cells' := 6) (slots' := 114) C (G.1 _ (List.mem_of_getElem? (i := 9) rfl)) (G.1 _ (List.mem_of_getElem? (i := 10) rfl)) (G.1 _ (List.mem_of_getElem? (i := 11) rfl)) (G.1 _ (List.mem_of_getElem? (i := 12) rfl)) (by decide) (rm_atf G O427 b0 cs9 13 ec (Str_k0 S9 K426) (by decide) re) rfl (lenOf pd_1 rfl) rfl (by decide) (own_leb rfl) (by decide) rfl rfl (by decide) (by decide) (wl := []) (fun _ _ q => by rw [q.1]; exact Keep.refl _ _) all0 at_662 rfl ?_
      rintro _ h430 ⟨eh431, c428, rfl, rc429⟩
      rw [eh431]
      show AtS p l e _ s m _ below meth c Z _ _ n0 _ _ _ h425 6 114 (mkF m 665 #[.val (.int k), .val (.int xx), .val (.int y), .val (.ref b0), .val (.int ec), .val (.int cc), .val (.int (Int32.ofNat j)), .val (.int pz), .val (.ref o52), .val (.ref o139), .val (.ref o233), .unset, .unset, .unset, .unset, .unset, .unset, .unset] [(.int c428), (.int (13 : Int32)), (.ref o334), (.ref o334)])
      refine s_castore (q := 666) (z := c428) (i := 13) C (own_nar rc429.1 rc429.2) Vh425 rfl (own_ltb rfl) ge_o334 at_665 rfl ?_
      intro h432 Wh432 Vh432
      have K433 := K426.wr Wh432 (Or.inr sz_o334)
      have O434 := Old_k0 O50 K433
      refine s_dup (q := 667) C rfl at_666 rfl ?_
      refine s_bipush (q := 669) (v := (14 : Int32)) C (by rfl) at_667 rfl ?_
      refine s_aloadN (q := 670) C rfl rfl at_669 rfl ?_
      refine s_bipush (q := 672) (v := (14 : Int32)) C (by rfl) at_670 rfl ?_
      refine s_iload (q := 674) C rfl at_672 rfl ?_
      refine s_callS1 (q := 677) (argsL := [(.ref b0), (.int (14 : Int32)), (.int ec)]) (S := [(.int (14 : Int32)), (.ref o334), (.ref o334)]) (W := 3) (cells' := 6) (slots' := 114) C (G.1 _ (List.mem_of_getElem? (i := 9) rfl)) (G.1 _ (List.mem_of_getElem? (i := 10) rfl)) (G.1 _ (List.mem_of_getElem? (i := 11) rfl)) (G.1 _ (List.mem_of_getElem? (i := 12) rfl)) (by decide) (rm_atf G O434 b0 cs9 14 ec (Str_k0 S9 K433) (by decide) re) rfl (lenOf pd_1 rfl) rfl (by decide) (own_leb rfl) (by decide) rfl rfl (by decide) (by decide) (wl := []) (fun _ _ q => by rw [q.1]; exact Keep.refl _ _) all0 at_674 rfl ?_
      rintro _ h437 ⟨eh438, c435, rfl, rc436⟩
      rw [eh438]
      show AtS p l e _ s m _ below meth c Z _ _ n0 _ _ _ h432 6 114 (mkF m 677 #[.val (.int k), .val (.int xx), .val (.int y), .val (.ref b0), .val (.int ec), .val (.int cc), .val (.int (Int32.ofNat j)), .val (.int pz), .val (.ref o52), .val (.ref o139), .val (.ref o233), .unset, .unset, .unset, .unset, .unset, .unset, .unset] [(.int c435), (.int (14 : Int32)), (.ref o334), (.ref o334)])
      refine s_castore (q := 678) (z := c435) (i := 14) C (own_nar rc436.1 rc436.2) Vh432 rfl (own_ltb rfl) ge_o334 at_677 rfl ?_
      intro h439 Wh439 Vh439
      have K440 := K433.wr Wh439 (Or.inr sz_o334)
      replace S9 := Str_k0 S9 K440
      replace VC12 := Ar_k0 VC12 K440
      replace VC13 := Ar_k0 VC13 K440
      replace VC14 := Ar_k0 VC14 K440
      replace O50 := Old_k0 O50 K440
      have VC15 : Ar Z h439 o334 .char (List.map Value.int [c337, c344, c351, c358, c365, c372, c379, c386, c393, c400, c407, c414, c421, c428, c435]) := Vh439
      refine s_astore (q := 680) (L' := #[.val (.int k), .val (.int xx), .val (.int y), .val (.ref b0), .val (.int ec), .val (.int cc), .val (.int (Int32.ofNat j)), .val (.int pz), .val (.ref o52), .val (.ref o139), .val (.ref o233), .val (.ref o334), .unset, .unset, .unset, .unset, .unset, .unset]) C rfl rfl at_678 rfl ?_
      refine s_iconst (q := 681) (v := (1 : Int32)) C (by rfl) at_680 rfl ?_
      refine s_newArr (q := 683) (cap := 1) (cells' := 7) (slots' := 115) C (G.1 _ (List.mem_of_getElem? (i := 8) rfl)) rfl (by decide) (by decide) (by decide) rfl rfl (by decide) (by decide) at_681 rfl ?_
      intro h441 o442 g_o442 Eh441 V_o442
      replace V_o442 : Ar Z h441 o442 .char [(.int (0 : Int32))] := V_o442
      have ge_o442 : n0 ≤ o442 := by rw [g_o442]; exact Old_le O50
      have sz_o442 : h439.size ≤ o442 := Nat.le_of_eq g_o442.symm
      have K443 : Keep h439 h441 [] := Keep.of_ext Eh441
      refine s_dup (q := 684) C rfl at_683 rfl ?_
      refine s_iconst (q := 685) (v := (0 : Int32)) C (by rfl) at_684 rfl ?_
      refine s_iload (q := 687) C rfl at_685 rfl ?_
      refine s_castore (q := 688) (z := cc) (i := 0) C (own_nar rc.1 rc.2) V_o442 rfl (own_ltb rfl) ge_o442 at_687 rfl ?_
      intro h444 Wh444 Vh444
      have K445 := K443.wr Wh444 (Or.inr sz_o442)
      replace S9 := Str_k0 S9 K445
      replace VC12 := Ar_k0 VC12 K445
      replace VC13 := Ar_k0 VC13 K445
      replace VC14 := Ar_k0 VC14 K445
      replace VC15 := Ar_k0 VC15 K445
      replace O50 := Old_k0 O50 K445
      have VC1 : Ar Z h444 o442 .char (List.map Value.int [cc]) := Vh444
      have ge_VC1 : n0 ≤ o442 := ge_o442
      refine s_astore (q := 690) (L' := #[.val (.int k), .val (.int xx), .val (.int y), .val (.ref b0), .val (.int ec), .val (.int cc), .val (.int (Int32.ofNat j)), .val (.int pz), .val (.ref o52), .val (.ref o139), .val (.ref o233), .val (.ref o334), .val (.ref o442), .unset, .unset, .unset, .unset, .unset]) C rfl rfl at_688 rfl ?_
      refine s_iconst (q := 691) (v := (0 : Int32)) C (by rfl) at_690 rfl ?_
      refine s_newArr (q := 693) (cap := 0) (cells' := 8) (slots' := 115) C (G.1 _ (List.mem_of_getElem? (i := 8) rfl)) rfl (by decide) (by decide) (by decide) rfl rfl (by decide) (by decide) at_691 rfl ?_
      intro h446 o447 g_o447 Eh446 V_o447
      replace V_o447 : Ar Z h446 o447 .char [] := V_o447
      have ge_o447 : n0 ≤ o447 := by rw [g_o447]; exact Old_le O50
      have K448 : Keep h444 h446 [] := Keep.of_ext Eh446
      replace S9 := Str_k0 S9 K448
      replace VC12 := Ar_k0 VC12 K448
      replace VC13 := Ar_k0 VC13 K448
      replace VC14 := Ar_k0 VC14 K448
      replace VC15 := Ar_k0 VC15 K448
      replace VC1 := Ar_k0 VC1 K448
      replace O50 := Old_k0 O50 K448
      have VC0 : Ar Z h446 o447 .char (List.map Value.int ([] : List Int32)) := V_o447
      refine s_astore (q := 695) (L' := #[.val (.int k), .val (.int xx), .val (.int y), .val (.ref b0), .val (.int ec), .val (.int cc), .val (.int (Int32.ofNat j)), .val (.int pz), .val (.ref o52), .val (.ref o139), .val (.ref o233), .val (.ref o334), .val (.ref o442), .val (.ref o447), .unset, .unset, .unset, .unset]) C rfl rfl at_693 rfl ?_
      refine s_iload (q := 697) C rfl at_695 rfl ?_
      have J8 : ∀ (arr : Addr) (cs0 : List Int32), Ar Z h446 arr .char (cs0.map Value.int) → L1 cs0 → cs0.length ≤ 15 → n0 ≤ arr → AtS p l e room_1 s m #[(.int k), (.int xx), (.int y)] below meth c Z consts_1 "com/example/anteroom/anteroom/scopes/RefreshScopeNamedPinLaw" n0 (fun v h => v = some (.int 1)) hJ1.size [o447, o442, o334, o233, o139, o52] h446 8 115 (mkF m 763 #[.val (.int k), .val (.int xx), .val (.int y), .val (.ref b0), .val (.int ec), .val (.int cc), .val (.int (Int32.ofNat j)), .val (.int pz), .val (.ref o52), .val (.ref o139), .val (.ref o233), .val (.ref o334), .val (.ref o442), .val (.ref o447), .val (.ref arr), .unset, .unset, .unset] []) := by
        intro arr cs0 VA hL hn15 hga
        have J7 : ∀ (h7 : Heap) (cs : List Int32), Old Z n0 h7 → Ar Z h7 arr .char (cs.map Value.int) → L1 cs → cs.length ≤ 15 → AtS p l e room_1 s m #[(.int k), (.int xx), (.int y)] below meth c Z consts_1 "com/example/anteroom/anteroom/scopes/RefreshScopeNamedPinLaw" n0 (fun v h => v = some (.int 1)) h7.size [] h7 8 115 (mkF m 787 #[.val (.int k), .val (.int xx), .val (.int y), .val (.ref b0), .val (.int ec), .val (.int cc), .val (.int (Int32.ofNat j)), .val (.int pz), .val (.ref o52), .val (.ref o139), .val (.ref o233), .val (.ref o334), .val (.ref o442), .val (.ref o447), .val (.ref arr), .unset, .unset, .unset] []) := by
          intro h7 cs O7 VA hL hn15
          by_cases q4 : j = 4
          · subst q4
            show AtS p l e _ s m _ below meth c Z _ _ n0 _ _ _ h7 8 115 (mkF m 787 #[.val (.int k), .val (.int xx), .val (.int y), .val (.ref b0), .val (.int ec), .val (.int cc), .val (.int (4 : Int32)), .val (.int pz), .val (.ref o52), .val (.ref o139), .val (.ref o233), .val (.ref o334), .val (.ref o442), .val (.ref o447), .val (.ref arr), .unset, .unset, .unset] [])
            refine s_iload (q := 789) C rfl at_787 rfl ?_
            refine s_iconst (q := 790) (v := (4 : Int32)) C (by rfl) at_789 rfl ?_
            refine s_icmp_ne_f (q := 793) C at_790 rfl (by decide) ?_
            refine s_aconst_null (q := 794) C at_793 rfl ?_
            refine s_goto (q := 806) C at_794 (by decide) (by decide) ?_
            refine s_astore (q := 808) (L' := #[.val (.int k), .val (.int xx), .val (.int y), .val (.ref b0), .val (.int ec), .val (.int cc), .val (.int (4 : Int32)), .val (.int pz), .val (.ref o52), .val (.ref o139), .val (.ref o233), .val (.ref o334), .val (.ref o442), .val (.ref o447), .val (.ref arr), .val .null, .unset, .unset]) C rfl rfl at_806 rfl ?_
            refine s_aload (q := 810) C rfl rfl at_808 rfl ?_
            refine s_callS1 (q := 813) (argsL := [.null]) (S := []) (W := 0) (cells' := 9) (slots' := 117) C (G.1 _ (List.mem_of_getElem? (i := 69) rfl)) (G.1 _ (List.mem_of_getElem? (i := 70) rfl)) (G.1 _ (List.mem_of_getElem? (i := 71) rfl)) (G.1 _ (List.mem_of_getElem? (i := 72) rfl)) (by decide) (rm_namedN G O7 vv x1 x2 r1 r2 N1) rfl (lenOf pd_15 rfl) rfl (by decide) (own_leb rfl) (by decide) rfl rfl (by decide) (by decide) (wl := []) (fun _ _ q => q.1) all0 at_810 rfl ?_
            rintro _ h449 ⟨Kh449, rfl⟩
            show AtS p l e _ s m _ below meth c Z _ _ n0 _ _ _ h449 9 117 (mkF m 813 #[.val (.int k), .val (.int xx), .val (.int y), .val (.ref b0), .val (.int ec), .val (.int cc), .val (.int (4 : Int32)), .val (.int pz), .val (.ref o52), .val (.ref o139), .val (.ref o233), .val (.ref o334), .val (.ref o442), .val (.ref o447), .val (.ref arr), .val .null, .unset, .unset] [.null])
            replace O7 := Old_k0 O7 Kh449
            refine s_astore (q := 815) (L' := #[.val (.int k), .val (.int xx), .val (.int y), .val (.ref b0), .val (.int ec), .val (.int cc), .val (.int (4 : Int32)), .val (.int pz), .val (.ref o52), .val (.ref o139), .val (.ref o233), .val (.ref o334), .val (.ref o442), .val (.ref o447), .val (.ref arr), .val .null, .val .null, .unset]) C rfl rfl at_813 rfl ?_
            refine s_aload (q := 817) C rfl rfl at_815 rfl ?_
            refine s_ifnonnull_f (q := 820) C at_817 rfl ?_
            refine s_aconst_null (q := 821) C at_820 rfl ?_
            refine s_astore (q := 823) (L' := #[.val (.int k), .val (.int xx), .val (.int y), .val (.ref b0), .val (.int ec), .val (.int cc), .val (.int (4 : Int32)), .val (.int pz), .val (.ref o52), .val (.ref o139), .val (.ref o233), .val (.ref o334), .val (.ref o442), .val (.ref o447), .val (.ref arr), .val .null, .val .null, .val .null]) C rfl rfl at_821 rfl ?_
            refine s_goto (q := 865) C at_823 (by decide) (by decide) ?_
            refine s_aload (q := 867) C rfl rfl at_865 rfl ?_
            refine s_aload (q := 869) C rfl rfl at_867 rfl ?_
            refine s_acmp_f (q := 872) C at_869 rfl rfl (same := true) (decide_eq_true rfl) rfl (by decide) rfl ?_
            refine s_iconst (q := 873) (v := (1 : Int32)) C (by rfl) at_872 rfl ?_
            refine s_goto (q := 877) C at_873 (by decide) (by decide) ?_
            exact s_retZ (z := (1 : Int32)) C G.el (t := .boolean) rfl (by simp) (by decide) at_877 (by decide) (by decide) rfl
          · refine s_iload (q := 789) C rfl at_787 rfl ?_
            refine s_iconst (q := 790) (v := (4 : Int32)) C (by rfl) at_789 rfl ?_
            refine s_icmp_ne_t (q := 797) C at_790 (by decide) (by decide) (fun q => q4 ((own_neq (n := 4) (by omega) (by omega)).mp q)) ?_
            have J6 : ∀ (hJ6 : Heap) (a1 : Addr), Keep h7 hJ6 [] → Str Z hJ6 a1 cs → AtS p l e room_1 s m #[(.int k), (.int xx), (.int y)] below meth c Z consts_1 "com/example/anteroom/anteroom/scopes/RefreshScopeNamedPinLaw" n0 (fun v h => v = some (.int 1)) hJ6.size [] hJ6 13 134 (mkF m 806 #[.val (.int k), .val (.int xx), .val (.int y), .val (.ref b0), .val (.int ec), .val (.int cc), .val (.int (Int32.ofNat j)), .val (.int pz), .val (.ref o52), .val (.ref o139), .val (.ref o233), .val (.ref o334), .val (.ref o442), .val (.ref o447), .val (.ref arr), .unset, .unset, .unset] [(.ref a1)]) := by
              intro hJ6 a1 KJ6 S1
              have O460 := Old_k0 O7 KJ6
              refine s_astore (q := 808) (L' := #[.val (.int k), .val (.int xx), .val (.int y), .val (.ref b0), .val (.int ec), .val (.int cc), .val (.int (Int32.ofNat j)), .val (.int pz), .val (.ref o52), .val (.ref o139), .val (.ref o233), .val (.ref o334), .val (.ref o442), .val (.ref o447), .val (.ref arr), .val (.ref a1), .unset, .unset]) C rfl rfl at_806 rfl ?_
              refine s_aload (q := 810) C rfl rfl at_808 rfl ?_
              refine s_callS1 (q := 813) (argsL := [(.ref a1)]) (S := []) (W := 0) (cells' := 14) (slots' := 136) C (G.1 _ (List.mem_of_getElem? (i := 69) rfl)) (G.1 _ (List.mem_of_getElem? (i := 70) rfl)) (G.1 _ (List.mem_of_getElem? (i := 71) rfl)) (G.1 _ (List.mem_of_getElem? (i := 72) rfl)) (by decide) (rm_named G O460 vv x1 x2 r1 r2 a1 cs N1 S1) rfl (lenOf pd_15 rfl) rfl (by decide) (own_leb rfl) (by decide) rfl rfl (by decide) (by decide) (wl := []) (fun _ _ q => q.1) all0 at_810 rfl ?_
              rintro _ h461 ⟨Kh461, r, rfl, z1, z2, z3⟩
              show AtS p l e _ s m _ below meth c Z _ _ n0 _ _ _ h461 14 136 (mkF m 813 #[.val (.int k), .val (.int xx), .val (.int y), .val (.ref b0), .val (.int ec), .val (.int cc), .val (.int (Int32.ofNat j)), .val (.int pz), .val (.ref o52), .val (.ref o139), .val (.ref o233), .val (.ref o334), .val (.ref o442), .val (.ref o447), .val (.ref arr), .val (.ref a1), .unset, .unset] [r])
              replace S1 := Str_k0 S1 Kh461
              replace O460 := Old_k0 O460 Kh461
              by_cases q0 : own_off = cs
              · obtain rfl := z1 q0
                show AtS p l e _ s m _ below meth c Z _ _ n0 _ _ _ h461 14 136 (mkF m 813 #[.val (.int k), .val (.int xx), .val (.int y), .val (.ref b0), .val (.int ec), .val (.int cc), .val (.int (Int32.ofNat j)), .val (.int pz), .val (.ref o52), .val (.ref o139), .val (.ref o233), .val (.ref o334), .val (.ref o442), .val (.ref o447), .val (.ref arr), .val (.ref a1), .unset, .unset] [(.ref x1)])
                refine s_astore (q := 815) (L' := #[.val (.int k), .val (.int xx), .val (.int y), .val (.ref b0), .val (.int ec), .val (.int cc), .val (.int (Int32.ofNat j)), .val (.int pz), .val (.ref o52), .val (.ref o139), .val (.ref o233), .val (.ref o334), .val (.ref o442), .val (.ref o447), .val (.ref arr), .val (.ref a1), .val (.ref x1), .unset]) C rfl rfl at_813 rfl ?_
                refine s_aload (q := 817) C rfl rfl at_815 rfl ?_
                refine s_ifnonnull_t (q := 826) C at_817 (by decide) (by decide) ?_
                refine s_aload (q := 828) C rfl rfl at_826 rfl ?_
                refine s_ldc (q := 830) (n := 56) (cells' := 16) (slots' := 196) (vs := [(.int (111 : Int32)), (.int (102 : Int32)), (.int (102 : Int32)), (.int (108 : Int32)), (.int (105 : Int32)), (.int (110 : Int32)), (.int (101 : Int32)), (.int (95 : Int32)), (.int (97 : Int32)), (.int (99 : Int32)), (.int (99 : Int32)), (.int (101 : Int32)), (.int (115 : Int32)), (.int (115 : Int32))]) C G.el G.sa (G.1 _ (List.mem_of_getElem? (i := 0) rfl)) (by decide) (by decide +kernel) (by decide) (by decide +kernel) (by decide) rfl rfl (by decide) (by decide) at_828 rfl ?_
                intro h462 k1 t463 Eh462 e1_k1 e2_k1 e3_k1 e4_k1 hne_k1
                have S_k1 : Str Z h462 k1 [(111 : Int32), (102 : Int32), (102 : Int32), (108 : Int32), (105 : Int32), (110 : Int32), (101 : Int32), (95 : Int32), (97 : Int32), (99 : Int32), (99 : Int32), (101 : Int32), (115 : Int32), (115 : Int32)] := ⟨e1_k1, (own_L1c (by decide) (own_L1c (by decide) (own_L1c (by decide) (own_L1c (by decide) (own_L1c (by decide) (own_L1c (by decide) (own_L1c (by decide) (own_L1c (by decide) (own_L1c (by decide) (own_L1c (by decide) (own_L1c (by decide) (own_L1c (by decide) (own_L1c (by decide) (own_L1c (by decide) (fun c hc => absurd hc List.not_mem_nil))))))))))))))), t463, e2_k1, e3_k1, e4_k1⟩
                have K464 : Keep h461 h462 [] := Keep.of_ext Eh462
                replace S1 := Str_k0 S1 K464
                replace O460 := Old_k0 O460 K464
                refine s_callV1 (q := 833) (argsL := [(.ref k1)]) (S := []) (W := 0) (cells' := 16) (slots' := 196) (a := a1) C S1.1 (G.1 _ (List.mem_of_getElem? (i := 101) rfl)) (G.1 _ (List.mem_of_getElem? (i := 93) rfl)) (s_nf (G.1 _ (List.mem_of_getElem? (i := 95) rfl))) (G.1 _ (List.mem_of_getElem? (i := 95) rfl)) (G.1 _ (List.mem_of_getElem? (i := 94) rfl)) (G.1 _ (List.mem_of_getElem? (i := 1) rfl)) (G.1 _ (List.mem_of_getElem? (i := 96) rfl)) (by decide) (rm_equals G O460 a1 k1 cs own_off S1 S_k1) rfl (lenOf pd_18 rfl) rfl (by decide) (own_leb rfl) (by decide) rfl rfl (by decide) (by decide) (wl := []) (fun _ _ q => by rw [q.1]; exact Keep.refl _ _) all0 at_830 rfl ?_
                rintro _ h465 ⟨eh466, rfl⟩
                rw [eh466]
                show AtS p l e _ s m _ below meth c Z _ _ n0 _ _ _ h462 16 196 (mkF m 833 #[.val (.int k), .val (.int xx), .val (.int y), .val (.ref b0), .val (.int ec), .val (.int cc), .val (.int (Int32.ofNat j)), .val (.int pz), .val (.ref o52), .val (.ref o139), .val (.ref o233), .val (.ref o334), .val (.ref o442), .val (.ref o447), .val (.ref arr), .val (.ref a1), .val (.ref x1), .unset] [(.int (if cs = own_off then (1 : Int32) else (0 : Int32)))])
                rw [show (if cs = own_off then (1 : Int32) else (0 : Int32)) = (1 : Int32) from if_pos q0.symm]
                refine s_if_eq_f (q := 836) C at_833 rfl (by decide) ?_
                refine s_getS (q := 839) (host := "") C (Or.inl (G.1 _ (List.mem_of_getElem? (i := 103) rfl))) Via.refl (SX1.ext O460.2) at_836 rfl ?_
                refine s_astore (q := 841) (L' := #[.val (.int k), .val (.int xx), .val (.int y), .val (.ref b0), .val (.int ec), .val (.int cc), .val (.int (Int32.ofNat j)), .val (.int pz), .val (.ref o52), .val (.ref o139), .val (.ref o233), .val (.ref o334), .val (.ref o442), .val (.ref o447), .val (.ref arr), .val (.ref a1), .val (.ref x1), .val (.ref x1)]) C rfl rfl at_839 rfl ?_
                refine s_goto (q := 865) C at_841 (by decide) (by decide) ?_
                refine s_aload (q := 867) C rfl rfl at_865 rfl ?_
                refine s_aload (q := 869) C rfl rfl at_867 rfl ?_
                refine s_acmp_f (q := 872) C at_869 rfl rfl (same := true) (decide_eq_true rfl) rfl (by decide) rfl ?_
                refine s_iconst (q := 873) (v := (1 : Int32)) C (by rfl) at_872 rfl ?_
                refine s_goto (q := 877) C at_873 (by decide) (by decide) ?_
                exact s_retZ (z := (1 : Int32)) C G.el (t := .boolean) rfl (by simp) (by decide) at_877 (by decide) (by decide) rfl
              · by_cases q1 : own_onl = cs
                · obtain rfl := z2 q0 q1
                  show AtS p l e _ s m _ below meth c Z _ _ n0 _ _ _ h461 14 136 (mkF m 813 #[.val (.int k), .val (.int xx), .val (.int y), .val (.ref b0), .val (.int ec), .val (.int cc), .val (.int (Int32.ofNat j)), .val (.int pz), .val (.ref o52), .val (.ref o139), .val (.ref o233), .val (.ref o334), .val (.ref o442), .val (.ref o447), .val (.ref arr), .val (.ref a1), .unset, .unset] [(.ref x2)])
                  refine s_astore (q := 815) (L' := #[.val (.int k), .val (.int xx), .val (.int y), .val (.ref b0), .val (.int ec), .val (.int cc), .val (.int (Int32.ofNat j)), .val (.int pz), .val (.ref o52), .val (.ref o139), .val (.ref o233), .val (.ref o334), .val (.ref o442), .val (.ref o447), .val (.ref arr), .val (.ref a1), .val (.ref x2), .unset]) C rfl rfl at_813 rfl ?_
                  refine s_aload (q := 817) C rfl rfl at_815 rfl ?_
                  refine s_ifnonnull_t (q := 826) C at_817 (by decide) (by decide) ?_
                  refine s_aload (q := 828) C rfl rfl at_826 rfl ?_
                  refine s_ldc (q := 830) (n := 56) (cells' := 16) (slots' := 196) (vs := [(.int (111 : Int32)), (.int (102 : Int32)), (.int (102 : Int32)), (.int (108 : Int32)), (.int (105 : Int32)), (.int (110 : Int32)), (.int (101 : Int32)), (.int (95 : Int32)), (.int (97 : Int32)), (.int (99 : Int32)), (.int (99 : Int32)), (.int (101 : Int32)), (.int (115 : Int32)), (.int (115 : Int32))]) C G.el G.sa (G.1 _ (List.mem_of_getElem? (i := 0) rfl)) (by decide) (by decide +kernel) (by decide) (by decide +kernel) (by decide) rfl rfl (by decide) (by decide) at_828 rfl ?_
                  intro h467 k1 t468 Eh467 e1_k1 e2_k1 e3_k1 e4_k1 hne_k1
                  have S_k1 : Str Z h467 k1 [(111 : Int32), (102 : Int32), (102 : Int32), (108 : Int32), (105 : Int32), (110 : Int32), (101 : Int32), (95 : Int32), (97 : Int32), (99 : Int32), (99 : Int32), (101 : Int32), (115 : Int32), (115 : Int32)] := ⟨e1_k1, (own_L1c (by decide) (own_L1c (by decide) (own_L1c (by decide) (own_L1c (by decide) (own_L1c (by decide) (own_L1c (by decide) (own_L1c (by decide) (own_L1c (by decide) (own_L1c (by decide) (own_L1c (by decide) (own_L1c (by decide) (own_L1c (by decide) (own_L1c (by decide) (own_L1c (by decide) (fun c hc => absurd hc List.not_mem_nil))))))))))))))), t468, e2_k1, e3_k1, e4_k1⟩
                  have K469 : Keep h461 h467 [] := Keep.of_ext Eh467
                  replace S1 := Str_k0 S1 K469
                  replace O460 := Old_k0 O460 K469
                  refine s_callV1 (q := 833) (argsL := [(.ref k1)]) (S := []) (W := 0) (cells' := 16) (slots' := 196) (a := a1) C S1.1 (G.1 _ (List.mem_of_getElem? (i := 101) rfl)) (G.1 _ (List.mem_of_getElem? (i := 93) rfl)) (s_nf (G.1 _ (List.mem_of_getElem? (i := 95) rfl))) (G.1 _ (List.mem_of_getElem? (i := 95) rfl)) (G.1 _ (List.mem_of_getElem? (i := 94) rfl)) (G.1 _ (List.mem_of_getElem? (i := 1) rfl)) (G.1 _ (List.mem_of_getElem? (i := 96) rfl)) (by decide) (rm_equals G O460 a1 k1 cs own_off S1 S_k1) rfl (lenOf pd_18 rfl) rfl (by decide) (own_leb rfl) (by decide) rfl rfl (by decide) (by decide) (wl := []) (fun _ _ q => by rw [q.1]; exact Keep.refl _ _) all0 at_830 rfl ?_
                  rintro _ h470 ⟨eh471, rfl⟩
                  rw [eh471]
                  show AtS p l e _ s m _ below meth c Z _ _ n0 _ _ _ h467 16 196 (mkF m 833 #[.val (.int k), .val (.int xx), .val (.int y), .val (.ref b0), .val (.int ec), .val (.int cc), .val (.int (Int32.ofNat j)), .val (.int pz), .val (.ref o52), .val (.ref o139), .val (.ref o233), .val (.ref o334), .val (.ref o442), .val (.ref o447), .val (.ref arr), .val (.ref a1), .val (.ref x2), .unset] [(.int (if cs = own_off then (1 : Int32) else (0 : Int32)))])
                  rw [show (if cs = own_off then (1 : Int32) else (0 : Int32)) = (0 : Int32) from if_neg (fun z => q0 z.symm)]
                  refine s_if_eq_t (q := 844) C at_833 (by decide) (by decide) (by decide) ?_
                  refine s_aload (q := 846) C rfl rfl at_844 rfl ?_
                  refine s_ldc (q := 848) (n := 52) (cells' := 18) (slots' := 252) (vs := [(.int (111 : Int32)), (.int (110 : Int32)), (.int (108 : Int32)), (.int (105 : Int32)), (.int (110 : Int32)), (.int (101 : Int32)), (.int (95 : Int32)), (.int (97 : Int32)), (.int (99 : Int32)), (.int (99 : Int32)), (.int (101 : Int32)), (.int (115 : Int32)), (.int (115 : Int32))]) C G.el G.sa (G.1 _ (List.mem_of_getElem? (i := 102) rfl)) (by decide) (by decide +kernel) (by decide) (by decide +kernel) (by decide) rfl rfl (by decide) (by decide) at_846 rfl ?_
                  intro h472 k2 t473 Eh472 e1_k2 e2_k2 e3_k2 e4_k2 hne_k2
                  have S_k2 : Str Z h472 k2 [(111 : Int32), (110 : Int32), (108 : Int32), (105 : Int32), (110 : Int32), (101 : Int32), (95 : Int32), (97 : Int32), (99 : Int32), (99 : Int32), (101 : Int32), (115 : Int32), (115 : Int32)] := ⟨e1_k2, (own_L1c (by decide) (own_L1c (by decide) (own_L1c (by decide) (own_L1c (by decide) (own_L1c (by decide) (own_L1c (by decide) (own_L1c (by decide) (own_L1c (by decide) (own_L1c (by decide) (own_L1c (by decide) (own_L1c (by decide) (own_L1c (by decide) (own_L1c (by decide) (fun c hc => absurd hc List.not_mem_nil)))))))))))))), t473, e2_k2, e3_k2, e4_k2⟩
                  have K474 : Keep h467 h472 [] := Keep.of_ext Eh472
                  replace S1 := Str_k0 S1 K474
                  replace O460 := Old_k0 O460 K474
                  refine s_callV1 (q := 851) (argsL := [(.ref k2)]) (S := []) (W := 0) (cells' := 18) (slots' := 252) (a := a1) C S1.1 (G.1 _ (List.mem_of_getElem? (i := 101) rfl)) (G.1 _ (List.mem_of_getElem? (i := 93) rfl)) (s_nf (G.1 _ (List.mem_of_getElem? (i := 95) rfl))) (G.1 _ (List.mem_of_getElem? (i := 95) rfl)) (G.1 _ (List.mem_of_getElem? (i := 94) rfl)) (G.1 _ (List.mem_of_getElem? (i := 1) rfl)) (G.1 _ (List.mem_of_getElem? (i := 96) rfl)) (by decide) (rm_equals G O460 a1 k2 cs own_onl S1 S_k2) rfl (lenOf pd_18 rfl) rfl (by decide) (own_leb rfl) (by decide) rfl rfl (by decide) (by decide) (wl := []) (fun _ _ q => by rw [q.1]; exact Keep.refl _ _) all0 at_848 rfl ?_
                  rintro _ h475 ⟨eh476, rfl⟩
                  rw [eh476]
                  show AtS p l e _ s m _ below meth c Z _ _ n0 _ _ _ h472 18 252 (mkF m 851 #[.val (.int k), .val (.int xx), .val (.int y), .val (.ref b0), .val (.int ec), .val (.int cc), .val (.int (Int32.ofNat j)), .val (.int pz), .val (.ref o52), .val (.ref o139), .val (.ref o233), .val (.ref o334), .val (.ref o442), .val (.ref o447), .val (.ref arr), .val (.ref a1), .val (.ref x2), .unset] [(.int (if cs = own_onl then (1 : Int32) else (0 : Int32)))])
                  rw [show (if cs = own_onl then (1 : Int32) else (0 : Int32)) = (1 : Int32) from if_pos q1.symm]
                  refine s_if_eq_f (q := 854) C at_851 rfl (by decide) ?_
                  refine s_getS (q := 857) (host := "") C (Or.inl (G.1 _ (List.mem_of_getElem? (i := 105) rfl))) Via.refl (SX2.ext O460.2) at_854 rfl ?_
                  refine s_astore (q := 859) (L' := #[.val (.int k), .val (.int xx), .val (.int y), .val (.ref b0), .val (.int ec), .val (.int cc), .val (.int (Int32.ofNat j)), .val (.int pz), .val (.ref o52), .val (.ref o139), .val (.ref o233), .val (.ref o334), .val (.ref o442), .val (.ref o447), .val (.ref arr), .val (.ref a1), .val (.ref x2), .val (.ref x2)]) C rfl rfl at_857 rfl ?_
                  refine s_goto (q := 865) C at_859 (by decide) (by decide) ?_
                  refine s_aload (q := 867) C rfl rfl at_865 rfl ?_
                  refine s_aload (q := 869) C rfl rfl at_867 rfl ?_
                  refine s_acmp_f (q := 872) C at_869 rfl rfl (same := true) (decide_eq_true rfl) rfl (by decide) rfl ?_
                  refine s_iconst (q := 873) (v := (1 : Int32)) C (by rfl) at_872 rfl ?_
                  refine s_goto (q := 877) C at_873 (by decide) (by decide) ?_
                  exact s_retZ (z := (1 : Int32)) C G.el (t := .boolean) rfl (by simp) (by decide) at_877 (by decide) (by decide) rfl
                · obtain rfl := z3 q0 q1
                  show AtS p l e _ s m _ below meth c Z _ _ n0 _ _ _ h461 14 136 (mkF m 813 #[.val (.int k), .val (.int xx), .val (.int y), .val (.ref b0), .val (.int ec), .val (.int cc), .val (.int (Int32.ofNat j)), .val (.int pz), .val (.ref o52), .val (.ref o139), .val (.ref o233), .val (.ref o334), .val (.ref o442), .val (.ref o447), .val (.ref arr), .val (.ref a1), .unset, .unset] [.null])
                  refine s_astore (q := 815) (L' := #[.val (.int k), .val (.int xx), .val (.int y), .val (.ref b0), .val (.int ec), .val (.int cc), .val (.int (Int32.ofNat j)), .val (.int pz), .val (.ref o52), .val (.ref o139), .val (.ref o233), .val (.ref o334), .val (.ref o442), .val (.ref o447), .val (.ref arr), .val (.ref a1), .val .null, .unset]) C rfl rfl at_813 rfl ?_
                  refine s_aload (q := 817) C rfl rfl at_815 rfl ?_
                  refine s_ifnonnull_t (q := 826) C at_817 (by decide) (by decide) ?_
                  refine s_aload (q := 828) C rfl rfl at_826 rfl ?_
                  refine s_ldc (q := 830) (n := 56) (cells' := 16) (slots' := 196) (vs := [(.int (111 : Int32)), (.int (102 : Int32)), (.int (102 : Int32)), (.int (108 : Int32)), (.int (105 : Int32)), (.int (110 : Int32)), (.int (101 : Int32)), (.int (95 : Int32)), (.int (97 : Int32)), (.int (99 : Int32)), (.int (99 : Int32)), (.int (101 : Int32)), (.int (115 : Int32)), (.int (115 : Int32))]) C G.el G.sa (G.1 _ (List.mem_of_getElem? (i := 0) rfl)) (by decide) (by decide +kernel) (by decide) (by decide +kernel) (by decide) rfl rfl (by decide) (by decide) at_828 rfl ?_
                  intro h477 k1 t478 Eh477 e1_k1 e2_k1 e3_k1 e4_k1 hne_k1
                  have S_k1 : Str Z h477 k1 [(111 : Int32), (102 : Int32), (102 : Int32), (108 : Int32), (105 : Int32), (110 : Int32), (101 : Int32), (95 : Int32), (97 : Int32), (99 : Int32), (99 : Int32), (101 : Int32), (115 : Int32), (115 : Int32)] := ⟨e1_k1, (own_L1c (by decide) (own_L1c (by decide) (own_L1c (by decide) (own_L1c (by decide) (own_L1c (by decide) (own_L1c (by decide) (own_L1c (by decide) (own_L1c (by decide) (own_L1c (by decide) (own_L1c (by decide) (own_L1c (by decide) (own_L1c (by decide) (own_L1c (by decide) (own_L1c (by decide) (fun c hc => absurd hc List.not_mem_nil))))))))))))))), t478, e2_k1, e3_k1, e4_k1⟩
                  have K479 : Keep h461 h477 [] := Keep.of_ext Eh477
                  replace S1 := Str_k0 S1 K479
                  replace O460 := Old_k0 O460 K479
                  refine s_callV1 (q := 833) (argsL := [(.ref k1)]) (S := []) (W := 0) (cells' := 16) (slots' := 196) (a := a1) C S1.1 (G.1 _ (List.mem_of_getElem? (i := 101) rfl)) (G.1 _ (List.mem_of_getElem? (i := 93) rfl)) (s_nf (G.1 _ (List.mem_of_getElem? (i := 95) rfl))) (G.1 _ (List.mem_of_getElem? (i := 95) rfl)) (G.1 _ (List.mem_of_getElem? (i := 94) rfl)) (G.1 _ (List.mem_of_getElem? (i := 1) rfl)) (G.1 _ (List.mem_of_getElem? (i := 96) rfl)) (by decide) (rm_equals G O460 a1 k1 cs own_off S1 S_k1) rfl (lenOf pd_18 rfl) rfl (by decide) (own_leb rfl) (by decide) rfl rfl (by decide) (by decide) (wl := []) (fun _ _ q => by rw [q.1]; exact Keep.refl _ _) all0 at_830 rfl ?_
                  rintro _ h480 ⟨eh481, rfl⟩
                  rw [eh481]
                  show AtS p l e _ s m _ below meth c Z _ _ n0 _ _ _ h477 16 196 (mkF m 833 #[.val (.int k), .val (.int xx), .val (.int y), .val (.ref b0), .val (.int ec), .val (.int cc), .val (.int (Int32.ofNat j)), .val (.int pz), .val (.ref o52), .val (.ref o139), .val (.ref o233), .val (.ref o334), .val (.ref o442), .val (.ref o447), .val (.ref arr), .val (.ref a1), .val .null, .unset] [(.int (if cs = own_off then (1 : Int32) else (0 : Int32)))])
                  rw [show (if cs = own_off then (1 : Int32) else (0 : Int32)) = (0 : Int32) from if_neg (fun z => q0 z.symm)]
                  refine s_if_eq_t (q := 844) C at_833 (by decide) (by decide) (by decide) ?_
                  refine s_aload (q := 846) C rfl rfl at_844 rfl ?_
                  refine s_ldc (q := 848) (n := 52) (cells' := 18) (slots' := 252) (vs := [(.int (111 : Int32)), (.int (110 : Int32)), (.int (108 : Int32)), (.int (105 : Int32)), (.int (110 : Int32)), (.int (101 : Int32)), (.int (95 : Int32)), (.int (97 : Int32)), (.int (99 : Int32)), (.int (99 : Int32)), (.int (101 : Int32)), (.int (115 : Int32)), (.int (115 : Int32))]) C G.el G.sa (G.1 _ (List.mem_of_getElem? (i := 102) rfl)) (by decide) (by decide +kernel) (by decide) (by decide +kernel) (by decide) rfl rfl (by decide) (by decide) at_846 rfl ?_
                  intro h482 k2 t483 Eh482 e1_k2 e2_k2 e3_k2 e4_k2 hne_k2
                  have S_k2 : Str Z h482 k2 [(111 : Int32), (110 : Int32), (108 : Int32), (105 : Int32), (110 : Int32), (101 : Int32), (95 : Int32), (97 : Int32), (99 : Int32), (99 : Int32), (101 : Int32), (115 : Int32), (115 : Int32)] := ⟨e1_k2, (own_L1c (by decide) (own_L1c (by decide) (own_L1c (by decide) (own_L1c (by decide) (own_L1c (by decide) (own_L1c (by decide) (own_L1c (by decide) (own_L1c (by decide) (own_L1c (by decide) (own_L1c (by decide) (own_L1c (by decide) (own_L1c (by decide) (own_L1c (by decide) (fun c hc => absurd hc List.not_mem_nil)))))))))))))), t483, e2_k2, e3_k2, e4_k2⟩
                  have K484 : Keep h477 h482 [] := Keep.of_ext Eh482
                  replace S1 := Str_k0 S1 K484
                  replace O460 := Old_k0 O460 K484
                  refine s_callV1 (q := 851) (argsL := [(.ref k2)]) (S := []) (W := 0) (cells' := 18) (slots' := 252) (a := a1) C S1.1 (G.1 _ (List.mem_of_getElem? (i := 101) rfl)) (G.1 _ (List.mem_of_getElem? (i := 93) rfl)) (s_nf (G.1 _ (List.mem_of_getElem? (i := 95) rfl))) (G.1 _ (List.mem_of_getElem? (i := 95) rfl)) (G.1 _ (List.mem_of_getElem? (i := 94) rfl)) (G.1 _ (List.mem_of_getElem? (i := 1) rfl)) (G.1 _ (List.mem_of_getElem? (i := 96) rfl)) (by decide) (rm_equals G O460 a1 k2 cs own_onl S1 S_k2) rfl (lenOf pd_18 rfl) rfl (by decide) (own_leb rfl) (by decide) rfl rfl (by decide) (by decide) (wl := []) (fun _ _ q => by rw [q.1]; exact Keep.refl _ _) all0 at_848 rfl ?_
                  rintro _ h485 ⟨eh486, rfl⟩
                  rw [eh486]
                  show AtS p l e _ s m _ below meth c Z _ _ n0 _ _ _ h482 18 252 (mkF m 851 #[.val (.int k), .val (.int xx), .val (.int y), .val (.ref b0), .val (.int ec), .val (.int cc), .val (.int (Int32.ofNat j)), .val (.int pz), .val (.ref o52), .val (.ref o139), .val (.ref o233), .val (.ref o334), .val (.ref o442), .val (.ref o447), .val (.ref arr), .val (.ref a1), .val .null, .unset] [(.int (if cs = own_onl then (1 : Int32) else (0 : Int32)))])
                  rw [show (if cs = own_onl then (1 : Int32) else (0 : Int32)) = (0 : Int32) from if_neg (fun z => q1 z.symm)]
                  refine s_if_eq_t (q := 862) C at_851 (by decide) (by decide) (by decide) ?_
                  refine s_aconst_null (q := 863) C at_862 rfl ?_
                  refine s_astore (q := 865) (L' := #[.val (.int k), .val (.int xx), .val (.int y), .val (.ref b0), .val (.int ec), .val (.int cc), .val (.int (Int32.ofNat j)), .val (.int pz), .val (.ref o52), .val (.ref o139), .val (.ref o233), .val (.ref o334), .val (.ref o442), .val (.ref o447), .val (.ref arr), .val (.ref a1), .val .null, .val .null]) C rfl rfl at_863 rfl ?_
                  refine s_aload (q := 867) C rfl rfl at_865 rfl ?_
                  refine s_aload (q := 869) C rfl rfl at_867 rfl ?_
                  refine s_acmp_f (q := 872) C at_869 rfl rfl (same := true) (decide_eq_true rfl) rfl (by decide) rfl ?_
                  refine s_iconst (q := 873) (v := (1 : Int32)) C (by rfl) at_872 rfl ?_
                  refine s_goto (q := 877) C at_873 (by decide) (by decide) ?_
                  exact s_retZ (z := (1 : Int32)) C G.el (t := .boolean) rfl (by simp) (by decide) at_877 (by decide) (by decide) rfl
            by_cases hz : cs = []
            · refine s_new (q := 800) (cells' := 9) (slots' := 119) C (G.1 _ (List.mem_of_getElem? (i := 48) rfl)) (G.1 _ (List.mem_of_getElem? (i := 2) rfl)) (G.1 _ (List.mem_of_getElem? (i := 1) rfl)) rfl rfl (by decide) (by decide) at_797 rfl ?_
              intro h450 a1 g_a1 Eh450 A_a1 D_a1
              have F_value_a1 : Fld Z h450 a1 "java/lang/String" "value" "[B" .null := D_a1 (Or.inr (G.1 _ (List.mem_of_getElem? (i := 4) rfl))) (ty := (.array .byte)) (by decide)
              have F_coder_a1 : Fld Z h450 a1 "java/lang/String" "coder" "B" (.int (0 : Int32)) := D_a1 (Or.inr (G.1 _ (List.mem_of_getElem? (i := 5) rfl))) (ty := .byte) (by decide)
              have ge_a1 : n0 ≤ a1 := by rw [g_a1]; exact Old_le O7
              have K451 : Keep h7 h450 [] := Keep.of_ext Eh450
              have O452 := Old_k0 O7 K451
              refine s_dup (q := 801) C rfl at_800 rfl ?_
              refine s_aload (q := 803) C rfl rfl at_801 rfl ?_
              refine s_callI2 (q := 806) (argsL := [(.ref arr)]) (S := [(.ref a1)]) (W := 1) (cells' := 13) (slots' := 127) (a := a1) C G.el rfl (G.1 _ (List.mem_of_getElem? (i := 49) rfl)) (G.1 _ (List.mem_of_getElem? (i := 50) rfl)) (G.1 _ (List.mem_of_getElem? (i := 1) rfl)) (G.1 _ (List.mem_of_getElem? (i := 51) rfl)) (by decide) (rm_strinite G O452 a1 arr A_a1 F_value_a1 F_coder_a1 ge_a1 (Ar_k0 (by rw [hz] at VA; exact VA) K451)) rfl (lenOf pd_9 rfl) rfl (by decide) (own_leb rfl) (by decide) rfl rfl (by decide) (by decide) at_803 rfl ?_
              rintro _ h453 ⟨Kh453, rfl, S1⟩
              show AtS p l e _ s m _ below meth c Z _ _ n0 _ _ _ h453 13 127 (mkF m 806 #[.val (.int k), .val (.int xx), .val (.int y), .val (.ref b0), .val (.int ec), .val (.int cc), .val (.int (Int32.ofNat j)), .val (.int pz), .val (.ref o52), .val (.ref o139), .val (.ref o233), .val (.ref o334), .val (.ref o442), .val (.ref o447), .val (.ref arr), .unset, .unset, .unset] [(.ref a1)])
              replace S1 : Str Z h453 a1 cs := by rw [hz]; exact S1
              have K454 : Keep h7 h453 [] := own_K1 K451 Kh453 (Nat.le_of_eq g_a1.symm)
              replace O7 := Old_k0 O7 K454
              exact AtS.mono (AtS.mark (AtS.weak (J6 h453 a1 K454 S1) (Nat.le_refl _) (fun x hx => absurd hx List.not_mem_nil))) (by decide) (by decide)
            · replace hz : cs.length ≠ 0 := fun q => hz (List.eq_nil_of_length_eq_zero q)
              refine s_new (q := 800) (cells' := 9) (slots' := 119) C (G.1 _ (List.mem_of_getElem? (i := 48) rfl)) (G.1 _ (List.mem_of_getElem? (i := 2) rfl)) (G.1 _ (List.mem_of_getElem? (i := 1) rfl)) rfl rfl (by decide) (by decide) at_797 rfl ?_
              intro h455 a1 g_a1 Eh455 A_a1 D_a1
              have F_value_a1 : Fld Z h455 a1 "java/lang/String" "value" "[B" .null := D_a1 (Or.inr (G.1 _ (List.mem_of_getElem? (i := 4) rfl))) (ty := (.array .byte)) (by decide)
              have F_coder_a1 : Fld Z h455 a1 "java/lang/String" "coder" "B" (.int (0 : Int32)) := D_a1 (Or.inr (G.1 _ (List.mem_of_getElem? (i := 5) rfl))) (ty := .byte) (by decide)
              have ge_a1 : n0 ≤ a1 := by rw [g_a1]; exact Old_le O7
              have K456 : Keep h7 h455 [] := Keep.of_ext Eh455
              have O457 := Old_k0 O7 K456
              refine s_dup (q := 801) C rfl at_800 rfl ?_
              refine s_aload (q := 803) C rfl rfl at_801 rfl ?_
              refine s_callI1 (q := 806) (argsL := [(.ref arr)]) (S := [(.ref a1)]) (W := 1) (cells' := 10) (slots' := 134) (a := a1) C rfl (G.1 _ (List.mem_of_getElem? (i := 49) rfl)) (G.1 _ (List.mem_of_getElem? (i := 50) rfl)) (G.1 _ (List.mem_of_getElem? (i := 1) rfl)) (G.1 _ (List.mem_of_getElem? (i := 51) rfl)) (by decide) (rm_strinit G O457 a1 arr cs A_a1 F_value_a1 F_coder_a1 ge_a1 (Ar_k0 VA K456) hL hn15 hz) rfl (lenOf pd_9 rfl) rfl (by decide) (own_leb rfl) (by decide) rfl rfl (by decide) (by decide) (wl := [a1]) (fun _ _ q => q.1) (allS (SfOk.mem (by simp)) (all0)) at_803 rfl ?_
              rintro _ h458 ⟨Kh458, rfl, S1⟩
              show AtS p l e _ s m _ below meth c Z _ _ n0 _ _ _ h458 10 134 (mkF m 806 #[.val (.int k), .val (.int xx), .val (.int y), .val (.ref b0), .val (.int ec), .val (.int cc), .val (.int (Int32.ofNat j)), .val (.int pz), .val (.ref o52), .val (.ref o139), .val (.ref o233), .val (.ref o334), .val (.ref o442), .val (.ref o447), .val (.ref arr), .unset, .unset, .unset] [(.ref a1)])
              have K459 : Keep h7 h458 [] := own_K1 K456 Kh458 (Nat.le_of_eq g_a1.symm)
              replace O7 := Old_k0 O7 K459
              exact AtS.mono (AtS.mark (AtS.weak (J6 h458 a1 K459 S1) (Nat.le_refl _) (fun x hx => absurd hx List.not_mem_nil))) (by decide) (by decide)
        refine s_iload (q := 765) C rfl at_763 rfl ?_
        by_cases q5 : pz = 0
        · refine s_if_eq_t (q := 787) C at_765 (by decide) (by decide) q5 ?_
          exact AtS.mono (AtS.mark (AtS.weak (J7 h446 cs0 O50 VA hL hn15) (Nat.le_refl _) (fun x hx => absurd hx List.not_mem_nil))) (by decide) (by decide)
        · refine s_if_eq_f (q := 768) C at_765 rfl q5 ?_
          refine s_aload (q := 770) C rfl rfl at_768 rfl ?_
          refine s_len (q := 771) (z := (Int32.ofNat cs0.length)) C VA (by rw [List.length_map]) at_770 rfl ?_
          by_cases q6 : 0 < (Int32.ofNat cs0.length)
          · refine s_if_le_f (q := 774) C at_771 rfl q6 ?_
            have hnz := own_nz (by omega) q6
            obtain ⟨jj, hjj, ejj⟩ := own_ixr (x := xx) hnz (by omega)
            refine s_aload (q := 776) C rfl rfl at_774 rfl ?_
            refine s_iloadN (q := 777) C rfl at_776 rfl ?_
            refine s_ldcI (q := 779) C (G.1 _ (List.mem_of_getElem? (i := 104) rfl)) at_777 rfl ?_
            refine s_iand (q := 780) C rfl at_779 rfl ?_
            refine s_aload (q := 782) C rfl rfl at_780 rfl ?_
            refine s_len (q := 783) (z := (Int32.ofNat cs0.length)) C VA (by rw [List.length_map]) at_782 rfl ?_
            refine s_irem (q := 784) C (fun z => hnz ((own_neq (n := 0) (by omega) (by omega)).mp z)) rfl at_783 rfl ?_
            rw [show ((xx &&& (2147483647 : Int32)) % (Int32.ofNat cs0.length)) = (Int32.ofNat jj) from ejj]
            refine s_iload (q := 786) C rfl at_784 rfl ?_
            refine s_castore (q := 787) (z := cc) (i := jj) C (own_nar rc.1 rc.2) VA rfl (by rw [List.length_map]; exact hjj) hga at_786 rfl ?_
            intro h487 Wh487 Vh487
            exact AtS.mono (AtS.mark (AtS.weak (J7 h487 (cs0.set jj cc) (O50.wr Wh487 hga) (by rw [List.map_set]; exact Vh487) (hL.set jj rc) (by rw [List.length_set]; exact hn15)) (Nat.le_refl _) (fun x hx => absurd hx List.not_mem_nil))) (by decide) (by decide)
          · refine s_if_le_t (q := 787) C at_771 (by decide) (by decide) q6 ?_
            exact AtS.mono (AtS.mark (AtS.weak (J7 h446 cs0 O50 VA hL hn15) (Nat.le_refl _) (fun x hx => absurd hx List.not_mem_nil))) (by decide) (by decide)
      rcases j with _ | _ | _ | _ | _ | _ | _ | _ | j
      · show AtS p l e _ s m _ below meth c Z _ _ n0 _ _ _ h446 8 115 (mkF m 697 #[.val (.int k), .val (.int xx), .val (.int y), .val (.ref b0), .val (.int ec), .val (.int cc), .val (.int (0 : Int32)), .val (.int pz), .val (.ref o52), .val (.ref o139), .val (.ref o233), .val (.ref o334), .val (.ref o442), .val (.ref o447), .unset, .unset, .unset, .unset] [(.int (0 : Int32))])
        refine s_if_ne_f (q := 700) C at_697 rfl (by decide) ?_
        refine s_aload (q := 702) C rfl rfl at_700 rfl ?_
        refine s_astore (q := 704) (L' := #[.val (.int k), .val (.int xx), .val (.int y), .val (.ref b0), .val (.int ec), .val (.int cc), .val (.int (0 : Int32)), .val (.int pz), .val (.ref o52), .val (.ref o139), .val (.ref o233), .val (.ref o334), .val (.ref o442), .val (.ref o447), .val (.ref o52), .unset, .unset, .unset]) C rfl rfl at_702 rfl ?_
        refine s_goto (q := 763) C at_704 (by decide) (by decide) ?_
        exact J8 o52 [c55, c62, c69, c76, c83, c90, c97, c104, c111, c118, c125, c132] VC12 (own_L1c rc56 (own_L1c rc63 (own_L1c rc70 (own_L1c rc77 (own_L1c rc84 (own_L1c rc91 (own_L1c rc98 (own_L1c rc105 (own_L1c rc112 (own_L1c rc119 (own_L1c rc126 (own_L1c rc133 (fun c hc => absurd hc List.not_mem_nil))))))))))))) (own_leb rfl) ge_o52
      · show AtS p l e _ s m _ below meth c Z _ _ n0 _ _ _ h446 8 115 (mkF m 697 #[.val (.int k), .val (.int xx), .val (.int y), .val (.ref b0), .val (.int ec), .val (.int cc), .val (.int (1 : Int32)), .val (.int pz), .val (.ref o52), .val (.ref o139), .val (.ref o233), .val (.ref o334), .val (.ref o442), .val (.ref o447), .unset, .unset, .unset, .unset] [(.int (1 : Int32))])
        refine s_if_ne_t (q := 707) C at_697 (by decide) (by decide) (by decide) ?_
        refine s_iload (q := 709) C rfl at_707 rfl ?_
        refine s_iconst (q := 710) (v := (1 : Int32)) C (by rfl) at_709 rfl ?_
        refine s_icmp_ne_f (q := 713) C at_710 rfl (by decide) ?_
        refine s_aload (q := 715) C rfl rfl at_713 rfl ?_
        refine s_astore (q := 717) (L' := #[.val (.int k), .val (.int xx), .val (.int y), .val (.ref b0), .val (.int ec), .val (.int cc), .val (.int (1 : Int32)), .val (.int pz), .val (.ref o52), .val (.ref o139), .val (.ref o233), .val (.ref o334), .val (.ref o442), .val (.ref o447), .val (.ref o139), .unset, .unset, .unset]) C rfl rfl at_715 rfl ?_
        refine s_goto (q := 763) C at_717 (by decide) (by decide) ?_
        exact J8 o139 [c142, c149, c156, c163, c170, c177, c184, c191, c198, c205, c212, c219, c226] VC13 (own_L1c rc143 (own_L1c rc150 (own_L1c rc157 (own_L1c rc164 (own_L1c rc171 (own_L1c rc178 (own_L1c rc185 (own_L1c rc192 (own_L1c rc199 (own_L1c rc206 (own_L1c rc213 (own_L1c rc220 (own_L1c rc227 (fun c hc => absurd hc List.not_mem_nil)))))))))))))) (own_leb rfl) ge_o139
      · show AtS p l e _ s m _ below meth c Z _ _ n0 _ _ _ h446 8 115 (mkF m 697 #[.val (.int k), .val (.int xx), .val (.int y), .val (.ref b0), .val (.int ec), .val (.int cc), .val (.int (2 : Int32)), .val (.int pz), .val (.ref o52), .val (.ref o139), .val (.ref o233), .val (.ref o334), .val (.ref o442), .val (.ref o447), .unset, .unset, .unset, .unset] [(.int (2 : Int32))])
        refine s_if_ne_t (q := 707) C at_697 (by decide) (by decide) (by decide) ?_
        refine s_iload (q := 709) C rfl at_707 rfl ?_
        refine s_iconst (q := 710) (v := (1 : Int32)) C (by rfl) at_709 rfl ?_
        refine s_icmp_ne_t (q := 720) C at_710 (by decide) (by decide) (by decide) ?_
        refine s_iload (q := 722) C rfl at_720 rfl ?_
        refine s_iconst (q := 723) (v := (2 : Int32)) C (by rfl) at_722 rfl ?_
        refine s_icmp_ne_f (q := 726) C at_723 rfl (by decide) ?_
        refine s_aload (q := 728) C rfl rfl at_726 rfl ?_
        refine s_astore (q := 730) (L' := #[.val (.int k), .val (.int xx), .val (.int y), .val (.ref b0), .val (.int ec), .val (.int cc), .val (.int (2 : Int32)), .val (.int pz), .val (.ref o52), .val (.ref o139), .val (.ref o233), .val (.ref o334), .val (.ref o442), .val (.ref o447), .val (.ref o233), .unset, .unset, .unset]) C rfl rfl at_728 rfl ?_
        refine s_goto (q := 763) C at_730 (by decide) (by decide) ?_
        exact J8 o233 [c236, c243, c250, c257, c264, c271, c278, c285, c292, c299, c306, c313, c320, c327] VC14 (own_L1c rc237 (own_L1c rc244 (own_L1c rc251 (own_L1c rc258 (own_L1c rc265 (own_L1c rc272 (own_L1c rc279 (own_L1c rc286 (own_L1c rc293 (own_L1c rc300 (own_L1c rc307 (own_L1c rc314 (own_L1c rc321 (own_L1c rc328 (fun c hc => absurd hc List.not_mem_nil))))))))))))))) (own_leb rfl) ge_o233
      · show AtS p l e _ s m _ below meth c Z _ _ n0 _ _ _ h446 8 115 (mkF m 697 #[.val (.int k), .val (.int xx), .val (.int y), .val (.ref b0), .val (.int ec), .val (.int cc), .val (.int (3 : Int32)), .val (.int pz), .val (.ref o52), .val (.ref o139), .val (.ref o233), .val (.ref o334), .val (.ref o442), .val (.ref o447), .unset, .unset, .unset, .unset] [(.int (3 : Int32))])
        refine s_if_ne_t (q := 707) C at_697 (by decide) (by decide) (by decide) ?_
        refine s_iload (q := 709) C rfl at_707 rfl ?_
        refine s_iconst (q := 710) (v := (1 : Int32)) C (by rfl) at_709 rfl ?_
        refine s_icmp_ne_t (q := 720) C at_710 (by decide) (by decide) (by decide) ?_
        refine s_iload (q := 722) C rfl at_720 rfl ?_
        refine s_iconst (q := 723) (v := (2 : Int32)) C (by rfl) at_722 rfl ?_
        refine s_icmp_ne_t (q := 733) C at_723 (by decide) (by decide) (by decide) ?_
        refine s_iload (q := 735) C rfl at_733 rfl ?_
        refine s_iconst (q := 736) (v := (3 : Int32)) C (by rfl) at_735 rfl ?_
        refine s_icmp_ne_f (q := 739) C at_736 rfl (by decide) ?_
        refine s_aload (q := 741) C rfl rfl at_739 rfl ?_
        refine s_astore (q := 743) (L' := #[.val (.int k), .val (.int xx), .val (.int y), .val (.ref b0), .val (.int ec), .val (.int cc), .val (.int (3 : Int32)), .val (.int pz), .val (.ref o52), .val (.ref o139), .val (.ref o233), .val (.ref o334), .val (.ref o442), .val (.ref o447), .val (.ref o334), .unset, .unset, .unset]) C rfl rfl at_741 rfl ?_
        refine s_goto (q := 763) C at_743 (by decide) (by decide) ?_
        exact J8 o334 [c337, c344, c351, c358, c365, c372, c379, c386, c393, c400, c407, c414, c421, c428, c435] VC15 (own_L1c rc338 (own_L1c rc345 (own_L1c rc352 (own_L1c rc359 (own_L1c rc366 (own_L1c rc373 (own_L1c rc380 (own_L1c rc387 (own_L1c rc394 (own_L1c rc401 (own_L1c rc408 (own_L1c rc415 (own_L1c rc422 (own_L1c rc429 (own_L1c rc436 (fun c hc => absurd hc List.not_mem_nil)))))))))))))))) (own_leb rfl) ge_o334
      · show AtS p l e _ s m _ below meth c Z _ _ n0 _ _ _ h446 8 115 (mkF m 697 #[.val (.int k), .val (.int xx), .val (.int y), .val (.ref b0), .val (.int ec), .val (.int cc), .val (.int (4 : Int32)), .val (.int pz), .val (.ref o52), .val (.ref o139), .val (.ref o233), .val (.ref o334), .val (.ref o442), .val (.ref o447), .unset, .unset, .unset, .unset] [(.int (4 : Int32))])
        refine s_if_ne_t (q := 707) C at_697 (by decide) (by decide) (by decide) ?_
        refine s_iload (q := 709) C rfl at_707 rfl ?_
        refine s_iconst (q := 710) (v := (1 : Int32)) C (by rfl) at_709 rfl ?_
        refine s_icmp_ne_t (q := 720) C at_710 (by decide) (by decide) (by decide) ?_
        refine s_iload (q := 722) C rfl at_720 rfl ?_
        refine s_iconst (q := 723) (v := (2 : Int32)) C (by rfl) at_722 rfl ?_
        refine s_icmp_ne_t (q := 733) C at_723 (by decide) (by decide) (by decide) ?_
        refine s_iload (q := 735) C rfl at_733 rfl ?_
        refine s_iconst (q := 736) (v := (3 : Int32)) C (by rfl) at_735 rfl ?_
        refine s_icmp_ne_t (q := 746) C at_736 (by decide) (by decide) (by decide) ?_
        refine s_iload (q := 748) C rfl at_746 rfl ?_
        refine s_iconst (q := 749) (v := (5 : Int32)) C (by rfl) at_748 rfl ?_
        refine s_icmp_ne_t (q := 759) C at_749 (by decide) (by decide) (by decide) ?_
        refine s_aload (q := 761) C rfl rfl at_759 rfl ?_
        refine s_astore (q := 763) (L' := #[.val (.int k), .val (.int xx), .val (.int y), .val (.ref b0), .val (.int ec), .val (.int cc), .val (.int (4 : Int32)), .val (.int pz), .val (.ref o52), .val (.ref o139), .val (.ref o233), .val (.ref o334), .val (.ref o442), .val (.ref o447), .val (.ref o442), .unset, .unset, .unset]) C rfl rfl at_761 rfl ?_
        exact J8 o442 [cc] VC1 (own_L1c rc (fun c hc => absurd hc List.not_mem_nil)) (own_leb rfl) ge_o442
      · show AtS p l e _ s m _ below meth c Z _ _ n0 _ _ _ h446 8 115 (mkF m 697 #[.val (.int k), .val (.int xx), .val (.int y), .val (.ref b0), .val (.int ec), .val (.int cc), .val (.int (5 : Int32)), .val (.int pz), .val (.ref o52), .val (.ref o139), .val (.ref o233), .val (.ref o334), .val (.ref o442), .val (.ref o447), .unset, .unset, .unset, .unset] [(.int (5 : Int32))])
        refine s_if_ne_t (q := 707) C at_697 (by decide) (by decide) (by decide) ?_
        refine s_iload (q := 709) C rfl at_707 rfl ?_
        refine s_iconst (q := 710) (v := (1 : Int32)) C (by rfl) at_709 rfl ?_
        refine s_icmp_ne_t (q := 720) C at_710 (by decide) (by decide) (by decide) ?_
        refine s_iload (q := 722) C rfl at_720 rfl ?_
        refine s_iconst (q := 723) (v := (2 : Int32)) C (by rfl) at_722 rfl ?_
        refine s_icmp_ne_t (q := 733) C at_723 (by decide) (by decide) (by decide) ?_
        refine s_iload (q := 735) C rfl at_733 rfl ?_
        refine s_iconst (q := 736) (v := (3 : Int32)) C (by rfl) at_735 rfl ?_
        refine s_icmp_ne_t (q := 746) C at_736 (by decide) (by decide) (by decide) ?_
        refine s_iload (q := 748) C rfl at_746 rfl ?_
        refine s_iconst (q := 749) (v := (5 : Int32)) C (by rfl) at_748 rfl ?_
        refine s_icmp_ne_f (q := 752) C at_749 rfl (by decide) ?_
        refine s_aload (q := 754) C rfl rfl at_752 rfl ?_
        refine s_astore (q := 756) (L' := #[.val (.int k), .val (.int xx), .val (.int y), .val (.ref b0), .val (.int ec), .val (.int cc), .val (.int (5 : Int32)), .val (.int pz), .val (.ref o52), .val (.ref o139), .val (.ref o233), .val (.ref o334), .val (.ref o442), .val (.ref o447), .val (.ref o447), .unset, .unset, .unset]) C rfl rfl at_754 rfl ?_
        refine s_goto (q := 763) C at_756 (by decide) (by decide) ?_
        exact J8 o447 [] VC0 (fun c hc => absurd hc List.not_mem_nil) (own_leb rfl) ge_o447
      · show AtS p l e _ s m _ below meth c Z _ _ n0 _ _ _ h446 8 115 (mkF m 697 #[.val (.int k), .val (.int xx), .val (.int y), .val (.ref b0), .val (.int ec), .val (.int cc), .val (.int (6 : Int32)), .val (.int pz), .val (.ref o52), .val (.ref o139), .val (.ref o233), .val (.ref o334), .val (.ref o442), .val (.ref o447), .unset, .unset, .unset, .unset] [(.int (6 : Int32))])
        refine s_if_ne_t (q := 707) C at_697 (by decide) (by decide) (by decide) ?_
        refine s_iload (q := 709) C rfl at_707 rfl ?_
        refine s_iconst (q := 710) (v := (1 : Int32)) C (by rfl) at_709 rfl ?_
        refine s_icmp_ne_t (q := 720) C at_710 (by decide) (by decide) (by decide) ?_
        refine s_iload (q := 722) C rfl at_720 rfl ?_
        refine s_iconst (q := 723) (v := (2 : Int32)) C (by rfl) at_722 rfl ?_
        refine s_icmp_ne_t (q := 733) C at_723 (by decide) (by decide) (by decide) ?_
        refine s_iload (q := 735) C rfl at_733 rfl ?_
        refine s_iconst (q := 736) (v := (3 : Int32)) C (by rfl) at_735 rfl ?_
        refine s_icmp_ne_t (q := 746) C at_736 (by decide) (by decide) (by decide) ?_
        refine s_iload (q := 748) C rfl at_746 rfl ?_
        refine s_iconst (q := 749) (v := (5 : Int32)) C (by rfl) at_748 rfl ?_
        refine s_icmp_ne_t (q := 759) C at_749 (by decide) (by decide) (by decide) ?_
        refine s_aload (q := 761) C rfl rfl at_759 rfl ?_
        refine s_astore (q := 763) (L' := #[.val (.int k), .val (.int xx), .val (.int y), .val (.ref b0), .val (.int ec), .val (.int cc), .val (.int (6 : Int32)), .val (.int pz), .val (.ref o52), .val (.ref o139), .val (.ref o233), .val (.ref o334), .val (.ref o442), .val (.ref o447), .val (.ref o442), .unset, .unset, .unset]) C rfl rfl at_761 rfl ?_
        exact J8 o442 [cc] VC1 (own_L1c rc (fun c hc => absurd hc List.not_mem_nil)) (own_leb rfl) ge_o442
      · show AtS p l e _ s m _ below meth c Z _ _ n0 _ _ _ h446 8 115 (mkF m 697 #[.val (.int k), .val (.int xx), .val (.int y), .val (.ref b0), .val (.int ec), .val (.int cc), .val (.int (7 : Int32)), .val (.int pz), .val (.ref o52), .val (.ref o139), .val (.ref o233), .val (.ref o334), .val (.ref o442), .val (.ref o447), .unset, .unset, .unset, .unset] [(.int (7 : Int32))])
        refine s_if_ne_t (q := 707) C at_697 (by decide) (by decide) (by decide) ?_
        refine s_iload (q := 709) C rfl at_707 rfl ?_
        refine s_iconst (q := 710) (v := (1 : Int32)) C (by rfl) at_709 rfl ?_
        refine s_icmp_ne_t (q := 720) C at_710 (by decide) (by decide) (by decide) ?_
        refine s_iload (q := 722) C rfl at_720 rfl ?_
        refine s_iconst (q := 723) (v := (2 : Int32)) C (by rfl) at_722 rfl ?_
        refine s_icmp_ne_t (q := 733) C at_723 (by decide) (by decide) (by decide) ?_
        refine s_iload (q := 735) C rfl at_733 rfl ?_
        refine s_iconst (q := 736) (v := (3 : Int32)) C (by rfl) at_735 rfl ?_
        refine s_icmp_ne_t (q := 746) C at_736 (by decide) (by decide) (by decide) ?_
        refine s_iload (q := 748) C rfl at_746 rfl ?_
        refine s_iconst (q := 749) (v := (5 : Int32)) C (by rfl) at_748 rfl ?_
        refine s_icmp_ne_t (q := 759) C at_749 (by decide) (by decide) (by decide) ?_
        refine s_aload (q := 761) C rfl rfl at_759 rfl ?_
        refine s_astore (q := 763) (L' := #[.val (.int k), .val (.int xx), .val (.int y), .val (.ref b0), .val (.int ec), .val (.int cc), .val (.int (7 : Int32)), .val (.int pz), .val (.ref o52), .val (.ref o139), .val (.ref o233), .val (.ref o334), .val (.ref o442), .val (.ref o447), .val (.ref o442), .unset, .unset, .unset]) C rfl rfl at_761 rfl ?_
        exact J8 o442 [cc] VC1 (own_L1c rc (fun c hc => absurd hc List.not_mem_nil)) (own_leb rfl) ge_o442
      · exact absurd hj (by omega)
    by_cases q9 : (((k.toUInt32 >>> ((4 : Int32) &&& 31).toUInt32).toInt32) &&& (1 : Int32)) = 0
    · refine s_if_eq_t (q := 53) C at_46 (by decide) (by decide) q9 ?_
      refine s_iconst (q := 54) (v := (0 : Int32)) C (by rfl) at_53 rfl ?_
      exact J5 _
    · refine s_if_eq_f (q := 49) C at_46 rfl q9 ?_
      refine s_iconst (q := 50) (v := (1 : Int32)) C (by rfl) at_49 rfl ?_
      refine s_goto (q := 54) C at_50 (by decide) (by decide) ?_
      exact J5 _
  by_cases q0 : (k &&& (1 : Int32)) = 0
  · refine s_if_ne_f (q := 6) C at_3 rfl q0 ?_
    refine s_ldc (q := 8) (n := 56) (cells' := 2) (slots' := 60) (vs := [(.int (111 : Int32)), (.int (102 : Int32)), (.int (102 : Int32)), (.int (108 : Int32)), (.int (105 : Int32)), (.int (110 : Int32)), (.int (101 : Int32)), (.int (95 : Int32)), (.int (97 : Int32)), (.int (99 : Int32)), (.int (99 : Int32)), (.int (101 : Int32)), (.int (115 : Int32)), (.int (115 : Int32))]) C G.el G.sa (G.1 _ (List.mem_of_getElem? (i := 0) rfl)) (by decide) (by decide +kernel) (by decide) (by decide +kernel) (by decide) rfl rfl (by decide) (by decide) at_6 rfl ?_
    intro h44 b0 t45 Eh44 e1_b0 e2_b0 e3_b0 e4_b0 hne_b0
    have S_b0 : Str Z h44 b0 [(111 : Int32), (102 : Int32), (102 : Int32), (108 : Int32), (105 : Int32), (110 : Int32), (101 : Int32), (95 : Int32), (97 : Int32), (99 : Int32), (99 : Int32), (101 : Int32), (115 : Int32), (115 : Int32)] := ⟨e1_b0, (own_L1c (by decide) (own_L1c (by decide) (own_L1c (by decide) (own_L1c (by decide) (own_L1c (by decide) (own_L1c (by decide) (own_L1c (by decide) (own_L1c (by decide) (own_L1c (by decide) (own_L1c (by decide) (own_L1c (by decide) (own_L1c (by decide) (own_L1c (by decide) (own_L1c (by decide) (fun c hc => absurd hc List.not_mem_nil))))))))))))))), t45, e2_b0, e3_b0, e4_b0⟩
    have K46 : Keep h0 h44 [] := Keep.of_ext Eh44
    replace O := Old_k0 O K46
    refine s_goto (q := 13) C at_8 (by decide) (by decide) ?_
    refine s_astoreN (q := 14) (L' := #[.val (.int k), .val (.int xx), .val (.int y), .val (.ref b0), .unset, .unset, .unset, .unset, .unset, .unset, .unset, .unset, .unset, .unset, .unset, .unset, .unset, .unset]) C rfl rfl at_13 rfl ?_
    exact AtS.mono (AtS.mark (AtS.weak (J1 h44 b0 _ K46 S_b0) (Nat.le_refl _) (fun x hx => absurd hx List.not_mem_nil))) (by decide) (by decide)
  · refine s_if_ne_t (q := 11) C at_3 (by decide) (by decide) q0 ?_
    refine s_ldc (q := 13) (n := 52) (cells' := 2) (slots' := 56) (vs := [(.int (111 : Int32)), (.int (110 : Int32)), (.int (108 : Int32)), (.int (105 : Int32)), (.int (110 : Int32)), (.int (101 : Int32)), (.int (95 : Int32)), (.int (97 : Int32)), (.int (99 : Int32)), (.int (99 : Int32)), (.int (101 : Int32)), (.int (115 : Int32)), (.int (115 : Int32))]) C G.el G.sa (G.1 _ (List.mem_of_getElem? (i := 102) rfl)) (by decide) (by decide +kernel) (by decide) (by decide +kernel) (by decide) rfl rfl (by decide) (by decide) at_11 rfl ?_
    intro h47 b0 t48 Eh47 e1_b0 e2_b0 e3_b0 e4_b0 hne_b0
    have S_b0 : Str Z h47 b0 [(111 : Int32), (110 : Int32), (108 : Int32), (105 : Int32), (110 : Int32), (101 : Int32), (95 : Int32), (97 : Int32), (99 : Int32), (99 : Int32), (101 : Int32), (115 : Int32), (115 : Int32)] := ⟨e1_b0, (own_L1c (by decide) (own_L1c (by decide) (own_L1c (by decide) (own_L1c (by decide) (own_L1c (by decide) (own_L1c (by decide) (own_L1c (by decide) (own_L1c (by decide) (own_L1c (by decide) (own_L1c (by decide) (own_L1c (by decide) (own_L1c (by decide) (own_L1c (by decide) (fun c hc => absurd hc List.not_mem_nil)))))))))))))), t48, e2_b0, e3_b0, e4_b0⟩
    have K49 : Keep h0 h47 [] := Keep.of_ext Eh47
    replace O := Old_k0 O K49
    refine s_astoreN (q := 14) (L' := #[.val (.int k), .val (.int xx), .val (.int y), .val (.ref b0), .unset, .unset, .unset, .unset, .unset, .unset, .unset, .unset, .unset, .unset, .unset, .unset, .unset, .unset]) C rfl rfl at_13 rfl ?_
    exact AtS.mono (AtS.mark (AtS.weak (J1 h47 b0 _ K49 S_b0) (Nat.le_refl _) (fun x hx => absurd hx List.not_mem_nil))) (by decide) (by decide)
set_option maxRecDepth 65536 in
set_option maxHeartbeats 40000000 in
theorem comes_1 {Post : Tables → Env → Array Value → State → Outcome → State → Prop} (hpost : ∀ tb e args s v u, (limb_1_1.after args s (.returned v) u = true ∧ limb_1_2.after args s (.returned v) u = true ∧ True) → ReturnedEndW s (.returned v) u (Jvm.fieldLocs frame_1_writes args s ++ Jvm.arrayLocs frame_1_arrays args s ++ Jvm.staticLocs frame_1_statics s) 32 3328 → Post tb e args s (.returned v) u) :
    ArmFor flags0 classFile x code maxLocals ret World_1 tables_1 room_1 Calls_1 rest_1 Pre_1 Post := by
  intro l hfl _ _ p e ha hc hk s m args below hf hA hF happ hP
  obtain ⟨hcalls, hrest, hpre⟩ := hP
  obtain ⟨-, -, -, hnamed, -, -, -, hat⟩ := (Spec.applies_iff hf).mp happ
  obtain ⟨hg, hn⟩ := and_e (Cond.before_iff.mp (show (Jvm.Cond.and given_1 narrow_1).before args s = true from hpre))
  obtain ⟨hcount, hg0⟩ := and_e hg
  obtain ⟨ha0, hg1⟩ := and_e hg0
  obtain ⟨ha1, hg2⟩ := and_e hg1
  have ha2 := hg2
  obtain ⟨w0, w1, w2, rfl⟩ : ∃ w0 w1 w2 : Value, args = #[w0, w1, w2] := by
    have hs : args.size = 3 := by simpa [Cond.value, given_1] using hcount
    obtain ⟨L⟩ := args
    match L, hs with
    | [w0, w1, w2], _ => exact ⟨w0, w1, w2, rfl⟩
  have hw := fun d (hd : d ∈ tables_1) => atoms_spec (ws := Jvm.Cond.code x code maxLocals ret :: tables_1) hat d (List.mem_cons_of_mem _ hd)
  have hfit : Fit s := fun {y c} hc i hi => by
    obtain ⟨ha, rfl⟩ := Array.getElem?_eq_some_iff.mp hc
    have q := List.all_eq_true.mp ((Array.all_eq_true_iff_forall_mem.mp hF) _ (Array.getElem_mem ha)) i (List.mem_range.mpr hi)
    simpa [Array.getElem?_eq_getElem hi] using q
  obtain ⟨i0, e0⟩ := is_v ha0
  obtain rfl : w0 = (.int i0) := Option.some.inj e0
  obtain ⟨i1, e1⟩ := is_v ha1
  obtain rfl : w1 = (.int i1) := Option.some.inj e1
  obtain ⟨i2, e2⟩ := is_v ha2
  obtain rfl : w2 = (.int i2) := Option.some.inj e2
  obtain ⟨hsets, hown0⟩ := atoms_of _ (rest_1_c_eq ▸ (show rest_1_c.before _ s = true from hrest))
  have hcs1 := not_v (Cond.before_iff.mp (hsets _ (List.mem_of_getElem? (i := 2) rfl)))
  obtain ⟨zc, ezc⟩ := is_v (Cond.before_iff.mp (hsets _ (List.mem_of_getElem? (i := 1) rfl)))
  have Scs : Sta s s.heap "java/lang/String" "COMPACT_STRINGS" "Z" (.int zc) := Sta.start ezc (Or.inl (hsets _ (List.mem_of_getElem? (i := 0) rfl)))
  have hzc : ¬ (zc = (0 : Int32)) := gotF (Cond.eq_ints ezc (Term.int_eval (0))) hcs1
  obtain ⟨vfm, efm, rfm⟩ := isR_v (Cond.before_iff.mp (hsets _ (List.mem_of_getElem? (i := 8) rfl)))
  have Sfm : Sta s s.heap "jdk/internal/util/Preconditions" "SIOOBE_FORMATTER" "Ljava/util/function/BiFunction;" vfm := Sta.start efm (Or.inl (hsets _ (List.mem_of_getElem? (i := 7) rfl)))
  have hEL : EW s #[(.int i0), (.int i1), (.int i2)] consts_1 := (EW.cons (hw _ (List.mem_of_getElem? (i := 0) rfl)) (by decide +kernel) (EW.cons (hw _ (List.mem_of_getElem? (i := 102) rfl)) (by decide +kernel) (EW.cons (hw _ (List.mem_of_getElem? (i := 106) rfl)) (by decide +kernel) EW.nil)))
  have hn' := hn
  obtain ⟨m0, hn'⟩ := and_e hn'
  obtain ⟨m1, hn'⟩ := and_e hn'
  obtain ⟨m2, hn'⟩ := and_e hn'
  obtain ⟨m3, hn'⟩ := and_e hn'
  obtain ⟨m4, hn'⟩ := and_e hn'
  obtain ⟨m5, hn'⟩ := and_e hn'
  obtain ⟨m6, hn'⟩ := and_e hn'
  obtain ⟨m7, hn'⟩ := and_e hn'
  obtain ⟨m8, hn'⟩ := and_e hn'
  obtain ⟨m9, hn'⟩ := and_e hn'
  obtain ⟨m10, hn'⟩ := and_e hn'
  obtain ⟨m11, hn'⟩ := and_e hn'
  obtain ⟨m12, hn'⟩ := and_e hn'
  obtain ⟨m13, hn'⟩ := and_e hn'
  obtain ⟨m14, hn'⟩ := and_e hn'
  obtain ⟨m15, hn'⟩ := and_e hn'
  obtain ⟨m16, hn'⟩ := and_e hn'
  obtain ⟨m17, hn'⟩ := and_e hn'
  obtain ⟨m18, hn'⟩ := and_e hn'
  obtain ⟨m19, hn'⟩ := and_e hn'
  obtain ⟨m20, hn'⟩ := and_e hn'
  obtain ⟨m21, hn'⟩ := and_e hn'
  obtain ⟨m22, hn'⟩ := and_e hn'
  obtain ⟨m23, hn'⟩ := and_e hn'
  obtain ⟨m24, hn'⟩ := and_e hn'
  obtain ⟨m25, hn'⟩ := and_e hn'
  obtain ⟨m26, hn'⟩ := and_e hn'
  obtain ⟨m27, hn'⟩ := and_e hn'
  obtain ⟨m28, hn'⟩ := and_e hn'
  obtain ⟨m29, hn'⟩ := and_e hn'
  obtain ⟨m30, hn'⟩ := and_e hn'
  obtain ⟨m31, hn'⟩ := and_e hn'
  obtain ⟨m32, hn'⟩ := and_e hn'
  obtain ⟨m33, hn'⟩ := and_e hn'
  obtain ⟨m34, hn'⟩ := and_e hn'
  obtain ⟨m35, hn'⟩ := and_e hn'
  obtain ⟨m36, hn'⟩ := and_e hn'
  obtain ⟨m37, hn'⟩ := and_e hn'
  obtain ⟨m38, hn'⟩ := and_e hn'
  obtain ⟨m39, hn'⟩ := and_e hn'
  obtain ⟨m40, hn'⟩ := and_e hn'
  have m41 := hn'
  obtain ⟨vv, evv⟩ := exa_v m1
  obtain ⟨x1, ex1⟩ := exa_v m3
  obtain ⟨x2, ex2⟩ := exa_v m5
  have SVV : Sta s s.heap "com/example/anteroom/anteroom/scopes/RefreshScope" "$VALUES" "[Lcom/example/anteroom/anteroom/scopes/RefreshScope;" (.ref vv) := Sta.start evv (Or.inl (hw _ (List.mem_of_getElem? (i := 87) rfl)))
  have SX1 : Sta s s.heap "com/example/anteroom/anteroom/scopes/RefreshScope" "OFFLINE" "Lcom/example/anteroom/anteroom/scopes/RefreshScope;" (.ref x1) := Sta.start ex1 (Or.inr ⟨(hw _ (List.mem_of_getElem? (i := 71) rfl)), (hw _ (List.mem_of_getElem? (i := 85) rfl))⟩)
  have SX2 : Sta s s.heap "com/example/anteroom/anteroom/scopes/RefreshScope" "ONLINE" "Lcom/example/anteroom/anteroom/scopes/RefreshScope;" (.ref x2) := Sta.start ex2 (Or.inr ⟨(hw _ (List.mem_of_getElem? (i := 71) rfl)), (hw _ (List.mem_of_getElem? (i := 86) rfl))⟩)
  have EVV := Exa.start evv m1
  have AVV := own_vals hfit evv m0 m2 (Cond.eq_refs (Cond.before_iff.mpr m4) ex1 rfl) (Cond.eq_refs (Cond.before_iff.mpr m6) ex2 rfl)
  obtain ⟨r1, FR1, SR1⟩ := own_ent hfit own_L1off own_bsoff (by decide) ex1 m7 m8 m9 m10 ⟨m15, m16, m17, m18, m19, m20, m21, m22, m23, m24, m25, m26, m27, m28, trivial⟩
  obtain ⟨r2, FR2, SR2⟩ := own_ent hfit own_L1onl own_bsonl (by decide) ex2 m11 m12 m13 m14 ⟨m29, m30, m31, m32, m33, m34, m35, m36, m37, m38, m39, m40, m41, trivial⟩
  have G : Gl s #[(.int i0), (.int i1), (.int i2)] s.heap.size := ⟨hw, ⟨zc, Scs, hzc⟩, ⟨vfm, Sfm, rfm, by rcases ref_cases rfm with rfl | ⟨a, rfl⟩ <;> rfl⟩, hEL, ⟨vv, x1, x2, r1, r2, SVV, EVV, AVV, SX1, SX2, FR1, SR1, FR2, SR2⟩, trivial⟩
  have hCH : CHv s consts_1 s.vm s.heap := CHv.start hEL (fun q hq => hcalls.1 q hq) (show Jvm.Lit.compactW.before #[(.int i0), (.int i1), (.int i2)] s = true from (hsets _ (List.mem_of_getElem? (i := 2) rfl))) (G.sa _ (by simp [Bundle.stringAtoms])) (G.sa _ (by simp [Bundle.stringAtoms, Bundle.sN]))
  obtain ⟨n, o, h1, h2, h3, v, L, rfl, ⟨N, hQ⟩, -, hq⟩ := rm_law (l := l) G (Old.start s) i0 i1 i2 p e ha hc hk s m _ below hf ((Spec.applies_iff_loose hf).mp happ).1 ⟨rfl, State.Warmed39.refl s, rfl, hCH⟩ trivial
  obtain rfl : v = some (.int 1) := hQ
  refine ⟨n, _, h1, h2, h3, hpost _ _ _ _ _ _ ⟨Cond.after_iff.mpr rfl, Cond.after_iff.mpr (eq_i res_at (Term.int_eval (1)) rfl), trivial⟩ ⟨hq.1, hq.2.1, hq.2.2.1, (hq.2.2.2.sift fun y hy => Or.inr (N y hy)).mono (by decide) (by decide)⟩⟩
theorem main_1_1 : Claimed_1_1 := comes_1 fun _ _ _ _ _ _ h hF => ⟨h.1, hF⟩
theorem main_1_2 : Claimed_1_2 := comes_1 fun _ _ _ _ _ _ h hF => ⟨h.2.1, hF⟩
end Jvm.Pilot.@@N@@
namespace Jvm.Pilot.@@N@@
open Jvm Jvm.ClassFile Sem Op Lib Jvm.Free Jvm.Stand Jvm.Pilot.@@N@@.Jvm.D
/-! MADE BY PROGRAM (witnessworld.py) out of the Statement's table words and the real class files: 22 classes; the members and pool entries that the words name. The judged class is class 1, her method 2. -/
namespace start1
open Jvm.ClassFile
def u (s : String) : CpInfo := .utf8 (stringToUtf16 s)
/-- a pool by its gaps: so many unusable entries, then the entry; so many at the end -/
def gap : Nat → List CpInfo → List CpInfo
  | 0, r => r
  | n + 1, r => .unusable :: gap n r
def poolList (es : List (Nat × CpInfo)) (last : Nat) : List CpInfo := es.foldr (fun e r => gap e.1 (e.2 :: r)) (gap last [])
def pool (es : List (Nat × CpInfo)) (last : Nat) : Array CpInfo := ⟨poolList es last⟩
def fileOf (pool : Array CpInfo) (this : Nat) (attrs : Array Attribute := #[]) (ms : Array MethodInfo := #[]) (fl : Nat := 33) (sup : Nat := 0) (ifs : Array Nat := #[]) (fds : Array FieldInfo := #[]) : ClassFile where
  minorVersion := 0
  majorVersion := 65
  constantPool := pool
  accessFlags := fl
  thisClass := this
  superClass := sup
  interfaces := ifs
  fields := fds
  methods := ms
  attributes := attrs
def plain (name : String) (sup : Option ClassId) : Class where
  name := name
  kind := .ordinary
  loader := none
  accessFlags := 33
  super := sup
  interfaces := #[]
  cf := none
  fields := #[]
  methods := #[]
  instanceTypes := #[]
  staticTypes := #[]
  resolved := #[]
  callSites := []
  init := .initialized
  statics := none
  mirror := none

def pool0 : Array CpInfo := pool [(5, u "<init>"), (0, u "()V"), (1, .class_ 10), (1, u "java/lang/Object"), (85, u "clone"), (0, u "()Ljava/lang/Object;")] 26

def k0c0 : Code := { maxStack := 0, maxLocals := 1, code := object_method_1_code, exceptionTable := #[], attributes := #[] }
def k0m0 : Method := { name := "<init>", desc := "()V", sig := { parameters := [], returnType := none }, accessFlags := 1, code := some k0c0 }
def k0m1 : Method := { name := "clone", desc := "()Ljava/lang/Object;", sig := { parameters := [], returnType := some (.object "java/lang/Object") }, accessFlags := 260, code := none }
/-- java/lang/Object -/
def k0 : Class := { plain "java/lang/Object" none with
  accessFlags := 33
  interfaces := #[]
  cf := some (fileOf pool0 8 #[] #[{ accessFlags := 1, nameIndex := 5, descriptorIndex := 6, attributes := #[] }, { accessFlags := 260, nameIndex := 96, descriptorIndex := 97, attributes := #[] }] 33 0 #[] #[])
  fields := #[]
  methods := #[k0m0, k0m1]
  instanceTypes := #[]
  staticTypes := #[]
  resolved := Array.replicate 124 none
  statics := none }

def pool1 : Array CpInfo := pool [(2, .class_ 4), (1, u "java/lang/Object"), (0, u "<init>"), (0, u "()V"), (0, .methodref 8 9), (0, .class_ 10), (0, .nameAndType 11 12), (0, u "java/lang/String"), (0, u "length"), (0, u "()I"), (0, .methodref 8 14), (0, .nameAndType 15 16), (0, u "charAt"), (0, u "(I)C"), (0, .string 18), (0, u "offline_access"), (0, .string 20), (0, u "online_access"), (0, .methodref 22 23), (0, .class_ 24), (0, .nameAndType 25 26), (0, u "com/example/anteroom/anteroom/scopes/RefreshScopeNamedPinLaw"), (0, u "at"), (0, u "(Ljava/lang/String;IC)C"), (0, .integer 2147483647), (0, .methodref 8 29), (0, .nameAndType 5 30), (0, u "([C)V"), (0, .methodref 32 33), (0, .class_ 34), (0, .nameAndType 35 36), (0, u "com/example/anteroom/anteroom/scopes/RefreshScope"), (0, u "named"), (0, u "(Ljava/lang/String;)Lcom/example/anteroom/anteroom/scopes/RefreshScope;"), (0, .methodref 8 38), (0, .nameAndType 39 40), (0, u "equals"), (0, u "(Ljava/lang/Object;)Z"), (0, .fieldref 32 42), (0, .nameAndType 43 44), (0, u "OFFLINE"), (0, u "Lcom/example/anteroom/anteroom/scopes/RefreshScope;"), (0, .fieldref 32 46), (0, .nameAndType 47 44), (0, u "ONLINE"), (3, u "law"), (0, u "(III)Z")] 4

def k1m0 : Method := { name := "<init>", desc := "()V", sig := { parameters := [], returnType := none }, accessFlags := 1, code := none }
def k1c1 : Code := { maxStack := 2, maxLocals := 3, code := method_2_code, exceptionTable := #[], attributes := #[] }
def k1m1 : Method := { name := "at", desc := "(Ljava/lang/String;IC)C", sig := { parameters := [(.object "java/lang/String"), .int, .char], returnType := some .char }, accessFlags := 10, code := some k1c1 }
def k1c2 : Code := { maxStack := 6, maxLocals := 18, code := code, exceptionTable := #[], attributes := #[] }
def k1m2 : Method := { name := "law", desc := "(III)Z", sig := { parameters := [.int, .int, .int], returnType := some .boolean }, accessFlags := 9, code := some k1c2 }
/-- com/example/anteroom/anteroom/scopes/RefreshScopeNamedPinLaw -/
def k1 : Class := { plain "com/example/anteroom/anteroom/scopes/RefreshScopeNamedPinLaw" (some 0) with
  accessFlags := 49
  interfaces := #[]
  cf := some (fileOf pool1 22 #[] #[{ accessFlags := 1, nameIndex := 5, descriptorIndex := 6, attributes := #[] }, { accessFlags := 10, nameIndex := 25, descriptorIndex := 26, attributes := #[] }, { accessFlags := 9, nameIndex := 51, descriptorIndex := 52, attributes := #[] }] 49 2 #[] #[])
  fields := #[]
  methods := #[k1m0, k1m1, k1m2]
  instanceTypes := #[]
  staticTypes := #[]
  resolved := Array.replicate 57 none
  statics := none }

def pool2 : Array CpInfo := pool [(1, .class_ 2), (0, u "java/io/Serializable"), (0, .class_ 4), (0, u "java/lang/Object")] 2

/-- java/io/Serializable -/
def k2 : Class := { plain "java/io/Serializable" (some 0) with
  accessFlags := 1537
  interfaces := #[]
  cf := some (fileOf pool2 1 #[] #[] 1537 3 #[] #[])
  fields := #[]
  methods := #[]
  instanceTypes := #[]
  staticTypes := #[]
  resolved := Array.replicate 7 none
  statics := none }

def pool3 : Array CpInfo := pool [(1, .class_ 2), (0, u "java/lang/Comparable"), (0, .class_ 4), (0, u "java/lang/Object")] 7

/-- java/lang/Comparable -/
def k3 : Class := { plain "java/lang/Comparable" (some 0) with
  accessFlags := 1537
  interfaces := #[]
  cf := some (fileOf pool3 1 #[] #[] 1537 3 #[] #[])
  fields := #[]
  methods := #[]
  instanceTypes := #[]
  staticTypes := #[]
  resolved := Array.replicate 12 none
  statics := none }

def pool4 : Array CpInfo := pool [(2, .class_ 4), (1, u "java/lang/CharSequence"), (42, .class_ 48), (0, u "java/lang/CharSequence$1CodePointIterator"), (10, .class_ 60), (0, u "java/lang/CharSequence$1CharIterator"), (5, .class_ 67), (0, u "java/lang/Object")] 63

/-- java/lang/CharSequence -/
def k4 : Class := { plain "java/lang/CharSequence" (some 0) with
  accessFlags := 1537
  interfaces := #[]
  cf := some (fileOf pool4 2 #[.nestMembers #[47, 59]] #[] 1537 66 #[] #[])
  fields := #[]
  methods := #[]
  instanceTypes := #[]
  staticTypes := #[]
  resolved := Array.replicate 131 none
  statics := none }

def pool5 : Array CpInfo := pool [(1, .class_ 2), (0, u "java/lang/constant/Constable"), (0, .class_ 4), (0, u "java/lang/Object")] 6

/-- java/lang/constant/Constable -/
def k5 : Class := { plain "java/lang/constant/Constable" (some 0) with
  accessFlags := 1537
  interfaces := #[]
  cf := some (fileOf pool5 1 #[] #[] 1537 3 #[] #[])
  fields := #[]
  methods := #[]
  instanceTypes := #[]
  staticTypes := #[]
  resolved := Array.replicate 11 none
  statics := none }

def pool6 : Array CpInfo := pool [(1, .class_ 2), (0, u "java/lang/constant/ConstantDesc"), (0, .class_ 4), (0, u "java/lang/Object")] 32

/-- java/lang/constant/ConstantDesc -/
def k6 : Class := { plain "java/lang/constant/ConstantDesc" (some 0) with
  accessFlags := 1537
  interfaces := #[]
  cf := some (fileOf pool6 1 #[] #[] 1537 3 #[] #[])
  fields := #[]
  methods := #[]
  instanceTypes := #[]
  staticTypes := #[]
  resolved := Array.replicate 37 none
  statics := none }

def pool7 : Array CpInfo := pool [(1, .methodref 2 3), (0, .class_ 4), (0, .nameAndType 5 6), (0, u "java/lang/Object"), (0, u "<init>"), (0, u "()V"), (0, .string 8), (0, u ""), (0, .fieldref 10 11), (0, .class_ 12), (0, .nameAndType 13 14), (0, u "java/lang/String"), (0, u "value"), (0, u "[B"), (0, .fieldref 10 16), (0, .nameAndType 17 18), (0, u "coder"), (0, u "B"), (2, u "hash"), (0, u "I"), (2, u "hashIsZero"), (0, u "Z"), (0, .methodref 10 28), (0, .nameAndType 5 29), (0, u "([CIILjava/lang/Void;)V"), (8, .fieldref 10 39), (0, .nameAndType 40 26), (0, u "COMPACT_STRINGS"), (1, .class_ 44), (1, u "java/lang/StringUTF16"), (0, u "compress"), (1, .methodref 42 48), (0, .nameAndType 49 50), (0, u "coderFromArrayLen"), (0, u "([BI)B"), (56, .class_ 109), (1, u "java/lang/StringLatin1"), (32, u "()Z"), (34, .methodref 42 178), (0, .nameAndType 45 179), (0, u "([CII)[B"), (154, u "()I"), (0, .methodref 10 336), (0, .nameAndType 17 337), (0, u "()B"), (25, u "([BI)C"), (27, u "(II)V"), (35, u "(I)C"), (64, .methodref 10 493), (0, .nameAndType 494 142), (0, u "isLatin1"), (0, .methodref 107 496), (0, .nameAndType 497 363), (0, u "charAt"), (3, u "checkIndex"), (5, u "length"), (33, .methodref 107 542), (0, .nameAndType 543 544), (0, u "equals"), (0, u "([B[B)Z"), (28, u "(Ljava/lang/Object;)Z"), (1, .class_ 576), (0, u "java/lang/CharSequence"), (22, u "CASE_INSENSITIVE_ORDER"), (0, u "Ljava/util/Comparator;"), (409, u "([C)V"), (42, .fieldref 1054 1055), (0, .class_ 1056), (0, .nameAndType 1057 1058), (0, u "jdk/internal/util/Preconditions"), (0, u "SIOOBE_FORMATTER"), (0, u "Ljava/util/function/BiFunction;"), (0, .methodref 1054 1060), (0, .nameAndType 501 1061), (0, u "(IILjava/util/function/BiFunction;)I"), (39, u "serialPersistentFields"), (0, u "[Ljava/io/ObjectStreamField;"), (0, .class_ 1104), (0, u "java/lang/String$CaseInsensitiveComparator"), (1, .class_ 1107), (0, u "java/io/Serializable"), (0, .class_ 1109), (0, u "java/lang/Comparable"), (0, .class_ 1111), (0, u "java/lang/constant/Constable"), (0, .class_ 1113), (0, u "java/lang/constant/ConstantDesc"), (2, u "serialVersionUID"), (0, u "J"), (3, u "REPL"), (0, u "C"), (2, u "LATIN1"), (1, u "UTF16")] 323

def k7m0 : Method := { name := "<init>", desc := "()V", sig := { parameters := [], returnType := none }, accessFlags := 1, code := none }
def k7c1 : Code := { maxStack := 5, maxLocals := 2, code := jdk_42_method_3_code, exceptionTable := #[], attributes := #[] }
def k7m1 : Method := { name := "<init>", desc := "([C)V", sig := { parameters := [(.array .char)], returnType := none }, accessFlags := 1, code := some k7c1 }
def k7c2 : Code := { maxStack := 2, maxLocals := 1, code := jdk_42_method_54_code, exceptionTable := #[], attributes := #[] }
def k7m2 : Method := { name := "length", desc := "()I", sig := { parameters := [], returnType := some .int }, accessFlags := 1, code := some k7c2 }
def k7c3 : Code := { maxStack := 2, maxLocals := 2, code := jdk_42_method_56_code, exceptionTable := #[], attributes := #[] }
def k7m3 : Method := { name := "charAt", desc := "(I)C", sig := { parameters := [.int], returnType := some .char }, accessFlags := 1, code := some k7c3 }
def k7c4 : Code := { maxStack := 2, maxLocals := 3, code := jdk_42_method_66_code, exceptionTable := #[], attributes := #[] }
def k7m4 : Method := { name := "equals", desc := "(Ljava/lang/Object;)Z", sig := { parameters := [(.object "java/lang/Object")], returnType := some .boolean }, accessFlags := 1, code := some k7c4 }
def k7c5 : Code := { maxStack := 4, maxLocals := 6, code := jdk_42_method_149_code, exceptionTable := #[], attributes := #[] }
def k7m5 : Method := { name := "<init>", desc := "([CIILjava/lang/Void;)V", sig := { parameters := [(.array .char), .int, .int, (.object "java/lang/Void")], returnType := none }, accessFlags := 2, code := some k7c5 }
def k7c6 : Code := { maxStack := 1, maxLocals := 1, code := jdk_42_method_152_code, exceptionTable := #[], attributes := #[] }
def k7m6 : Method := { name := "coder", desc := "()B", sig := { parameters := [], returnType := some .byte }, accessFlags := 0, code := some k7c6 }
def k7c7 : Code := { maxStack := 1, maxLocals := 1, code := jdk_42_method_154_code, exceptionTable := #[], attributes := #[] }
def k7m7 : Method := { name := "isLatin1", desc := "()Z", sig := { parameters := [], returnType := some .boolean }, accessFlags := 0, code := some k7c7 }
def k7c8 : Code := { maxStack := 3, maxLocals := 2, code := jdk_42_method_155_code, exceptionTable := #[], attributes := #[] }
def k7m8 : Method := { name := "checkIndex", desc := "(II)V", sig := { parameters := [.int, .int], returnType := none }, accessFlags := 8, code := some k7c8 }
/-- java/lang/String -/
def k7 : Class := { plain "java/lang/String" (some 0) with
  accessFlags := 49
  interfaces := #[2, 3, 4, 5, 6]
  cf := some (fileOf pool7 10 #[.nestMembers #[1103]] #[{ accessFlags := 1, nameIndex := 5, descriptorIndex := 6, attributes := #[] }, { accessFlags := 1, nameIndex := 5, descriptorIndex := 1010, attributes := #[] }, { accessFlags := 1, nameIndex := 507, descriptorIndex := 334, attributes := #[] }, { accessFlags := 1, nameIndex := 497, descriptorIndex := 427, attributes := #[] }, { accessFlags := 1, nameIndex := 543, descriptorIndex := 573, attributes := #[] }, { accessFlags := 2, nameIndex := 5, descriptorIndex := 29, attributes := #[] }, { accessFlags := 0, nameIndex := 17, descriptorIndex := 337, attributes := #[] }, { accessFlags := 0, nameIndex := 494, descriptorIndex := 142, attributes := #[] }, { accessFlags := 8, nameIndex := 501, descriptorIndex := 391, attributes := #[] }] 49 2 #[1106, 1108, 575, 1110, 1112] #[{ accessFlags := 18, nameIndex := 13, descriptorIndex := 14, attributes := #[] }, { accessFlags := 18, nameIndex := 17, descriptorIndex := 18, attributes := #[] }, { accessFlags := 2, nameIndex := 21, descriptorIndex := 22, attributes := #[] }, { accessFlags := 2, nameIndex := 25, descriptorIndex := 26, attributes := #[] }, { accessFlags := 26, nameIndex := 1116, descriptorIndex := 1117, attributes := #[] }, { accessFlags := 24, nameIndex := 40, descriptorIndex := 26, attributes := #[] }, { accessFlags := 26, nameIndex := 1101, descriptorIndex := 1102, attributes := #[] }, { accessFlags := 26, nameIndex := 1121, descriptorIndex := 1122, attributes := #[] }, { accessFlags := 25, nameIndex := 599, descriptorIndex := 600, attributes := #[] }, { accessFlags := 24, nameIndex := 1125, descriptorIndex := 18, attributes := #[] }, { accessFlags := 24, nameIndex := 1127, descriptorIndex := 18, attributes := #[] }])
  fields := #[{ name := "value", type := (.array .byte), accessFlags := 18, slot := 0, constantValue := 0 }, { name := "coder", type := .byte, accessFlags := 18, slot := 1, constantValue := 0 }, { name := "hash", type := .int, accessFlags := 2, slot := 2, constantValue := 0 }, { name := "hashIsZero", type := .boolean, accessFlags := 2, slot := 3, constantValue := 0 }, { name := "serialVersionUID", type := .long, accessFlags := 26, slot := 0, constantValue := 0 }, { name := "COMPACT_STRINGS", type := .boolean, accessFlags := 24, slot := 1, constantValue := 0 }, { name := "serialPersistentFields", type := (.array (.object "java/io/ObjectStreamField")), accessFlags := 26, slot := 2, constantValue := 0 }, { name := "REPL", type := .char, accessFlags := 26, slot := 3, constantValue := 0 }, { name := "CASE_INSENSITIVE_ORDER", type := (.object "java/util/Comparator"), accessFlags := 25, slot := 4, constantValue := 0 }, { name := "LATIN1", type := .byte, accessFlags := 24, slot := 5, constantValue := 0 }, { name := "UTF16", type := .byte, accessFlags := 24, slot := 6, constantValue := 0 }]
  methods := #[k7m0, k7m1, k7m2, k7m3, k7m4, k7m5, k7m6, k7m7, k7m8]
  instanceTypes := #[(.array .byte), .byte, .int, .boolean]
  staticTypes := #[.long, .boolean, (.array (.object "java/io/ObjectStreamField")), .char, (.object "java/util/Comparator"), .byte, .byte]
  resolved := Array.replicate 1451 none
  statics := some 0 }

def pool8 : Array CpInfo := pool [(1, .class_ 2), (0, u "java/lang/String"), (1, .class_ 6), (1, u "java/lang/Object"), (0, u "<init>"), (0, u "()V"), (0, .methodref 1 10), (0, .nameAndType 11 12), (0, u "checkIndex"), (0, u "(II)V"), (1, .class_ 16), (1, u "java/lang/StringLatin1"), (36, u "([BI)C"), (67, u "$assertionsDisabled"), (0, u "Z"), (98, .class_ 223), (1, u "java/lang/StringLatin1$LinesSpliterator"), (28, u "charAt"), (28, u "equals"), (0, u "([B[B)Z"), (107, .class_ 391), (0, u "java/lang/StringLatin1$CharsSpliterator")] 3

def k8m0 : Method := { name := "<init>", desc := "()V", sig := { parameters := [], returnType := none }, accessFlags := 0, code := none }
def k8c1 : Code := { maxStack := 2, maxLocals := 2, code := jdk_43_method_2_code, exceptionTable := #[], attributes := #[] }
def k8m1 : Method := { name := "charAt", desc := "([BI)C", sig := { parameters := [(.array .byte), .int], returnType := some .char }, accessFlags := 9, code := some k8c1 }
def k8c2 : Code := { maxStack := 3, maxLocals := 3, code := jdk_43_method_13_code, exceptionTable := #[], attributes := #[] }
def k8m2 : Method := { name := "equals", desc := "([B[B)Z", sig := { parameters := [(.array .byte), (.array .byte)], returnType := some .boolean }, accessFlags := 9, code := some k8c2 }
/-- java/lang/StringLatin1 -/
def k8 : Class := { plain "java/lang/StringLatin1" (some 0) with
  accessFlags := 48
  interfaces := #[]
  cf := some (fileOf pool8 14 #[.nestMembers #[390, 221]] #[{ accessFlags := 0, nameIndex := 7, descriptorIndex := 8, attributes := #[] }, { accessFlags := 9, nameIndex := 252, descriptorIndex := 53, attributes := #[] }, { accessFlags := 9, nameIndex := 281, descriptorIndex := 282, attributes := #[] }] 48 4 #[] #[{ accessFlags := 4120, nameIndex := 121, descriptorIndex := 122, attributes := #[] }])
  fields := #[{ name := "$assertionsDisabled", type := .boolean, accessFlags := 4120, slot := 0, constantValue := 0 }]
  methods := #[k8m0, k8m1, k8m2]
  instanceTypes := #[]
  staticTypes := #[.boolean]
  resolved := Array.replicate 395 none
  statics := none }

def pool9 : Array CpInfo := pool [(2, .class_ 4), (1, u "java/lang/Object"), (0, u "<init>"), (0, u "()V"), (17, .class_ 26), (1, u "jdk/internal/util/Preconditions"), (6, u "checkIndex"), (21, .class_ 56), (0, u "jdk/internal/util/Preconditions$4"), (57, .class_ 115), (0, u "jdk/internal/util/Preconditions$1"), (7, u "SIOOBE_FORMATTER"), (0, u "Ljava/util/function/BiFunction;"), (0, .class_ 126), (0, u "jdk/internal/util/Preconditions$2"), (3, u "AIOOBE_FORMATTER"), (0, .class_ 132), (0, u "jdk/internal/util/Preconditions$3"), (3, u "IOOBE_FORMATTER"), (41, u "(IILjava/util/function/BiFunction;)I")] 15

def k9m0 : Method := { name := "<init>", desc := "()V", sig := { parameters := [], returnType := none }, accessFlags := 1, code := none }
def k9c1 : Code := { maxStack := 3, maxLocals := 3, code := jdk_41_method_11_code, exceptionTable := #[], attributes := #[] }
def k9m1 : Method := { name := "checkIndex", desc := "(IILjava/util/function/BiFunction;)I", sig := { parameters := [.int, .int, (.object "java/util/function/BiFunction")], returnType := some .int }, accessFlags := 9, code := some k9c1 }
/-- jdk/internal/util/Preconditions -/
def k9 : Class := { plain "jdk/internal/util/Preconditions" (some 0) with
  accessFlags := 33
  interfaces := #[]
  cf := some (fileOf pool9 24 #[.nestMembers #[55, 131, 125, 114]] #[{ accessFlags := 1, nameIndex := 5, descriptorIndex := 6, attributes := #[] }, { accessFlags := 9, nameIndex := 33, descriptorIndex := 178, attributes := #[] }] 33 2 #[] #[{ accessFlags := 25, nameIndex := 123, descriptorIndex := 124, attributes := #[] }, { accessFlags := 25, nameIndex := 130, descriptorIndex := 124, attributes := #[] }, { accessFlags := 25, nameIndex := 136, descriptorIndex := 124, attributes := #[] }])
  fields := #[{ name := "SIOOBE_FORMATTER", type := (.object "java/util/function/BiFunction"), accessFlags := 25, slot := 0, constantValue := 0 }, { name := "AIOOBE_FORMATTER", type := (.object "java/util/function/BiFunction"), accessFlags := 25, slot := 1, constantValue := 0 }, { name := "IOOBE_FORMATTER", type := (.object "java/util/function/BiFunction"), accessFlags := 25, slot := 2, constantValue := 0 }]
  methods := #[k9m0, k9m1]
  instanceTypes := #[]
  staticTypes := #[(.object "java/util/function/BiFunction"), (.object "java/util/function/BiFunction"), (.object "java/util/function/BiFunction")]
  resolved := Array.replicate 194 none
  statics := some 1 }

def pool10 : Array CpInfo := pool [(6, .class_ 8), (1, u "java/lang/Object"), (0, u "<init>"), (0, u "()V"), (1, .class_ 14), (1, u "java/lang/StringUTF16"), (31, u "$assertionsDisabled"), (0, u "Z"), (13, u "HI_BYTE_SHIFT"), (0, u "I"), (2, u "LO_BYTE_SHIFT"), (49, .methodref 12 116), (0, .nameAndType 117 118), (0, u "compress"), (0, u "([CI[BII)I"), (3, u "([CII)[B"), (138, u "coderFromArrayLen"), (0, u "([BI)B"), (106, .class_ 371), (1, u "java/lang/StringUTF16$LinesSpliterator"), (58, u "MAX_LENGTH"), (196, .class_ 628), (0, u "java/lang/StringUTF16$CodePointsSpliterator"), (0, .class_ 630), (0, u "java/lang/StringUTF16$CharsSpliterator")] 4

def k10m0 : Method := { name := "<init>", desc := "()V", sig := { parameters := [], returnType := none }, accessFlags := 0, code := none }
def k10c1 : Code := { maxStack := 2, maxLocals := 2, code := jdk_52_method_15_code, exceptionTable := #[], attributes := #[] }
def k10m1 : Method := { name := "coderFromArrayLen", desc := "([BI)B", sig := { parameters := [(.array .byte), .int], returnType := some .byte }, accessFlags := 8, code := some k10c1 }
def k10c2 : Code := { maxStack := 5, maxLocals := 6, code := jdk_52_method_16_code, exceptionTable := #[], attributes := #[] }
def k10m2 : Method := { name := "compress", desc := "([CII)[B", sig := { parameters := [(.array .char), .int, .int], returnType := some (.array .byte) }, accessFlags := 9, code := some k10c2 }
def k10c3 : Code := { maxStack := 3, maxLocals := 7, code := jdk_52_method_21_code, exceptionTable := #[], attributes := #[] }
def k10m3 : Method := { name := "compress", desc := "([CI[BII)I", sig := { parameters := [(.array .char), .int, (.array .byte), .int, .int], returnType := some .int }, accessFlags := 9, code := some k10c3 }
/-- java/lang/StringUTF16 -/
def k10 : Class := { plain "java/lang/StringUTF16" (some 0) with
  accessFlags := 48
  interfaces := #[]
  cf := some (fileOf pool10 12 #[.nestMembers #[627, 629, 369]] #[{ accessFlags := 0, nameIndex := 9, descriptorIndex := 10, attributes := #[] }, { accessFlags := 8, nameIndex := 261, descriptorIndex := 262, attributes := #[] }, { accessFlags := 9, nameIndex := 117, descriptorIndex := 122, attributes := #[] }, { accessFlags := 9, nameIndex := 117, descriptorIndex := 118, attributes := #[] }] 48 6 #[] #[{ accessFlags := 26, nameIndex := 61, descriptorIndex := 62, attributes := #[] }, { accessFlags := 26, nameIndex := 65, descriptorIndex := 62, attributes := #[] }, { accessFlags := 24, nameIndex := 430, descriptorIndex := 62, attributes := #[] }, { accessFlags := 4120, nameIndex := 46, descriptorIndex := 47, attributes := #[] }])
  fields := #[{ name := "HI_BYTE_SHIFT", type := .int, accessFlags := 26, slot := 0, constantValue := 0 }, { name := "LO_BYTE_SHIFT", type := .int, accessFlags := 26, slot := 1, constantValue := 0 }, { name := "MAX_LENGTH", type := .int, accessFlags := 24, slot := 2, constantValue := 0 }, { name := "$assertionsDisabled", type := .boolean, accessFlags := 4120, slot := 3, constantValue := 0 }]
  methods := #[k10m0, k10m1, k10m2, k10m3]
  instanceTypes := #[]
  staticTypes := #[.int, .int, .int, .boolean]
  resolved := Array.replicate 635 none
  statics := none }

def pool11 : Array CpInfo := pool [(2, .class_ 4), (1, u "java/lang/Enum"), (0, u "name"), (0, u "Ljava/lang/String;"), (2, u "ordinal"), (0, u "I"), (1, .class_ 14), (1, u "java/lang/Object"), (4, u "hash"), (86, .class_ 108), (1, u "java/lang/Enum$EnumDesc"), (2, .class_ 112), (0, u "java/lang/constant/Constable"), (0, .class_ 114), (0, u "java/lang/Comparable"), (0, .class_ 116), (0, u "java/io/Serializable")] 87

/-- java/lang/Enum -/
def k11 : Class := { plain "java/lang/Enum" (some 0) with
  accessFlags := 1057
  interfaces := #[5, 3, 2]
  cf := some (fileOf pool11 2 #[.nestMembers #[106]] #[] 1057 12 #[111, 113, 115] #[{ accessFlags := 18, nameIndex := 5, descriptorIndex := 6, attributes := #[] }, { accessFlags := 18, nameIndex := 9, descriptorIndex := 10, attributes := #[] }, { accessFlags := 2, nameIndex := 19, descriptorIndex := 10, attributes := #[] }])
  fields := #[{ name := "name", type := (.object "java/lang/String"), accessFlags := 18, slot := 0, constantValue := 0 }, { name := "ordinal", type := .int, accessFlags := 18, slot := 1, constantValue := 0 }, { name := "hash", type := .int, accessFlags := 2, slot := 2, constantValue := 0 }]
  methods := #[]
  instanceTypes := #[(.object "java/lang/String"), .int, .int]
  staticTypes := #[]
  resolved := Array.replicate 204 none
  statics := none }

def pool12 : Array CpInfo := pool [(1, .class_ 2), (0, u "com/example/anteroom/anteroom/scopes/RefreshScope"), (2, u "OFFLINE"), (0, u "Lcom/example/anteroom/anteroom/scopes/RefreshScope;"), (2, u "ONLINE"), (0, .fieldref 1 11), (0, .nameAndType 12 13), (0, u "$VALUES"), (0, u "[Lcom/example/anteroom/anteroom/scopes/RefreshScope;"), (0, .methodref 15 16), (0, .class_ 13), (0, .nameAndType 17 18), (0, u "clone"), (0, u "()Ljava/lang/Object;"), (1, .class_ 22), (1, u "java/lang/Enum"), (6, .fieldref 1 30), (0, .nameAndType 31 32), (0, u "scope"), (0, u "Ljava/lang/String;"), (0, .methodref 1 34), (0, .nameAndType 35 36), (0, u "values"), (0, u "()[Lcom/example/anteroom/anteroom/scopes/RefreshScope;"), (0, .methodref 38 39), (0, .class_ 40), (0, .nameAndType 41 42), (0, u "java/lang/String"), (0, u "equals"), (0, u "(Ljava/lang/Object;)Z"), (19, u "(Ljava/lang/String;)Lcom/example/anteroom/anteroom/scopes/RefreshScope;"), (4, u "named")] 9

def k12c0 : Code := { maxStack := 1, maxLocals := 0, code := prog_5_method_1_code, exceptionTable := #[], attributes := #[] }
def k12m0 : Method := { name := "values", desc := "()[Lcom/example/anteroom/anteroom/scopes/RefreshScope;", sig := { parameters := [], returnType := some (.array (.object "com/example/anteroom/anteroom/scopes/RefreshScope")) }, accessFlags := 9, code := some k12c0 }
def k12c1 : Code := { maxStack := 2, maxLocals := 5, code := prog_5_method_5_code, exceptionTable := #[], attributes := #[] }
def k12m1 : Method := { name := "named", desc := "(Ljava/lang/String;)Lcom/example/anteroom/anteroom/scopes/RefreshScope;", sig := { parameters := [(.object "java/lang/String")], returnType := some (.object "com/example/anteroom/anteroom/scopes/RefreshScope") }, accessFlags := 8, code := some k12c1 }
/-- com/example/anteroom/anteroom/scopes/RefreshScope -/
def k12 : Class := { plain "com/example/anteroom/anteroom/scopes/RefreshScope" (some 11) with
  accessFlags := 16433
  interfaces := #[]
  cf := some (fileOf pool12 1 #[] #[{ accessFlags := 9, nameIndex := 35, descriptorIndex := 36, attributes := #[] }, { accessFlags := 8, nameIndex := 67, descriptorIndex := 62, attributes := #[] }] 16433 20 #[] #[{ accessFlags := 16409, nameIndex := 5, descriptorIndex := 6, attributes := #[] }, { accessFlags := 16409, nameIndex := 9, descriptorIndex := 6, attributes := #[] }, { accessFlags := 18, nameIndex := 31, descriptorIndex := 32, attributes := #[] }, { accessFlags := 4122, nameIndex := 12, descriptorIndex := 13, attributes := #[] }])
  fields := #[{ name := "OFFLINE", type := (.object "com/example/anteroom/anteroom/scopes/RefreshScope"), accessFlags := 16409, slot := 0, constantValue := 0 }, { name := "ONLINE", type := (.object "com/example/anteroom/anteroom/scopes/RefreshScope"), accessFlags := 16409, slot := 1, constantValue := 0 }, { name := "scope", type := (.object "java/lang/String"), accessFlags := 18, slot := 3, constantValue := 0 }, { name := "$VALUES", type := (.array (.object "com/example/anteroom/anteroom/scopes/RefreshScope")), accessFlags := 4122, slot := 2, constantValue := 0 }]
  methods := #[k12m0, k12m1]
  instanceTypes := #[(.object "java/lang/String"), .int, .int, (.object "java/lang/String")]
  staticTypes := #[(.object "com/example/anteroom/anteroom/scopes/RefreshScope"), (.object "com/example/anteroom/anteroom/scopes/RefreshScope"), (.array (.object "com/example/anteroom/anteroom/scopes/RefreshScope"))]
  resolved := Array.replicate 77 none
  statics := some 2 }

def pool13 : Array CpInfo := pool [(1, .class_ 2), (0, u "java/lang/Cloneable"), (0, .class_ 4), (0, u "java/lang/Object")] 2

/-- java/lang/Cloneable -/
def k13 : Class := { plain "java/lang/Cloneable" (some 0) with
  accessFlags := 1537
  interfaces := #[]
  cf := some (fileOf pool13 1 #[] #[] 1537 3 #[] #[])
  fields := #[]
  methods := #[]
  instanceTypes := #[]
  staticTypes := #[]
  resolved := Array.replicate 7 none
  statics := none }

def pool14 : Array CpInfo := pool [(9, u "<init>"), (6, .class_ 18), (1, u "java/lang/Object"), (0, u "()V"), (1, .class_ 23), (1, u "jdk/internal/util/ArraysSupport"), (0, u "LOG2_ARRAY_LONG_INDEX_SCALE"), (0, u "I"), (2, u "U"), (0, u "Ljdk/internal/misc/Unsafe;"), (8, u "BIG_ENDIAN"), (0, u "Z"), (8, u "LOG2_BYTE_BIT_SIZE"), (4, u "LOG2_ARRAY_INT_INDEX_SCALE"), (54, u "JLA"), (0, u "Ljdk/internal/access/JavaLangAccess;"), (11, u "LOG2_ARRAY_BOOLEAN_INDEX_SCALE"), (9, u "LOG2_ARRAY_BYTE_INDEX_SCALE"), (5, u "LOG2_ARRAY_CHAR_INDEX_SCALE"), (5, u "LOG2_ARRAY_SHORT_INDEX_SCALE"), (18, u "LOG2_ARRAY_FLOAT_INDEX_SCALE"), (24, u "LOG2_ARRAY_DOUBLE_INDEX_SCALE"), (89, u "T_BOOLEAN"), (2, u "T_CHAR"), (1, u "T_FLOAT"), (1, u "T_DOUBLE"), (1, u "T_BYTE"), (1, u "T_SHORT"), (1, u "T_INT"), (1, u "T_LONG"), (1, u "SOFT_MAX_ARRAY_LENGTH")] 83

def k14m0 : Method := { name := "<init>", desc := "()V", sig := { parameters := [], returnType := none }, accessFlags := 2, code := none }
/-- jdk/internal/util/ArraysSupport -/
def k14 : Class := { plain "jdk/internal/util/ArraysSupport" (some 0) with
  accessFlags := 33
  interfaces := #[]
  cf := some (fileOf pool14 21 #[] #[{ accessFlags := 2, nameIndex := 9, descriptorIndex := 19, attributes := #[] }] 33 16 #[] #[{ accessFlags := 24, nameIndex := 28, descriptorIndex := 29, attributes := #[] }, { accessFlags := 26, nameIndex := 38, descriptorIndex := 39, attributes := #[] }, { accessFlags := 25, nameIndex := 121, descriptorIndex := 25, attributes := #[] }, { accessFlags := 25, nameIndex := 131, descriptorIndex := 25, attributes := #[] }, { accessFlags := 25, nameIndex := 137, descriptorIndex := 25, attributes := #[] }, { accessFlags := 25, nameIndex := 143, descriptorIndex := 25, attributes := #[] }, { accessFlags := 25, nameIndex := 53, descriptorIndex := 25, attributes := #[] }, { accessFlags := 25, nameIndex := 24, descriptorIndex := 25, attributes := #[] }, { accessFlags := 25, nameIndex := 162, descriptorIndex := 25, attributes := #[] }, { accessFlags := 25, nameIndex := 187, descriptorIndex := 25, attributes := #[] }, { accessFlags := 26, nameIndex := 48, descriptorIndex := 25, attributes := #[] }, { accessFlags := 25, nameIndex := 277, descriptorIndex := 25, attributes := #[] }, { accessFlags := 25, nameIndex := 280, descriptorIndex := 25, attributes := #[] }, { accessFlags := 25, nameIndex := 282, descriptorIndex := 25, attributes := #[] }, { accessFlags := 25, nameIndex := 284, descriptorIndex := 25, attributes := #[] }, { accessFlags := 25, nameIndex := 286, descriptorIndex := 25, attributes := #[] }, { accessFlags := 25, nameIndex := 288, descriptorIndex := 25, attributes := #[] }, { accessFlags := 25, nameIndex := 290, descriptorIndex := 25, attributes := #[] }, { accessFlags := 25, nameIndex := 292, descriptorIndex := 25, attributes := #[] }, { accessFlags := 26, nameIndex := 108, descriptorIndex := 109, attributes := #[] }, { accessFlags := 25, nameIndex := 294, descriptorIndex := 25, attributes := #[] }])
  fields := #[{ name := "U", type := (.object "jdk/internal/misc/Unsafe"), accessFlags := 24, slot := 0, constantValue := 0 }, { name := "BIG_ENDIAN", type := .boolean, accessFlags := 26, slot := 1, constantValue := 0 }, { name := "LOG2_ARRAY_BOOLEAN_INDEX_SCALE", type := .int, accessFlags := 25, slot := 2, constantValue := 0 }, { name := "LOG2_ARRAY_BYTE_INDEX_SCALE", type := .int, accessFlags := 25, slot := 3, constantValue := 0 }, { name := "LOG2_ARRAY_CHAR_INDEX_SCALE", type := .int, accessFlags := 25, slot := 4, constantValue := 0 }, { name := "LOG2_ARRAY_SHORT_INDEX_SCALE", type := .int, accessFlags := 25, slot := 5, constantValue := 0 }, { name := "LOG2_ARRAY_INT_INDEX_SCALE", type := .int, accessFlags := 25, slot := 6, constantValue := 0 }, { name := "LOG2_ARRAY_LONG_INDEX_SCALE", type := .int, accessFlags := 25, slot := 7, constantValue := 0 }, { name := "LOG2_ARRAY_FLOAT_INDEX_SCALE", type := .int, accessFlags := 25, slot := 8, constantValue := 0 }, { name := "LOG2_ARRAY_DOUBLE_INDEX_SCALE", type := .int, accessFlags := 25, slot := 9, constantValue := 0 }, { name := "LOG2_BYTE_BIT_SIZE", type := .int, accessFlags := 26, slot := 10, constantValue := 0 }, { name := "T_BOOLEAN", type := .int, accessFlags := 25, slot := 11, constantValue := 0 }, { name := "T_CHAR", type := .int, accessFlags := 25, slot := 12, constantValue := 0 }, { name := "T_FLOAT", type := .int, accessFlags := 25, slot := 13, constantValue := 0 }, { name := "T_DOUBLE", type := .int, accessFlags := 25, slot := 14, constantValue := 0 }, { name := "T_BYTE", type := .int, accessFlags := 25, slot := 15, constantValue := 0 }, { name := "T_SHORT", type := .int, accessFlags := 25, slot := 16, constantValue := 0 }, { name := "T_INT", type := .int, accessFlags := 25, slot := 17, constantValue := 0 }, { name := "T_LONG", type := .int, accessFlags := 25, slot := 18, constantValue := 0 }, { name := "JLA", type := (.object "jdk/internal/access/JavaLangAccess"), accessFlags := 26, slot := 19, constantValue := 0 }, { name := "SOFT_MAX_ARRAY_LENGTH", type := .int, accessFlags := 25, slot := 20, constantValue := 0 }]
  methods := #[k14m0]
  instanceTypes := #[]
  staticTypes := #[(.object "jdk/internal/misc/Unsafe"), .boolean, .int, .int, .int, .int, .int, .int, .int, .int, .int, .int, .int, .int, .int, .int, .int, .int, .int, (.object "jdk/internal/access/JavaLangAccess"), .int]
  resolved := Array.replicate 378 none
  statics := none }

/-- the primitive byte -/
def k15 : Class := { plain "byte" none with kind := .primitive 'B', accessFlags := 0x411 }
/-- [B -/
def k16 : Class := { plain "[B" (some 0) with kind := .array 15 .byte, interfaces := #[13, 2], accessFlags := 1041 }

/-- the primitive char -/
def k17 : Class := { plain "char" none with kind := .primitive 'C', accessFlags := 0x411 }
/-- [C -/
def k18 : Class := { plain "[C" (some 0) with kind := .array 17 .char, interfaces := #[13, 2], accessFlags := 1041 }

/-- the primitive int -/
def k19 : Class := { plain "int" none with kind := .primitive 'I', accessFlags := 0x411 }
/-- [I -/
def k20 : Class := { plain "[I" (some 0) with kind := .array 19 .int, interfaces := #[13, 2], accessFlags := 1041 }

/-- [Lcom/example/anteroom/anteroom/scopes/RefreshScope; -/
def k21 : Class := { plain "[Lcom/example/anteroom/anteroom/scopes/RefreshScope;" (some 0) with kind := .array 12 (.object "com/example/anteroom/anteroom/scopes/RefreshScope"), interfaces := #[13, 2], accessFlags := 1041 }

def heap : Heap := #[{ cls := 7, slots := #[.long 0, .int 1, .null, .int 0, .null, .int 0, .int 0], vm := .statics 7 },
  { cls := 9, slots := #[.null, .null, .null], vm := .statics 9 },
  { cls := 12, slots := #[.ref 4, .ref 5, .ref 3], vm := .statics 12 },
  { cls := 21, slots := #[.ref 4, .ref 5], vm := .none },
  { cls := 12, slots := #[.null, .int 0, .int 0, .ref 6], vm := .none },
  { cls := 12, slots := #[.null, .int 1, .int 0, .ref 7], vm := .none },
  { cls := 7, slots := #[.ref 8, .int 0, .int 0, .int 0], vm := .none },
  { cls := 7, slots := #[.ref 9, .int 0, .int 0, .int 0], vm := .none },
  { cls := 16, slots := #[.int 111, .int 102, .int 102, .int 108, .int 105, .int 110, .int 101, .int 95, .int 97, .int 99, .int 99, .int 101, .int 115, .int 115], vm := .none },
  { cls := 16, slots := #[.int 111, .int 110, .int 108, .int 105, .int 110, .int 101, .int 95, .int 97, .int 99, .int 99, .int 101, .int 115, .int 115], vm := .none }]
def classes : Array Class := #[k0, k1, k2, k3, k4, k5, k6, k7, k8, k9, k10, k11, k12, k13, k14, k15, k16, k17, k18, k19, k20, k21]
def interned : List (Array UInt16 × Addr) := []
def slotsUsed : Nat := 58
def theMethod : MethodId := ⟨1, 2⟩
def args0 : Array Value := #[.int 1, .int 2, .int 3]
def aboutOver (below : List Frame) : State where
  vm := { classes := classes, interned := interned.toArray }
  heap := heap
  slotsUsed := slotsUsed
  threads := #[{ frames := .invoking theMethod args0 :: below }]
def below0 : List Frame := [.native { method := ⟨0, 0⟩, args := #[] }]
def about1 : State := aboutOver below0
def p0 : Program := .bare "" "" ""
def e0 : Env := launch0.env 0 0 0
theorem w_frames : about1.frames = Frame.invoking theMethod args0 :: below0 := rfl
set_option maxRecDepth 65536 in
theorem w_args : argsFit about1.vm theMethod args0 = true := by decide +kernel
set_option maxRecDepth 65536 in
theorem w_heap : heapFits about1 = true := by decide +kernel
set_option maxRecDepth 65536 in
theorem w_runnable : about1.curStatus? = some .runnable := by decide +kernel
set_option maxRecDepth 65536 in
theorem w_alone : about1.alone = true := by decide +kernel
set_option maxRecDepth 65536 in
theorem w_named : about1.methodNamed? x = some theMethod := by decide +kernel
set_option maxRecDepth 65536 in
theorem w_hears : about1.hears theMethod below0 = true := by decide +kernel
set_option maxRecDepth 65536 in
theorem w_ripe : about1.ripe theMethod args0 below0 = true := by decide +kernel
theorem w_running : about1.status = .running := rfl
set_option maxRecDepth 65536 in
theorem w_room : about1.hasRoom e0.platform room_1 = true :=
  launch0.hasRoom_least _ room_1 (by decide +kernel) (by decide +kernel) (by decide +kernel) (by decide +kernel) (by decide +kernel) (by decide +kernel)
theorem allAtoms_all (ts : List Jvm.Cond) (a : Array Jvm.Value) (st : Jvm.State) : (allAtoms ts).before a st = ts.all (fun c => c.before a st) := by
  induction ts with
  | nil => rfl
  | cons c t ih =>
    show (Jvm.Cond.and c (allAtoms t)).before a st = _
    rw [Jvm.Cond.before_and, ih, List.all_cons]
def words1 : List Jvm.Cond := Jvm.Cond.code x code maxLocals ret :: tables_1
/-- a 'code' word, met by the world's own term for the bytes: nothing is compared byte by byte -/
theorem code_word {y : MethodName} {bytes : ByteArray} {mx : Nat} {rt : Option FieldType} {a : Array Value} {s : State} {m : MethodId} {meth : Method} {c : Code} (h1 : s.methodNamed? y = some m) (h2 : s.vm.method? m = some meth) (h3 : meth.code = some c) (h4 : c.code = bytes)
    (h5 : (c.maxLocals == mx && c.exceptionTable.isEmpty && decide (c.maxStack ≤ mostOperands) && decide (meth.sig.returnType = rt) && !meth.locks && decide (parseMethodDescriptor y.desc = some meth.sig)) = true) : (Jvm.Cond.code y bytes mx rt).before a s = true := by
  simp only [Bool.and_eq_true, beq_iff_eq, Bool.not_eq_true', decide_eq_true_eq] at h5
  obtain ⟨⟨⟨⟨⟨g1, g2⟩, g3⟩, g4⟩, g5⟩, g6⟩ := h5
  simp [Cond.before, Cond.holds, Cond.value, h1, h2, h3, h4, g1, g2, g3, g4, g5, g6]
def isCode : Jvm.Cond → Bool
  | .code _ _ _ _ => true
  | _ => false
theorem all_split {L : List Jvm.Cond} {P : Jvm.Cond → Bool} (h1 : L.all (fun c => isCode c || P c) = true) (h2 : ∀ c ∈ L.filter isCode, P c = true) : L.all P = true := by
  refine List.all_eq_true.mpr fun c hc => ?_
  have h := List.all_eq_true.mp h1 c hc
  rcases Bool.eq_false_or_eq_true (isCode c) with hi | hi
  · exact h2 c (List.mem_filter.mpr ⟨hc, hi⟩)
  · simpa [hi] using h
set_option maxRecDepth 65536 in
theorem w_c0 : (Jvm.Cond.code x code maxLocals ret).before args0 about1 = true := code_word (m := ⟨1, 2⟩) (meth := k1m2) (c := k1c2) (by decide +kernel) rfl rfl rfl (by decide +kernel)
set_option maxRecDepth 65536 in
theorem w_c1 : (Jvm.Cond.code ({ cls := "com/example/anteroom/anteroom/scopes/RefreshScopeNamedPinLaw", name := "at", desc := "(Ljava/lang/String;IC)C" } : Jvm.MethodName) method_2_code (3 : Nat) (Option.some Jvm.ClassFile.FieldType.char)).before args0 about1 = true := code_word (m := ⟨1, 1⟩) (meth := k1m1) (c := k1c1) (by decide +kernel) rfl rfl rfl (by decide +kernel)
set_option maxRecDepth 65536 in
theorem w_c2 : (Jvm.Cond.code ({ cls := "java/lang/String", name := "length", desc := "()I" } : Jvm.MethodName) jdk_42_method_54_code (1 : Nat) (Option.some Jvm.ClassFile.FieldType.int)).before args0 about1 = true := code_word (m := ⟨7, 2⟩) (meth := k7m2) (c := k7c2) (by decide +kernel) rfl rfl rfl (by decide +kernel)
set_option maxRecDepth 65536 in
theorem w_c3 : (Jvm.Cond.code ({ cls := "java/lang/String", name := "coder", desc := "()B" } : Jvm.MethodName) jdk_42_method_152_code (1 : Nat) (Option.some Jvm.ClassFile.FieldType.byte)).before args0 about1 = true := code_word (m := ⟨7, 6⟩) (meth := k7m6) (c := k7c6) (by decide +kernel) rfl rfl rfl (by decide +kernel)
set_option maxRecDepth 65536 in
theorem w_c4 : (Jvm.Cond.code ({ cls := "java/lang/String", name := "charAt", desc := "(I)C" } : Jvm.MethodName) jdk_42_method_56_code (2 : Nat) (Option.some Jvm.ClassFile.FieldType.char)).before args0 about1 = true := code_word (m := ⟨7, 3⟩) (meth := k7m3) (c := k7c3) (by decide +kernel) rfl rfl rfl (by decide +kernel)
set_option maxRecDepth 65536 in
theorem w_c5 : (Jvm.Cond.code ({ cls := "java/lang/String", name := "isLatin1", desc := "()Z" } : Jvm.MethodName) jdk_42_method_154_code (1 : Nat) (Option.some Jvm.ClassFile.FieldType.boolean)).before args0 about1 = true := code_word (m := ⟨7, 7⟩) (meth := k7m7) (c := k7c7) (by decide +kernel) rfl rfl rfl (by decide +kernel)
set_option maxRecDepth 65536 in
theorem w_c6 : (Jvm.Cond.code ({ cls := "java/lang/StringLatin1", name := "charAt", desc := "([BI)C" } : Jvm.MethodName) jdk_43_method_2_code (2 : Nat) (Option.some Jvm.ClassFile.FieldType.char)).before args0 about1 = true := code_word (m := ⟨8, 1⟩) (meth := k8m1) (c := k8c1) (by decide +kernel) rfl rfl rfl (by decide +kernel)
set_option maxRecDepth 65536 in
theorem w_c7 : (Jvm.Cond.code ({ cls := "java/lang/String", name := "checkIndex", desc := "(II)V" } : Jvm.MethodName) jdk_42_method_155_code (2 : Nat) (Option.none : Option Jvm.ClassFile.FieldType)).before args0 about1 = true := code_word (m := ⟨7, 8⟩) (meth := k7m8) (c := k7c8) (by decide +kernel) rfl rfl rfl (by decide +kernel)
set_option maxRecDepth 65536 in
theorem w_c8 : (Jvm.Cond.code ({ cls := "jdk/internal/util/Preconditions", name := "checkIndex", desc := "(IILjava/util/function/BiFunction;)I" } : Jvm.MethodName) jdk_41_method_11_code (3 : Nat) (Option.some Jvm.ClassFile.FieldType.int)).before args0 about1 = true := code_word (m := ⟨9, 1⟩) (meth := k9m1) (c := k9c1) (by decide +kernel) rfl rfl rfl (by decide +kernel)
set_option maxRecDepth 65536 in
theorem w_c9 : (Jvm.Cond.code ({ cls := "java/lang/String", name := "<init>", desc := "([C)V" } : Jvm.MethodName) jdk_42_method_3_code (2 : Nat) (Option.none : Option Jvm.ClassFile.FieldType)).before args0 about1 = true := code_word (m := ⟨7, 1⟩) (meth := k7m1) (c := k7c1) (by decide +kernel) rfl rfl rfl (by decide +kernel)
set_option maxRecDepth 65536 in
theorem w_c10 : (Jvm.Cond.code ({ cls := "java/lang/String", name := "<init>", desc := "([CIILjava/lang/Void;)V" } : Jvm.MethodName) jdk_42_method_149_code (6 : Nat) (Option.none : Option Jvm.ClassFile.FieldType)).before args0 about1 = true := code_word (m := ⟨7, 5⟩) (meth := k7m5) (c := k7c5) (by decide +kernel) rfl rfl rfl (by decide +kernel)
set_option maxRecDepth 65536 in
theorem w_c11 : (Jvm.Cond.code ({ cls := "java/lang/Object", name := "<init>", desc := "()V" } : Jvm.MethodName) object_method_1_code (1 : Nat) (Option.none : Option Jvm.ClassFile.FieldType)).before args0 about1 = true := code_word (m := ⟨0, 0⟩) (meth := k0m0) (c := k0c0) (by decide +kernel) rfl rfl rfl (by decide +kernel)
set_option maxRecDepth 65536 in
theorem w_c12 : (Jvm.Cond.code ({ cls := "java/lang/StringUTF16", name := "compress", desc := "([CII)[B" } : Jvm.MethodName) jdk_52_method_16_code (6 : Nat) (Option.some (Jvm.ClassFile.FieldType.array Jvm.ClassFile.FieldType.byte))).before args0 about1 = true := code_word (m := ⟨10, 2⟩) (meth := k10m2) (c := k10c2) (by decide +kernel) rfl rfl rfl (by decide +kernel)
set_option maxRecDepth 65536 in
theorem w_c13 : (Jvm.Cond.code ({ cls := "java/lang/StringUTF16", name := "compress", desc := "([CI[BII)I" } : Jvm.MethodName) jdk_52_method_21_code (7 : Nat) (Option.some Jvm.ClassFile.FieldType.int)).before args0 about1 = true := code_word (m := ⟨10, 3⟩) (meth := k10m3) (c := k10c3) (by decide +kernel) rfl rfl rfl (by decide +kernel)
set_option maxRecDepth 65536 in
theorem w_c14 : (Jvm.Cond.code ({ cls := "java/lang/StringUTF16", name := "coderFromArrayLen", desc := "([BI)B" } : Jvm.MethodName) jdk_52_method_15_code (2 : Nat) (Option.some Jvm.ClassFile.FieldType.byte)).before args0 about1 = true := code_word (m := ⟨10, 1⟩) (meth := k10m1) (c := k10c1) (by decide +kernel) rfl rfl rfl (by decide +kernel)
set_option maxRecDepth 65536 in
theorem w_c15 : (Jvm.Cond.code ({ cls := "com/example/anteroom/anteroom/scopes/RefreshScope", name := "named", desc := "(Ljava/lang/String;)Lcom/example/anteroom/anteroom/scopes/RefreshScope;" } : Jvm.MethodName) prog_5_method_5_code (5 : Nat) (Option.some (Jvm.ClassFile.FieldType.object "com/example/anteroom/anteroom/scopes/RefreshScope"))).before args0 about1 = true := code_word (m := ⟨12, 1⟩) (meth := k12m1) (c := k12c1) (by decide +kernel) rfl rfl rfl (by decide +kernel)
set_option maxRecDepth 65536 in
theorem w_c16 : (Jvm.Cond.code ({ cls := "com/example/anteroom/anteroom/scopes/RefreshScope", name := "values", desc := "()[Lcom/example/anteroom/anteroom/scopes/RefreshScope;" } : Jvm.MethodName) prog_5_method_1_code (0 : Nat) (Option.some (Jvm.ClassFile.FieldType.array (Jvm.ClassFile.FieldType.object "com/example/anteroom/anteroom/scopes/RefreshScope")))).before args0 about1 = true := code_word (m := ⟨12, 0⟩) (meth := k12m0) (c := k12c0) (by decide +kernel) rfl rfl rfl (by decide +kernel)
set_option maxRecDepth 65536 in
theorem w_c17 : (Jvm.Cond.code ({ cls := "java/lang/String", name := "equals", desc := "(Ljava/lang/Object;)Z" } : Jvm.MethodName) jdk_42_method_66_code (3 : Nat) (Option.some Jvm.ClassFile.FieldType.boolean)).before args0 about1 = true := code_word (m := ⟨7, 4⟩) (meth := k7m4) (c := k7c4) (by decide +kernel) rfl rfl rfl (by decide +kernel)
set_option maxRecDepth 65536 in
theorem w_c18 : (Jvm.Cond.code ({ cls := "java/lang/StringLatin1", name := "equals", desc := "([B[B)Z" } : Jvm.MethodName) jdk_43_method_13_code (3 : Nat) (Option.some Jvm.ClassFile.FieldType.boolean)).before args0 about1 = true := code_word (m := ⟨8, 2⟩) (meth := k8m2) (c := k8c2) (by decide +kernel) rfl rfl rfl (by decide +kernel)
def codes1 : List Jvm.Cond := [Jvm.Cond.code x code maxLocals ret, Jvm.Cond.code ({ cls := "com/example/anteroom/anteroom/scopes/RefreshScopeNamedPinLaw", name := "at", desc := "(Ljava/lang/String;IC)C" } : Jvm.MethodName) method_2_code (3 : Nat) (Option.some Jvm.ClassFile.FieldType.char), Jvm.Cond.code ({ cls := "java/lang/String", name := "length", desc := "()I" } : Jvm.MethodName) jdk_42_method_54_code (1 : Nat) (Option.some Jvm.ClassFile.FieldType.int), Jvm.Cond.code ({ cls := "java/lang/String", name := "coder", desc := "()B" } : Jvm.MethodName) jdk_42_method_152_code (1 : Nat) (Option.some Jvm.ClassFile.FieldType.byte), Jvm.Cond.code ({ cls := "java/lang/String", name := "charAt", desc := "(I)C" } : Jvm.MethodName) jdk_42_method_56_code (2 : Nat) (Option.some Jvm.ClassFile.FieldType.char), Jvm.Cond.code ({ cls := "java/lang/String", name := "isLatin1", desc := "()Z" } : Jvm.MethodName) jdk_42_method_154_code (1 : Nat) (Option.some Jvm.ClassFile.FieldType.boolean), Jvm.Cond.code ({ cls := "java/lang/StringLatin1", name := "charAt", desc := "([BI)C" } : Jvm.MethodName) jdk_43_method_2_code (2 : Nat) (Option.some Jvm.ClassFile.FieldType.char), Jvm.Cond.code ({ cls := "java/lang/String", name := "checkIndex", desc := "(II)V" } : Jvm.MethodName) jdk_42_method_155_code (2 : Nat) (Option.none : Option Jvm.ClassFile.FieldType), Jvm.Cond.code ({ cls := "jdk/internal/util/Preconditions", name := "checkIndex", desc := "(IILjava/util/function/BiFunction;)I" } : Jvm.MethodName) jdk_41_method_11_code (3 : Nat) (Option.some Jvm.ClassFile.FieldType.int), Jvm.Cond.code ({ cls := "java/lang/String", name := "<init>", desc := "([C)V" } : Jvm.MethodName) jdk_42_method_3_code (2 : Nat) (Option.none : Option Jvm.ClassFile.FieldType), Jvm.Cond.code ({ cls := "java/lang/String", name := "<init>", desc := "([CIILjava/lang/Void;)V" } : Jvm.MethodName) jdk_42_method_149_code (6 : Nat) (Option.none : Option Jvm.ClassFile.FieldType), Jvm.Cond.code ({ cls := "java/lang/Object", name := "<init>", desc := "()V" } : Jvm.MethodName) object_method_1_code (1 : Nat) (Option.none : Option Jvm.ClassFile.FieldType), Jvm.Cond.code ({ cls := "java/lang/StringUTF16", name := "compress", desc := "([CII)[B" } : Jvm.MethodName) jdk_52_method_16_code (6 : Nat) (Option.some (Jvm.ClassFile.FieldType.array Jvm.ClassFile.FieldType.byte)), Jvm.Cond.code ({ cls := "java/lang/StringUTF16", name := "compress", desc := "([CI[BII)I" } : Jvm.MethodName) jdk_52_method_21_code (7 : Nat) (Option.some Jvm.ClassFile.FieldType.int), Jvm.Cond.code ({ cls := "java/lang/StringUTF16", name := "coderFromArrayLen", desc := "([BI)B" } : Jvm.MethodName) jdk_52_method_15_code (2 : Nat) (Option.some Jvm.ClassFile.FieldType.byte), Jvm.Cond.code ({ cls := "com/example/anteroom/anteroom/scopes/RefreshScope", name := "named", desc := "(Ljava/lang/String;)Lcom/example/anteroom/anteroom/scopes/RefreshScope;" } : Jvm.MethodName) prog_5_method_5_code (5 : Nat) (Option.some (Jvm.ClassFile.FieldType.object "com/example/anteroom/anteroom/scopes/RefreshScope")), Jvm.Cond.code ({ cls := "com/example/anteroom/anteroom/scopes/RefreshScope", name := "values", desc := "()[Lcom/example/anteroom/anteroom/scopes/RefreshScope;" } : Jvm.MethodName) prog_5_method_1_code (0 : Nat) (Option.some (Jvm.ClassFile.FieldType.array (Jvm.ClassFile.FieldType.object "com/example/anteroom/anteroom/scopes/RefreshScope"))), Jvm.Cond.code ({ cls := "java/lang/String", name := "equals", desc := "(Ljava/lang/Object;)Z" } : Jvm.MethodName) jdk_42_method_66_code (3 : Nat) (Option.some Jvm.ClassFile.FieldType.boolean), Jvm.Cond.code ({ cls := "java/lang/StringLatin1", name := "equals", desc := "([B[B)Z" } : Jvm.MethodName) jdk_43_method_13_code (3 : Nat) (Option.some Jvm.ClassFile.FieldType.boolean)]
set_option maxRecDepth 65536 in
theorem codes_eq : words1.filter isCode = codes1 := rfl
theorem w_codes : ∀ c ∈ words1.filter isCode, c.before args0 about1 = true := by
  rw [codes_eq]
  intro c hc
  simp only [codes1, List.mem_cons, List.not_mem_nil, or_false] at hc
  rcases hc with rfl | rfl | rfl | rfl | rfl | rfl | rfl | rfl | rfl | rfl | rfl | rfl | rfl | rfl | rfl | rfl | rfl | rfl | rfl
  · exact w_c0
  · exact w_c1
  · exact w_c2
  · exact w_c3
  · exact w_c4
  · exact w_c5
  · exact w_c6
  · exact w_c7
  · exact w_c8
  · exact w_c9
  · exact w_c10
  · exact w_c11
  · exact w_c12
  · exact w_c13
  · exact w_c14
  · exact w_c15
  · exact w_c16
  · exact w_c17
  · exact w_c18
set_option maxRecDepth 65536 in
theorem w_t1 : (words1.take 24).all (fun c => isCode c || c.before args0 about1) = true := by decide +kernel
set_option maxRecDepth 65536 in
theorem w_t2 : ((words1.drop 24).take 24).all (fun c => isCode c || c.before args0 about1) = true := by decide +kernel
set_option maxRecDepth 65536 in
theorem w_t3 : (((words1.drop 24).drop 24).take 24).all (fun c => isCode c || c.before args0 about1) = true := by decide +kernel
set_option maxRecDepth 65536 in
theorem w_t4 : ((((words1.drop 24).drop 24).drop 24).take 24).all (fun c => isCode c || c.before args0 about1) = true := by decide +kernel
set_option maxRecDepth 65536 in
theorem w_t5 : ((((words1.drop 24).drop 24).drop 24).drop 24).all (fun c => isCode c || c.before args0 about1) = true := by decide +kernel
theorem w_tables : (allAtoms (Jvm.Cond.code x code maxLocals ret :: tables_1)).before args0 about1 = true := by
  rw [allAtoms_all]
  show words1.all (fun c => c.before args0 about1) = true
  refine all_split ?_ w_codes
  rw [← List.take_append_drop 24 words1, List.all_append, w_t1, ← List.take_append_drop 24 (words1.drop 24), List.all_append, w_t2, ← List.take_append_drop 24 ((words1.drop 24).drop 24), List.all_append, w_t3, ← List.take_append_drop 24 (((words1.drop 24).drop 24).drop 24), List.all_append, w_t4, w_t5]
  rfl
set_option maxRecDepth 65536 in
theorem w_rest : rest_1_c.before args0 about1 = true := by decide +kernel
set_option maxRecDepth 65536 in
theorem w_case : (Jvm.Cond.and given_1 narrow_1).before args0 about1 = true := by decide +kernel
set_option maxRecDepth 65536 in
theorem w_consts : constsHeld consts_1 about1 := Jvm.Lit.constsHeldB_iff.mp (by decide +kernel)
theorem w_applies : (headSpec (Jvm.Cond.code x code maxLocals ret :: tables_1) room_1).applies x e0.platform about1 = true :=
  (Spec.applies_iff w_frames).mpr ⟨w_running, w_runnable, w_alone, w_named, w_hears, w_ripe, w_room, w_tables⟩
theorem atStart : AtStart classFile x code maxLocals ret World_1 tables_1 room_1 Calls_1 rest_1 Pre_1 launch0 p0 e0 about1 theMethod args0 below0 :=
  ⟨lists_1, trivial, launch0.admits_env _ _ _, launch0.least_env, fairChoices_fair.cas, fairChoices_fair.clock, w_frames, w_args, w_heap, w_applies, ⟨w_consts, trivial⟩, w_rest, w_case⟩
end start1
theorem witness_1 : WitnessClaimed_1 := ⟨start1.p0, start1.e0, start1.about1, start1.theMethod, start1.args0, start1.below0, start1.atStart⟩
end Jvm.Pilot.@@N@@
