import JvmDerived
import JvmDerived.Pilot.@@N@@Statement
import JvmDerived.Pilot.@@N@@Code
set_option linter.unusedVariables false
set_option linter.unusedSimpArgs false
set_option maxHeartbeats 40000000
namespace Jvm.Pilot.@@N@@
open Jvm Jvm.ClassFile Sem Op Lib Jvm.Free Jvm.Stand Jvm.LawKit Jvm.RoadKit Bundle Jvm.Pilot.@@N@@.Jvm.D
/-! ## own kit: a small logic of walks -/
/-- the walk's fixed surroundings -/
def Cx (p : Program) (s : State) (m : MethodId) (meth : Method) (c : Code) (Z : State) (own : String) (bytes : ByteArray) (maxL : Nat) (ret : Option FieldType) (nm : String) : Prop :=
  p.tables.exec = Jvm.exec ∧ c.code = bytes ∧ c.maxLocals = maxL ∧ Z.Warmed39 s.vm ∧ s.vm.findClass own = some m.cls ∧ meth.sig.returnType = ret ∧ meth.locks = false ∧ meth.name = nm
/-- from every state that stands at heap h with frame g, having made at most so many cells and slots, the walk comes to a good end -/
def AtW (p : Program) (l : Launch) (e : Env) (R : Room) (s : State) (m : MethodId) (args : Array Value) (below : List Frame) (meth : Method) (c : Code) (n0 : Nat) (Q : Option Value → Heap → Prop) (h : Heap) (cells slots : Nat) (g : JFrame) : Prop :=
  ∀ (T : State) (locs : List Loc) (k n : Nat), Stand p l e R s m args below meth c T locs k n → k ≤ cells → n ≤ slots → T.heap = h → Fr n0 locs →
    ∃ t o, Steps p.tables e below (T.setTop g) t ∧ t.status = .running ∧ Ended t below o ∧ ∃ v L, o = .returned v ∧ (Fr n0 L ∧ Q v t.heap) ∧ FrameEnd s o t L R.cells R.slots
/-- a body's contract: called with 'as' at heap h0 it returns some v at some h with Q v h, and writes nothing below n0 -/
def Ct (ws : List Jvm.Cond) (l : Launch) (Z : State) (n0 : Nat) (y : MethodName) (bytes : ByteArray) (maxL : Nat) (ret : Option FieldType) (rm : Room) (as : Array Value) (h0 : Heap) (Q : Option Value → Heap → Prop) : Prop :=
  MetFree l y (head1 (Jvm.Cond.code y bytes maxL ret :: ws) rm) (fun a U => a = as ∧ Z.Warmed39 U.vm ∧ U.heap = h0) (fun _ _ _ _ _ => True)
    (fun _ U o U' => ∃ v L, o = .returned v ∧ (Fr n0 L ∧ Q v U'.heap) ∧ FrameEnd U o U' L rm.cells rm.slots)
theorem own_leb {a b : Nat} (h : Nat.ble a b = true) : a ≤ b := Nat.le_of_ble_eq_true h
theorem own_ltb {a b : Nat} (h : Nat.ble (a + 1) b = true) : a < b := Nat.le_of_ble_eq_true h
/-- the class is found and is no interface -/
def NI (s : State) (C : String) : Prop := ∃ c k, s.vm.findClass C = some c ∧ s.vm.classes[c]? = some k ∧ k.isInterface = false
theorem NI.of_inst {s : State} {args : Array Value} {C : String} {n : Nat} (w : (Jvm.Cond.instantiable C n).before args s = true) : NI s C := by
  obtain ⟨c, k, hc, hk, -, h, -⟩ := Cond.instantiable_spec w
  exact ⟨c, k, hc, hk, (Bool.or_eq_false_iff.mp h).1⟩
theorem NI.of_sel {s : State} {args : Array Value} {C : String} {y z : MethodName} (w : (Jvm.Cond.selects C y z).before args s = true) : NI s z.cls := by
  obtain ⟨c, r, m, -, -, hn, -, k, hk, hi⟩ := Cond.selects_spec w
  exact ⟨m.cls, k, findClass_of_methodNamed hn, hk, hi⟩
theorem NI.nf {s : State} {y : MethodName} (w : NI s y.cls) : NotFace s y := fun r0 h0 => by
  obtain ⟨c, k, hc, hk, hi⟩ := w
  cases (findClass_of_methodNamed h0).symm.trans hc
  exact ⟨k, hk, hi⟩
section Wk
variable {p : Program} {l : Launch} {e : Env} {R : Room} {s : State} {m : MethodId} {args : Array Value} {below : List Frame} {meth : Method} {c : Code} {n0 : Nat} {Q : Option Value → Heap → Prop} {h : Heap} {cells slots : Nat} {Z : State} {own : String} {bytes : ByteArray} {maxL : Nat} {ret : Option FieldType} {nm : String} {a0 : Array Value} {pc q : Nat} {L L' : Array Slot} {S : List Value}
theorem Ct.intro {ws : List Jvm.Cond} {y : MethodName} {rm : Room} {as : Array Value} (hp : plainFor y = true)
    (k : ∀ p e s m below meth c, Cx p s m meth c Z y.cls bytes maxL ret y.name → AtW p l e rm s m as below meth c n0 Q h 0 0 (entryFrame m as maxL)) : Ct ws l Z n0 y bytes maxL ret rm as h Q := by
  refine MetFree.of_bodySF hp hisR ?_
  intro p e s m args below meth c s₁ Bd hml0 hP hK
  obtain ⟨rfl, hZ, hh⟩ := hP
  have X0 := Stand.of_body Bd
  refine k p e s m below meth c ⟨Bd.exec, Bd.bytes, hml0, hZ, findClass_of_methodNamed Bd.named, Bd.returns, Bd.notSynchronized, (name_of_methodNamed Bd.named Bd.method).1⟩ s₁ [] 0 0 X0 (Nat.le_refl _) (Nat.le_refl _) ?_ (Fr.nil n0)
  rw [← hh, Bd.state]; rfl
theorem AtW.mono {g : JFrame} {cells' slots' : Nat} (K : AtW p l e R s m args below meth c n0 Q h cells' slots' g) (h1 : cells ≤ cells') (h2 : slots ≤ slots') : AtW p l e R s m args below meth c n0 Q h cells slots g :=
  fun T locs k n X hk hn eT N => K T locs k n X (Nat.le_trans hk h1) (Nat.le_trans hn h2) eT N
theorem AtW.go {g g' : JFrame} (K : AtW p l e R s m args below meth c n0 Q h cells slots g') (st : ∀ T, At T m c below → ∀ t, Steps p.tables e below (T.setTop g') t → Steps p.tables e below (T.setTop g) t) : AtW p l e R s m args below meth c n0 Q h cells slots g :=
  fun T locs k n X hk hn eT N => by
    obtain ⟨t, o, r1, r⟩ := K T locs k n X hk hn eT N
    exact ⟨t, o, st T X.here t r1, r⟩
theorem AtW.goX {g g' : JFrame} (K : AtW p l e R s m args below meth c n0 Q h cells slots g') (st : ∀ T locs k n, Stand p l e R s m args below meth c T locs k n → T.heap = h → ∀ t, Steps p.tables e below (T.setTop g') t → Steps p.tables e below (T.setTop g) t) : AtW p l e R s m args below meth c n0 Q h cells slots g :=
  fun T locs k n X hk hn eT N => by
    obtain ⟨t, o, r1, r⟩ := K T locs k n X hk hn eT N
    exact ⟨t, o, st T locs k n X eT t r1, r⟩
theorem AtW.cast {g g' : JFrame} (K : AtW p l e R s m args below meth c n0 Q h cells slots g') (q : g = g') : AtW p l e R s m args below meth c n0 Q h cells slots g := by rw [q]; exact K

theorem w_iload (C : Cx p s m meth c Z own bytes maxL ret nm) {k : Nat} {v : Int32} (hl : L[k]? = some (.val (.int v))) (hd : decode bytes pc = .ok (.iload k, 2)) (hq : pc + 2 = q) (K : AtW p l e R s m args below meth c n0 Q h cells slots (mkF m q L (.int v :: S))) : AtW p l e R s m args below meth c n0 Q h cells slots (mkF m pc L S) := by
  subst hq
  exact K.go fun T hA t st => XS.iload hA C.1 rfl (hb C.2.1 hd) hl st
theorem w_iloadN (C : Cx p s m meth c Z own bytes maxL ret nm) {k : Fin 4} {v : Int32} (hl : L[k.val]? = some (.val (.int v))) (hd : decode bytes pc = .ok (.iload_n k, 1)) (hq : pc + 1 = q) (K : AtW p l e R s m args below meth c n0 Q h cells slots (mkF m q L (.int v :: S))) : AtW p l e R s m args below meth c n0 Q h cells slots (mkF m pc L S) := by
  subst hq
  exact K.go fun T hA t st => XS.iloadN hA C.1 rfl (hb C.2.1 hd) hl st
theorem w_istore (C : Cx p s m meth c Z own bytes maxL ret nm) {k : Nat} {v : Int32} (hl : storeLocals L k (.int v) = some L') (hd : decode bytes pc = .ok (.istore k, 2)) (hq : pc + 2 = q) (K : AtW p l e R s m args below meth c n0 Q h cells slots (mkF m q L' S)) : AtW p l e R s m args below meth c n0 Q h cells slots (mkF m pc L (.int v :: S)) := by
  subst hq
  exact K.go fun T hA t st => XS.istore hA C.1 rfl (hb C.2.1 hd) rfl hl st
theorem w_istoreN (C : Cx p s m meth c Z own bytes maxL ret nm) {k : Fin 4} {v : Int32} (hl : storeLocals L k.val (.int v) = some L') (hd : decode bytes pc = .ok (.istore_n k, 1)) (hq : pc + 1 = q) (K : AtW p l e R s m args below meth c n0 Q h cells slots (mkF m q L' S)) : AtW p l e R s m args below meth c n0 Q h cells slots (mkF m pc L (.int v :: S)) := by
  subst hq
  exact K.go fun T hA t st => XS.istoreN hA C.1 rfl (hb C.2.1 hd) rfl hl st
theorem w_lload (C : Cx p s m meth c Z own bytes maxL ret nm) {k : Nat} {v : Int64} (hl : L[k]? = some (.val (.long v))) (hd : decode bytes pc = .ok (.lload k, 2)) (hq : pc + 2 = q) (K : AtW p l e R s m args below meth c n0 Q h cells slots (mkF m q L (.long v :: S))) : AtW p l e R s m args below meth c n0 Q h cells slots (mkF m pc L S) := by
  subst hq
  exact K.go fun T hA t st => XS.lload hA C.1 rfl (hb C.2.1 hd) hl st
theorem w_lloadN (C : Cx p s m meth c Z own bytes maxL ret nm) {k : Fin 4} {v : Int64} (hl : L[k.val]? = some (.val (.long v))) (hd : decode bytes pc = .ok (.lload_n k, 1)) (hq : pc + 1 = q) (K : AtW p l e R s m args below meth c n0 Q h cells slots (mkF m q L (.long v :: S))) : AtW p l e R s m args below meth c n0 Q h cells slots (mkF m pc L S) := by
  subst hq
  exact K.go fun T hA t st => XS.lloadN hA C.1 rfl (hb C.2.1 hd) hl st
theorem w_lstore (C : Cx p s m meth c Z own bytes maxL ret nm) {k : Nat} {v : Int64} (hl : storeLocals L k (.long v) = some L') (hd : decode bytes pc = .ok (.lstore k, 2)) (hq : pc + 2 = q) (K : AtW p l e R s m args below meth c n0 Q h cells slots (mkF m q L' S)) : AtW p l e R s m args below meth c n0 Q h cells slots (mkF m pc L (.long v :: S)) := by
  subst hq
  exact K.go fun T hA t st => XS.lstore hA C.1 rfl (hb C.2.1 hd) rfl hl st
theorem w_lstoreN (C : Cx p s m meth c Z own bytes maxL ret nm) {k : Fin 4} {v : Int64} (hl : storeLocals L k.val (.long v) = some L') (hd : decode bytes pc = .ok (.lstore_n k, 1)) (hq : pc + 1 = q) (K : AtW p l e R s m args below meth c n0 Q h cells slots (mkF m q L' S)) : AtW p l e R s m args below meth c n0 Q h cells slots (mkF m pc L (.long v :: S)) := by
  subst hq
  exact K.go fun T hA t st => XS.lstoreN hA C.1 rfl (hb C.2.1 hd) rfl hl st
theorem w_aload (C : Cx p s m meth c Z own bytes maxL ret nm) {k : Nat} {v : Value} (hl : L[k]? = some (.val v)) (hv : v.isRef = true) (hd : decode bytes pc = .ok (.aload k, 2)) (hq : pc + 2 = q) (K : AtW p l e R s m args below meth c n0 Q h cells slots (mkF m q L (v :: S))) : AtW p l e R s m args below meth c n0 Q h cells slots (mkF m pc L S) := by
  subst hq
  exact K.go fun T hA t st => XS.aload hA C.1 rfl (hb C.2.1 hd) hl hv st
theorem w_aloadN (C : Cx p s m meth c Z own bytes maxL ret nm) {k : Fin 4} {v : Value} (hl : L[k.val]? = some (.val v)) (hv : v.isRef = true) (hd : decode bytes pc = .ok (.aload_n k, 1)) (hq : pc + 1 = q) (K : AtW p l e R s m args below meth c n0 Q h cells slots (mkF m q L (v :: S))) : AtW p l e R s m args below meth c n0 Q h cells slots (mkF m pc L S) := by
  subst hq
  exact K.go fun T hA t st => XS.aloadN hA C.1 rfl (hb C.2.1 hd) hl hv st
theorem w_astore (C : Cx p s m meth c Z own bytes maxL ret nm) {k : Nat} {v : Value} (hv : v.isRef = true) (hl : storeLocals L k v = some L') (hd : decode bytes pc = .ok (.astore k, 2)) (hq : pc + 2 = q) (K : AtW p l e R s m args below meth c n0 Q h cells slots (mkF m q L' S)) : AtW p l e R s m args below meth c n0 Q h cells slots (mkF m pc L (v :: S)) := by
  subst hq
  exact K.go fun T hA t st => XS.astore hA C.1 rfl (hb C.2.1 hd) rfl hv hl st
theorem w_astoreN (C : Cx p s m meth c Z own bytes maxL ret nm) {k : Fin 4} {v : Value} (hv : v.isRef = true) (hl : storeLocals L k.val v = some L') (hd : decode bytes pc = .ok (.astore_n k, 1)) (hq : pc + 1 = q) (K : AtW p l e R s m args below meth c n0 Q h cells slots (mkF m q L' S)) : AtW p l e R s m args below meth c n0 Q h cells slots (mkF m pc L (v :: S)) := by
  subst hq
  exact K.go fun T hA t st => XS.astoreN hA C.1 rfl (hb C.2.1 hd) rfl hv hl st
theorem w_iconst (C : Cx p s m meth c Z own bytes maxL ret nm) {i : Int} {v : Int32} (hv : Int32.ofInt i = v) (hd : decode bytes pc = .ok (.iconst i, 1)) (hq : pc + 1 = q) (K : AtW p l e R s m args below meth c n0 Q h cells slots (mkF m q L (.int v :: S))) : AtW p l e R s m args below meth c n0 Q h cells slots (mkF m pc L S) := by
  subst hq
  exact K.go fun T hA t st => by subst hv; exact XS.iconst hA C.1 rfl (hb C.2.1 hd) st
theorem w_bipush (C : Cx p s m meth c Z own bytes maxL ret nm) {i : Int} {v : Int32} (hv : (Int8.ofInt i).toInt32 = v) (hd : decode bytes pc = .ok (.bipush i, 2)) (hq : pc + 2 = q) (K : AtW p l e R s m args below meth c n0 Q h cells slots (mkF m q L (.int v :: S))) : AtW p l e R s m args below meth c n0 Q h cells slots (mkF m pc L S) := by
  subst hq
  exact K.go fun T hA t st => by subst hv; exact XS.bipush hA C.1 rfl (hb C.2.1 hd) st
theorem w_sipush (C : Cx p s m meth c Z own bytes maxL ret nm) {i : Int} {v : Int32} (hv : (Int16.ofInt i).toInt32 = v) (hd : decode bytes pc = .ok (.sipush i, 3)) (hq : pc + 3 = q) (K : AtW p l e R s m args below meth c n0 Q h cells slots (mkF m q L (.int v :: S))) : AtW p l e R s m args below meth c n0 Q h cells slots (mkF m pc L S) := by
  subst hq
  exact K.go fun T hA t st => by subst hv; exact XS.sipush hA C.1 rfl (hb C.2.1 hd) st
theorem w_lconst (C : Cx p s m meth c Z own bytes maxL ret nm) {k : Fin 2} {v : Int64} (hv : Int64.ofNat k = v) (hd : decode bytes pc = .ok (.lconst k, 1)) (hq : pc + 1 = q) (K : AtW p l e R s m args below meth c n0 Q h cells slots (mkF m q L (.long v :: S))) : AtW p l e R s m args below meth c n0 Q h cells slots (mkF m pc L S) := by
  subst hq
  exact K.go fun T hA t st => by subst hv; exact XS.lconst hA C.1 rfl (hb C.2.1 hd) st
theorem w_aconst_null (C : Cx p s m meth c Z own bytes maxL ret nm)  (hd : decode bytes pc = .ok (.aconst_null, 1)) (hq : pc + 1 = q) (K : AtW p l e R s m args below meth c n0 Q h cells slots (mkF m q L (.null :: S))) : AtW p l e R s m args below meth c n0 Q h cells slots (mkF m pc L S) := by
  subst hq
  exact K.go fun T hA t st => XS.aconstNull hA C.1 rfl (hb C.2.1 hd) st
theorem w_iadd (C : Cx p s m meth c Z own bytes maxL ret nm) {x y z : Int32} (hz : x + y = z) (hd : decode bytes pc = .ok (.iadd, 1)) (hq : pc + 1 = q) (K : AtW p l e R s m args below meth c n0 Q h cells slots (mkF m q L (.int z :: S))) : AtW p l e R s m args below meth c n0 Q h cells slots (mkF m pc L (.int y :: .int x :: S)) := by
  subst hq
  exact K.go fun T hA t st => by subst hz; exact XS.iadd hA C.1 rfl (hb C.2.1 hd) rfl st
theorem w_isub (C : Cx p s m meth c Z own bytes maxL ret nm) {x y z : Int32} (hz : x - y = z) (hd : decode bytes pc = .ok (.isub, 1)) (hq : pc + 1 = q) (K : AtW p l e R s m args below meth c n0 Q h cells slots (mkF m q L (.int z :: S))) : AtW p l e R s m args below meth c n0 Q h cells slots (mkF m pc L (.int y :: .int x :: S)) := by
  subst hq
  exact K.go fun T hA t st => by subst hz; exact XS.isub hA C.1 rfl (hb C.2.1 hd) rfl st
theorem w_imul (C : Cx p s m meth c Z own bytes maxL ret nm) {x y z : Int32} (hz : x * y = z) (hd : decode bytes pc = .ok (.imul, 1)) (hq : pc + 1 = q) (K : AtW p l e R s m args below meth c n0 Q h cells slots (mkF m q L (.int z :: S))) : AtW p l e R s m args below meth c n0 Q h cells slots (mkF m pc L (.int y :: .int x :: S)) := by
  subst hq
  exact K.go fun T hA t st => by subst hz; exact XS.imul hA C.1 rfl (hb C.2.1 hd) rfl st
theorem w_iand (C : Cx p s m meth c Z own bytes maxL ret nm) {x y z : Int32} (hz : x &&& y = z) (hd : decode bytes pc = .ok (.iand, 1)) (hq : pc + 1 = q) (K : AtW p l e R s m args below meth c n0 Q h cells slots (mkF m q L (.int z :: S))) : AtW p l e R s m args below meth c n0 Q h cells slots (mkF m pc L (.int y :: .int x :: S)) := by
  subst hq
  exact K.go fun T hA t st => by subst hz; exact XS.iand hA C.1 rfl (hb C.2.1 hd) rfl st
theorem w_ior (C : Cx p s m meth c Z own bytes maxL ret nm) {x y z : Int32} (hz : x ||| y = z) (hd : decode bytes pc = .ok (.ior, 1)) (hq : pc + 1 = q) (K : AtW p l e R s m args below meth c n0 Q h cells slots (mkF m q L (.int z :: S))) : AtW p l e R s m args below meth c n0 Q h cells slots (mkF m pc L (.int y :: .int x :: S)) := by
  subst hq
  exact K.go fun T hA t st => by subst hz; exact XS.ior hA C.1 rfl (hb C.2.1 hd) rfl st
theorem w_ixor (C : Cx p s m meth c Z own bytes maxL ret nm) {x y z : Int32} (hz : x ^^^ y = z) (hd : decode bytes pc = .ok (.ixor, 1)) (hq : pc + 1 = q) (K : AtW p l e R s m args below meth c n0 Q h cells slots (mkF m q L (.int z :: S))) : AtW p l e R s m args below meth c n0 Q h cells slots (mkF m pc L (.int y :: .int x :: S)) := by
  subst hq
  exact K.go fun T hA t st => by subst hz; exact XS.ixor hA C.1 rfl (hb C.2.1 hd) rfl st
theorem w_ladd (C : Cx p s m meth c Z own bytes maxL ret nm) {x y z : Int64} (hz : x + y = z) (hd : decode bytes pc = .ok (.ladd, 1)) (hq : pc + 1 = q) (K : AtW p l e R s m args below meth c n0 Q h cells slots (mkF m q L (.long z :: S))) : AtW p l e R s m args below meth c n0 Q h cells slots (mkF m pc L (.long y :: .long x :: S)) := by
  subst hq
  exact K.go fun T hA t st => by subst hz; exact XS.ladd hA C.1 rfl (hb C.2.1 hd) rfl st
theorem w_lsub (C : Cx p s m meth c Z own bytes maxL ret nm) {x y z : Int64} (hz : x - y = z) (hd : decode bytes pc = .ok (.lsub, 1)) (hq : pc + 1 = q) (K : AtW p l e R s m args below meth c n0 Q h cells slots (mkF m q L (.long z :: S))) : AtW p l e R s m args below meth c n0 Q h cells slots (mkF m pc L (.long y :: .long x :: S)) := by
  subst hq
  exact K.go fun T hA t st => by subst hz; exact XS.lsub hA C.1 rfl (hb C.2.1 hd) rfl st
theorem w_lmul (C : Cx p s m meth c Z own bytes maxL ret nm) {x y z : Int64} (hz : x * y = z) (hd : decode bytes pc = .ok (.lmul, 1)) (hq : pc + 1 = q) (K : AtW p l e R s m args below meth c n0 Q h cells slots (mkF m q L (.long z :: S))) : AtW p l e R s m args below meth c n0 Q h cells slots (mkF m pc L (.long y :: .long x :: S)) := by
  subst hq
  exact K.go fun T hA t st => by subst hz; exact XS.lmul hA C.1 rfl (hb C.2.1 hd) rfl st
theorem w_land (C : Cx p s m meth c Z own bytes maxL ret nm) {x y z : Int64} (hz : x &&& y = z) (hd : decode bytes pc = .ok (.land, 1)) (hq : pc + 1 = q) (K : AtW p l e R s m args below meth c n0 Q h cells slots (mkF m q L (.long z :: S))) : AtW p l e R s m args below meth c n0 Q h cells slots (mkF m pc L (.long y :: .long x :: S)) := by
  subst hq
  exact K.go fun T hA t st => by subst hz; exact XS.land hA C.1 rfl (hb C.2.1 hd) rfl st
theorem w_lor (C : Cx p s m meth c Z own bytes maxL ret nm) {x y z : Int64} (hz : x ||| y = z) (hd : decode bytes pc = .ok (.lor, 1)) (hq : pc + 1 = q) (K : AtW p l e R s m args below meth c n0 Q h cells slots (mkF m q L (.long z :: S))) : AtW p l e R s m args below meth c n0 Q h cells slots (mkF m pc L (.long y :: .long x :: S)) := by
  subst hq
  exact K.go fun T hA t st => by subst hz; exact XS.lor hA C.1 rfl (hb C.2.1 hd) rfl st
theorem w_lxor (C : Cx p s m meth c Z own bytes maxL ret nm) {x y z : Int64} (hz : x ^^^ y = z) (hd : decode bytes pc = .ok (.lxor, 1)) (hq : pc + 1 = q) (K : AtW p l e R s m args below meth c n0 Q h cells slots (mkF m q L (.long z :: S))) : AtW p l e R s m args below meth c n0 Q h cells slots (mkF m pc L (.long y :: .long x :: S)) := by
  subst hq
  exact K.go fun T hA t st => by subst hz; exact XS.lxor hA C.1 rfl (hb C.2.1 hd) rfl st
theorem w_ishl (C : Cx p s m meth c Z own bytes maxL ret nm) {x y z : Int32} (hz : x <<< (y &&& 31) = z) (hd : decode bytes pc = .ok (.ishl, 1)) (hq : pc + 1 = q) (K : AtW p l e R s m args below meth c n0 Q h cells slots (mkF m q L (.int z :: S))) : AtW p l e R s m args below meth c n0 Q h cells slots (mkF m pc L (.int y :: .int x :: S)) := by
  subst hq
  exact K.go fun T hA t st => by subst hz; exact XS.ishl hA C.1 rfl (hb C.2.1 hd) rfl st
theorem w_ishr (C : Cx p s m meth c Z own bytes maxL ret nm) {x y z : Int32} (hz : x >>> (y &&& 31) = z) (hd : decode bytes pc = .ok (.ishr, 1)) (hq : pc + 1 = q) (K : AtW p l e R s m args below meth c n0 Q h cells slots (mkF m q L (.int z :: S))) : AtW p l e R s m args below meth c n0 Q h cells slots (mkF m pc L (.int y :: .int x :: S)) := by
  subst hq
  exact K.go fun T hA t st => by subst hz; exact XS.ishr hA C.1 rfl (hb C.2.1 hd) rfl st
theorem w_iushr (C : Cx p s m meth c Z own bytes maxL ret nm) {x y z : Int32} (hz : (x.toUInt32 >>> (y &&& 31).toUInt32).toInt32 = z) (hd : decode bytes pc = .ok (.iushr, 1)) (hq : pc + 1 = q) (K : AtW p l e R s m args below meth c n0 Q h cells slots (mkF m q L (.int z :: S))) : AtW p l e R s m args below meth c n0 Q h cells slots (mkF m pc L (.int y :: .int x :: S)) := by
  subst hq
  exact K.go fun T hA t st => by subst hz; exact XS.iushr hA C.1 rfl (hb C.2.1 hd) rfl st
theorem w_lshl (C : Cx p s m meth c Z own bytes maxL ret nm) {x z : Int64} {y : Int32} (hz : x <<< (y &&& 0x3f).toInt64 = z) (hd : decode bytes pc = .ok (.lshl, 1)) (hq : pc + 1 = q) (K : AtW p l e R s m args below meth c n0 Q h cells slots (mkF m q L (.long z :: S))) : AtW p l e R s m args below meth c n0 Q h cells slots (mkF m pc L (.int y :: .long x :: S)) := by
  subst hq
  exact K.go fun T hA t st => by subst hz; exact XS.lshl hA C.1 rfl (hb C.2.1 hd) rfl st
theorem w_lshr (C : Cx p s m meth c Z own bytes maxL ret nm) {x z : Int64} {y : Int32} (hz : x >>> (y &&& 0x3f).toInt64 = z) (hd : decode bytes pc = .ok (.lshr, 1)) (hq : pc + 1 = q) (K : AtW p l e R s m args below meth c n0 Q h cells slots (mkF m q L (.long z :: S))) : AtW p l e R s m args below meth c n0 Q h cells slots (mkF m pc L (.int y :: .long x :: S)) := by
  subst hq
  exact K.go fun T hA t st => by subst hz; exact XS.lshr hA C.1 rfl (hb C.2.1 hd) rfl st
theorem w_lushr (C : Cx p s m meth c Z own bytes maxL ret nm) {x z : Int64} {y : Int32} (hz : (x.toUInt64 >>> (y &&& 0x3f).toInt64.toUInt64).toInt64 = z) (hd : decode bytes pc = .ok (.lushr, 1)) (hq : pc + 1 = q) (K : AtW p l e R s m args below meth c n0 Q h cells slots (mkF m q L (.long z :: S))) : AtW p l e R s m args below meth c n0 Q h cells slots (mkF m pc L (.int y :: .long x :: S)) := by
  subst hq
  exact K.go fun T hA t st => by subst hz; exact XS.lushr hA C.1 rfl (hb C.2.1 hd) rfl st
theorem w_idiv (C : Cx p s m meth c Z own bytes maxL ret nm) {x y z : Int32} (hy : y ≠ 0) (hz : x / y = z) (hd : decode bytes pc = .ok (.idiv, 1)) (hq : pc + 1 = q) (K : AtW p l e R s m args below meth c n0 Q h cells slots (mkF m q L (.int z :: S))) : AtW p l e R s m args below meth c n0 Q h cells slots (mkF m pc L (.int y :: .int x :: S)) := by
  subst hq
  exact K.go fun T hA t st => by subst hz; exact XS.idiv hA C.1 rfl (hb C.2.1 hd) rfl hy st
theorem w_ldiv (C : Cx p s m meth c Z own bytes maxL ret nm) {x y z : Int64} (hy : y ≠ 0) (hz : x / y = z) (hd : decode bytes pc = .ok (.ldiv, 1)) (hq : pc + 1 = q) (K : AtW p l e R s m args below meth c n0 Q h cells slots (mkF m q L (.long z :: S))) : AtW p l e R s m args below meth c n0 Q h cells slots (mkF m pc L (.long y :: .long x :: S)) := by
  subst hq
  exact K.go fun T hA t st => by subst hz; exact XS.ldiv hA C.1 rfl (hb C.2.1 hd) rfl hy st
theorem w_irem (C : Cx p s m meth c Z own bytes maxL ret nm) {x y z : Int32} (hy : y ≠ 0) (hz : x % y = z) (hd : decode bytes pc = .ok (.irem, 1)) (hq : pc + 1 = q) (K : AtW p l e R s m args below meth c n0 Q h cells slots (mkF m q L (.int z :: S))) : AtW p l e R s m args below meth c n0 Q h cells slots (mkF m pc L (.int y :: .int x :: S)) := by
  subst hq
  exact K.go fun T hA t st => by subst hz; rw [← irem_eq_mod x y] at st; exact XS.irem hA C.1 rfl (hb C.2.1 hd) rfl hy st
theorem w_lrem (C : Cx p s m meth c Z own bytes maxL ret nm) {x y z : Int64} (hy : y ≠ 0) (hz : x % y = z) (hd : decode bytes pc = .ok (.lrem, 1)) (hq : pc + 1 = q) (K : AtW p l e R s m args below meth c n0 Q h cells slots (mkF m q L (.long z :: S))) : AtW p l e R s m args below meth c n0 Q h cells slots (mkF m pc L (.long y :: .long x :: S)) := by
  subst hq
  exact K.go fun T hA t st => by subst hz; rw [← lrem_mod x y] at st; exact XS.lrem hA C.1 rfl (hb C.2.1 hd) rfl hy st
theorem w_ineg (C : Cx p s m meth c Z own bytes maxL ret nm) {x : Int32} {z : Int32} (hz : -x = z) (hd : decode bytes pc = .ok (.ineg, 1)) (hq : pc + 1 = q) (K : AtW p l e R s m args below meth c n0 Q h cells slots (mkF m q L (.int z :: S))) : AtW p l e R s m args below meth c n0 Q h cells slots (mkF m pc L (.int x :: S)) := by
  subst hq
  exact K.go fun T hA t st => by subst hz; exact XS.ineg hA C.1 rfl (hb C.2.1 hd) rfl st
theorem w_lneg (C : Cx p s m meth c Z own bytes maxL ret nm) {x : Int64} {z : Int64} (hz : -x = z) (hd : decode bytes pc = .ok (.lneg, 1)) (hq : pc + 1 = q) (K : AtW p l e R s m args below meth c n0 Q h cells slots (mkF m q L (.long z :: S))) : AtW p l e R s m args below meth c n0 Q h cells slots (mkF m pc L (.long x :: S)) := by
  subst hq
  exact K.go fun T hA t st => by subst hz; exact XS.lneg hA C.1 rfl (hb C.2.1 hd) rfl st
theorem w_i2l (C : Cx p s m meth c Z own bytes maxL ret nm) {x : Int32} {z : Int64} (hz : x.toInt64 = z) (hd : decode bytes pc = .ok (.i2l, 1)) (hq : pc + 1 = q) (K : AtW p l e R s m args below meth c n0 Q h cells slots (mkF m q L (.long z :: S))) : AtW p l e R s m args below meth c n0 Q h cells slots (mkF m pc L (.int x :: S)) := by
  subst hq
  exact K.go fun T hA t st => by subst hz; exact XS.i2l hA C.1 rfl (hb C.2.1 hd) rfl st
theorem w_l2i (C : Cx p s m meth c Z own bytes maxL ret nm) {x : Int64} {z : Int32} (hz : x.toInt32 = z) (hd : decode bytes pc = .ok (.l2i, 1)) (hq : pc + 1 = q) (K : AtW p l e R s m args below meth c n0 Q h cells slots (mkF m q L (.int z :: S))) : AtW p l e R s m args below meth c n0 Q h cells slots (mkF m pc L (.long x :: S)) := by
  subst hq
  exact K.go fun T hA t st => by subst hz; exact XS.l2i hA C.1 rfl (hb C.2.1 hd) rfl st
theorem w_i2b (C : Cx p s m meth c Z own bytes maxL ret nm) {x : Int32} {z : Int32} (hz : x.toInt8.toInt32 = z) (hd : decode bytes pc = .ok (.i2b, 1)) (hq : pc + 1 = q) (K : AtW p l e R s m args below meth c n0 Q h cells slots (mkF m q L (.int z :: S))) : AtW p l e R s m args below meth c n0 Q h cells slots (mkF m pc L (.int x :: S)) := by
  subst hq
  exact K.go fun T hA t st => by subst hz; exact XS.i2b hA C.1 rfl (hb C.2.1 hd) rfl st
theorem w_i2s (C : Cx p s m meth c Z own bytes maxL ret nm) {x : Int32} {z : Int32} (hz : x.toInt16.toInt32 = z) (hd : decode bytes pc = .ok (.i2s, 1)) (hq : pc + 1 = q) (K : AtW p l e R s m args below meth c n0 Q h cells slots (mkF m q L (.int z :: S))) : AtW p l e R s m args below meth c n0 Q h cells slots (mkF m pc L (.int x :: S)) := by
  subst hq
  exact K.go fun T hA t st => by subst hz; exact XS.i2s hA C.1 rfl (hb C.2.1 hd) rfl st
theorem w_i2c (C : Cx p s m meth c Z own bytes maxL ret nm) {x : Int32} {z : Int32} (hz : x.toUInt32.toUInt16.toUInt32.toInt32 = z) (hd : decode bytes pc = .ok (.i2c, 1)) (hq : pc + 1 = q) (K : AtW p l e R s m args below meth c n0 Q h cells slots (mkF m q L (.int z :: S))) : AtW p l e R s m args below meth c n0 Q h cells slots (mkF m pc L (.int x :: S)) := by
  subst hq
  exact K.go fun T hA t st => by subst hz; exact XS.i2c hA C.1 rfl (hb C.2.1 hd) rfl st
theorem w_lcmp (C : Cx p s m meth c Z own bytes maxL ret nm) {x y : Int64} {z : Int32} (hz : lcmpW x y = z) (hd : decode bytes pc = .ok (.lcmp, 1)) (hq : pc + 1 = q) (K : AtW p l e R s m args below meth c n0 Q h cells slots (mkF m q L (.int z :: S))) : AtW p l e R s m args below meth c n0 Q h cells slots (mkF m pc L (.long y :: .long x :: S)) := by
  subst hq
  exact K.go fun T hA t st => by subst hz; exact XS.lcmp hA C.1 rfl (hb C.2.1 hd) rfl st
theorem w_dup (C : Cx p s m meth c Z own bytes maxL ret nm) {x : Value} (hc : x.category = 1) (hd : decode bytes pc = .ok (.dup, 1)) (hq : pc + 1 = q) (K : AtW p l e R s m args below meth c n0 Q h cells slots (mkF m q L (x :: x :: S))) : AtW p l e R s m args below meth c n0 Q h cells slots (mkF m pc L (x :: S)) := by
  subst hq
  exact K.go fun T hA t st => XS.dup hA C.1 rfl (hb C.2.1 hd) rfl hc st
theorem w_pop (C : Cx p s m meth c Z own bytes maxL ret nm) {x : Value} (hc : x.category = 1) (hd : decode bytes pc = .ok (.pop, 1)) (hq : pc + 1 = q) (K : AtW p l e R s m args below meth c n0 Q h cells slots (mkF m q L S)) : AtW p l e R s m args below meth c n0 Q h cells slots (mkF m pc L (x :: S)) := by
  subst hq
  exact K.go fun T hA t st => XS.pop hA C.1 rfl (hb C.2.1 hd) rfl hc st
theorem w_dup_x1 (C : Cx p s m meth c Z own bytes maxL ret nm) {x y : Value} (hc : x.category = 1) (hc' : y.category = 1) (hd : decode bytes pc = .ok (.dup_x1, 1)) (hq : pc + 1 = q) (K : AtW p l e R s m args below meth c n0 Q h cells slots (mkF m q L (x :: y :: x :: S))) : AtW p l e R s m args below meth c n0 Q h cells slots (mkF m pc L (x :: y :: S)) := by
  subst hq
  exact K.go fun T hA t st => XS.dupX1 hA C.1 rfl (hb C.2.1 hd) rfl hc hc' st
theorem w_iinc (C : Cx p s m meth c Z own bytes maxL ret nm) {k : Nat} {cst : Int} {x z : Int32} (hl : L[k]? = some (.val (.int x))) (hz : x + Int32.ofInt cst = z) (hl' : storeLocals L k (.int z) = some L') (hd : decode bytes pc = .ok (.iinc k cst, 3)) (hq : pc + 3 = q) (K : AtW p l e R s m args below meth c n0 Q h cells slots (mkF m q L' S)) : AtW p l e R s m args below meth c n0 Q h cells slots (mkF m pc L S) := by
  subst hq
  exact K.go fun T hA t st => by subst hz; exact XS.iinc hA C.1 rfl (hb C.2.1 hd) hl hl' st
theorem w_goto (C : Cx p s m meth c Z own bytes maxL ret nm) {o : Int} (hd : decode bytes pc = .ok (.goto o, 3)) (ho : 0 ≤ (pc : Int) + o) (hp : ((pc : Int) + o).toNat = q) (K : AtW p l e R s m args below meth c n0 Q h cells slots (mkF m q L S)) : AtW p l e R s m args below meth c n0 Q h cells slots (mkF m pc L S) :=
  K.go fun T hA t st => XS.goto hA C.1 rfl (pc0 := pc) (pc' := q) rfl (hb C.2.1 hd) ho hp st
theorem w_icmp_lt_t (C : Cx p s m meth c Z own bytes maxL ret nm) {o : Int} {x y : Int32} (hd : decode bytes pc = .ok (.if_icmp .lt o, 3)) (ho : 0 ≤ (pc : Int) + o) (hp : ((pc : Int) + o).toNat = q) (hc : x < y) (K : AtW p l e R s m args below meth c n0 Q h cells slots (mkF m q L S)) : AtW p l e R s m args below meth c n0 Q h cells slots (mkF m pc L (.int y :: .int x :: S)) :=
  K.go fun T hA t st => XS.icmpYes hA C.1 rfl (pc0 := pc) (pc' := q) rfl (hb C.2.1 hd) rfl (tlt hc).1 ho hp st
theorem w_icmp_lt_f (C : Cx p s m meth c Z own bytes maxL ret nm) {o : Int} {x y : Int32} (hd : decode bytes pc = .ok (.if_icmp .lt o, 3)) (hq : pc + 3 = q) (hc : ¬ x < y) (K : AtW p l e R s m args below meth c n0 Q h cells slots (mkF m q L S)) : AtW p l e R s m args below meth c n0 Q h cells slots (mkF m pc L (.int y :: .int x :: S)) := by
  subst hq
  exact K.go fun T hA t st => XS.icmpNo hA C.1 rfl (hb C.2.1 hd) rfl (flt hc).1 st
theorem w_if_lt_t (C : Cx p s m meth c Z own bytes maxL ret nm) {o : Int} {x : Int32} (hd : decode bytes pc = .ok (.ifCond .lt o, 3)) (ho : 0 ≤ (pc : Int) + o) (hp : ((pc : Int) + o).toNat = q) (hc : x < 0) (K : AtW p l e R s m args below meth c n0 Q h cells slots (mkF m q L S)) : AtW p l e R s m args below meth c n0 Q h cells slots (mkF m pc L (.int x :: S)) :=
  K.go fun T hA t st => XS.ifYes hA C.1 rfl (pc0 := pc) (pc' := q) rfl (hb C.2.1 hd) rfl ((if0 _ _).trans (tlt hc).1) ho hp st
theorem w_if_lt_f (C : Cx p s m meth c Z own bytes maxL ret nm) {o : Int} {x : Int32} (hd : decode bytes pc = .ok (.ifCond .lt o, 3)) (hq : pc + 3 = q) (hc : ¬ x < 0) (K : AtW p l e R s m args below meth c n0 Q h cells slots (mkF m q L S)) : AtW p l e R s m args below meth c n0 Q h cells slots (mkF m pc L (.int x :: S)) := by
  subst hq
  exact K.go fun T hA t st => XS.ifNo hA C.1 rfl (hb C.2.1 hd) rfl ((if0 _ _).trans (flt hc).1) st
theorem w_icmp_ge_t (C : Cx p s m meth c Z own bytes maxL ret nm) {o : Int} {x y : Int32} (hd : decode bytes pc = .ok (.if_icmp .ge o, 3)) (ho : 0 ≤ (pc : Int) + o) (hp : ((pc : Int) + o).toNat = q) (hc : ¬ x < y) (K : AtW p l e R s m args below meth c n0 Q h cells slots (mkF m q L S)) : AtW p l e R s m args below meth c n0 Q h cells slots (mkF m pc L (.int y :: .int x :: S)) :=
  K.go fun T hA t st => XS.icmpYes hA C.1 rfl (pc0 := pc) (pc' := q) rfl (hb C.2.1 hd) rfl (flt hc).2.1 ho hp st
theorem w_icmp_ge_f (C : Cx p s m meth c Z own bytes maxL ret nm) {o : Int} {x y : Int32} (hd : decode bytes pc = .ok (.if_icmp .ge o, 3)) (hq : pc + 3 = q) (hc : x < y) (K : AtW p l e R s m args below meth c n0 Q h cells slots (mkF m q L S)) : AtW p l e R s m args below meth c n0 Q h cells slots (mkF m pc L (.int y :: .int x :: S)) := by
  subst hq
  exact K.go fun T hA t st => XS.icmpNo hA C.1 rfl (hb C.2.1 hd) rfl (tlt hc).2.1 st
theorem w_if_ge_t (C : Cx p s m meth c Z own bytes maxL ret nm) {o : Int} {x : Int32} (hd : decode bytes pc = .ok (.ifCond .ge o, 3)) (ho : 0 ≤ (pc : Int) + o) (hp : ((pc : Int) + o).toNat = q) (hc : ¬ x < 0) (K : AtW p l e R s m args below meth c n0 Q h cells slots (mkF m q L S)) : AtW p l e R s m args below meth c n0 Q h cells slots (mkF m pc L (.int x :: S)) :=
  K.go fun T hA t st => XS.ifYes hA C.1 rfl (pc0 := pc) (pc' := q) rfl (hb C.2.1 hd) rfl ((if0 _ _).trans (flt hc).2.1) ho hp st
theorem w_if_ge_f (C : Cx p s m meth c Z own bytes maxL ret nm) {o : Int} {x : Int32} (hd : decode bytes pc = .ok (.ifCond .ge o, 3)) (hq : pc + 3 = q) (hc : x < 0) (K : AtW p l e R s m args below meth c n0 Q h cells slots (mkF m q L S)) : AtW p l e R s m args below meth c n0 Q h cells slots (mkF m pc L (.int x :: S)) := by
  subst hq
  exact K.go fun T hA t st => XS.ifNo hA C.1 rfl (hb C.2.1 hd) rfl ((if0 _ _).trans (tlt hc).2.1) st
theorem w_icmp_gt_t (C : Cx p s m meth c Z own bytes maxL ret nm) {o : Int} {x y : Int32} (hd : decode bytes pc = .ok (.if_icmp .gt o, 3)) (ho : 0 ≤ (pc : Int) + o) (hp : ((pc : Int) + o).toNat = q) (hc : y < x) (K : AtW p l e R s m args below meth c n0 Q h cells slots (mkF m q L S)) : AtW p l e R s m args below meth c n0 Q h cells slots (mkF m pc L (.int y :: .int x :: S)) :=
  K.go fun T hA t st => XS.icmpYes hA C.1 rfl (pc0 := pc) (pc' := q) rfl (hb C.2.1 hd) rfl (tlt hc).2.2.1 ho hp st
theorem w_icmp_gt_f (C : Cx p s m meth c Z own bytes maxL ret nm) {o : Int} {x y : Int32} (hd : decode bytes pc = .ok (.if_icmp .gt o, 3)) (hq : pc + 3 = q) (hc : ¬ y < x) (K : AtW p l e R s m args below meth c n0 Q h cells slots (mkF m q L S)) : AtW p l e R s m args below meth c n0 Q h cells slots (mkF m pc L (.int y :: .int x :: S)) := by
  subst hq
  exact K.go fun T hA t st => XS.icmpNo hA C.1 rfl (hb C.2.1 hd) rfl (flt hc).2.2.1 st
theorem w_if_gt_t (C : Cx p s m meth c Z own bytes maxL ret nm) {o : Int} {x : Int32} (hd : decode bytes pc = .ok (.ifCond .gt o, 3)) (ho : 0 ≤ (pc : Int) + o) (hp : ((pc : Int) + o).toNat = q) (hc : 0 < x) (K : AtW p l e R s m args below meth c n0 Q h cells slots (mkF m q L S)) : AtW p l e R s m args below meth c n0 Q h cells slots (mkF m pc L (.int x :: S)) :=
  K.go fun T hA t st => XS.ifYes hA C.1 rfl (pc0 := pc) (pc' := q) rfl (hb C.2.1 hd) rfl ((if0 _ _).trans (tlt hc).2.2.1) ho hp st
theorem w_if_gt_f (C : Cx p s m meth c Z own bytes maxL ret nm) {o : Int} {x : Int32} (hd : decode bytes pc = .ok (.ifCond .gt o, 3)) (hq : pc + 3 = q) (hc : ¬ 0 < x) (K : AtW p l e R s m args below meth c n0 Q h cells slots (mkF m q L S)) : AtW p l e R s m args below meth c n0 Q h cells slots (mkF m pc L (.int x :: S)) := by
  subst hq
  exact K.go fun T hA t st => XS.ifNo hA C.1 rfl (hb C.2.1 hd) rfl ((if0 _ _).trans (flt hc).2.2.1) st
theorem w_icmp_le_t (C : Cx p s m meth c Z own bytes maxL ret nm) {o : Int} {x y : Int32} (hd : decode bytes pc = .ok (.if_icmp .le o, 3)) (ho : 0 ≤ (pc : Int) + o) (hp : ((pc : Int) + o).toNat = q) (hc : ¬ y < x) (K : AtW p l e R s m args below meth c n0 Q h cells slots (mkF m q L S)) : AtW p l e R s m args below meth c n0 Q h cells slots (mkF m pc L (.int y :: .int x :: S)) :=
  K.go fun T hA t st => XS.icmpYes hA C.1 rfl (pc0 := pc) (pc' := q) rfl (hb C.2.1 hd) rfl (flt hc).2.2.2 ho hp st
theorem w_icmp_le_f (C : Cx p s m meth c Z own bytes maxL ret nm) {o : Int} {x y : Int32} (hd : decode bytes pc = .ok (.if_icmp .le o, 3)) (hq : pc + 3 = q) (hc : y < x) (K : AtW p l e R s m args below meth c n0 Q h cells slots (mkF m q L S)) : AtW p l e R s m args below meth c n0 Q h cells slots (mkF m pc L (.int y :: .int x :: S)) := by
  subst hq
  exact K.go fun T hA t st => XS.icmpNo hA C.1 rfl (hb C.2.1 hd) rfl (tlt hc).2.2.2 st
theorem w_if_le_t (C : Cx p s m meth c Z own bytes maxL ret nm) {o : Int} {x : Int32} (hd : decode bytes pc = .ok (.ifCond .le o, 3)) (ho : 0 ≤ (pc : Int) + o) (hp : ((pc : Int) + o).toNat = q) (hc : ¬ 0 < x) (K : AtW p l e R s m args below meth c n0 Q h cells slots (mkF m q L S)) : AtW p l e R s m args below meth c n0 Q h cells slots (mkF m pc L (.int x :: S)) :=
  K.go fun T hA t st => XS.ifYes hA C.1 rfl (pc0 := pc) (pc' := q) rfl (hb C.2.1 hd) rfl ((if0 _ _).trans (flt hc).2.2.2) ho hp st
theorem w_if_le_f (C : Cx p s m meth c Z own bytes maxL ret nm) {o : Int} {x : Int32} (hd : decode bytes pc = .ok (.ifCond .le o, 3)) (hq : pc + 3 = q) (hc : 0 < x) (K : AtW p l e R s m args below meth c n0 Q h cells slots (mkF m q L S)) : AtW p l e R s m args below meth c n0 Q h cells slots (mkF m pc L (.int x :: S)) := by
  subst hq
  exact K.go fun T hA t st => XS.ifNo hA C.1 rfl (hb C.2.1 hd) rfl ((if0 _ _).trans (tlt hc).2.2.2) st
theorem w_icmp_eq_t (C : Cx p s m meth c Z own bytes maxL ret nm) {o : Int} {x y : Int32} (hd : decode bytes pc = .ok (.if_icmp .eq o, 3)) (ho : 0 ≤ (pc : Int) + o) (hp : ((pc : Int) + o).toNat = q) (hc : x = y) (K : AtW p l e R s m args below meth c n0 Q h cells slots (mkF m q L S)) : AtW p l e R s m args below meth c n0 Q h cells slots (mkF m pc L (.int y :: .int x :: S)) :=
  K.go fun T hA t st => XS.icmpYes hA C.1 rfl (pc0 := pc) (pc' := q) rfl (hb C.2.1 hd) rfl (teq hc).1 ho hp st
theorem w_icmp_eq_f (C : Cx p s m meth c Z own bytes maxL ret nm) {o : Int} {x y : Int32} (hd : decode bytes pc = .ok (.if_icmp .eq o, 3)) (hq : pc + 3 = q) (hc : ¬ x = y) (K : AtW p l e R s m args below meth c n0 Q h cells slots (mkF m q L S)) : AtW p l e R s m args below meth c n0 Q h cells slots (mkF m pc L (.int y :: .int x :: S)) := by
  subst hq
  exact K.go fun T hA t st => XS.icmpNo hA C.1 rfl (hb C.2.1 hd) rfl (feq hc).1 st
theorem w_if_eq_t (C : Cx p s m meth c Z own bytes maxL ret nm) {o : Int} {x : Int32} (hd : decode bytes pc = .ok (.ifCond .eq o, 3)) (ho : 0 ≤ (pc : Int) + o) (hp : ((pc : Int) + o).toNat = q) (hc : x = 0) (K : AtW p l e R s m args below meth c n0 Q h cells slots (mkF m q L S)) : AtW p l e R s m args below meth c n0 Q h cells slots (mkF m pc L (.int x :: S)) :=
  K.go fun T hA t st => XS.ifYes hA C.1 rfl (pc0 := pc) (pc' := q) rfl (hb C.2.1 hd) rfl ((if0 _ _).trans (teq hc).1) ho hp st
theorem w_if_eq_f (C : Cx p s m meth c Z own bytes maxL ret nm) {o : Int} {x : Int32} (hd : decode bytes pc = .ok (.ifCond .eq o, 3)) (hq : pc + 3 = q) (hc : ¬ x = 0) (K : AtW p l e R s m args below meth c n0 Q h cells slots (mkF m q L S)) : AtW p l e R s m args below meth c n0 Q h cells slots (mkF m pc L (.int x :: S)) := by
  subst hq
  exact K.go fun T hA t st => XS.ifNo hA C.1 rfl (hb C.2.1 hd) rfl ((if0 _ _).trans (feq hc).1) st
theorem w_icmp_ne_t (C : Cx p s m meth c Z own bytes maxL ret nm) {o : Int} {x y : Int32} (hd : decode bytes pc = .ok (.if_icmp .ne o, 3)) (ho : 0 ≤ (pc : Int) + o) (hp : ((pc : Int) + o).toNat = q) (hc : ¬ x = y) (K : AtW p l e R s m args below meth c n0 Q h cells slots (mkF m q L S)) : AtW p l e R s m args below meth c n0 Q h cells slots (mkF m pc L (.int y :: .int x :: S)) :=
  K.go fun T hA t st => XS.icmpYes hA C.1 rfl (pc0 := pc) (pc' := q) rfl (hb C.2.1 hd) rfl (feq hc).2 ho hp st
theorem w_icmp_ne_f (C : Cx p s m meth c Z own bytes maxL ret nm) {o : Int} {x y : Int32} (hd : decode bytes pc = .ok (.if_icmp .ne o, 3)) (hq : pc + 3 = q) (hc : x = y) (K : AtW p l e R s m args below meth c n0 Q h cells slots (mkF m q L S)) : AtW p l e R s m args below meth c n0 Q h cells slots (mkF m pc L (.int y :: .int x :: S)) := by
  subst hq
  exact K.go fun T hA t st => XS.icmpNo hA C.1 rfl (hb C.2.1 hd) rfl (teq hc).2 st
theorem w_if_ne_t (C : Cx p s m meth c Z own bytes maxL ret nm) {o : Int} {x : Int32} (hd : decode bytes pc = .ok (.ifCond .ne o, 3)) (ho : 0 ≤ (pc : Int) + o) (hp : ((pc : Int) + o).toNat = q) (hc : ¬ x = 0) (K : AtW p l e R s m args below meth c n0 Q h cells slots (mkF m q L S)) : AtW p l e R s m args below meth c n0 Q h cells slots (mkF m pc L (.int x :: S)) :=
  K.go fun T hA t st => XS.ifYes hA C.1 rfl (pc0 := pc) (pc' := q) rfl (hb C.2.1 hd) rfl ((if0 _ _).trans (feq hc).2) ho hp st
theorem w_if_ne_f (C : Cx p s m meth c Z own bytes maxL ret nm) {o : Int} {x : Int32} (hd : decode bytes pc = .ok (.ifCond .ne o, 3)) (hq : pc + 3 = q) (hc : x = 0) (K : AtW p l e R s m args below meth c n0 Q h cells slots (mkF m q L S)) : AtW p l e R s m args below meth c n0 Q h cells slots (mkF m pc L (.int x :: S)) := by
  subst hq
  exact K.go fun T hA t st => XS.ifNo hA C.1 rfl (hb C.2.1 hd) rfl ((if0 _ _).trans (teq hc).2) st
theorem w_ifnull_t (C : Cx p s m meth c Z own bytes maxL ret nm) {o : Int} (hd : decode bytes pc = .ok (.ifnull o, 3)) (ho : 0 ≤ (pc : Int) + o) (hp : ((pc : Int) + o).toNat = q) (K : AtW p l e R s m args below meth c n0 Q h cells slots (mkF m q L S)) : AtW p l e R s m args below meth c n0 Q h cells slots (mkF m pc L (.null :: S)) :=
  K.go fun T hA t st => XS.ifnullYes hA C.1 rfl (pc0 := pc) (pc' := q) rfl (hb C.2.1 hd) rfl ho hp st
theorem w_ifnull_f (C : Cx p s m meth c Z own bytes maxL ret nm) {o : Int} {b : Addr} (hd : decode bytes pc = .ok (.ifnull o, 3)) (hq : pc + 3 = q) (K : AtW p l e R s m args below meth c n0 Q h cells slots (mkF m q L S)) : AtW p l e R s m args below meth c n0 Q h cells slots (mkF m pc L ((.ref b) :: S)) := by
  subst hq
  exact K.go fun T hA t st => XS.ifnullNo hA C.1 rfl (hb C.2.1 hd) rfl st
theorem w_ifnonnull_t (C : Cx p s m meth c Z own bytes maxL ret nm) {o : Int} {b : Addr} (hd : decode bytes pc = .ok (.ifnonnull o, 3)) (ho : 0 ≤ (pc : Int) + o) (hp : ((pc : Int) + o).toNat = q) (K : AtW p l e R s m args below meth c n0 Q h cells slots (mkF m q L S)) : AtW p l e R s m args below meth c n0 Q h cells slots (mkF m pc L ((.ref b) :: S)) :=
  K.go fun T hA t st => XS.ifnonnullYes hA C.1 rfl (pc0 := pc) (pc' := q) rfl (hb C.2.1 hd) rfl ho hp st
theorem w_ifnonnull_f (C : Cx p s m meth c Z own bytes maxL ret nm) {o : Int} (hd : decode bytes pc = .ok (.ifnonnull o, 3)) (hq : pc + 3 = q) (K : AtW p l e R s m args below meth c n0 Q h cells slots (mkF m q L S)) : AtW p l e R s m args below meth c n0 Q h cells slots (mkF m pc L (.null :: S)) := by
  subst hq
  exact K.go fun T hA t st => XS.ifnonnullNo hA C.1 rfl (hb C.2.1 hd) rfl st
theorem w_acmp_t (C : Cx p s m meth c Z own bytes maxL ret nm) {cd : ACond} {o : Int} {x y : Value} (hd : decode bytes pc = .ok (.if_acmp cd o, 3)) (h1 : x.isRef = true) (h2 : y.isRef = true) {same : Bool} (hs : decide (x = y) = same) (hcd : acV cd same = true) (ho : 0 ≤ (pc : Int) + o) (hp : ((pc : Int) + o).toNat = q) (K : AtW p l e R s m args below meth c n0 Q h cells slots (mkF m q L S)) : AtW p l e R s m args below meth c n0 Q h cells slots (mkF m pc L (y :: x :: S)) :=
  K.goX fun T locs k n X eT t st => Jvm.RoadKit.acmp (g := mkF m pc L (y :: x :: S)) X C.1 rfl h1 h2 (pc0 := pc) (pc' := q) (same := same) rfl (hb C.2.1 hd) rfl hs ho (by rw [if_pos hcd]; exact hp.symm) st
theorem w_acmp_f (C : Cx p s m meth c Z own bytes maxL ret nm) {cd : ACond} {o : Int} {x y : Value} (hd : decode bytes pc = .ok (.if_acmp cd o, 3)) (h1 : x.isRef = true) (h2 : y.isRef = true) {same : Bool} (hs : decide (x = y) = same) (hcd : acV cd same = false) (ho : 0 ≤ (pc : Int) + o) (hq : pc + 3 = q) (K : AtW p l e R s m args below meth c n0 Q h cells slots (mkF m q L S)) : AtW p l e R s m args below meth c n0 Q h cells slots (mkF m pc L (y :: x :: S)) :=
  K.goX fun T locs k n X eT t st => Jvm.RoadKit.acmp (g := mkF m pc L (y :: x :: S)) X C.1 rfl h1 h2 (pc0 := pc) (pc' := q) (same := same) rfl (hb C.2.1 hd) rfl hs ho (by rw [if_neg (by rw [hcd]; exact Bool.false_ne_true)]; exact hq.symm) st
theorem w_ldcI (C : Cx p s m meth c Z own bytes maxL ret nm) {i : Nat} {v : Int32} (w : (Jvm.Cond.constant own i v).before a0 Z = true) (hd : decode bytes pc = .ok (.ldc i, 2)) (hq : pc + 2 = q) (K : AtW p l e R s m args below meth c n0 Q h cells slots (mkF m q L (.int v :: S))) : AtW p l e R s m args below meth c n0 Q h cells slots (mkF m pc L S) := by
  subst hq
  exact K.goX fun T locs k n X eT t st => X.ldcInt C.1 C.2.2.2.2.1 (mvT C.2.2.2.1 w) (g := mkF m pc L S) rfl (hb C.2.1 hd) t st
theorem w_ldcwI (C : Cx p s m meth c Z own bytes maxL ret nm) {i : Nat} {v : Int32} (w : (Jvm.Cond.constant own i v).before a0 Z = true) (hd : decode bytes pc = .ok (.ldc_w i, 3)) (hq : pc + 3 = q) (K : AtW p l e R s m args below meth c n0 Q h cells slots (mkF m q L (.int v :: S))) : AtW p l e R s m args below meth c n0 Q h cells slots (mkF m pc L S) := by
  subst hq
  exact K.goX fun T locs k n X eT t st => X.ldcwInt C.1 C.2.2.2.2.1 (mvT C.2.2.2.1 w) (g := mkF m pc L S) rfl (hb C.2.1 hd) t st
theorem w_ldc2J (C : Cx p s m meth c Z own bytes maxL ret nm) {i : Nat} {v : Int64} (w : (Jvm.Cond.constantLong own i v).before a0 Z = true) (hd : decode bytes pc = .ok (.ldc2_w i, 3)) (hq : pc + 3 = q) (K : AtW p l e R s m args below meth c n0 Q h cells slots (mkF m q L (.long v :: S))) : AtW p l e R s m args below meth c n0 Q h cells slots (mkF m pc L S) := by
  subst hq
  exact K.goX fun T locs k n X eT t st => X.ldc2Long C.1 C.2.2.2.2.1 (mvT C.2.2.2.1 w) (g := mkF m pc L S) rfl (hb C.2.1 hd) t st

theorem w_getF (C : Cx p s m meth c Z own bytes maxL ret nm) {R0 O n d host : String} {i : Nat} {a : Addr} {v : Value} (w : (Jvm.Cond.fieldLink own i R0 n d).before a0 Z = true ∨ (Jvm.Cond.fieldLinkNest own i R0 n d host).before a0 Z = true) (via : Via Z R0 O n d) (F : Fld Z h a O n d v) (hd : decode bytes pc = .ok (.getfield i, 3)) (hq : pc + 3 = q) (K : AtW p l e R s m args below meth c n0 Q h cells slots (mkF m q L (v :: S))) : AtW p l e R s m args below meth c n0 Q h cells slots (mkF m pc L (.ref a :: S)) := by
  subst hq
  intro T locs k n X hk hn eT N
  obtain ⟨T', X', e', st⟩ := getF X C.1 C.2.2.2.1 (host := host) C.2.2.2.2.1 w via eT F (g := mkF m pc L (.ref a :: S)) rfl rfl (hb C.2.1 hd)
  obtain ⟨t, o, r1, r⟩ := K T' locs k n X' hk hn e' N
  exact ⟨t, o, st _ r1, r⟩
theorem w_getS (C : Cx p s m meth c Z own bytes maxL ret nm) {R0 O n d host : String} {i : Nat} {v : Value} (w : (Jvm.Cond.fieldLink own i R0 n d).before a0 Z = true ∨ (Jvm.Cond.fieldLinkNest own i R0 n d host).before a0 Z = true) (via : Via Z R0 O n d) (F : Sta Z h O n d v) (hd : decode bytes pc = .ok (.getstatic i, 3)) (hq : pc + 3 = q) (K : AtW p l e R s m args below meth c n0 Q h cells slots (mkF m q L (v :: S))) : AtW p l e R s m args below meth c n0 Q h cells slots (mkF m pc L S) := by
  subst hq
  intro T locs k n X hk hn eT N
  obtain ⟨T', X', e', st⟩ := getS2 X C.1 C.2.2.2.1 (host := host) C.2.2.2.2.1 w via eT F (g := mkF m pc L S) rfl (hb C.2.1 hd)
  obtain ⟨t, o, r1, r⟩ := K T' locs k n X' hk hn e' N
  exact ⟨t, o, st _ r1, r⟩
theorem w_cast (C : Cx p s m meth c Z own bytes maxL ret nm) {K : String} {i : Nat} {a : Addr} (w : (Jvm.Cond.classLink own i K).before a0 Z = true) (F : Ins Z h a K true) (hd : decode bytes pc = .ok (.checkcast i, 3)) (hq : pc + 3 = q) (K : AtW p l e R s m args below meth c n0 Q h cells slots (mkF m q L (.ref a :: S))) : AtW p l e R s m args below meth c n0 Q h cells slots (mkF m pc L (.ref a :: S)) := by
  subst hq
  intro T locs k n X hk hn eT N
  obtain ⟨T', X', e', st⟩ := castY X C.1 C.2.2.2.1 C.2.2.2.2.1 w eT F (g := mkF m pc L (.ref a :: S)) rfl rfl (hb C.2.1 hd)
  obtain ⟨t, o, r1, r⟩ := K T' locs k n X' hk hn e' N
  exact ⟨t, o, st _ r1, r⟩
theorem w_inst (C : Cx p s m meth c Z own bytes maxL ret nm) {K : String} {i : Nat} {a : Addr} (w : (Jvm.Cond.classLink own i K).before a0 Z = true) (F : Ins Z h a K true) (hd : decode bytes pc = .ok (.instanceof i, 3)) (hq : pc + 3 = q) (K : AtW p l e R s m args below meth c n0 Q h cells slots (mkF m q L (.int 1 :: S))) : AtW p l e R s m args below meth c n0 Q h cells slots (mkF m pc L (.ref a :: S)) := by
  subst hq
  intro T locs k n X hk hn eT N
  obtain ⟨T', X', e', st⟩ := instY X C.1 C.2.2.2.1 C.2.2.2.2.1 w eT F (g := mkF m pc L (.ref a :: S)) rfl rfl (hb C.2.1 hd)
  obtain ⟨t, o, r1, r⟩ := K T' locs k n X' hk hn e' N
  exact ⟨t, o, st _ r1, r⟩
theorem w_initO (C : Cx p s m meth c Z own bytes maxL ret nm) {i : Nat} {a : Addr} (w1 : (Jvm.Cond.methodLink own i Lib.objectInit).before a0 Z = true) (w2 : (Jvm.Cond.instanceMethod Lib.objectInit).before a0 Z = true) (w3 : (Jvm.Cond.code Lib.objectInit object_method_1_code 1 none).before a0 Z = true) (hL : L.size = maxL) (hf : 1 ≤ R.frames) {W : Nat} (hW : (S.map fun v => v.category).sum ≤ W) (hlo : W + 12 ≤ R.locals) (hd : decode bytes pc = .ok (.invokespecial i, 3)) (hq : pc + 3 = q) (K : AtW p l e R s m args below meth c n0 Q h cells slots (mkF m q L S)) : AtW p l e R s m args below meth c n0 Q h cells slots (mkF m pc L (.ref a :: S)) := by
  subst hq
  intro T locs k n X hk hn eT N
  obtain ⟨T', X', e', st⟩ := initO X C.1 C.2.2.2.1 C.2.2.2.2.1 w1 w2 w3 eT (g := mkF m pc L (.ref a :: S)) rfl (hL.trans C.2.2.1.symm) rfl (hb C.2.1 hd) hf (W := W) (by show 2 * 0 + _ ≤ _; omega) hlo
  obtain ⟨t, o, r1, r⟩ := K T' locs k n X' hk hn e' N
  exact ⟨t, o, st _ r1, r⟩
theorem w_putF (C : Cx p s m meth c Z own bytes maxL ret nm) {R0 O n d host Cl : String} {i kk : Nat} {ty : FieldType} {a : Addr} {v v' old : Value} (w : (Jvm.Cond.fieldLink own i R0 n d).before a0 Z = true) (via : Via Z R0 O n d) (F : Fld Z h a O n d old) (E : Exa Z h a Cl)
    (hL : (Jvm.Cond.lays Cl O n d).before a0 Z = true ∨ ((Jvm.Cond.laysFinal Cl O n d).before a0 Z = true ∧ own = O ∧ nm = "<init>")) (wi : (Jvm.Cond.instantiable Cl kk).before a0 Z = true) (hty : parseFieldDescriptor d = some ty) (hn : narrow ty v = v') (hf : fits ty v' = true) (hge : n0 ≤ a)
    (hd : decode bytes pc = .ok (.putfield i, 3)) (hq : pc + 3 = q) (K : ∀ h', Wr h h' a (Jvm.RoadKit.slotOf Z O n d) v' → AtW p l e R s m args below meth c n0 Q h' cells slots (mkF m q L S)) : AtW p l e R s m args below meth c n0 Q h cells slots (mkF m pc L (v :: .ref a :: S)) := by
  subst hq
  intro T locs k n' X hk hn' eT N
  have hL' : (Jvm.Cond.lays Cl O n d).before a0 Z = true ∨ ((Jvm.Cond.laysFinal Cl O n d).before a0 Z = true ∧ own = O ∧ meth.name = "<init>") := hL.imp id fun x => ⟨x.1, x.2.1, C.2.2.2.2.2.2.2.trans x.2.2⟩
  obtain ⟨T', h', X', e', W, st⟩ := putFN X C.1 C.2.2.2.1 C.2.2.2.2.1 w via eT F E hL' wi hty hn hf (g := mkF m pc L (v :: .ref a :: S)) rfl rfl (hb C.2.1 hd)
  obtain ⟨t, o, r1, r⟩ := K h' W T' _ k n' X' hk hn' e' (Fr.snoc X' N hge)
  exact ⟨t, o, st _ r1, r⟩
theorem w_new (C : Cx p s m meth c Z own bytes maxL ret nm) {Cl : String} {i n : Nat} (w : (Jvm.Cond.classLink own i Cl).before a0 Z = true) (wi : (Jvm.Cond.instantiable Cl n).before a0 Z = true) (wz : (Jvm.Cond.initialized Cl).before a0 Z = true) {cells' slots' : Nat} (hc1 : cells + 1 = cells') (hs1 : slots + n = slots') (hc : cells' ≤ R.cells) (hl : slots' ≤ R.slots)
    (hd : decode bytes pc = .ok (.new i, 3)) (hq : pc + 3 = q) (K : ∀ h' a, a = h.size → Ext h h' → Exa Z h' a Cl → (∀ {O nm d : String} {ty : FieldType}, RoadKit.Laid Z a0 Cl O nm d → parseFieldDescriptor d = some ty → Fld Z h' a O nm d (defaultValue ty)) → AtW p l e R s m args below meth c n0 Q h' cells' slots' (mkF m q L (.ref a :: S))) : AtW p l e R s m args below meth c n0 Q h cells slots (mkF m pc L S) := by
  subst hq hc1 hs1
  intro T locs k n' X hk hn' eT N
  obtain ⟨T', h', X', e', E, A, D, -, st⟩ := newO X C.1 C.2.2.2.1 C.2.2.2.2.1 w wi wz eT (g := mkF m pc L S) rfl (hb C.2.1 hd) (by omega) (by omega)
  obtain ⟨t, o, r1, r⟩ := K h' h.size rfl E A D T' _ (k + 1) (n' + n) X' (by omega) (by omega) e' N
  exact ⟨t, o, st _ r1, r⟩
/-- an array that holds just vs -/
def Ar (Z : State) (h : Heap) (a : Addr) (ty : FieldType) (vs : List Value) : Prop := vs.length < 2 ^ 31 ∧ ∃ k, Arv Z h a k ty (Int32.ofNat vs.length) vs (defaultValue ty)
theorem ofNat_neg {n : Nat} (h : n < 2 ^ 31) : ¬ Int32.ofNat n < 0 := by
  intro q
  have := Int32.lt_iff_toInt_lt.mp q
  rw [Int32.toInt_ofNat_small h] at this
  simp at this
  omega
theorem ofNat_nat {n : Nat} (h : n < 2 ^ 31) : (Int32.ofNat n).toNatClampNeg = n := by
  simp only [Int32.toNatClampNeg, Int32.toInt_ofNat_small h]; rfl
theorem nat_of_nonneg {x : Int32} (h : ¬ x < 0) : Int32.ofNat x.toNatClampNeg = x ∧ x.toNatClampNeg < 2 ^ 31 := by
  obtain ⟨h1, h2⟩ := back32 h
  exact ⟨h1, h2⟩
theorem Ar.keep {a : Addr} {ty : FieldType} {vs : List Value} {h' : Heap} {ws : List Addr} (F : Ar Z h a ty vs) (K : Keep h h' ws) (q : a ∉ ws) : Ar Z h' a ty vs := ⟨F.1, F.2.imp fun k V => V.keep K q⟩
theorem Ar.ext {a : Addr} {ty : FieldType} {vs : List Value} {h' : Heap} (F : Ar Z h a ty vs) (E : Ext h h') : Ar Z h' a ty vs := ⟨F.1, F.2.imp fun k V => V.ext E⟩
theorem Ar.other {a b : Addr} {ty : FieldType} {vs : List Value} {h' : Heap} {sl : Nat} {v : Value} (F : Ar Z h b ty vs) (W : Wr h h' a sl v) (q : b ≠ a) : Ar Z h' b ty vs := ⟨F.1, F.2.imp fun k V => V.other W q⟩
theorem Ar.lt {a : Addr} {ty : FieldType} {vs : List Value} (F : Ar Z h a ty vs) : a < h.size := F.2.elim fun k V => V.lt
theorem Ar.eq {a : Addr} {ty : FieldType} {vs vs' : List Value} (F : Ar Z h a ty vs) (q : vs = vs') : Ar Z h a ty vs' := q ▸ F
theorem Keep.of_ext {h' : Heap} (E : Ext h h') : Keep h h' [] := (Keep.refl h []).ext E
theorem Keep.to_ext {h' : Heap} (K : Keep h h' []) : Ext h h' := ⟨K.1, fun a c q => K.2.1 a c q (by simp)⟩
theorem w_newArr (C : Cx p s m meth c Z own bytes maxL ret nm) {aty : ArrayType} {ty : FieldType} {n : Int32} (w : (Jvm.Cond.arrayClass ty).before a0 Z = true) (hty : newarray.typeOf aty = ty) (hn : ¬ n < 0) {cap : Nat} (hcap : n.toNatClampNeg ≤ cap) (hb' : cap * 8 ≤ 536870912) {cells' slots' : Nat} (hc1 : cells + 1 = cells') (hs1 : slots + cap = slots') (hc : cells' ≤ R.cells) (hl : slots' ≤ R.slots)
    (hd : decode bytes pc = .ok (.newarray aty, 2)) (hq : pc + 2 = q) (K : ∀ h' a, a = h.size → Ext h h' → Ar Z h' a ty (List.replicate n.toNatClampNeg (defaultValue ty)) → AtW p l e R s m args below meth c n0 Q h' cells' slots' (mkF m q L (.ref a :: S))) : AtW p l e R s m args below meth c n0 Q h cells slots (mkF m pc L (.int n :: S)) := by
  subst hq hc1 hs1 hty
  intro T locs k n' X hk hn' eT N
  obtain ⟨T', h', cA, X', e', E, A, st⟩ := newP X C.1 C.2.2.2.1 w eT (g := mkF m pc L (.int n :: S)) rfl (hb C.2.1 hd) rfl hn hcap hb' (by omega) (by omega)
  have q := nat_of_nonneg hn
  have V := (Arv.new A hn).pad (pad_rep [] (defaultValue (newarray.typeOf aty)) n.toNatClampNeg)
  obtain ⟨t, o, r1, r⟩ := K h' h.size rfl E ⟨by simpa using q.2, cA, by simpa [q.1] using V⟩ T' _ (k + 1) (n' + cap) X' (by omega) (by omega) e' N
  exact ⟨t, o, st _ r1, r⟩
theorem w_len (C : Cx p s m meth c Z own bytes maxL ret nm) {a : Addr} {ty : FieldType} {vs : List Value} {z : Int32} (A : Ar Z h a ty vs) (hz : Int32.ofNat vs.length = z) (hd : decode bytes pc = .ok (.arraylength, 1)) (hq : pc + 1 = q) (K : AtW p l e R s m args below meth c n0 Q h cells slots (mkF m q L (.int z :: S))) : AtW p l e R s m args below meth c n0 Q h cells slots (mkF m pc L (.ref a :: S)) := by
  subst hq hz
  obtain ⟨hlt, k, cl, Ar, -, hS, hM, -, -⟩ := A
  refine K.goX fun T locs k n X eT t st => X.arraylength C.1 (by rw [eT]; exact Ar.1) (State.isArrayOf_alike C.2.2.2.1.alike Ar.2.1) (g := mkF m pc L (.ref a :: S)) rfl rfl (hb C.2.1 hd) t ?_
  rw [len_of hS hM]; exact st

theorem w_iaload (C : Cx p s m meth c Z own bytes maxL ret nm) {a : Addr} {vs : List Value} {j : Int32} {i : Nat} {v : Value} (A : Ar Z h a .int vs) (hj : j = Int32.ofNat i) (hv : vs[i]? = some v) (hd : decode bytes pc = .ok (.iaload, 1)) (hq : pc + 1 = q) (K : AtW p l e R s m args below meth c n0 Q h cells slots (mkF m q L (v :: S))) : AtW p l e R s m args below meth c n0 Q h cells slots (mkF m pc L (.int j :: .ref a :: S)) := by
  subst hq hj
  obtain ⟨hlt, k, cl, Ar, -, hS, hM, H, -⟩ := A
  obtain ⟨hi, hg⟩ := List.getElem?_eq_some_iff.mp hv
  have e1 := ofNat_nat (n := i) (by omega)
  have e2 := ofNat_nat hlt
  have hin : ¬ (Int32.ofNat i < 0 ∨ cl.slots.size ≤ (Int32.ofNat i).toNatClampNeg) := by
    rw [e1, hS, e2]; exact fun q => q.elim (ofNat_neg (by omega)) (by omega)
  refine K.goX fun T locs k n X eT t st => X.iaload C.1 (j := Int32.ofNat i) (v := v) (by rw [eT]; exact Ar.1) (State.isArrayOf_alike C.2.2.2.1.alike Ar.2.1) Ar.2.2 hin (by rw [e1, H i (by rw [hS, e2]; exact hi)]; simp [List.getD, hv]) (g := mkF m pc L (.int (Int32.ofNat i) :: .ref a :: S)) rfl rfl (hb C.2.1 hd) t st
theorem w_caload (C : Cx p s m meth c Z own bytes maxL ret nm) {a : Addr} {vs : List Value} {j : Int32} {i : Nat} {v : Value} (A : Ar Z h a .char vs) (hj : j = Int32.ofNat i) (hv : vs[i]? = some v) (hd : decode bytes pc = .ok (.caload, 1)) (hq : pc + 1 = q) (K : AtW p l e R s m args below meth c n0 Q h cells slots (mkF m q L (v :: S))) : AtW p l e R s m args below meth c n0 Q h cells slots (mkF m pc L (.int j :: .ref a :: S)) := by
  subst hq hj
  obtain ⟨hlt, k, cl, Ar, -, hS, hM, H, -⟩ := A
  obtain ⟨hi, hg⟩ := List.getElem?_eq_some_iff.mp hv
  have e1 := ofNat_nat (n := i) (by omega)
  have e2 := ofNat_nat hlt
  have hin : ¬ (Int32.ofNat i < 0 ∨ cl.slots.size ≤ (Int32.ofNat i).toNatClampNeg) := by
    rw [e1, hS, e2]; exact fun q => q.elim (ofNat_neg (by omega)) (by omega)
  refine K.goX fun T locs k n X eT t st => X.caload C.1 (j := Int32.ofNat i) (v := v) (by rw [eT]; exact Ar.1) (State.isArrayOf_alike C.2.2.2.1.alike Ar.2.1) Ar.2.2 hin (by rw [e1, H i (by rw [hS, e2]; exact hi)]; simp [List.getD, hv]) (g := mkF m pc L (.int (Int32.ofNat i) :: .ref a :: S)) rfl rfl (hb C.2.1 hd) t st
theorem w_baload (C : Cx p s m meth c Z own bytes maxL ret nm) {a : Addr} {vs : List Value} {j : Int32} {i : Nat} {v : Value} (A : Ar Z h a .byte vs) (hj : j = Int32.ofNat i) (hv : vs[i]? = some v) (hd : decode bytes pc = .ok (.baload, 1)) (hq : pc + 1 = q) (K : AtW p l e R s m args below meth c n0 Q h cells slots (mkF m q L (v :: S))) : AtW p l e R s m args below meth c n0 Q h cells slots (mkF m pc L (.int j :: .ref a :: S)) := by
  subst hq hj
  obtain ⟨hlt, k, cl, Ar, -, hS, hM, H, -⟩ := A
  obtain ⟨hi, hg⟩ := List.getElem?_eq_some_iff.mp hv
  have e1 := ofNat_nat (n := i) (by omega)
  have e2 := ofNat_nat hlt
  have hin : ¬ (Int32.ofNat i < 0 ∨ cl.slots.size ≤ (Int32.ofNat i).toNatClampNeg) := by
    rw [e1, hS, e2]; exact fun q => q.elim (ofNat_neg (by omega)) (by omega)
  refine K.goX fun T locs k n X eT t st => X.baloadBytes C.1 (j := Int32.ofNat i) (v := v) (by rw [eT]; exact Ar.1) (State.isArrayOf_alike C.2.2.2.1.alike Ar.2.1) Ar.2.2 hin (by rw [e1, H i (by rw [hS, e2]; exact hi)]; simp [List.getD, hv]) (g := mkF m pc L (.int (Int32.ofNat i) :: .ref a :: S)) rfl rfl (hb C.2.1 hd) t st
theorem w_laload (C : Cx p s m meth c Z own bytes maxL ret nm) {a : Addr} {vs : List Value} {j : Int32} {i : Nat} {v : Value} (A : Ar Z h a .long vs) (hj : j = Int32.ofNat i) (hv : vs[i]? = some v) (hd : decode bytes pc = .ok (.laload, 1)) (hq : pc + 1 = q) (K : AtW p l e R s m args below meth c n0 Q h cells slots (mkF m q L (v :: S))) : AtW p l e R s m args below meth c n0 Q h cells slots (mkF m pc L (.int j :: .ref a :: S)) := by
  subst hq hj
  obtain ⟨hlt, k, cl, Ar, -, hS, hM, H, -⟩ := A
  obtain ⟨hi, hg⟩ := List.getElem?_eq_some_iff.mp hv
  have e1 := ofNat_nat (n := i) (by omega)
  have e2 := ofNat_nat hlt
  have hin : ¬ (Int32.ofNat i < 0 ∨ cl.slots.size ≤ (Int32.ofNat i).toNatClampNeg) := by
    rw [e1, hS, e2]; exact fun q => q.elim (ofNat_neg (by omega)) (by omega)
  refine K.goX fun T locs k n X eT t st => X.laload C.1 (j := Int32.ofNat i) (v := v) (by rw [eT]; exact Ar.1) (State.isArrayOf_alike C.2.2.2.1.alike Ar.2.1) Ar.2.2 hin (by rw [e1, H i (by rw [hS, e2]; exact hi)]; simp [List.getD, hv]) (g := mkF m pc L (.int (Int32.ofNat i) :: .ref a :: S)) rfl rfl (hb C.2.1 hd) t st
theorem w_aaload (C : Cx p s m meth c Z own bytes maxL ret nm) {a : Addr} {ty : FieldType} {vs : List Value} {j : Int32} {i : Nat} {v : Value} (A : Ar Z h a ty vs) (hj : j = Int32.ofNat i) (hv : vs[i]? = some v) (hr : ty.isReference = true) (hd : decode bytes pc = .ok (.aaload, 1)) (hq : pc + 1 = q) (K : AtW p l e R s m args below meth c n0 Q h cells slots (mkF m q L (v :: S))) : AtW p l e R s m args below meth c n0 Q h cells slots (mkF m pc L (.int j :: .ref a :: S)) := by
  subst hq hj
  obtain ⟨hlt, k, cl, Ar, -, hS, hM, H, -⟩ := A
  obtain ⟨hi, hg⟩ := List.getElem?_eq_some_iff.mp hv
  have e1 := ofNat_nat (n := i) (by omega)
  have e2 := ofNat_nat hlt
  have hin : ¬ (Int32.ofNat i < 0 ∨ cl.slots.size ≤ (Int32.ofNat i).toNatClampNeg) := by
    rw [e1, hS, e2]; exact fun q => q.elim (ofNat_neg (by omega)) (by omega)
  refine K.goX fun T locs k n X eT t st => X.aaload C.1 (j := Int32.ofNat i) (v := v) (by rw [eT]; exact Ar.1) (State.isArrayOf_alike C.2.2.2.1.alike Ar.2.1) hr Ar.2.2 hin (by rw [e1, H i (by rw [hS, e2]; exact hi)]; simp [List.getD, hv]) (g := mkF m pc L (.int (Int32.ofNat i) :: .ref a :: S)) rfl rfl (hb C.2.1 hd) t st
theorem w_iastore (C : Cx p s m meth c Z own bytes maxL ret nm) {a : Addr} {vs : List Value} {j : Int32} {i : Nat} {x : Int32} (A : Ar Z h a .int vs) (hj : j = Int32.ofNat i) (hi : i < vs.length) (hge : n0 ≤ a) (hd : decode bytes pc = .ok (.iastore, 1)) (hq : pc + 1 = q)
    (K : ∀ h', Wr h h' a i (.int x) → Ar Z h' a .int (vs.set i (.int x)) → AtW p l e R s m args below meth c n0 Q h' cells slots (mkF m q L S)) : AtW p l e R s m args below meth c n0 Q h cells slots (mkF m pc L (.int x :: .int j :: .ref a :: S)) := by
  subst hq hj
  intro T locs k n' X hk hn' eT N
  obtain ⟨hlt, k', cl, Ar, q1, hS, hM, H, G⟩ := A
  have e1 := ofNat_nat (n := i) (by omega)
  have e2 := ofNat_nat hlt
  have hin : ¬ (Int32.ofNat i < 0 ∨ cl.slots.size ≤ (Int32.ofNat i).toNatClampNeg) := by
    rw [e1, hS, e2]; exact fun q => q.elim (ofNat_neg (by omega)) (by omega)
  obtain ⟨T', h', X', e', W, st⟩ := stI X C.1 C.2.2.2.1 eT Ar (j := Int32.ofNat i) (x := x) hin (g := mkF m pc L (.int x :: .int (Int32.ofNat i) :: .ref a :: S)) rfl rfl (hb C.2.1 hd)
  have V := Arv.set Ar q1 hS hM H G (rfl) W i e1 hi
  obtain ⟨t, o, r1, r⟩ := K h' (by rw [e1] at W; exact W) ⟨by simpa using hlt, k', by rw [List.length_set]; exact V⟩ T' _ k n' X' hk hn' e' (Fr.snoc X' N hge)
  exact ⟨t, o, st _ r1, r⟩
theorem w_castore (C : Cx p s m meth c Z own bytes maxL ret nm) {a : Addr} {vs : List Value} {j : Int32} {i : Nat} {x : Int32} {z : Int32} (hz : nar .char x = z) (A : Ar Z h a .char vs) (hj : j = Int32.ofNat i) (hi : i < vs.length) (hge : n0 ≤ a) (hd : decode bytes pc = .ok (.castore, 1)) (hq : pc + 1 = q)
    (K : ∀ h', Wr h h' a i (.int z) → Ar Z h' a .char (vs.set i (.int z)) → AtW p l e R s m args below meth c n0 Q h' cells slots (mkF m q L S)) : AtW p l e R s m args below meth c n0 Q h cells slots (mkF m pc L (.int x :: .int j :: .ref a :: S)) := by
  subst hq hj hz
  intro T locs k n' X hk hn' eT N
  obtain ⟨hlt, k', cl, Ar, q1, hS, hM, H, G⟩ := A
  have e1 := ofNat_nat (n := i) (by omega)
  have e2 := ofNat_nat hlt
  have hin : ¬ (Int32.ofNat i < 0 ∨ cl.slots.size ≤ (Int32.ofNat i).toNatClampNeg) := by
    rw [e1, hS, e2]; exact fun q => q.elim (ofNat_neg (by omega)) (by omega)
  obtain ⟨T', h', X', e', W, st⟩ := stC X C.1 C.2.2.2.1 eT Ar (j := Int32.ofNat i) (x := x) hin (g := mkF m pc L (.int x :: .int (Int32.ofNat i) :: .ref a :: S)) rfl rfl (hb C.2.1 hd)
  have V := Arv.set Ar q1 hS hM H G (fits_nar_char _) W i e1 hi
  obtain ⟨t, o, r1, r⟩ := K h' (by rw [e1] at W; exact W) ⟨by simpa using hlt, k', by rw [List.length_set]; exact V⟩ T' _ k n' X' hk hn' e' (Fr.snoc X' N hge)
  exact ⟨t, o, st _ r1, r⟩
theorem w_bastore (C : Cx p s m meth c Z own bytes maxL ret nm) {a : Addr} {vs : List Value} {j : Int32} {i : Nat} {x : Int32} {z : Int32} (hz : nar .byte x = z) (A : Ar Z h a .byte vs) (hj : j = Int32.ofNat i) (hi : i < vs.length) (hge : n0 ≤ a) (hd : decode bytes pc = .ok (.bastore, 1)) (hq : pc + 1 = q)
    (K : ∀ h', Wr h h' a i (.int z) → Ar Z h' a .byte (vs.set i (.int z)) → AtW p l e R s m args below meth c n0 Q h' cells slots (mkF m q L S)) : AtW p l e R s m args below meth c n0 Q h cells slots (mkF m pc L (.int x :: .int j :: .ref a :: S)) := by
  subst hq hj hz
  intro T locs k n' X hk hn' eT N
  obtain ⟨hlt, k', cl, Ar, q1, hS, hM, H, G⟩ := A
  have e1 := ofNat_nat (n := i) (by omega)
  have e2 := ofNat_nat hlt
  have hin : ¬ (Int32.ofNat i < 0 ∨ cl.slots.size ≤ (Int32.ofNat i).toNatClampNeg) := by
    rw [e1, hS, e2]; exact fun q => q.elim (ofNat_neg (by omega)) (by omega)
  obtain ⟨T', h', X', e', W, st⟩ := stB X C.1 C.2.2.2.1 eT Ar (j := Int32.ofNat i) (x := x) hin (g := mkF m pc L (.int x :: .int (Int32.ofNat i) :: .ref a :: S)) rfl rfl (hb C.2.1 hd)
  have V := Arv.set Ar q1 hS hM H G (fits_nar_byte _) W i e1 hi
  obtain ⟨t, o, r1, r⟩ := K h' (by rw [e1] at W; exact W) ⟨by simpa using hlt, k', by rw [List.length_set]; exact V⟩ T' _ k n' X' hk hn' e' (Fr.snoc X' N hge)
  exact ⟨t, o, st _ r1, r⟩
theorem w_lastore (C : Cx p s m meth c Z own bytes maxL ret nm) {a : Addr} {vs : List Value} {j : Int32} {i : Nat} {x : Int64} (A : Ar Z h a .long vs) (hj : j = Int32.ofNat i) (hi : i < vs.length) (hge : n0 ≤ a) (hd : decode bytes pc = .ok (.lastore, 1)) (hq : pc + 1 = q)
    (K : ∀ h', Wr h h' a i (.long x) → Ar Z h' a .long (vs.set i (.long x)) → AtW p l e R s m args below meth c n0 Q h' cells slots (mkF m q L S)) : AtW p l e R s m args below meth c n0 Q h cells slots (mkF m pc L (.long x :: .int j :: .ref a :: S)) := by
  subst hq hj
  intro T locs k n' X hk hn' eT N
  obtain ⟨hlt, k', cl, Ar, q1, hS, hM, H, G⟩ := A
  have e1 := ofNat_nat (n := i) (by omega)
  have e2 := ofNat_nat hlt
  have hin : ¬ (Int32.ofNat i < 0 ∨ cl.slots.size ≤ (Int32.ofNat i).toNatClampNeg) := by
    rw [e1, hS, e2]; exact fun q => q.elim (ofNat_neg (by omega)) (by omega)
  obtain ⟨T', h', X', e', W, st⟩ := stJ X C.1 C.2.2.2.1 eT Ar (j := Int32.ofNat i) (x := x) hin (g := mkF m pc L (.long x :: .int (Int32.ofNat i) :: .ref a :: S)) rfl rfl (hb C.2.1 hd)
  have V := Arv.set Ar q1 hS hM H G (rfl) W i e1 hi
  obtain ⟨t, o, r1, r⟩ := K h' (by rw [e1] at W; exact W) ⟨by simpa using hlt, k', by rw [List.length_set]; exact V⟩ T' _ k n' X' hk hn' e' (Fr.snoc X' N hge)
  exact ⟨t, o, st _ r1, r⟩
theorem w_retZ (C : Cx p s m meth c Z own bytes maxL ret nm) {t : FieldType} {x z : Int32} (hret : ret = some t) (ht : t = .boolean ∨ t = .byte ∨ t = .char ∨ t = .short) (hz : nar t x = z) (hd : decode bytes pc = .ok (.ireturn, 1)) (hc : cells ≤ R.cells) (hs : slots ≤ R.slots) (hQ : Q (some (.int z)) h) : AtW p l e R s m args below meth c n0 Q h cells slots (mkF m pc L (.int x :: S)) := by
  subst hz
  intro T locs k n X hk hn eT N
  obtain ⟨fs, hr, hrun, hended, hW, hsame⟩ := X.leave (v := some (.int (nar t x))) (fun h => by rw [C.2.2.2.2.2.1, hret] at h; cases h) C.2.2.2.2.2.2.1
  refine ⟨_, _, retN X C.1 (t := t) (C.2.2.2.2.2.1.trans hret) ht (hb C.2.1 hd) hr, hrun, hended, _, _, rfl, ⟨N, ?_⟩, ⟨_, rfl⟩, hW, hsame.mono (Nat.le_trans hk hc) (Nat.le_trans hn hs)⟩
  show Q _ T.heap
  rw [eT]; exact hQ
theorem w_ret (C : Cx p s m meth c Z own bytes maxL ret nm) {t : FieldType} {v : Value} {i : Instr} (hret : ret = some t) (hn' : narrow t v = v)
    (hi : (i = .ireturn ∧ (t = .int ∨ t = .boolean ∨ t = .byte ∨ t = .char ∨ t = .short) ∧ ∃ z, v = .int z) ∨ (i = .lreturn ∧ t = .long ∧ ∃ z, v = .long z) ∨ (i = .dreturn ∧ t = .double ∧ ∃ z, v = .double z) ∨ (i = .freturn ∧ t = .float ∧ ∃ z, v = .float z) ∨ (i = .areturn ∧ t.isReference = true ∧ v.isRef = true))
    (hd : decode bytes pc = .ok (i, 1)) (hc : cells ≤ R.cells) (hs : slots ≤ R.slots) (hQ : Q (some v) h) : AtW p l e R s m args below meth c n0 Q h cells slots (mkF m pc L (v :: S)) := by
  intro T locs k n X hk hn eT N
  obtain ⟨fs, hr, hrun, hended, hW, hsame⟩ := X.leave (v := some v) (fun h => by rw [C.2.2.2.2.2.1, hret] at h; cases h) C.2.2.2.2.2.2.1
  refine ⟨_, _, retOut X C.1 (t := t) (C.2.2.2.2.2.1.trans hret) hn' hi (hb C.2.1 hd) hr, hrun, hended, _, _, rfl, ⟨N, ?_⟩, ⟨_, rfl⟩, hW, hsame.mono (Nat.le_trans hk hc) (Nat.le_trans hn hs)⟩
  show Q _ T.heap
  rw [eT]; exact hQ
theorem w_retI (C : Cx p s m meth c Z own bytes maxL ret nm) {x : Int32} (hret : ret = some .int) (hd : decode bytes pc = .ok (.ireturn, 1)) (hc : cells ≤ R.cells) (hs : slots ≤ R.slots) (hQ : Q (some (.int x)) h) : AtW p l e R s m args below meth c n0 Q h cells slots (mkF m pc L (.int x :: S)) :=
  w_ret C hret rfl (Or.inl ⟨rfl, Or.inl rfl, _, rfl⟩) hd hc hs hQ
theorem w_retJ (C : Cx p s m meth c Z own bytes maxL ret nm) {x : Int64} (hret : ret = some .long) (hd : decode bytes pc = .ok (.lreturn, 1)) (hc : cells ≤ R.cells) (hs : slots ≤ R.slots) (hQ : Q (some (.long x)) h) : AtW p l e R s m args below meth c n0 Q h cells slots (mkF m pc L (.long x :: S)) :=
  w_ret C hret rfl (Or.inr (Or.inl ⟨rfl, rfl, _, rfl⟩)) hd hc hs hQ
theorem w_retA (C : Cx p s m meth c Z own bytes maxL ret nm) {t : FieldType} {v : Value} (hret : ret = some t) (ht : t.isReference = true) (hv : v.isRef = true) (hd : decode bytes pc = .ok (.areturn, 1)) (hc : cells ≤ R.cells) (hs : slots ≤ R.slots) (hQ : Q (some v) h) : AtW p l e R s m args below meth c n0 Q h cells slots (mkF m pc L (v :: S)) :=
  w_ret C hret (by rcases ref_cases hv with rfl | ⟨a, rfl⟩ <;> cases t <;> first | rfl | cases ht) (Or.inr (Or.inr (Or.inr (Or.inr ⟨rfl, ht, hv⟩)))) hd hc hs hQ
theorem w_retV (C : Cx p s m meth c Z own bytes maxL ret nm) (hret : ret = none) (hd : decode bytes pc = .ok (.return_, 1)) (hc : cells ≤ R.cells) (hs : slots ≤ R.slots) (hQ : Q none h) : AtW p l e R s m args below meth c n0 Q h cells slots (mkF m pc L []) := by
  intro T locs k n X hk hn eT N
  obtain ⟨fs, hr, hrun, hended, hW, hsame⟩ := X.leave (v := none) (fun _ => rfl) C.2.2.2.2.2.2.1
  refine ⟨_, _, X.returnOut C.1 (C.2.2.2.2.2.1.trans hret) (hb C.2.1 hd) hr, hrun, hended, _, _, rfl, ⟨N, ?_⟩, ⟨_, rfl⟩, hW, hsame.mono (Nat.le_trans hk hc) (Nat.le_trans hn hs)⟩
  show Q _ T.heap
  rw [eT]; exact hQ

theorem w_callS (C : Cx p s m meth c Z own bytes maxL ret nm) {y : MethodName} {i : Nat} {argsL : List Value} {bytesY : ByteArray} {maxY : Nat} {retY : Option FieldType} {rm : Room} {Qy : Option Value → Heap → Prop} (w1 : (Jvm.Cond.methodLink own i y).before a0 Z = true) (w2 : (Jvm.Cond.static y).before a0 Z = true) (wz : (Jvm.Cond.initialized y.cls).before a0 Z = true) (wc : (Jvm.Cond.code y bytesY maxY retY).before a0 Z = true)
    (hy : y.cls ≠ "java/lang/invoke/MethodHandle" ∧ y.cls ≠ "java/lang/invoke/VarHandle") (ct : Ct [] l Z n0 y bytesY maxY retY rm argsL.toArray h Qy) {S' : List Value} (hS : S' = argsL.reverse ++ S) (hlen : ∀ sig, parseMethodDescriptor y.desc = some sig → argsL.length = sig.parameters.length) (hL : L.size = maxL) (hf : rm.frames + 1 ≤ R.frames) {W : Nat} (hW : (S.map fun v => v.category).sum ≤ W) (hlo : W + (maxY + 11) + rm.locals ≤ R.locals) {cells' slots' : Nat} (hc1 : cells + rm.cells = cells') (hs1 : slots + rm.slots = slots') (hc : cells' ≤ R.cells) (hl : slots' ≤ R.slots)
    (hd : decode bytes pc = .ok (.invokestatic i, 3)) (hq : pc + 3 = q) (K : ∀ v h', Qy v h' → AtW p l e R s m args below meth c n0 Q h' cells' slots' (mkF m q L (v.toList ++ S))) : AtW p l e R s m args below meth c n0 Q h cells slots (mkF m pc L S') := by
  subst hq hc1 hs1
  intro T locs k n' X hk hn' eT N
  obtain ⟨v, _, ⟨T', L', k', n''⟩, -, X', ⟨Lc, hQ, hl', hc', hs'⟩, st⟩ := Jvm.LawKit.callS X C.1 (y := y) C.2.2.2.2.1 (mvT C.2.2.2.1 w1) (mvT C.2.2.2.1 w2) (mvT C.2.2.2.1 wz) (mvT C.2.2.2.1 wc) hy (backOf (W := W) (Q := fun v h L => Fr n0 L ∧ Qy v h) ct C.2.2.2.1 wc wz hf hlo) (g := mkF m pc L S') rfl (hL.trans C.2.2.1.symm) (argsL := argsL) (rest := S) hlen hS (by show 2 * 0 + _ ≤ _; omega) (hb C.2.1 hd) (fun _ _ => ⟨rfl, eT, (by show k + _ ≤ _; omega), (by show n' + _ ≤ _; omega)⟩)
  dsimp only [Pt.U, Pt.locs, Pt.cells, Pt.slots] at X' hl' hc' hs' st hQ
  subst hl' hc' hs'
  obtain ⟨t, o, r1, r⟩ := K v T'.heap hQ.2 T' _ _ _ X' (by omega) (by omega) rfl (Fr.app N hQ.1)
  exact ⟨t, o, st _ r1, r⟩
theorem w_callI (C : Cx p s m meth c Z own bytes maxL ret nm) {y : MethodName} {i : Nat} {a : Addr} {argsL : List Value} {bytesY : ByteArray} {maxY : Nat} {rm : Room} {Qy : Option Value → Heap → Prop} (hnm : y.name = "<init>") (w1 : (Jvm.Cond.methodLink own i y).before a0 Z = true) (w2 : (Jvm.Cond.instanceMethod y).before a0 Z = true) (wz : (Jvm.Cond.initialized y.cls).before a0 Z = true) (wc : (Jvm.Cond.code y bytesY maxY none).before a0 Z = true)
    (hy : y.cls ≠ "java/lang/invoke/MethodHandle" ∧ y.cls ≠ "java/lang/invoke/VarHandle") (ct : Ct [] l Z n0 y bytesY maxY none rm (.ref a :: argsL).toArray h Qy) {S' : List Value} (hS : S' = argsL.reverse ++ .ref a :: S) (hlen : ∀ sig, parseMethodDescriptor y.desc = some sig → argsL.length = sig.parameters.length) (hL : L.size = maxL) (hf : rm.frames + 1 ≤ R.frames) {W : Nat} (hW : (S.map fun v => v.category).sum ≤ W) (hlo : W + (maxY + 11) + rm.locals ≤ R.locals) {cells' slots' : Nat} (hc1 : cells + rm.cells = cells') (hs1 : slots + rm.slots = slots') (hc : cells' ≤ R.cells) (hl : slots' ≤ R.slots)
    (hd : decode bytes pc = .ok (.invokespecial i, 3)) (hq : pc + 3 = q) (K : ∀ v h', Qy v h' → AtW p l e R s m args below meth c n0 Q h' cells' slots' (mkF m q L (v.toList ++ S))) : AtW p l e R s m args below meth c n0 Q h cells slots (mkF m pc L S') := by
  subst hq hc1 hs1
  intro T locs k n' X hk hn' eT N
  obtain ⟨v, _, ⟨T', L', k', n''⟩, -, X', ⟨Lc, hQ, hl', hc', hs'⟩, st⟩ := X.specialBack C.1 (y := y) hnm C.2.2.2.2.1 (mvT C.2.2.2.1 w1) (mvT C.2.2.2.1 w2) (mvT C.2.2.2.1 wc) hy (backOf (W := W) (Q := fun v h L => Fr n0 L ∧ Qy v h) ct C.2.2.2.1 wc wz hf hlo) (g := mkF m pc L S') rfl (hL.trans C.2.2.1.symm) (Steps.refl _) (a := a) (argsL := argsL) (rest := S) hlen hS (by show 2 * 0 + _ ≤ _; omega) (hb C.2.1 hd) (fun _ _ => ⟨rfl, eT, (by show k + _ ≤ _; omega), (by show n' + _ ≤ _; omega)⟩)
  dsimp only [Pt.U, Pt.locs, Pt.cells, Pt.slots] at X' hl' hc' hs' st hQ
  subst hl' hc' hs'
  obtain ⟨t, o, r1, r⟩ := K v T'.heap hQ.2 T' _ _ _ X' (by omega) (by omega) rfl (Fr.app N hQ.1)
  exact ⟨t, o, st.trans r1, r⟩
theorem w_callV (C : Cx p s m meth c Z own bytes maxL ret nm) {y z : MethodName} {Cl : String} {i : Nat} {a : Addr} {argsL : List Value} {bytesY : ByteArray} {maxY : Nat} {retY : Option FieldType} {rm : Room} {Qy : Option Value → Heap → Prop} (E : Exa Z h a Cl) (w1 : (Jvm.Cond.methodLink own i y).before a0 Z = true) (w2 : (Jvm.Cond.declares y).before a0 Z = true) (hnf : NotFace s y) (w3 : (Jvm.Cond.selects Cl y z).before a0 Z = true) (w4 : (Jvm.Cond.instanceMethod z).before a0 Z = true) (wz : (Jvm.Cond.initialized z.cls).before a0 Z = true) (wc : (Jvm.Cond.code z bytesY maxY retY).before a0 Z = true)
    (hy : y.cls ≠ "java/lang/invoke/MethodHandle" ∧ y.cls ≠ "java/lang/invoke/VarHandle") (ct : Ct [] l Z n0 z bytesY maxY retY rm (.ref a :: argsL).toArray h Qy) {S' : List Value} (hS : S' = argsL.reverse ++ .ref a :: S) (hlen : ∀ sig, parseMethodDescriptor y.desc = some sig → argsL.length = sig.parameters.length) (hL : L.size = maxL) (hf : rm.frames + 1 ≤ R.frames) {W : Nat} (hW : (S.map fun v => v.category).sum ≤ W) (hlo : W + (maxY + 11) + rm.locals ≤ R.locals) {cells' slots' : Nat} (hc1 : cells + rm.cells = cells') (hs1 : slots + rm.slots = slots') (hc : cells' ≤ R.cells) (hl : slots' ≤ R.slots)
    (hd : decode bytes pc = .ok (.invokevirtual i, 3)) (hq : pc + 3 = q) (K : ∀ v h', Qy v h' → AtW p l e R s m args below meth c n0 Q h' cells' slots' (mkF m q L (v.toList ++ S))) : AtW p l e R s m args below meth c n0 Q h cells slots (mkF m pc L S') := by
  subst hq hc1 hs1
  intro T locs k n' X hk hn' eT N
  obtain ⟨cB, kB, q1, q2, q3⟩ := isOf C.2.2.2.1 eT E
  obtain ⟨v, _, ⟨T', L', k', n''⟩, -, X', ⟨Lc, hQ, hl', hc', hs'⟩, st⟩ := X.virtualBack C.1 (y := y) (z := z) C.2.2.2.2.1 (mvT C.2.2.2.1 w1) (mvT C.2.2.2.1 w2) hnf (mvT C.2.2.2.1 w3) (mvT C.2.2.2.1 w4) hy (backOf (W := W) (Q := fun v h L => Fr n0 L ∧ Qy v h) ct C.2.2.2.1 wc wz hf hlo) q1 q3 (g := mkF m pc L S') rfl (hL.trans C.2.2.1.symm) (Steps.refl _) (argsL := argsL) (rest := S) hlen hS (by show 2 * 0 + _ ≤ _; omega) (hb C.2.1 hd) (fun _ _ => ⟨rfl, eT, (by show k + _ ≤ _; omega), (by show n' + _ ≤ _; omega)⟩)
  dsimp only [Pt.U, Pt.locs, Pt.cells, Pt.slots] at X' hl' hc' hs' st hQ
  subst hl' hc' hs'
  obtain ⟨t, o, r1, r⟩ := K v T'.heap hQ.2 T' _ _ _ X' (by omega) (by omega) rfl (Fr.app N hQ.1)
  exact ⟨t, o, st.trans r1, r⟩
theorem w_nf (C : Cx p s m meth c Z own bytes maxL ret nm) {y : MethodName} {Cl : String} (w3 : (Jvm.Cond.selects Cl y y).before a0 Z = true) : NotFace s y := notFace_of_selects (args := #[]) (mvT C.2.2.2.1 w3)
theorem w_callP (C : Cx p s m meth c Z own bytes maxL ret nm) {y : MethodName} {Cl : String} {i : Nat} {a : Addr} {argsL : List Value} {bytesY : ByteArray} {maxY : Nat} {retY : Option FieldType} {rm : Room} {Qy : Option Value → Heap → Prop} (E : Exa Z h a Cl) (w1 : (Jvm.Cond.methodLink own i y).before a0 Z = true) (w4 : (Jvm.Cond.instanceMethod y).before a0 Z = true) (hni : NI s y.cls) (w5 : (Jvm.Cond.privateMethod y).before a0 Z = true) (wz : (Jvm.Cond.initialized y.cls).before a0 Z = true) (wc : (Jvm.Cond.code y bytesY maxY retY).before a0 Z = true)
    (hy : y.cls ≠ "java/lang/invoke/MethodHandle" ∧ y.cls ≠ "java/lang/invoke/VarHandle") (ct : Ct [] l Z n0 y bytesY maxY retY rm (.ref a :: argsL).toArray h Qy) {S' : List Value} (hS : S' = argsL.reverse ++ .ref a :: S) (hlen : ∀ sig, parseMethodDescriptor y.desc = some sig → argsL.length = sig.parameters.length) (hL : L.size = maxL) (hf : rm.frames + 1 ≤ R.frames) {W : Nat} (hW : (S.map fun v => v.category).sum ≤ W) (hlo : W + (maxY + 11) + rm.locals ≤ R.locals) {cells' slots' : Nat} (hc1 : cells + rm.cells = cells') (hs1 : slots + rm.slots = slots') (hc : cells' ≤ R.cells) (hl : slots' ≤ R.slots)
    (hd : decode bytes pc = .ok (.invokevirtual i, 3)) (hq : pc + 3 = q) (K : ∀ v h', Qy v h' → AtW p l e R s m args below meth c n0 Q h' cells' slots' (mkF m q L (v.toList ++ S))) : AtW p l e R s m args below meth c n0 Q h cells slots (mkF m pc L S') := by
  subst hq hc1 hs1
  intro T locs k n' X hk hn' eT N
  obtain ⟨cq, q1, q2⟩ := E.cell
  obtain ⟨cN, kN, n1, n2, n3⟩ := hni
  have hpv := Cond.privateMethod_at (mvP C.2.2.2.1 w5 (args := #[]))
  obtain ⟨v, _, ⟨T', L', k', n''⟩, -, X', ⟨Lc, hQ, hl', hc', hs'⟩, st⟩ := X.privateBack C.1 (y := y) C.2.2.2.2.1 (mvT C.2.2.2.1 w1) (mvT C.2.2.2.1 w4) (selects_self_of_private n1 n2 n3 hpv (mvT C.2.2.2.1 w4) hy) hpv (mvT C.2.2.2.1 wc) hy (backOf (W := W) (Q := fun v h L => Fr n0 L ∧ Qy v h) ct C.2.2.2.1 wc wz hf hlo) (g := mkF m pc L S') rfl (hL.trans C.2.2.1.symm) (Steps.refl _) (a := a) (by rw [eT]; exact q1) q2 (argsL := argsL) (rest := S) hlen hS (by show 2 * 0 + _ ≤ _; omega) (hb C.2.1 hd) (fun _ _ => ⟨rfl, eT, (by show k + _ ≤ _; omega), (by show n' + _ ≤ _; omega)⟩)
  dsimp only [Pt.U, Pt.locs, Pt.cells, Pt.slots] at X' hl' hc' hs' st hQ
  subst hl' hc' hs'
  obtain ⟨t, o, r1, r⟩ := K v T'.heap hQ.2 T' _ _ _ X' (by omega) (by omega) rfl (Fr.app N hQ.1)
  exact ⟨t, o, st.trans r1, r⟩
theorem w_callB (C : Cx p s m meth c Z own bytes maxL ret nm) {y : MethodName} {i : Nat} {a : Addr} {argsL : List Value} {bytesY : ByteArray} {maxY : Nat} {W : Nat} {dc ds : Nat} {P : Pt → Array Value → Prop} {Qy : Option Value → Heap → List Loc → Prop} (hnm : y.name = "<init>") (w1 : (Jvm.Cond.methodLink own i y).before a0 Z = true) (w2 : (Jvm.Cond.instanceMethod y).before a0 Z = true) (wc : (Jvm.Cond.code y bytesY maxY none).before a0 Z = true)
    (hy : y.cls ≠ "java/lang/invoke/MethodHandle" ∧ y.cls ≠ "java/lang/invoke/VarHandle") (bk : Back l R p e below s args y 3 W (fun A a' => a' = (Value.ref a :: argsL).toArray ∧ A.U.heap = h ∧ A.cells + dc ≤ R.cells ∧ A.slots + ds ≤ R.slots) (fun A _ v B => ∃ L, Qy v B.U.heap L ∧ B.locs = A.locs ++ L ∧ B.cells = A.cells + dc ∧ B.slots = A.slots + ds))
    {S' : List Value} (hS : S' = argsL.reverse ++ .ref a :: S) (hlen : ∀ sig, parseMethodDescriptor y.desc = some sig → argsL.length = sig.parameters.length) (hL : L.size = maxL) (hW : (S.map fun v => v.category).sum ≤ W) {cells' slots' : Nat} (hc1 : cells + dc = cells') (hs1 : slots + ds = slots') (hc : cells' ≤ R.cells) (hl : slots' ≤ R.slots)
    (hd : decode bytes pc = .ok (.invokespecial i, 3)) (hq : pc + 3 = q) (K : ∀ v h' Lc, Qy v h' Lc → Fr n0 Lc ∧ AtW p l e R s m args below meth c n0 Q h' cells' slots' (mkF m q L (v.toList ++ S))) : AtW p l e R s m args below meth c n0 Q h cells slots (mkF m pc L S') := by
  subst hq hc1 hs1
  intro T locs k n' X hk hn' eT N
  obtain ⟨v, _, ⟨T', L', k', n''⟩, -, X', ⟨Lc, hQ, hl', hc', hs'⟩, st⟩ := X.specialBack C.1 (y := y) hnm C.2.2.2.2.1 (mvT C.2.2.2.1 w1) (mvT C.2.2.2.1 w2) (mvT C.2.2.2.1 wc) hy bk (g := mkF m pc L S') rfl (hL.trans C.2.2.1.symm) (Steps.refl _) (a := a) (argsL := argsL) (rest := S) hlen hS (by show 2 * 0 + _ ≤ _; omega) (hb C.2.1 hd) (fun _ _ => ⟨rfl, eT, (by show k + _ ≤ _; omega), (by show n' + _ ≤ _; omega)⟩)
  dsimp only [Pt.U, Pt.locs, Pt.cells, Pt.slots] at X' hl' hc' hs' st hQ
  subst hl' hc' hs'
  obtain ⟨N2, K2⟩ := K v T'.heap Lc hQ
  obtain ⟨t, o, r1, r⟩ := K2 T' _ _ _ X' (by omega) (by omega) rfl (Fr.app N N2)
  exact ⟨t, o, st.trans r1, r⟩

end Wk
-- CUT
theorem own_lt {x y : Int32} : x < y ↔ x.toInt < y.toInt := Int32.lt_iff_toInt_lt
theorem own_eq {x y : Int32} : x = y ↔ x.toInt = y.toInt := Int32.toInt_inj.symm
theorem own_nat {n : Nat} (h : n < 2 ^ 31) : (Int32.ofNat n).toInt = n := Int32.toInt_ofNat_small h
theorem own_nlt {i n : Nat} (hi : i < 2 ^ 31) (hn : n < 2 ^ 31) : Int32.ofNat i < Int32.ofNat n ↔ i < n := by rw [own_lt, own_nat hi, own_nat hn]; omega
theorem own_neq {i n : Nat} (hi : i < 2 ^ 31) (hn : n < 2 ^ 31) : Int32.ofNat i = Int32.ofNat n ↔ i = n := by rw [own_eq, own_nat hi, own_nat hn]; omega
theorem own_one (i : Nat) : Int32.ofNat i + (1 : Int32) = Int32.ofNat (i + 1) := (Int32.ofNat_add i 1).symm
theorem own_shr0 (x : Int32) : x >>> ((0 : Int32) &&& 31) = x := by
  rw [own_eq, c_ishr x 0 0 (by decide)]; simp
theorem own_b8 {P : Int32 → Prop} (h : ∀ k : Fin 256, P (Int32.ofNat k.val)) {x : Int32} (h0 : ¬ x < 0) (h1 : ¬ 255 < x) : P x := by
  rw [own_lt] at h0 h1
  have e0 : (0 : Int32).toInt = 0 := rfl
  have e1 : (255 : Int32).toInt = 255 := rfl
  obtain ⟨k, hk⟩ : ∃ k : Nat, x.toInt = k := ⟨x.toInt.toNat, by omega⟩
  have hx : x = Int32.ofNat k := own_eq.mpr (by rw [hk, own_nat (by omega)])
  rw [hx]
  exact h ⟨k, by omega⟩
theorem own_lo8 {x : Int32} (h0 : ¬ x < 0) (h1 : ¬ 255 < x) : (x.toInt8.toInt32 &&& 255).toUInt32.toUInt16.toUInt32.toInt32 = x := own_b8 (P := fun x => (x.toInt8.toInt32 &&& 255).toUInt32.toUInt16.toUInt32.toInt32 = x) (by decide +kernel) h0 h1
theorem own_nar {x : Int32} (h0 : ¬ x < 0) (h1 : ¬ 255 < x) : nar .char x = x := own_b8 (P := fun x => nar .char x = x) (by decide +kernel) h0 h1
theorem own_nar8 (x : Int32) : nar .byte x.toInt8.toInt32 = x.toInt8.toInt32 := by show x.toInt8.toInt32.toInt8.toInt32 = x.toInt8.toInt32; simp
/-- chars as a Latin-1 String's bytes -/
def own_bs (cs : List Int32) : List Value := cs.map fun c => .int c.toInt8.toInt32
theorem own_bs_len (cs : List Int32) : (own_bs cs).length = cs.length := by simp [own_bs]
theorem own_bs_get {cs : List Int32} {i : Nat} {c : Int32} (h : cs[i]? = some c) : (own_bs cs)[i]? = some (.int c.toInt8.toInt32) := by simp [own_bs, h]
/-- each is a Latin-1 char -/
def L1 (cs : List Int32) : Prop := ∀ c ∈ cs, ¬ c < 0 ∧ ¬ 255 < c
theorem L1.get {cs : List Int32} (h : L1 cs) {i : Nat} {c : Int32} (q : cs[i]? = some c) : ¬ c < 0 ∧ ¬ 255 < c := h c (List.mem_of_getElem? q)
/-- a String of Latin-1 chars -/
def Str (Z : State) (h : Heap) (a : Addr) (cs : List Int32) : Prop := Exa Z h a "java/lang/String" ∧ L1 cs ∧ ∃ t, Fld Z h a "java/lang/String" "coder" "B" (.int 0) ∧ Fld Z h a "java/lang/String" "value" "[B" (.ref t) ∧ Ar Z h t .byte (own_bs cs)
section K0
variable {Z : State} {h h' : Heap} {a : Addr} {n0 : Nat}
theorem Str_k0 {cs : List Int32} (F : Str Z h a cs) (K : Keep h h' []) : Str Z h' a cs := by
  obtain ⟨E, L, t, f1, f2, A⟩ := F
  exact ⟨E.keep K, L, t, f1.keep K nin0, f2.keep K nin0, A.keep K nin0⟩
theorem Ar_k0 {ty : FieldType} {vs : List Value} (F : Ar Z h a ty vs) (K : Keep h h' []) : Ar Z h' a ty vs := F.keep K nin0
theorem Fld_k0 {C n d : String} {v : Value} (F : Fld Z h a C n d v) (K : Keep h h' []) : Fld Z h' a C n d v := F.keep K nin0
theorem Exa_k0 {C : String} (F : Exa Z h a C) (K : Keep h h' []) : Exa Z h' a C := F.keep K
theorem Old_k0 (O : Old Z n0 h) (K : Keep h h' []) : Old Z n0 h' := O.keep K all0
theorem Old_le (O : Old Z n0 h) : n0 ≤ h.size := by rw [← O.1]; exact O.2.1
theorem Str.lt {cs : List Int32} (F : Str Z h a cs) : a < h.size := F.1.lt
theorem Str.len {cs : List Int32} (F : Str Z h a cs) : cs.length < 2 ^ 31 := by
  obtain ⟨-, -, t, -, -, A⟩ := F
  have := A.1; rw [own_bs_len] at this; exact this
end K0
theorem own_L1c {c : Int32} {cs : List Int32} (h : ¬ c < 0 ∧ ¬ 255 < c) (r : L1 cs) : L1 (c :: cs) := fun x hx => by
  rcases List.mem_cons.mp hx with rfl | hx
  · exact h
  · exact r x hx
theorem own_255 (x : Int32) : ¬ (x &&& 255) < 0 ∧ ¬ 255 < (x &&& 255) := by
  have h := c_mask x 255 8 (by decide) (by decide)
  rw [own_lt, own_lt, h]
  constructor <;> (have e0 : (0 : Int32).toInt = 0 := rfl; have e1 : (255 : Int32).toInt = 255 := rfl; omega)
theorem own_i2c {x : Int32} (h : ¬ x < 0 ∧ ¬ 255 < x) : x.toUInt32.toUInt16.toUInt32.toInt32 = x := own_nar h.1 h.2
theorem own_maskN (x m : Int32) (k : Nat) (hk : k ≤ 30) (hm : m.toBitVec.toNat = 2 ^ k - 1) : ∃ j : Nat, j < 2 ^ k ∧ x &&& m = Int32.ofNat j := by
  have h := c_mask x m k (by omega) hm
  have hp : (2 ^ k : Nat) ≤ 2 ^ 30 := Nat.pow_le_pow_right (by decide) hk
  have h0 : (0 : Int) < ((2 ^ k : Nat) : Int) := by have := Nat.two_pow_pos k; omega
  have h1 : 0 ≤ x.toInt % ((2 ^ k : Nat) : Int) := Int.emod_nonneg _ (by omega)
  have h2 : x.toInt % ((2 ^ k : Nat) : Int) < ((2 ^ k : Nat) : Int) := Int.emod_lt_of_pos _ h0
  refine ⟨(x &&& m).toInt.toNat, by rw [h]; omega, ?_⟩
  rw [own_eq, own_nat (by rw [h]; omega), h]
  omega
theorem own_and3 (x : Int32) : x &&& 3 = 0 ∨ x &&& 3 = 1 ∨ x &&& 3 = 2 ∨ x &&& 3 = 3 := by
  have h := c_mask x 3 2 (by decide) (by decide)
  have h2 : 0 ≤ (x &&& 3).toInt ∧ (x &&& 3).toInt < 4 := by rw [h]; constructor <;> omega
  simp only [own_eq]
  show _ = 0 ∨ _ = 1 ∨ _ = 2 ∨ _ = 3
  omega

-- CUT
/-! ## the same for walks that may load String constants -/
/-- from every state that stands (over the tables vm0 so far) at heap h with frame g; mk: every booked constant lies below it; sf: addresses that no booked constant has -/
def AtS (p : Program) (l : Launch) (e : Env) (R : Room) (s : State) (m : MethodId) (args : Array Value) (below : List Frame) (meth : Method) (c : Code) (Z : State) (EL : List (String × Nat)) (own : String) (n0 : Nat) (Q : Option Value → Heap → Prop) (mk : Nat) (sf : List Addr) (h : Heap) (cells slots : Nat) (g : JFrame) : Prop :=
  ∀ (T : State) (locs : List Loc) (k n : Nat) (vm0 : Vm) (k0 : Nat), Stand p l e R (s.setVm vm0) m args below meth c T locs k n → k ≤ cells → n ≤ slots → T.heap = h → Fr n0 locs →
    Z.Warmed39 vm0 → vm0.findClass own = some m.cls → s.Since vm0 k0 → k0 ≤ h.size → CHr Z EL s.vm s.heap vm0 h → (∀ y, Bk Z EL vm0 h y → y < mk) → (∀ x ∈ sf, x < h.size ∧ Safe Z EL vm0 h x) →
    ∃ t o, Steps p.tables e below (T.setTop g) t ∧ t.status = .running ∧ Ended t below o ∧ ∃ v L, o = .returned v ∧ (Fr n0 L ∧ Q v t.heap) ∧ CHr Z EL s.vm s.heap t.vm t.heap ∧ ReturnedEndW s o t L R.cells R.slots
def Cs (ws : List Jvm.Cond) (l : Launch) (Z : State) (EL : List (String × Nat)) (n0 : Nat) (y : MethodName) (bytes : ByteArray) (maxL : Nat) (ret : Option FieldType) (rm : Room) (as : Array Value) (h0 : Heap) (Q : Option Value → Heap → Prop) : Prop :=
  MetFree l y (head1 (Jvm.Cond.code y bytes maxL ret :: ws) rm) (fun a U => a = as ∧ Z.Warmed39 U.vm ∧ U.heap = h0 ∧ CHv Z EL U.vm h0) (fun _ _ _ _ _ => True)
    (fun _ U o U' => ∃ v L, o = .returned v ∧ (Fr n0 L ∧ Q v U'.heap) ∧ CHr Z EL U.vm U.heap U'.vm U'.heap ∧ ReturnedEndW U o U' L rm.cells rm.slots)
section WkS
variable {p : Program} {l : Launch} {e : Env} {R : Room} {s : State} {m : MethodId} {args : Array Value} {below : List Frame} {meth : Method} {c : Code} {n0 : Nat} {Q : Option Value → Heap → Prop} {h : Heap} {cells slots : Nat} {Z : State} {own : String} {bytes : ByteArray} {maxL : Nat} {ret : Option FieldType} {nm : String} {a0 : Array Value} {pc q : Nat} {L L' : Array Slot} {S : List Value} {EL : List (String × Nat)} {mk : Nat} {sf : List Addr}
theorem bk_lt {vm : Vm} {y : Addr} (B : Bk Z EL vm h y) : y < h.size := by
  obtain ⟨cell, hc⟩ := B.there
  exact (Array.getElem?_eq_some_iff.mp hc).1
theorem Cs.intro {ws : List Jvm.Cond} {y : MethodName} {rm : Room} {as : Array Value} (hp : plainFor y = true)
    (k : ∀ p e s m below meth c, Cx p s m meth c Z y.cls bytes maxL ret y.name → AtS p l e rm s m as below meth c Z EL y.cls n0 Q h.size [] h 0 0 (entryFrame m as maxL)) : Cs ws l Z EL n0 y bytes maxL ret rm as h Q := by
  refine MetFree.of_bodySF hp hisR ?_
  intro p e s m args below meth c s₁ Bd hml0 hP hK
  obtain ⟨rfl, hZ, hh, hC⟩ := hP
  have X0 := Stand.of_body Bd
  have hown := findClass_of_methodNamed Bd.named
  refine k p e s m below meth c ⟨Bd.exec, Bd.bytes, hml0, hZ, hown, Bd.returns, Bd.notSynchronized, (name_of_methodNamed Bd.named Bd.method).1⟩ s₁ [] 0 0 s.vm s.heap.size X0 (Nat.le_refl _) (Nat.le_refl _) ?_ (Fr.nil n0) hZ hown ?_ ?_ ?_ ?_ ?_
  · rw [← hh, Bd.state]; rfl
  · exact ⟨State.Warmed39.refl s, fun j q hj hq => absurd (Array.getElem?_eq_some_iff.mp hq).1 (Nat.not_lt.mpr hj)⟩
  · rw [hh]; exact Nat.le_refl _
  · subst hh; exact CHr.refl hC
  · intro y hy; exact bk_lt hy
  · intro x hx; exact absurd hx (List.not_mem_nil)
theorem AtS.mono {g : JFrame} {cells' slots' : Nat} (K : AtS p l e R s m args below meth c Z EL own n0 Q mk sf h cells' slots' g) (h1 : cells ≤ cells') (h2 : slots ≤ slots') : AtS p l e R s m args below meth c Z EL own n0 Q mk sf h cells slots g :=
  fun T locs k n vm0 k0 X hk hn => K T locs k n vm0 k0 X (Nat.le_trans hk h1) (Nat.le_trans hn h2)
theorem AtS.weak {g : JFrame} {mk' : Nat} {sf' : List Addr} (K : AtS p l e R s m args below meth c Z EL own n0 Q mk' sf' h cells slots g) (h1 : mk ≤ mk') (h2 : ∀ x ∈ sf', x ∈ sf) : AtS p l e R s m args below meth c Z EL own n0 Q mk sf h cells slots g :=
  fun T locs k n vm0 k0 X hk hn eT N hZ hown hS hk0 hC hB hF => K T locs k n vm0 k0 X hk hn eT N hZ hown hS hk0 hC (fun y hy => Nat.lt_of_lt_of_le (hB y hy) h1) (fun x hx => hF x (h2 x hx))
/-- every booked constant lies below the heap's size -/
theorem AtS.mark {g : JFrame} (K : AtS p l e R s m args below meth c Z EL own n0 Q h.size sf h cells slots g) : AtS p l e R s m args below meth c Z EL own n0 Q mk sf h cells slots g :=
  fun T locs k n vm0 k0 X hk hn eT N hZ hown hS hk0 hC hB hF => K T locs k n vm0 k0 X hk hn eT N hZ hown hS hk0 hC (fun y hy => bk_lt hy) hF
theorem AtS.add {g : JFrame} {x : Addr} (h1 : mk ≤ x) (h2 : x < h.size) (K : AtS p l e R s m args below meth c Z EL own n0 Q mk (x :: sf) h cells slots g) : AtS p l e R s m args below meth c Z EL own n0 Q mk sf h cells slots g :=
  fun T locs k n vm0 k0 X hk hn eT N hZ hown hS hk0 hC hB hF => K T locs k n vm0 k0 X hk hn eT N hZ hown hS hk0 hC hB (fun y hy => by
    rcases List.mem_cons.mp hy with rfl | hy
    · exact ⟨h2, fun b => Nat.not_lt.mpr h1 (hB _ b)⟩
    · exact hF y hy)
theorem AtS.go {g g' : JFrame} (K : AtS p l e R s m args below meth c Z EL own n0 Q mk sf h cells slots g') (st : ∀ T, At T m c below → ∀ t, Steps p.tables e below (T.setTop g') t → Steps p.tables e below (T.setTop g) t) : AtS p l e R s m args below meth c Z EL own n0 Q mk sf h cells slots g :=
  fun T locs k n vm0 k0 X hk hn eT N hZ hown hS hk0 hC hB hF => by
    obtain ⟨t, o, r1, r⟩ := K T locs k n vm0 k0 X hk hn eT N hZ hown hS hk0 hC hB hF
    exact ⟨t, o, st T X.here t r1, r⟩
theorem AtS.goX {g g' : JFrame} (K : AtS p l e R s m args below meth c Z EL own n0 Q mk sf h cells slots g') (st : ∀ T locs k n vm0, Stand p l e R (s.setVm vm0) m args below meth c T locs k n → T.heap = h → Z.Warmed39 vm0 → vm0.findClass own = some m.cls → ∀ t, Steps p.tables e below (T.setTop g') t → Steps p.tables e below (T.setTop g) t) : AtS p l e R s m args below meth c Z EL own n0 Q mk sf h cells slots g :=
  fun T locs k n vm0 k0 X hk hn eT N hZ hown hS hk0 hC hB hF => by
    obtain ⟨t, o, r1, r⟩ := K T locs k n vm0 k0 X hk hn eT N hZ hown hS hk0 hC hB hF
    exact ⟨t, o, st T locs k n vm0 X eT hZ hown t r1, r⟩
theorem AtS.cast {g g' : JFrame} (K : AtS p l e R s m args below meth c Z EL own n0 Q mk sf h cells slots g') (q : g = g') : AtS p l e R s m args below meth c Z EL own n0 Q mk sf h cells slots g := by rw [q]; exact K

theorem s_iload (C : Cx p s m meth c Z own bytes maxL ret nm) {k : Nat} {v : Int32} (hl : L[k]? = some (.val (.int v))) (hd : decode bytes pc = .ok (.iload k, 2)) (hq : pc + 2 = q) (K : AtS p l e R s m args below meth c Z EL own n0 Q mk sf h cells slots (mkF m q L (.int v :: S))) : AtS p l e R s m args below meth c Z EL own n0 Q mk sf h cells slots (mkF m pc L S) := by
  subst hq
  exact K.go fun T hA t st => XS.iload hA C.1 rfl (hb C.2.1 hd) hl st
theorem s_iloadN (C : Cx p s m meth c Z own bytes maxL ret nm) {k : Fin 4} {v : Int32} (hl : L[k.val]? = some (.val (.int v))) (hd : decode bytes pc = .ok (.iload_n k, 1)) (hq : pc + 1 = q) (K : AtS p l e R s m args below meth c Z EL own n0 Q mk sf h cells slots (mkF m q L (.int v :: S))) : AtS p l e R s m args below meth c Z EL own n0 Q mk sf h cells slots (mkF m pc L S) := by
  subst hq
  exact K.go fun T hA t st => XS.iloadN hA C.1 rfl (hb C.2.1 hd) hl st
theorem s_istore (C : Cx p s m meth c Z own bytes maxL ret nm) {k : Nat} {v : Int32} (hl : storeLocals L k (.int v) = some L') (hd : decode bytes pc = .ok (.istore k, 2)) (hq : pc + 2 = q) (K : AtS p l e R s m args below meth c Z EL own n0 Q mk sf h cells slots (mkF m q L' S)) : AtS p l e R s m args below meth c Z EL own n0 Q mk sf h cells slots (mkF m pc L (.int v :: S)) := by
  subst hq
  exact K.go fun T hA t st => XS.istore hA C.1 rfl (hb C.2.1 hd) rfl hl st
theorem s_istoreN (C : Cx p s m meth c Z own bytes maxL ret nm) {k : Fin 4} {v : Int32} (hl : storeLocals L k.val (.int v) = some L') (hd : decode bytes pc = .ok (.istore_n k, 1)) (hq : pc + 1 = q) (K : AtS p l e R s m args below meth c Z EL own n0 Q mk sf h cells slots (mkF m q L' S)) : AtS p l e R s m args below meth c Z EL own n0 Q mk sf h cells slots (mkF m pc L (.int v :: S)) := by
  subst hq
  exact K.go fun T hA t st => XS.istoreN hA C.1 rfl (hb C.2.1 hd) rfl hl st
theorem s_lload (C : Cx p s m meth c Z own bytes maxL ret nm) {k : Nat} {v : Int64} (hl : L[k]? = some (.val (.long v))) (hd : decode bytes pc = .ok (.lload k, 2)) (hq : pc + 2 = q) (K : AtS p l e R s m args below meth c Z EL own n0 Q mk sf h cells slots (mkF m q L (.long v :: S))) : AtS p l e R s m args below meth c Z EL own n0 Q mk sf h cells slots (mkF m pc L S) := by
  subst hq
  exact K.go fun T hA t st => XS.lload hA C.1 rfl (hb C.2.1 hd) hl st
theorem s_lloadN (C : Cx p s m meth c Z own bytes maxL ret nm) {k : Fin 4} {v : Int64} (hl : L[k.val]? = some (.val (.long v))) (hd : decode bytes pc = .ok (.lload_n k, 1)) (hq : pc + 1 = q) (K : AtS p l e R s m args below meth c Z EL own n0 Q mk sf h cells slots (mkF m q L (.long v :: S))) : AtS p l e R s m args below meth c Z EL own n0 Q mk sf h cells slots (mkF m pc L S) := by
  subst hq
  exact K.go fun T hA t st => XS.lloadN hA C.1 rfl (hb C.2.1 hd) hl st
theorem s_lstore (C : Cx p s m meth c Z own bytes maxL ret nm) {k : Nat} {v : Int64} (hl : storeLocals L k (.long v) = some L') (hd : decode bytes pc = .ok (.lstore k, 2)) (hq : pc + 2 = q) (K : AtS p l e R s m args below meth c Z EL own n0 Q mk sf h cells slots (mkF m q L' S)) : AtS p l e R s m args below meth c Z EL own n0 Q mk sf h cells slots (mkF m pc L (.long v :: S)) := by
  subst hq
  exact K.go fun T hA t st => XS.lstore hA C.1 rfl (hb C.2.1 hd) rfl hl st
theorem s_lstoreN (C : Cx p s m meth c Z own bytes maxL ret nm) {k : Fin 4} {v : Int64} (hl : storeLocals L k.val (.long v) = some L') (hd : decode bytes pc = .ok (.lstore_n k, 1)) (hq : pc + 1 = q) (K : AtS p l e R s m args below meth c Z EL own n0 Q mk sf h cells slots (mkF m q L' S)) : AtS p l e R s m args below meth c Z EL own n0 Q mk sf h cells slots (mkF m pc L (.long v :: S)) := by
  subst hq
  exact K.go fun T hA t st => XS.lstoreN hA C.1 rfl (hb C.2.1 hd) rfl hl st
theorem s_aload (C : Cx p s m meth c Z own bytes maxL ret nm) {k : Nat} {v : Value} (hl : L[k]? = some (.val v)) (hv : v.isRef = true) (hd : decode bytes pc = .ok (.aload k, 2)) (hq : pc + 2 = q) (K : AtS p l e R s m args below meth c Z EL own n0 Q mk sf h cells slots (mkF m q L (v :: S))) : AtS p l e R s m args below meth c Z EL own n0 Q mk sf h cells slots (mkF m pc L S) := by
  subst hq
  exact K.go fun T hA t st => XS.aload hA C.1 rfl (hb C.2.1 hd) hl hv st
theorem s_aloadN (C : Cx p s m meth c Z own bytes maxL ret nm) {k : Fin 4} {v : Value} (hl : L[k.val]? = some (.val v)) (hv : v.isRef = true) (hd : decode bytes pc = .ok (.aload_n k, 1)) (hq : pc + 1 = q) (K : AtS p l e R s m args below meth c Z EL own n0 Q mk sf h cells slots (mkF m q L (v :: S))) : AtS p l e R s m args below meth c Z EL own n0 Q mk sf h cells slots (mkF m pc L S) := by
  subst hq
  exact K.go fun T hA t st => XS.aloadN hA C.1 rfl (hb C.2.1 hd) hl hv st
theorem s_astore (C : Cx p s m meth c Z own bytes maxL ret nm) {k : Nat} {v : Value} (hv : v.isRef = true) (hl : storeLocals L k v = some L') (hd : decode bytes pc = .ok (.astore k, 2)) (hq : pc + 2 = q) (K : AtS p l e R s m args below meth c Z EL own n0 Q mk sf h cells slots (mkF m q L' S)) : AtS p l e R s m args below meth c Z EL own n0 Q mk sf h cells slots (mkF m pc L (v :: S)) := by
  subst hq
  exact K.go fun T hA t st => XS.astore hA C.1 rfl (hb C.2.1 hd) rfl hv hl st
theorem s_astoreN (C : Cx p s m meth c Z own bytes maxL ret nm) {k : Fin 4} {v : Value} (hv : v.isRef = true) (hl : storeLocals L k.val v = some L') (hd : decode bytes pc = .ok (.astore_n k, 1)) (hq : pc + 1 = q) (K : AtS p l e R s m args below meth c Z EL own n0 Q mk sf h cells slots (mkF m q L' S)) : AtS p l e R s m args below meth c Z EL own n0 Q mk sf h cells slots (mkF m pc L (v :: S)) := by
  subst hq
  exact K.go fun T hA t st => XS.astoreN hA C.1 rfl (hb C.2.1 hd) rfl hv hl st
theorem s_iconst (C : Cx p s m meth c Z own bytes maxL ret nm) {i : Int} {v : Int32} (hv : Int32.ofInt i = v) (hd : decode bytes pc = .ok (.iconst i, 1)) (hq : pc + 1 = q) (K : AtS p l e R s m args below meth c Z EL own n0 Q mk sf h cells slots (mkF m q L (.int v :: S))) : AtS p l e R s m args below meth c Z EL own n0 Q mk sf h cells slots (mkF m pc L S) := by
  subst hq
  exact K.go fun T hA t st => by subst hv; exact XS.iconst hA C.1 rfl (hb C.2.1 hd) st
theorem s_bipush (C : Cx p s m meth c Z own bytes maxL ret nm) {i : Int} {v : Int32} (hv : (Int8.ofInt i).toInt32 = v) (hd : decode bytes pc = .ok (.bipush i, 2)) (hq : pc + 2 = q) (K : AtS p l e R s m args below meth c Z EL own n0 Q mk sf h cells slots (mkF m q L (.int v :: S))) : AtS p l e R s m args below meth c Z EL own n0 Q mk sf h cells slots (mkF m pc L S) := by
  subst hq
  exact K.go fun T hA t st => by subst hv; exact XS.bipush hA C.1 rfl (hb C.2.1 hd) st
theorem s_sipush (C : Cx p s m meth c Z own bytes maxL ret nm) {i : Int} {v : Int32} (hv : (Int16.ofInt i).toInt32 = v) (hd : decode bytes pc = .ok (.sipush i, 3)) (hq : pc + 3 = q) (K : AtS p l e R s m args below meth c Z EL own n0 Q mk sf h cells slots (mkF m q L (.int v :: S))) : AtS p l e R s m args below meth c Z EL own n0 Q mk sf h cells slots (mkF m pc L S) := by
  subst hq
  exact K.go fun T hA t st => by subst hv; exact XS.sipush hA C.1 rfl (hb C.2.1 hd) st
theorem s_lconst (C : Cx p s m meth c Z own bytes maxL ret nm) {k : Fin 2} {v : Int64} (hv : Int64.ofNat k = v) (hd : decode bytes pc = .ok (.lconst k, 1)) (hq : pc + 1 = q) (K : AtS p l e R s m args below meth c Z EL own n0 Q mk sf h cells slots (mkF m q L (.long v :: S))) : AtS p l e R s m args below meth c Z EL own n0 Q mk sf h cells slots (mkF m pc L S) := by
  subst hq
  exact K.go fun T hA t st => by subst hv; exact XS.lconst hA C.1 rfl (hb C.2.1 hd) st
theorem s_aconst_null (C : Cx p s m meth c Z own bytes maxL ret nm)  (hd : decode bytes pc = .ok (.aconst_null, 1)) (hq : pc + 1 = q) (K : AtS p l e R s m args below meth c Z EL own n0 Q mk sf h cells slots (mkF m q L (.null :: S))) : AtS p l e R s m args below meth c Z EL own n0 Q mk sf h cells slots (mkF m pc L S) := by
  subst hq
  exact K.go fun T hA t st => XS.aconstNull hA C.1 rfl (hb C.2.1 hd) st
theorem s_iadd (C : Cx p s m meth c Z own bytes maxL ret nm) {x y z : Int32} (hz : x + y = z) (hd : decode bytes pc = .ok (.iadd, 1)) (hq : pc + 1 = q) (K : AtS p l e R s m args below meth c Z EL own n0 Q mk sf h cells slots (mkF m q L (.int z :: S))) : AtS p l e R s m args below meth c Z EL own n0 Q mk sf h cells slots (mkF m pc L (.int y :: .int x :: S)) := by
  subst hq
  exact K.go fun T hA t st => by subst hz; exact XS.iadd hA C.1 rfl (hb C.2.1 hd) rfl st
theorem s_isub (C : Cx p s m meth c Z own bytes maxL ret nm) {x y z : Int32} (hz : x - y = z) (hd : decode bytes pc = .ok (.isub, 1)) (hq : pc + 1 = q) (K : AtS p l e R s m args below meth c Z EL own n0 Q mk sf h cells slots (mkF m q L (.int z :: S))) : AtS p l e R s m args below meth c Z EL own n0 Q mk sf h cells slots (mkF m pc L (.int y :: .int x :: S)) := by
  subst hq
  exact K.go fun T hA t st => by subst hz; exact XS.isub hA C.1 rfl (hb C.2.1 hd) rfl st
theorem s_imul (C : Cx p s m meth c Z own bytes maxL ret nm) {x y z : Int32} (hz : x * y = z) (hd : decode bytes pc = .ok (.imul, 1)) (hq : pc + 1 = q) (K : AtS p l e R s m args below meth c Z EL own n0 Q mk sf h cells slots (mkF m q L (.int z :: S))) : AtS p l e R s m args below meth c Z EL own n0 Q mk sf h cells slots (mkF m pc L (.int y :: .int x :: S)) := by
  subst hq
  exact K.go fun T hA t st => by subst hz; exact XS.imul hA C.1 rfl (hb C.2.1 hd) rfl st
theorem s_iand (C : Cx p s m meth c Z own bytes maxL ret nm) {x y z : Int32} (hz : x &&& y = z) (hd : decode bytes pc = .ok (.iand, 1)) (hq : pc + 1 = q) (K : AtS p l e R s m args below meth c Z EL own n0 Q mk sf h cells slots (mkF m q L (.int z :: S))) : AtS p l e R s m args below meth c Z EL own n0 Q mk sf h cells slots (mkF m pc L (.int y :: .int x :: S)) := by
  subst hq
  exact K.go fun T hA t st => by subst hz; exact XS.iand hA C.1 rfl (hb C.2.1 hd) rfl st
theorem s_ior (C : Cx p s m meth c Z own bytes maxL ret nm) {x y z : Int32} (hz : x ||| y = z) (hd : decode bytes pc = .ok (.ior, 1)) (hq : pc + 1 = q) (K : AtS p l e R s m args below meth c Z EL own n0 Q mk sf h cells slots (mkF m q L (.int z :: S))) : AtS p l e R s m args below meth c Z EL own n0 Q mk sf h cells slots (mkF m pc L (.int y :: .int x :: S)) := by
  subst hq
  exact K.go fun T hA t st => by subst hz; exact XS.ior hA C.1 rfl (hb C.2.1 hd) rfl st
theorem s_ixor (C : Cx p s m meth c Z own bytes maxL ret nm) {x y z : Int32} (hz : x ^^^ y = z) (hd : decode bytes pc = .ok (.ixor, 1)) (hq : pc + 1 = q) (K : AtS p l e R s m args below meth c Z EL own n0 Q mk sf h cells slots (mkF m q L (.int z :: S))) : AtS p l e R s m args below meth c Z EL own n0 Q mk sf h cells slots (mkF m pc L (.int y :: .int x :: S)) := by
  subst hq
  exact K.go fun T hA t st => by subst hz; exact XS.ixor hA C.1 rfl (hb C.2.1 hd) rfl st
theorem s_ladd (C : Cx p s m meth c Z own bytes maxL ret nm) {x y z : Int64} (hz : x + y = z) (hd : decode bytes pc = .ok (.ladd, 1)) (hq : pc + 1 = q) (K : AtS p l e R s m args below meth c Z EL own n0 Q mk sf h cells slots (mkF m q L (.long z :: S))) : AtS p l e R s m args below meth c Z EL own n0 Q mk sf h cells slots (mkF m pc L (.long y :: .long x :: S)) := by
  subst hq
  exact K.go fun T hA t st => by subst hz; exact XS.ladd hA C.1 rfl (hb C.2.1 hd) rfl st
theorem s_lsub (C : Cx p s m meth c Z own bytes maxL ret nm) {x y z : Int64} (hz : x - y = z) (hd : decode bytes pc = .ok (.lsub, 1)) (hq : pc + 1 = q) (K : AtS p l e R s m args below meth c Z EL own n0 Q mk sf h cells slots (mkF m q L (.long z :: S))) : AtS p l e R s m args below meth c Z EL own n0 Q mk sf h cells slots (mkF m pc L (.long y :: .long x :: S)) := by
  subst hq
  exact K.go fun T hA t st => by subst hz; exact XS.lsub hA C.1 rfl (hb C.2.1 hd) rfl st
theorem s_lmul (C : Cx p s m meth c Z own bytes maxL ret nm) {x y z : Int64} (hz : x * y = z) (hd : decode bytes pc = .ok (.lmul, 1)) (hq : pc + 1 = q) (K : AtS p l e R s m args below meth c Z EL own n0 Q mk sf h cells slots (mkF m q L (.long z :: S))) : AtS p l e R s m args below meth c Z EL own n0 Q mk sf h cells slots (mkF m pc L (.long y :: .long x :: S)) := by
  subst hq
  exact K.go fun T hA t st => by subst hz; exact XS.lmul hA C.1 rfl (hb C.2.1 hd) rfl st
theorem s_land (C : Cx p s m meth c Z own bytes maxL ret nm) {x y z : Int64} (hz : x &&& y = z) (hd : decode bytes pc = .ok (.land, 1)) (hq : pc + 1 = q) (K : AtS p l e R s m args below meth c Z EL own n0 Q mk sf h cells slots (mkF m q L (.long z :: S))) : AtS p l e R s m args below meth c Z EL own n0 Q mk sf h cells slots (mkF m pc L (.long y :: .long x :: S)) := by
  subst hq
  exact K.go fun T hA t st => by subst hz; exact XS.land hA C.1 rfl (hb C.2.1 hd) rfl st
theorem s_lor (C : Cx p s m meth c Z own bytes maxL ret nm) {x y z : Int64} (hz : x ||| y = z) (hd : decode bytes pc = .ok (.lor, 1)) (hq : pc + 1 = q) (K : AtS p l e R s m args below meth c Z EL own n0 Q mk sf h cells slots (mkF m q L (.long z :: S))) : AtS p l e R s m args below meth c Z EL own n0 Q mk sf h cells slots (mkF m pc L (.long y :: .long x :: S)) := by
  subst hq
  exact K.go fun T hA t st => by subst hz; exact XS.lor hA C.1 rfl (hb C.2.1 hd) rfl st
theorem s_lxor (C : Cx p s m meth c Z own bytes maxL ret nm) {x y z : Int64} (hz : x ^^^ y = z) (hd : decode bytes pc = .ok (.lxor, 1)) (hq : pc + 1 = q) (K : AtS p l e R s m args below meth c Z EL own n0 Q mk sf h cells slots (mkF m q L (.long z :: S))) : AtS p l e R s m args below meth c Z EL own n0 Q mk sf h cells slots (mkF m pc L (.long y :: .long x :: S)) := by
  subst hq
  exact K.go fun T hA t st => by subst hz; exact XS.lxor hA C.1 rfl (hb C.2.1 hd) rfl st
theorem s_ishl (C : Cx p s m meth c Z own bytes maxL ret nm) {x y z : Int32} (hz : x <<< (y &&& 31) = z) (hd : decode bytes pc = .ok (.ishl, 1)) (hq : pc + 1 = q) (K : AtS p l e R s m args below meth c Z EL own n0 Q mk sf h cells slots (mkF m q L (.int z :: S))) : AtS p l e R s m args below meth c Z EL own n0 Q mk sf h cells slots (mkF m pc L (.int y :: .int x :: S)) := by
  subst hq
  exact K.go fun T hA t st => by subst hz; exact XS.ishl hA C.1 rfl (hb C.2.1 hd) rfl st
theorem s_ishr (C : Cx p s m meth c Z own bytes maxL ret nm) {x y z : Int32} (hz : x >>> (y &&& 31) = z) (hd : decode bytes pc = .ok (.ishr, 1)) (hq : pc + 1 = q) (K : AtS p l e R s m args below meth c Z EL own n0 Q mk sf h cells slots (mkF m q L (.int z :: S))) : AtS p l e R s m args below meth c Z EL own n0 Q mk sf h cells slots (mkF m pc L (.int y :: .int x :: S)) := by
  subst hq
  exact K.go fun T hA t st => by subst hz; exact XS.ishr hA C.1 rfl (hb C.2.1 hd) rfl st
theorem s_iushr (C : Cx p s m meth c Z own bytes maxL ret nm) {x y z : Int32} (hz : (x.toUInt32 >>> (y &&& 31).toUInt32).toInt32 = z) (hd : decode bytes pc = .ok (.iushr, 1)) (hq : pc + 1 = q) (K : AtS p l e R s m args below meth c Z EL own n0 Q mk sf h cells slots (mkF m q L (.int z :: S))) : AtS p l e R s m args below meth c Z EL own n0 Q mk sf h cells slots (mkF m pc L (.int y :: .int x :: S)) := by
  subst hq
  exact K.go fun T hA t st => by subst hz; exact XS.iushr hA C.1 rfl (hb C.2.1 hd) rfl st
theorem s_lshl (C : Cx p s m meth c Z own bytes maxL ret nm) {x z : Int64} {y : Int32} (hz : x <<< (y &&& 0x3f).toInt64 = z) (hd : decode bytes pc = .ok (.lshl, 1)) (hq : pc + 1 = q) (K : AtS p l e R s m args below meth c Z EL own n0 Q mk sf h cells slots (mkF m q L (.long z :: S))) : AtS p l e R s m args below meth c Z EL own n0 Q mk sf h cells slots (mkF m pc L (.int y :: .long x :: S)) := by
  subst hq
  exact K.go fun T hA t st => by subst hz; exact XS.lshl hA C.1 rfl (hb C.2.1 hd) rfl st
theorem s_lshr (C : Cx p s m meth c Z own bytes maxL ret nm) {x z : Int64} {y : Int32} (hz : x >>> (y &&& 0x3f).toInt64 = z) (hd : decode bytes pc = .ok (.lshr, 1)) (hq : pc + 1 = q) (K : AtS p l e R s m args below meth c Z EL own n0 Q mk sf h cells slots (mkF m q L (.long z :: S))) : AtS p l e R s m args below meth c Z EL own n0 Q mk sf h cells slots (mkF m pc L (.int y :: .long x :: S)) := by
  subst hq
  exact K.go fun T hA t st => by subst hz; exact XS.lshr hA C.1 rfl (hb C.2.1 hd) rfl st
theorem s_lushr (C : Cx p s m meth c Z own bytes maxL ret nm) {x z : Int64} {y : Int32} (hz : (x.toUInt64 >>> (y &&& 0x3f).toInt64.toUInt64).toInt64 = z) (hd : decode bytes pc = .ok (.lushr, 1)) (hq : pc + 1 = q) (K : AtS p l e R s m args below meth c Z EL own n0 Q mk sf h cells slots (mkF m q L (.long z :: S))) : AtS p l e R s m args below meth c Z EL own n0 Q mk sf h cells slots (mkF m pc L (.int y :: .long x :: S)) := by
  subst hq
  exact K.go fun T hA t st => by subst hz; exact XS.lushr hA C.1 rfl (hb C.2.1 hd) rfl st
theorem s_idiv (C : Cx p s m meth c Z own bytes maxL ret nm) {x y z : Int32} (hy : y ≠ 0) (hz : x / y = z) (hd : decode bytes pc = .ok (.idiv, 1)) (hq : pc + 1 = q) (K : AtS p l e R s m args below meth c Z EL own n0 Q mk sf h cells slots (mkF m q L (.int z :: S))) : AtS p l e R s m args below meth c Z EL own n0 Q mk sf h cells slots (mkF m pc L (.int y :: .int x :: S)) := by
  subst hq
  exact K.go fun T hA t st => by subst hz; exact XS.idiv hA C.1 rfl (hb C.2.1 hd) rfl hy st
theorem s_ldiv (C : Cx p s m meth c Z own bytes maxL ret nm) {x y z : Int64} (hy : y ≠ 0) (hz : x / y = z) (hd : decode bytes pc = .ok (.ldiv, 1)) (hq : pc + 1 = q) (K : AtS p l e R s m args below meth c Z EL own n0 Q mk sf h cells slots (mkF m q L (.long z :: S))) : AtS p l e R s m args below meth c Z EL own n0 Q mk sf h cells slots (mkF m pc L (.long y :: .long x :: S)) := by
  subst hq
  exact K.go fun T hA t st => by subst hz; exact XS.ldiv hA C.1 rfl (hb C.2.1 hd) rfl hy st
theorem s_irem (C : Cx p s m meth c Z own bytes maxL ret nm) {x y z : Int32} (hy : y ≠ 0) (hz : x % y = z) (hd : decode bytes pc = .ok (.irem, 1)) (hq : pc + 1 = q) (K : AtS p l e R s m args below meth c Z EL own n0 Q mk sf h cells slots (mkF m q L (.int z :: S))) : AtS p l e R s m args below meth c Z EL own n0 Q mk sf h cells slots (mkF m pc L (.int y :: .int x :: S)) := by
  subst hq
  exact K.go fun T hA t st => by subst hz; rw [← irem_eq_mod x y] at st; exact XS.irem hA C.1 rfl (hb C.2.1 hd) rfl hy st
theorem s_lrem (C : Cx p s m meth c Z own bytes maxL ret nm) {x y z : Int64} (hy : y ≠ 0) (hz : x % y = z) (hd : decode bytes pc = .ok (.lrem, 1)) (hq : pc + 1 = q) (K : AtS p l e R s m args below meth c Z EL own n0 Q mk sf h cells slots (mkF m q L (.long z :: S))) : AtS p l e R s m args below meth c Z EL own n0 Q mk sf h cells slots (mkF m pc L (.long y :: .long x :: S)) := by
  subst hq
  exact K.go fun T hA t st => by subst hz; rw [← lrem_mod x y] at st; exact XS.lrem hA C.1 rfl (hb C.2.1 hd) rfl hy st
theorem s_ineg (C : Cx p s m meth c Z own bytes maxL ret nm) {x : Int32} {z : Int32} (hz : -x = z) (hd : decode bytes pc = .ok (.ineg, 1)) (hq : pc + 1 = q) (K : AtS p l e R s m args below meth c Z EL own n0 Q mk sf h cells slots (mkF m q L (.int z :: S))) : AtS p l e R s m args below meth c Z EL own n0 Q mk sf h cells slots (mkF m pc L (.int x :: S)) := by
  subst hq
  exact K.go fun T hA t st => by subst hz; exact XS.ineg hA C.1 rfl (hb C.2.1 hd) rfl st
theorem s_lneg (C : Cx p s m meth c Z own bytes maxL ret nm) {x : Int64} {z : Int64} (hz : -x = z) (hd : decode bytes pc = .ok (.lneg, 1)) (hq : pc + 1 = q) (K : AtS p l e R s m args below meth c Z EL own n0 Q mk sf h cells slots (mkF m q L (.long z :: S))) : AtS p l e R s m args below meth c Z EL own n0 Q mk sf h cells slots (mkF m pc L (.long x :: S)) := by
  subst hq
  exact K.go fun T hA t st => by subst hz; exact XS.lneg hA C.1 rfl (hb C.2.1 hd) rfl st
theorem s_i2l (C : Cx p s m meth c Z own bytes maxL ret nm) {x : Int32} {z : Int64} (hz : x.toInt64 = z) (hd : decode bytes pc = .ok (.i2l, 1)) (hq : pc + 1 = q) (K : AtS p l e R s m args below meth c Z EL own n0 Q mk sf h cells slots (mkF m q L (.long z :: S))) : AtS p l e R s m args below meth c Z EL own n0 Q mk sf h cells slots (mkF m pc L (.int x :: S)) := by
  subst hq
  exact K.go fun T hA t st => by subst hz; exact XS.i2l hA C.1 rfl (hb C.2.1 hd) rfl st
theorem s_l2i (C : Cx p s m meth c Z own bytes maxL ret nm) {x : Int64} {z : Int32} (hz : x.toInt32 = z) (hd : decode bytes pc = .ok (.l2i, 1)) (hq : pc + 1 = q) (K : AtS p l e R s m args below meth c Z EL own n0 Q mk sf h cells slots (mkF m q L (.int z :: S))) : AtS p l e R s m args below meth c Z EL own n0 Q mk sf h cells slots (mkF m pc L (.long x :: S)) := by
  subst hq
  exact K.go fun T hA t st => by subst hz; exact XS.l2i hA C.1 rfl (hb C.2.1 hd) rfl st
theorem s_i2b (C : Cx p s m meth c Z own bytes maxL ret nm) {x : Int32} {z : Int32} (hz : x.toInt8.toInt32 = z) (hd : decode bytes pc = .ok (.i2b, 1)) (hq : pc + 1 = q) (K : AtS p l e R s m args below meth c Z EL own n0 Q mk sf h cells slots (mkF m q L (.int z :: S))) : AtS p l e R s m args below meth c Z EL own n0 Q mk sf h cells slots (mkF m pc L (.int x :: S)) := by
  subst hq
  exact K.go fun T hA t st => by subst hz; exact XS.i2b hA C.1 rfl (hb C.2.1 hd) rfl st
theorem s_i2s (C : Cx p s m meth c Z own bytes maxL ret nm) {x : Int32} {z : Int32} (hz : x.toInt16.toInt32 = z) (hd : decode bytes pc = .ok (.i2s, 1)) (hq : pc + 1 = q) (K : AtS p l e R s m args below meth c Z EL own n0 Q mk sf h cells slots (mkF m q L (.int z :: S))) : AtS p l e R s m args below meth c Z EL own n0 Q mk sf h cells slots (mkF m pc L (.int x :: S)) := by
  subst hq
  exact K.go fun T hA t st => by subst hz; exact XS.i2s hA C.1 rfl (hb C.2.1 hd) rfl st
theorem s_i2c (C : Cx p s m meth c Z own bytes maxL ret nm) {x : Int32} {z : Int32} (hz : x.toUInt32.toUInt16.toUInt32.toInt32 = z) (hd : decode bytes pc = .ok (.i2c, 1)) (hq : pc + 1 = q) (K : AtS p l e R s m args below meth c Z EL own n0 Q mk sf h cells slots (mkF m q L (.int z :: S))) : AtS p l e R s m args below meth c Z EL own n0 Q mk sf h cells slots (mkF m pc L (.int x :: S)) := by
  subst hq
  exact K.go fun T hA t st => by subst hz; exact XS.i2c hA C.1 rfl (hb C.2.1 hd) rfl st
theorem s_lcmp (C : Cx p s m meth c Z own bytes maxL ret nm) {x y : Int64} {z : Int32} (hz : lcmpW x y = z) (hd : decode bytes pc = .ok (.lcmp, 1)) (hq : pc + 1 = q) (K : AtS p l e R s m args below meth c Z EL own n0 Q mk sf h cells slots (mkF m q L (.int z :: S))) : AtS p l e R s m args below meth c Z EL own n0 Q mk sf h cells slots (mkF m pc L (.long y :: .long x :: S)) := by
  subst hq
  exact K.go fun T hA t st => by subst hz; exact XS.lcmp hA C.1 rfl (hb C.2.1 hd) rfl st
theorem s_dup (C : Cx p s m meth c Z own bytes maxL ret nm) {x : Value} (hc : x.category = 1) (hd : decode bytes pc = .ok (.dup, 1)) (hq : pc + 1 = q) (K : AtS p l e R s m args below meth c Z EL own n0 Q mk sf h cells slots (mkF m q L (x :: x :: S))) : AtS p l e R s m args below meth c Z EL own n0 Q mk sf h cells slots (mkF m pc L (x :: S)) := by
  subst hq
  exact K.go fun T hA t st => XS.dup hA C.1 rfl (hb C.2.1 hd) rfl hc st
theorem s_pop (C : Cx p s m meth c Z own bytes maxL ret nm) {x : Value} (hc : x.category = 1) (hd : decode bytes pc = .ok (.pop, 1)) (hq : pc + 1 = q) (K : AtS p l e R s m args below meth c Z EL own n0 Q mk sf h cells slots (mkF m q L S)) : AtS p l e R s m args below meth c Z EL own n0 Q mk sf h cells slots (mkF m pc L (x :: S)) := by
  subst hq
  exact K.go fun T hA t st => XS.pop hA C.1 rfl (hb C.2.1 hd) rfl hc st
theorem s_dup_x1 (C : Cx p s m meth c Z own bytes maxL ret nm) {x y : Value} (hc : x.category = 1) (hc' : y.category = 1) (hd : decode bytes pc = .ok (.dup_x1, 1)) (hq : pc + 1 = q) (K : AtS p l e R s m args below meth c Z EL own n0 Q mk sf h cells slots (mkF m q L (x :: y :: x :: S))) : AtS p l e R s m args below meth c Z EL own n0 Q mk sf h cells slots (mkF m pc L (x :: y :: S)) := by
  subst hq
  exact K.go fun T hA t st => XS.dupX1 hA C.1 rfl (hb C.2.1 hd) rfl hc hc' st
theorem s_iinc (C : Cx p s m meth c Z own bytes maxL ret nm) {k : Nat} {cst : Int} {x z : Int32} (hl : L[k]? = some (.val (.int x))) (hz : x + Int32.ofInt cst = z) (hl' : storeLocals L k (.int z) = some L') (hd : decode bytes pc = .ok (.iinc k cst, 3)) (hq : pc + 3 = q) (K : AtS p l e R s m args below meth c Z EL own n0 Q mk sf h cells slots (mkF m q L' S)) : AtS p l e R s m args below meth c Z EL own n0 Q mk sf h cells slots (mkF m pc L S) := by
  subst hq
  exact K.go fun T hA t st => by subst hz; exact XS.iinc hA C.1 rfl (hb C.2.1 hd) hl hl' st
theorem s_goto (C : Cx p s m meth c Z own bytes maxL ret nm) {o : Int} (hd : decode bytes pc = .ok (.goto o, 3)) (ho : 0 ≤ (pc : Int) + o) (hp : ((pc : Int) + o).toNat = q) (K : AtS p l e R s m args below meth c Z EL own n0 Q mk sf h cells slots (mkF m q L S)) : AtS p l e R s m args below meth c Z EL own n0 Q mk sf h cells slots (mkF m pc L S) :=
  K.go fun T hA t st => XS.goto hA C.1 rfl (pc0 := pc) (pc' := q) rfl (hb C.2.1 hd) ho hp st
theorem s_icmp_lt_t (C : Cx p s m meth c Z own bytes maxL ret nm) {o : Int} {x y : Int32} (hd : decode bytes pc = .ok (.if_icmp .lt o, 3)) (ho : 0 ≤ (pc : Int) + o) (hp : ((pc : Int) + o).toNat = q) (hc : x < y) (K : AtS p l e R s m args below meth c Z EL own n0 Q mk sf h cells slots (mkF m q L S)) : AtS p l e R s m args below meth c Z EL own n0 Q mk sf h cells slots (mkF m pc L (.int y :: .int x :: S)) :=
  K.go fun T hA t st => XS.icmpYes hA C.1 rfl (pc0 := pc) (pc' := q) rfl (hb C.2.1 hd) rfl (tlt hc).1 ho hp st
theorem s_icmp_lt_f (C : Cx p s m meth c Z own bytes maxL ret nm) {o : Int} {x y : Int32} (hd : decode bytes pc = .ok (.if_icmp .lt o, 3)) (hq : pc + 3 = q) (hc : ¬ x < y) (K : AtS p l e R s m args below meth c Z EL own n0 Q mk sf h cells slots (mkF m q L S)) : AtS p l e R s m args below meth c Z EL own n0 Q mk sf h cells slots (mkF m pc L (.int y :: .int x :: S)) := by
  subst hq
  exact K.go fun T hA t st => XS.icmpNo hA C.1 rfl (hb C.2.1 hd) rfl (flt hc).1 st
theorem s_if_lt_t (C : Cx p s m meth c Z own bytes maxL ret nm) {o : Int} {x : Int32} (hd : decode bytes pc = .ok (.ifCond .lt o, 3)) (ho : 0 ≤ (pc : Int) + o) (hp : ((pc : Int) + o).toNat = q) (hc : x < 0) (K : AtS p l e R s m args below meth c Z EL own n0 Q mk sf h cells slots (mkF m q L S)) : AtS p l e R s m args below meth c Z EL own n0 Q mk sf h cells slots (mkF m pc L (.int x :: S)) :=
  K.go fun T hA t st => XS.ifYes hA C.1 rfl (pc0 := pc) (pc' := q) rfl (hb C.2.1 hd) rfl ((if0 _ _).trans (tlt hc).1) ho hp st
theorem s_if_lt_f (C : Cx p s m meth c Z own bytes maxL ret nm) {o : Int} {x : Int32} (hd : decode bytes pc = .ok (.ifCond .lt o, 3)) (hq : pc + 3 = q) (hc : ¬ x < 0) (K : AtS p l e R s m args below meth c Z EL own n0 Q mk sf h cells slots (mkF m q L S)) : AtS p l e R s m args below meth c Z EL own n0 Q mk sf h cells slots (mkF m pc L (.int x :: S)) := by
  subst hq
  exact K.go fun T hA t st => XS.ifNo hA C.1 rfl (hb C.2.1 hd) rfl ((if0 _ _).trans (flt hc).1) st
theorem s_icmp_ge_t (C : Cx p s m meth c Z own bytes maxL ret nm) {o : Int} {x y : Int32} (hd : decode bytes pc = .ok (.if_icmp .ge o, 3)) (ho : 0 ≤ (pc : Int) + o) (hp : ((pc : Int) + o).toNat = q) (hc : ¬ x < y) (K : AtS p l e R s m args below meth c Z EL own n0 Q mk sf h cells slots (mkF m q L S)) : AtS p l e R s m args below meth c Z EL own n0 Q mk sf h cells slots (mkF m pc L (.int y :: .int x :: S)) :=
  K.go fun T hA t st => XS.icmpYes hA C.1 rfl (pc0 := pc) (pc' := q) rfl (hb C.2.1 hd) rfl (flt hc).2.1 ho hp st
theorem s_icmp_ge_f (C : Cx p s m meth c Z own bytes maxL ret nm) {o : Int} {x y : Int32} (hd : decode bytes pc = .ok (.if_icmp .ge o, 3)) (hq : pc + 3 = q) (hc : x < y) (K : AtS p l e R s m args below meth c Z EL own n0 Q mk sf h cells slots (mkF m q L S)) : AtS p l e R s m args below meth c Z EL own n0 Q mk sf h cells slots (mkF m pc L (.int y :: .int x :: S)) := by
  subst hq
  exact K.go fun T hA t st => XS.icmpNo hA C.1 rfl (hb C.2.1 hd) rfl (tlt hc).2.1 st
theorem s_if_ge_t (C : Cx p s m meth c Z own bytes maxL ret nm) {o : Int} {x : Int32} (hd : decode bytes pc = .ok (.ifCond .ge o, 3)) (ho : 0 ≤ (pc : Int) + o) (hp : ((pc : Int) + o).toNat = q) (hc : ¬ x < 0) (K : AtS p l e R s m args below meth c Z EL own n0 Q mk sf h cells slots (mkF m q L S)) : AtS p l e R s m args below meth c Z EL own n0 Q mk sf h cells slots (mkF m pc L (.int x :: S)) :=
  K.go fun T hA t st => XS.ifYes hA C.1 rfl (pc0 := pc) (pc' := q) rfl (hb C.2.1 hd) rfl ((if0 _ _).trans (flt hc).2.1) ho hp st
theorem s_if_ge_f (C : Cx p s m meth c Z own bytes maxL ret nm) {o : Int} {x : Int32} (hd : decode bytes pc = .ok (.ifCond .ge o, 3)) (hq : pc + 3 = q) (hc : x < 0) (K : AtS p l e R s m args below meth c Z EL own n0 Q mk sf h cells slots (mkF m q L S)) : AtS p l e R s m args below meth c Z EL own n0 Q mk sf h cells slots (mkF m pc L (.int x :: S)) := by
  subst hq
  exact K.go fun T hA t st => XS.ifNo hA C.1 rfl (hb C.2.1 hd) rfl ((if0 _ _).trans (tlt hc).2.1) st
theorem s_icmp_gt_t (C : Cx p s m meth c Z own bytes maxL ret nm) {o : Int} {x y : Int32} (hd : decode bytes pc = .ok (.if_icmp .gt o, 3)) (ho : 0 ≤ (pc : Int) + o) (hp : ((pc : Int) + o).toNat = q) (hc : y < x) (K : AtS p l e R s m args below meth c Z EL own n0 Q mk sf h cells slots (mkF m q L S)) : AtS p l e R s m args below meth c Z EL own n0 Q mk sf h cells slots (mkF m pc L (.int y :: .int x :: S)) :=
  K.go fun T hA t st => XS.icmpYes hA C.1 rfl (pc0 := pc) (pc' := q) rfl (hb C.2.1 hd) rfl (tlt hc).2.2.1 ho hp st
theorem s_icmp_gt_f (C : Cx p s m meth c Z own bytes maxL ret nm) {o : Int} {x y : Int32} (hd : decode bytes pc = .ok (.if_icmp .gt o, 3)) (hq : pc + 3 = q) (hc : ¬ y < x) (K : AtS p l e R s m args below meth c Z EL own n0 Q mk sf h cells slots (mkF m q L S)) : AtS p l e R s m args below meth c Z EL own n0 Q mk sf h cells slots (mkF m pc L (.int y :: .int x :: S)) := by
  subst hq
  exact K.go fun T hA t st => XS.icmpNo hA C.1 rfl (hb C.2.1 hd) rfl (flt hc).2.2.1 st
theorem s_if_gt_t (C : Cx p s m meth c Z own bytes maxL ret nm) {o : Int} {x : Int32} (hd : decode bytes pc = .ok (.ifCond .gt o, 3)) (ho : 0 ≤ (pc : Int) + o) (hp : ((pc : Int) + o).toNat = q) (hc : 0 < x) (K : AtS p l e R s m args below meth c Z EL own n0 Q mk sf h cells slots (mkF m q L S)) : AtS p l e R s m args below meth c Z EL own n0 Q mk sf h cells slots (mkF m pc L (.int x :: S)) :=
  K.go fun T hA t st => XS.ifYes hA C.1 rfl (pc0 := pc) (pc' := q) rfl (hb C.2.1 hd) rfl ((if0 _ _).trans (tlt hc).2.2.1) ho hp st
theorem s_if_gt_f (C : Cx p s m meth c Z own bytes maxL ret nm) {o : Int} {x : Int32} (hd : decode bytes pc = .ok (.ifCond .gt o, 3)) (hq : pc + 3 = q) (hc : ¬ 0 < x) (K : AtS p l e R s m args below meth c Z EL own n0 Q mk sf h cells slots (mkF m q L S)) : AtS p l e R s m args below meth c Z EL own n0 Q mk sf h cells slots (mkF m pc L (.int x :: S)) := by
  subst hq
  exact K.go fun T hA t st => XS.ifNo hA C.1 rfl (hb C.2.1 hd) rfl ((if0 _ _).trans (flt hc).2.2.1) st
theorem s_icmp_le_t (C : Cx p s m meth c Z own bytes maxL ret nm) {o : Int} {x y : Int32} (hd : decode bytes pc = .ok (.if_icmp .le o, 3)) (ho : 0 ≤ (pc : Int) + o) (hp : ((pc : Int) + o).toNat = q) (hc : ¬ y < x) (K : AtS p l e R s m args below meth c Z EL own n0 Q mk sf h cells slots (mkF m q L S)) : AtS p l e R s m args below meth c Z EL own n0 Q mk sf h cells slots (mkF m pc L (.int y :: .int x :: S)) :=
  K.go fun T hA t st => XS.icmpYes hA C.1 rfl (pc0 := pc) (pc' := q) rfl (hb C.2.1 hd) rfl (flt hc).2.2.2 ho hp st
theorem s_icmp_le_f (C : Cx p s m meth c Z own bytes maxL ret nm) {o : Int} {x y : Int32} (hd : decode bytes pc = .ok (.if_icmp .le o, 3)) (hq : pc + 3 = q) (hc : y < x) (K : AtS p l e R s m args below meth c Z EL own n0 Q mk sf h cells slots (mkF m q L S)) : AtS p l e R s m args below meth c Z EL own n0 Q mk sf h cells slots (mkF m pc L (.int y :: .int x :: S)) := by
  subst hq
  exact K.go fun T hA t st => XS.icmpNo hA C.1 rfl (hb C.2.1 hd) rfl (tlt hc).2.2.2 st
theorem s_if_le_t (C : Cx p s m meth c Z own bytes maxL ret nm) {o : Int} {x : Int32} (hd : decode bytes pc = .ok (.ifCond .le o, 3)) (ho : 0 ≤ (pc : Int) + o) (hp : ((pc : Int) + o).toNat = q) (hc : ¬ 0 < x) (K : AtS p l e R s m args below meth c Z EL own n0 Q mk sf h cells slots (mkF m q L S)) : AtS p l e R s m args below meth c Z EL own n0 Q mk sf h cells slots (mkF m pc L (.int x :: S)) :=
  K.go fun T hA t st => XS.ifYes hA C.1 rfl (pc0 := pc) (pc' := q) rfl (hb C.2.1 hd) rfl ((if0 _ _).trans (flt hc).2.2.2) ho hp st
theorem s_if_le_f (C : Cx p s m meth c Z own bytes maxL ret nm) {o : Int} {x : Int32} (hd : decode bytes pc = .ok (.ifCond .le o, 3)) (hq : pc + 3 = q) (hc : 0 < x) (K : AtS p l e R s m args below meth c Z EL own n0 Q mk sf h cells slots (mkF m q L S)) : AtS p l e R s m args below meth c Z EL own n0 Q mk sf h cells slots (mkF m pc L (.int x :: S)) := by
  subst hq
  exact K.go fun T hA t st => XS.ifNo hA C.1 rfl (hb C.2.1 hd) rfl ((if0 _ _).trans (tlt hc).2.2.2) st
theorem s_icmp_eq_t (C : Cx p s m meth c Z own bytes maxL ret nm) {o : Int} {x y : Int32} (hd : decode bytes pc = .ok (.if_icmp .eq o, 3)) (ho : 0 ≤ (pc : Int) + o) (hp : ((pc : Int) + o).toNat = q) (hc : x = y) (K : AtS p l e R s m args below meth c Z EL own n0 Q mk sf h cells slots (mkF m q L S)) : AtS p l e R s m args below meth c Z EL own n0 Q mk sf h cells slots (mkF m pc L (.int y :: .int x :: S)) :=
  K.go fun T hA t st => XS.icmpYes hA C.1 rfl (pc0 := pc) (pc' := q) rfl (hb C.2.1 hd) rfl (teq hc).1 ho hp st
theorem s_icmp_eq_f (C : Cx p s m meth c Z own bytes maxL ret nm) {o : Int} {x y : Int32} (hd : decode bytes pc = .ok (.if_icmp .eq o, 3)) (hq : pc + 3 = q) (hc : ¬ x = y) (K : AtS p l e R s m args below meth c Z EL own n0 Q mk sf h cells slots (mkF m q L S)) : AtS p l e R s m args below meth c Z EL own n0 Q mk sf h cells slots (mkF m pc L (.int y :: .int x :: S)) := by
  subst hq
  exact K.go fun T hA t st => XS.icmpNo hA C.1 rfl (hb C.2.1 hd) rfl (feq hc).1 st
theorem s_if_eq_t (C : Cx p s m meth c Z own bytes maxL ret nm) {o : Int} {x : Int32} (hd : decode bytes pc = .ok (.ifCond .eq o, 3)) (ho : 0 ≤ (pc : Int) + o) (hp : ((pc : Int) + o).toNat = q) (hc : x = 0) (K : AtS p l e R s m args below meth c Z EL own n0 Q mk sf h cells slots (mkF m q L S)) : AtS p l e R s m args below meth c Z EL own n0 Q mk sf h cells slots (mkF m pc L (.int x :: S)) :=
  K.go fun T hA t st => XS.ifYes hA C.1 rfl (pc0 := pc) (pc' := q) rfl (hb C.2.1 hd) rfl ((if0 _ _).trans (teq hc).1) ho hp st
theorem s_if_eq_f (C : Cx p s m meth c Z own bytes maxL ret nm) {o : Int} {x : Int32} (hd : decode bytes pc = .ok (.ifCond .eq o, 3)) (hq : pc + 3 = q) (hc : ¬ x = 0) (K : AtS p l e R s m args below meth c Z EL own n0 Q mk sf h cells slots (mkF m q L S)) : AtS p l e R s m args below meth c Z EL own n0 Q mk sf h cells slots (mkF m pc L (.int x :: S)) := by
  subst hq
  exact K.go fun T hA t st => XS.ifNo hA C.1 rfl (hb C.2.1 hd) rfl ((if0 _ _).trans (feq hc).1) st
theorem s_icmp_ne_t (C : Cx p s m meth c Z own bytes maxL ret nm) {o : Int} {x y : Int32} (hd : decode bytes pc = .ok (.if_icmp .ne o, 3)) (ho : 0 ≤ (pc : Int) + o) (hp : ((pc : Int) + o).toNat = q) (hc : ¬ x = y) (K : AtS p l e R s m args below meth c Z EL own n0 Q mk sf h cells slots (mkF m q L S)) : AtS p l e R s m args below meth c Z EL own n0 Q mk sf h cells slots (mkF m pc L (.int y :: .int x :: S)) :=
  K.go fun T hA t st => XS.icmpYes hA C.1 rfl (pc0 := pc) (pc' := q) rfl (hb C.2.1 hd) rfl (feq hc).2 ho hp st
theorem s_icmp_ne_f (C : Cx p s m meth c Z own bytes maxL ret nm) {o : Int} {x y : Int32} (hd : decode bytes pc = .ok (.if_icmp .ne o, 3)) (hq : pc + 3 = q) (hc : x = y) (K : AtS p l e R s m args below meth c Z EL own n0 Q mk sf h cells slots (mkF m q L S)) : AtS p l e R s m args below meth c Z EL own n0 Q mk sf h cells slots (mkF m pc L (.int y :: .int x :: S)) := by
  subst hq
  exact K.go fun T hA t st => XS.icmpNo hA C.1 rfl (hb C.2.1 hd) rfl (teq hc).2 st
theorem s_if_ne_t (C : Cx p s m meth c Z own bytes maxL ret nm) {o : Int} {x : Int32} (hd : decode bytes pc = .ok (.ifCond .ne o, 3)) (ho : 0 ≤ (pc : Int) + o) (hp : ((pc : Int) + o).toNat = q) (hc : ¬ x = 0) (K : AtS p l e R s m args below meth c Z EL own n0 Q mk sf h cells slots (mkF m q L S)) : AtS p l e R s m args below meth c Z EL own n0 Q mk sf h cells slots (mkF m pc L (.int x :: S)) :=
  K.go fun T hA t st => XS.ifYes hA C.1 rfl (pc0 := pc) (pc' := q) rfl (hb C.2.1 hd) rfl ((if0 _ _).trans (feq hc).2) ho hp st
theorem s_if_ne_f (C : Cx p s m meth c Z own bytes maxL ret nm) {o : Int} {x : Int32} (hd : decode bytes pc = .ok (.ifCond .ne o, 3)) (hq : pc + 3 = q) (hc : x = 0) (K : AtS p l e R s m args below meth c Z EL own n0 Q mk sf h cells slots (mkF m q L S)) : AtS p l e R s m args below meth c Z EL own n0 Q mk sf h cells slots (mkF m pc L (.int x :: S)) := by
  subst hq
  exact K.go fun T hA t st => XS.ifNo hA C.1 rfl (hb C.2.1 hd) rfl ((if0 _ _).trans (teq hc).2) st
theorem s_ifnull_t (C : Cx p s m meth c Z own bytes maxL ret nm) {o : Int} (hd : decode bytes pc = .ok (.ifnull o, 3)) (ho : 0 ≤ (pc : Int) + o) (hp : ((pc : Int) + o).toNat = q) (K : AtS p l e R s m args below meth c Z EL own n0 Q mk sf h cells slots (mkF m q L S)) : AtS p l e R s m args below meth c Z EL own n0 Q mk sf h cells slots (mkF m pc L (.null :: S)) :=
  K.go fun T hA t st => XS.ifnullYes hA C.1 rfl (pc0 := pc) (pc' := q) rfl (hb C.2.1 hd) rfl ho hp st
theorem s_ifnull_f (C : Cx p s m meth c Z own bytes maxL ret nm) {o : Int} {b : Addr} (hd : decode bytes pc = .ok (.ifnull o, 3)) (hq : pc + 3 = q) (K : AtS p l e R s m args below meth c Z EL own n0 Q mk sf h cells slots (mkF m q L S)) : AtS p l e R s m args below meth c Z EL own n0 Q mk sf h cells slots (mkF m pc L ((.ref b) :: S)) := by
  subst hq
  exact K.go fun T hA t st => XS.ifnullNo hA C.1 rfl (hb C.2.1 hd) rfl st
theorem s_ifnonnull_t (C : Cx p s m meth c Z own bytes maxL ret nm) {o : Int} {b : Addr} (hd : decode bytes pc = .ok (.ifnonnull o, 3)) (ho : 0 ≤ (pc : Int) + o) (hp : ((pc : Int) + o).toNat = q) (K : AtS p l e R s m args below meth c Z EL own n0 Q mk sf h cells slots (mkF m q L S)) : AtS p l e R s m args below meth c Z EL own n0 Q mk sf h cells slots (mkF m pc L ((.ref b) :: S)) :=
  K.go fun T hA t st => XS.ifnonnullYes hA C.1 rfl (pc0 := pc) (pc' := q) rfl (hb C.2.1 hd) rfl ho hp st
theorem s_ifnonnull_f (C : Cx p s m meth c Z own bytes maxL ret nm) {o : Int} (hd : decode bytes pc = .ok (.ifnonnull o, 3)) (hq : pc + 3 = q) (K : AtS p l e R s m args below meth c Z EL own n0 Q mk sf h cells slots (mkF m q L S)) : AtS p l e R s m args below meth c Z EL own n0 Q mk sf h cells slots (mkF m pc L (.null :: S)) := by
  subst hq
  exact K.go fun T hA t st => XS.ifnonnullNo hA C.1 rfl (hb C.2.1 hd) rfl st
theorem s_acmp_t (C : Cx p s m meth c Z own bytes maxL ret nm) {cd : ACond} {o : Int} {x y : Value} (hd : decode bytes pc = .ok (.if_acmp cd o, 3)) (h1 : x.isRef = true) (h2 : y.isRef = true) {same : Bool} (hs : decide (x = y) = same) (hcd : acV cd same = true) (ho : 0 ≤ (pc : Int) + o) (hp : ((pc : Int) + o).toNat = q) (K : AtS p l e R s m args below meth c Z EL own n0 Q mk sf h cells slots (mkF m q L S)) : AtS p l e R s m args below meth c Z EL own n0 Q mk sf h cells slots (mkF m pc L (y :: x :: S)) :=
  K.goX fun T locs k n vm0 X eT hZ hown t st => Jvm.RoadKit.acmp (g := mkF m pc L (y :: x :: S)) X C.1 rfl h1 h2 (pc0 := pc) (pc' := q) (same := same) rfl (hb C.2.1 hd) rfl hs ho (by rw [if_pos hcd]; exact hp.symm) st
theorem s_acmp_f (C : Cx p s m meth c Z own bytes maxL ret nm) {cd : ACond} {o : Int} {x y : Value} (hd : decode bytes pc = .ok (.if_acmp cd o, 3)) (h1 : x.isRef = true) (h2 : y.isRef = true) {same : Bool} (hs : decide (x = y) = same) (hcd : acV cd same = false) (ho : 0 ≤ (pc : Int) + o) (hq : pc + 3 = q) (K : AtS p l e R s m args below meth c Z EL own n0 Q mk sf h cells slots (mkF m q L S)) : AtS p l e R s m args below meth c Z EL own n0 Q mk sf h cells slots (mkF m pc L (y :: x :: S)) :=
  K.goX fun T locs k n vm0 X eT hZ hown t st => Jvm.RoadKit.acmp (g := mkF m pc L (y :: x :: S)) X C.1 rfl h1 h2 (pc0 := pc) (pc' := q) (same := same) rfl (hb C.2.1 hd) rfl hs ho (by rw [if_neg (by rw [hcd]; exact Bool.false_ne_true)]; exact hq.symm) st
theorem s_ldcI (C : Cx p s m meth c Z own bytes maxL ret nm) {i : Nat} {v : Int32} (w : (Jvm.Cond.constant own i v).before a0 Z = true) (hd : decode bytes pc = .ok (.ldc i, 2)) (hq : pc + 2 = q) (K : AtS p l e R s m args below meth c Z EL own n0 Q mk sf h cells slots (mkF m q L (.int v :: S))) : AtS p l e R s m args below meth c Z EL own n0 Q mk sf h cells slots (mkF m pc L S) := by
  subst hq
  exact K.goX fun T locs k n vm0 X eT hZ hown t st => X.ldcInt C.1 hown (mvT (s := s.setVm vm0) hZ w) (g := mkF m pc L S) rfl (hb C.2.1 hd) t st
theorem s_ldcwI (C : Cx p s m meth c Z own bytes maxL ret nm) {i : Nat} {v : Int32} (w : (Jvm.Cond.constant own i v).before a0 Z = true) (hd : decode bytes pc = .ok (.ldc_w i, 3)) (hq : pc + 3 = q) (K : AtS p l e R s m args below meth c Z EL own n0 Q mk sf h cells slots (mkF m q L (.int v :: S))) : AtS p l e R s m args below meth c Z EL own n0 Q mk sf h cells slots (mkF m pc L S) := by
  subst hq
  exact K.goX fun T locs k n vm0 X eT hZ hown t st => X.ldcwInt C.1 hown (mvT (s := s.setVm vm0) hZ w) (g := mkF m pc L S) rfl (hb C.2.1 hd) t st
theorem s_ldc2J (C : Cx p s m meth c Z own bytes maxL ret nm) {i : Nat} {v : Int64} (w : (Jvm.Cond.constantLong own i v).before a0 Z = true) (hd : decode bytes pc = .ok (.ldc2_w i, 3)) (hq : pc + 3 = q) (K : AtS p l e R s m args below meth c Z EL own n0 Q mk sf h cells slots (mkF m q L (.long v :: S))) : AtS p l e R s m args below meth c Z EL own n0 Q mk sf h cells slots (mkF m pc L S) := by
  subst hq
  exact K.goX fun T locs k n vm0 X eT hZ hown t st => X.ldc2Long C.1 hown (mvT (s := s.setVm vm0) hZ w) (g := mkF m pc L S) rfl (hb C.2.1 hd) t st

theorem s_getF (C : Cx p s m meth c Z own bytes maxL ret nm) {R0 O n d host : String} {i : Nat} {a : Addr} {v : Value} (w : (Jvm.Cond.fieldLink own i R0 n d).before a0 Z = true ∨ (Jvm.Cond.fieldLinkNest own i R0 n d host).before a0 Z = true) (via : Via Z R0 O n d) (F : Fld Z h a O n d v) (hd : decode bytes pc = .ok (.getfield i, 3)) (hq : pc + 3 = q) (K : AtS p l e R s m args below meth c Z EL own n0 Q mk sf h cells slots (mkF m q L (v :: S))) : AtS p l e R s m args below meth c Z EL own n0 Q mk sf h cells slots (mkF m pc L (.ref a :: S)) := by
  subst hq
  intro T locs k n vm0 k0 X hk hn eT N hZ hown hS hk0 hC hB hF
  obtain ⟨T', X', e', st⟩ := getF X C.1 (show Z.Warmed39 (s.setVm vm0).vm from hZ) (host := host) hown w via eT F (g := mkF m pc L (.ref a :: S)) rfl rfl (hb C.2.1 hd)
  obtain ⟨t, o, r1, r⟩ := K T' locs k n vm0 k0 X' hk hn e' N hZ hown hS hk0 hC hB hF
  exact ⟨t, o, st _ r1, r⟩
theorem s_getS (C : Cx p s m meth c Z own bytes maxL ret nm) {R0 O n d host : String} {i : Nat} {v : Value} (w : (Jvm.Cond.fieldLink own i R0 n d).before a0 Z = true ∨ (Jvm.Cond.fieldLinkNest own i R0 n d host).before a0 Z = true) (via : Via Z R0 O n d) (F : Sta Z h O n d v) (hd : decode bytes pc = .ok (.getstatic i, 3)) (hq : pc + 3 = q) (K : AtS p l e R s m args below meth c Z EL own n0 Q mk sf h cells slots (mkF m q L (v :: S))) : AtS p l e R s m args below meth c Z EL own n0 Q mk sf h cells slots (mkF m pc L S) := by
  subst hq
  intro T locs k n vm0 k0 X hk hn eT N hZ hown hS hk0 hC hB hF
  obtain ⟨T', X', e', st⟩ := getS2 X C.1 (show Z.Warmed39 (s.setVm vm0).vm from hZ) (host := host) hown w via eT F (g := mkF m pc L S) rfl (hb C.2.1 hd)
  obtain ⟨t, o, r1, r⟩ := K T' locs k n vm0 k0 X' hk hn e' N hZ hown hS hk0 hC hB hF
  exact ⟨t, o, st _ r1, r⟩
theorem s_cast (C : Cx p s m meth c Z own bytes maxL ret nm) {K : String} {i : Nat} {a : Addr} (w : (Jvm.Cond.classLink own i K).before a0 Z = true) (F : Ins Z h a K true) (hd : decode bytes pc = .ok (.checkcast i, 3)) (hq : pc + 3 = q) (K : AtS p l e R s m args below meth c Z EL own n0 Q mk sf h cells slots (mkF m q L (.ref a :: S))) : AtS p l e R s m args below meth c Z EL own n0 Q mk sf h cells slots (mkF m pc L (.ref a :: S)) := by
  subst hq
  intro T locs k n vm0 k0 X hk hn eT N hZ hown hS hk0 hC hB hF
  obtain ⟨T', X', e', st⟩ := castY X C.1 (show Z.Warmed39 (s.setVm vm0).vm from hZ) hown w eT F (g := mkF m pc L (.ref a :: S)) rfl rfl (hb C.2.1 hd)
  obtain ⟨t, o, r1, r⟩ := K T' locs k n vm0 k0 X' hk hn e' N hZ hown hS hk0 hC hB hF
  exact ⟨t, o, st _ r1, r⟩
theorem s_inst (C : Cx p s m meth c Z own bytes maxL ret nm) {K : String} {i : Nat} {a : Addr} (w : (Jvm.Cond.classLink own i K).before a0 Z = true) (F : Ins Z h a K true) (hd : decode bytes pc = .ok (.instanceof i, 3)) (hq : pc + 3 = q) (K : AtS p l e R s m args below meth c Z EL own n0 Q mk sf h cells slots (mkF m q L (.int 1 :: S))) : AtS p l e R s m args below meth c Z EL own n0 Q mk sf h cells slots (mkF m pc L (.ref a :: S)) := by
  subst hq
  intro T locs k n vm0 k0 X hk hn eT N hZ hown hS hk0 hC hB hF
  obtain ⟨T', X', e', st⟩ := instY X C.1 (show Z.Warmed39 (s.setVm vm0).vm from hZ) hown w eT F (g := mkF m pc L (.ref a :: S)) rfl rfl (hb C.2.1 hd)
  obtain ⟨t, o, r1, r⟩ := K T' locs k n vm0 k0 X' hk hn e' N hZ hown hS hk0 hC hB hF
  exact ⟨t, o, st _ r1, r⟩
theorem s_initO (C : Cx p s m meth c Z own bytes maxL ret nm) {i : Nat} {a : Addr} (w1 : (Jvm.Cond.methodLink own i Lib.objectInit).before a0 Z = true) (w2 : (Jvm.Cond.instanceMethod Lib.objectInit).before a0 Z = true) (w3 : (Jvm.Cond.code Lib.objectInit object_method_1_code 1 none).before a0 Z = true) (hL : L.size = maxL) (hf : 1 ≤ R.frames) {W : Nat} (hW : (S.map fun v => v.category).sum ≤ W) (hlo : W + 12 ≤ R.locals) (hd : decode bytes pc = .ok (.invokespecial i, 3)) (hq : pc + 3 = q) (K : AtS p l e R s m args below meth c Z EL own n0 Q mk sf h cells slots (mkF m q L S)) : AtS p l e R s m args below meth c Z EL own n0 Q mk sf h cells slots (mkF m pc L (.ref a :: S)) := by
  subst hq
  intro T locs k n vm0 k0 X hk hn eT N hZ hown hS hk0 hC hB hF
  obtain ⟨T', X', e', st⟩ := initO X C.1 (show Z.Warmed39 (s.setVm vm0).vm from hZ) hown w1 w2 w3 eT (g := mkF m pc L (.ref a :: S)) rfl (hL.trans C.2.2.1.symm) rfl (hb C.2.1 hd) hf (W := W) (by show 2 * 0 + _ ≤ _; omega) hlo
  obtain ⟨t, o, r1, r⟩ := K T' locs k n vm0 k0 X' hk hn e' N hZ hown hS hk0 hC hB hF
  exact ⟨t, o, st _ r1, r⟩
/-- an address that no booked constant has -/
def SfOk (Z : State) (h : Heap) (mk : Nat) (sf : List Addr) (x : Addr) : Prop := x ∈ sf ∨ mk ≤ x ∨ (∃ C, Exa Z h x C ∧ C ≠ "java/lang/String" ∧ C ≠ "[B") ∨ ∃ ty vs, Ar Z h x ty vs ∧ ty ≠ .byte
theorem SfOk.exa {x : Addr} {C : String} (E : Exa Z h x C) (h1 : C ≠ "java/lang/String" ∧ C ≠ "[B") : SfOk Z h mk sf x := Or.inr (Or.inr (Or.inl ⟨C, E, h1⟩))
theorem SfOk.arr {x : Addr} {ty : FieldType} {vs : List Value} (E : Ar Z h x ty vs) (h1 : ty ≠ .byte) : SfOk Z h mk sf x := Or.inr (Or.inr (Or.inr ⟨ty, vs, E, h1⟩))
theorem SfOk.mem {x : Addr} (q : x ∈ sf) : SfOk Z h mk sf x := Or.inl q
theorem SfOk.new {x : Addr} (q : mk ≤ x) : SfOk Z h mk sf x := Or.inr (Or.inl q)
theorem SfOk.safe {vm0 : Vm} {x : Addr} (F : SfOk Z h mk sf x) (hal : Z.vm.Alike vm0) (hB : ∀ y, Bk Z EL vm0 h y → y < mk) (hF : ∀ x ∈ sf, x < h.size ∧ Safe Z EL vm0 h x) : Safe Z EL vm0 h x := by
  rcases F with q | q | ⟨C, E, h1, h2⟩ | ⟨ty, vs, A, hne⟩
  · exact (hF x q).2
  · exact fun b => Nat.not_lt.mpr q (hB _ b)
  · exact Safe.exa hal E h1 h2
  · obtain ⟨-, k, V⟩ := A; exact Safe.arv hal V hne
theorem s_putF (C : Cx p s m meth c Z own bytes maxL ret nm) {R0 O n d host Cl : String} {i kk : Nat} {ty : FieldType} {a : Addr} {v v' old : Value} (w : (Jvm.Cond.fieldLink own i R0 n d).before a0 Z = true) (via : Via Z R0 O n d) (F : Fld Z h a O n d old) (E : Exa Z h a Cl)
    (hL : (Jvm.Cond.lays Cl O n d).before a0 Z = true ∨ ((Jvm.Cond.laysFinal Cl O n d).before a0 Z = true ∧ own = O ∧ nm = "<init>")) (wi : (Jvm.Cond.instantiable Cl kk).before a0 Z = true) (hty : parseFieldDescriptor d = some ty) (hn : narrow ty v = v') (hf : fits ty v' = true) (hge : n0 ≤ a) (hsf : SfOk Z h mk sf a)
    (hd : decode bytes pc = .ok (.putfield i, 3)) (hq : pc + 3 = q) (K : ∀ h', Wr h h' a (Jvm.RoadKit.slotOf Z O n d) v' → AtS p l e R s m args below meth c Z EL own n0 Q mk sf h' cells slots (mkF m q L S)) : AtS p l e R s m args below meth c Z EL own n0 Q mk sf h cells slots (mkF m pc L (v :: .ref a :: S)) := by
  subst hq
  intro T locs k n' vm0 k0 X hk hn' eT N hZ hown hS hk0 hC hB hF
  have hL' : (Jvm.Cond.lays Cl O n d).before a0 Z = true ∨ ((Jvm.Cond.laysFinal Cl O n d).before a0 Z = true ∧ own = O ∧ meth.name = "<init>") := hL.imp id fun x => ⟨x.1, x.2.1, C.2.2.2.2.2.2.2.trans x.2.2⟩
  obtain ⟨T', h', X', e', W, st⟩ := putFN X C.1 (show Z.Warmed39 (s.setVm vm0).vm from hZ) hown w via eT F E hL' wi hty hn hf (g := mkF m pc L (v :: .ref a :: S)) rfl rfl (hb C.2.1 hd)
  have hsafe := hsf.safe hZ.alike hB hF
  obtain ⟨H', hB'⟩ := hC.1.wrStep W hsafe
  obtain ⟨t, o, r1, r⟩ := K h' W T' _ k n' vm0 k0 X' hk hn' e' (Fr.snoc X' N hge) hZ hown hS (by rw [W.size]; exact hk0) (hC.trans (CHr.wr W hsafe hC.1)) (fun y hy => hB y (hB' y hy)) (fun x hx => ⟨by rw [W.size]; exact (hF x hx).1, Safe.wr W hsafe hC.1 (hF x hx).2⟩)
  exact ⟨t, o, st _ r1, r⟩
theorem s_new (C : Cx p s m meth c Z own bytes maxL ret nm) {Cl : String} {i n : Nat} (w : (Jvm.Cond.classLink own i Cl).before a0 Z = true) (wi : (Jvm.Cond.instantiable Cl n).before a0 Z = true) (wz : (Jvm.Cond.initialized Cl).before a0 Z = true) {cells' slots' : Nat} (hc1 : cells + 1 = cells') (hs1 : slots + n = slots') (hc : cells' ≤ R.cells) (hl : slots' ≤ R.slots)
    (hd : decode bytes pc = .ok (.new i, 3)) (hq : pc + 3 = q) (K : ∀ h' a, a = h.size → Ext h h' → Exa Z h' a Cl → (∀ {O nm d : String} {ty : FieldType}, RoadKit.Laid Z a0 Cl O nm d → parseFieldDescriptor d = some ty → Fld Z h' a O nm d (defaultValue ty)) → AtS p l e R s m args below meth c Z EL own n0 Q mk (a :: sf) h' cells' slots' (mkF m q L (.ref a :: S))) : AtS p l e R s m args below meth c Z EL own n0 Q mk sf h cells slots (mkF m pc L S) := by
  subst hq hc1 hs1
  intro T locs k n' vm0 k0 X hk hn' eT N hZ hown hS hk0 hC hB hF
  obtain ⟨T', h', X', e', E, A, D, -, st⟩ := newO X C.1 (show Z.Warmed39 (s.setVm vm0).vm from hZ) hown w wi wz eT (g := mkF m pc L S) rfl (hb C.2.1 hd) (by omega) (by omega)
  obtain ⟨H', hB'⟩ := hC.1.step (h' := h') fun y _ cell hc => E.2 _ _ hc
  have hs : ∀ x ∈ h.size :: sf, x < h'.size ∧ Safe Z EL vm0 h' x := fun x hx => by
    rcases List.mem_cons.mp hx with rfl | hx
    · exact ⟨A.lt, (Safe.new (Nat.le_refl _)).ext E hC.1⟩
    · exact ⟨Nat.lt_of_lt_of_le (hF x hx).1 E.1, (hF x hx).2.ext E hC.1⟩
  obtain ⟨t, o, r1, r⟩ := K h' h.size rfl E A D T' _ (k + 1) (n' + n) vm0 k0 X' (by omega) (by omega) e' N hZ hown hS (Nat.le_trans hk0 E.1) (hC.trans (CHr.ext E hC.1)) (fun y hy => hB y (hB' y hy)) hs
  exact ⟨t, o, st _ r1, r⟩
theorem s_newArr (C : Cx p s m meth c Z own bytes maxL ret nm) {aty : ArrayType} {ty : FieldType} {n : Int32} (w : (Jvm.Cond.arrayClass ty).before a0 Z = true) (hty : newarray.typeOf aty = ty) (hn : ¬ n < 0) {cap : Nat} (hcap : n.toNatClampNeg ≤ cap) (hb' : cap * 8 ≤ 536870912) {cells' slots' : Nat} (hc1 : cells + 1 = cells') (hs1 : slots + cap = slots') (hc : cells' ≤ R.cells) (hl : slots' ≤ R.slots)
    (hd : decode bytes pc = .ok (.newarray aty, 2)) (hq : pc + 2 = q) (K : ∀ h' a, a = h.size → Ext h h' → Ar Z h' a ty (List.replicate n.toNatClampNeg (defaultValue ty)) → AtS p l e R s m args below meth c Z EL own n0 Q mk (a :: sf) h' cells' slots' (mkF m q L (.ref a :: S))) : AtS p l e R s m args below meth c Z EL own n0 Q mk sf h cells slots (mkF m pc L (.int n :: S)) := by
  subst hq hc1 hs1 hty
  intro T locs k n' vm0 k0 X hk hn' eT N hZ hown hS hk0 hC hB hF
  obtain ⟨T', h', cA, X', e', E, A, st⟩ := newP X C.1 (show Z.Warmed39 (s.setVm vm0).vm from hZ) w eT (g := mkF m pc L (.int n :: S)) rfl (hb C.2.1 hd) rfl hn hcap hb' (by omega) (by omega)
  have q := nat_of_nonneg hn
  have V := (Arv.new A hn).pad (pad_rep [] (defaultValue (newarray.typeOf aty)) n.toNatClampNeg)
  obtain ⟨H', hB'⟩ := hC.1.step (h' := h') fun y _ cell hc => E.2 _ _ hc
  have hs : ∀ x ∈ h.size :: sf, x < h'.size ∧ Safe Z EL vm0 h' x := fun x hx => by
    rcases List.mem_cons.mp hx with rfl | hx
    · exact ⟨V.lt, (Safe.new (Nat.le_refl _)).ext E hC.1⟩
    · exact ⟨Nat.lt_of_lt_of_le (hF x hx).1 E.1, (hF x hx).2.ext E hC.1⟩
  obtain ⟨t, o, r1, r⟩ := K h' h.size rfl E ⟨by simpa using q.2, cA, by simpa [q.1] using V⟩ T' _ (k + 1) (n' + cap) vm0 k0 X' (by omega) (by omega) e' N hZ hown hS (Nat.le_trans hk0 E.1) (hC.trans (CHr.ext E hC.1)) (fun y hy => hB y (hB' y hy)) hs
  exact ⟨t, o, st _ r1, r⟩
theorem s_len (C : Cx p s m meth c Z own bytes maxL ret nm) {a : Addr} {ty : FieldType} {vs : List Value} {z : Int32} (A : Ar Z h a ty vs) (hz : Int32.ofNat vs.length = z) (hd : decode bytes pc = .ok (.arraylength, 1)) (hq : pc + 1 = q) (K : AtS p l e R s m args below meth c Z EL own n0 Q mk sf h cells slots (mkF m q L (.int z :: S))) : AtS p l e R s m args below meth c Z EL own n0 Q mk sf h cells slots (mkF m pc L (.ref a :: S)) := by
  subst hq hz
  obtain ⟨hlt, k, cl, Ar, -, hS, hM, -, -⟩ := A
  refine K.goX fun T locs k n vm0 X eT hZ hown t st => X.arraylength C.1 (by rw [eT]; exact Ar.1) (State.isArrayOf_alike (T := s.setVm vm0) hZ.alike Ar.2.1) (g := mkF m pc L (.ref a :: S)) rfl rfl (hb C.2.1 hd) t ?_
  rw [len_of hS hM]; exact st

theorem s_iaload (C : Cx p s m meth c Z own bytes maxL ret nm) {a : Addr} {vs : List Value} {j : Int32} {i : Nat} {v : Value} (A : Ar Z h a .int vs) (hj : j = Int32.ofNat i) (hv : vs[i]? = some v) (hd : decode bytes pc = .ok (.iaload, 1)) (hq : pc + 1 = q) (K : AtS p l e R s m args below meth c Z EL own n0 Q mk sf h cells slots (mkF m q L (v :: S))) : AtS p l e R s m args below meth c Z EL own n0 Q mk sf h cells slots (mkF m pc L (.int j :: .ref a :: S)) := by
  subst hq hj
  obtain ⟨hlt, k, cl, Ar, -, hS, hM, H, -⟩ := A
  obtain ⟨hi, hg⟩ := List.getElem?_eq_some_iff.mp hv
  have e1 := ofNat_nat (n := i) (by omega)
  have e2 := ofNat_nat hlt
  have hin : ¬ (Int32.ofNat i < 0 ∨ cl.slots.size ≤ (Int32.ofNat i).toNatClampNeg) := by
    rw [e1, hS, e2]; exact fun q => q.elim (ofNat_neg (by omega)) (by omega)
  refine K.goX fun T locs k n vm0 X eT hZ hown t st => X.iaload C.1 (j := Int32.ofNat i) (v := v) (by rw [eT]; exact Ar.1) (State.isArrayOf_alike (T := s.setVm vm0) hZ.alike Ar.2.1) Ar.2.2 hin (by rw [e1, H i (by rw [hS, e2]; exact hi)]; simp [List.getD, hv]) (g := mkF m pc L (.int (Int32.ofNat i) :: .ref a :: S)) rfl rfl (hb C.2.1 hd) t st
theorem s_caload (C : Cx p s m meth c Z own bytes maxL ret nm) {a : Addr} {vs : List Value} {j : Int32} {i : Nat} {v : Value} (A : Ar Z h a .char vs) (hj : j = Int32.ofNat i) (hv : vs[i]? = some v) (hd : decode bytes pc = .ok (.caload, 1)) (hq : pc + 1 = q) (K : AtS p l e R s m args below meth c Z EL own n0 Q mk sf h cells slots (mkF m q L (v :: S))) : AtS p l e R s m args below meth c Z EL own n0 Q mk sf h cells slots (mkF m pc L (.int j :: .ref a :: S)) := by
  subst hq hj
  obtain ⟨hlt, k, cl, Ar, -, hS, hM, H, -⟩ := A
  obtain ⟨hi, hg⟩ := List.getElem?_eq_some_iff.mp hv
  have e1 := ofNat_nat (n := i) (by omega)
  have e2 := ofNat_nat hlt
  have hin : ¬ (Int32.ofNat i < 0 ∨ cl.slots.size ≤ (Int32.ofNat i).toNatClampNeg) := by
    rw [e1, hS, e2]; exact fun q => q.elim (ofNat_neg (by omega)) (by omega)
  refine K.goX fun T locs k n vm0 X eT hZ hown t st => X.caload C.1 (j := Int32.ofNat i) (v := v) (by rw [eT]; exact Ar.1) (State.isArrayOf_alike (T := s.setVm vm0) hZ.alike Ar.2.1) Ar.2.2 hin (by rw [e1, H i (by rw [hS, e2]; exact hi)]; simp [List.getD, hv]) (g := mkF m pc L (.int (Int32.ofNat i) :: .ref a :: S)) rfl rfl (hb C.2.1 hd) t st
theorem s_baload (C : Cx p s m meth c Z own bytes maxL ret nm) {a : Addr} {vs : List Value} {j : Int32} {i : Nat} {v : Value} (A : Ar Z h a .byte vs) (hj : j = Int32.ofNat i) (hv : vs[i]? = some v) (hd : decode bytes pc = .ok (.baload, 1)) (hq : pc + 1 = q) (K : AtS p l e R s m args below meth c Z EL own n0 Q mk sf h cells slots (mkF m q L (v :: S))) : AtS p l e R s m args below meth c Z EL own n0 Q mk sf h cells slots (mkF m pc L (.int j :: .ref a :: S)) := by
  subst hq hj
  obtain ⟨hlt, k, cl, Ar, -, hS, hM, H, -⟩ := A
  obtain ⟨hi, hg⟩ := List.getElem?_eq_some_iff.mp hv
  have e1 := ofNat_nat (n := i) (by omega)
  have e2 := ofNat_nat hlt
  have hin : ¬ (Int32.ofNat i < 0 ∨ cl.slots.size ≤ (Int32.ofNat i).toNatClampNeg) := by
    rw [e1, hS, e2]; exact fun q => q.elim (ofNat_neg (by omega)) (by omega)
  refine K.goX fun T locs k n vm0 X eT hZ hown t st => X.baloadBytes C.1 (j := Int32.ofNat i) (v := v) (by rw [eT]; exact Ar.1) (State.isArrayOf_alike (T := s.setVm vm0) hZ.alike Ar.2.1) Ar.2.2 hin (by rw [e1, H i (by rw [hS, e2]; exact hi)]; simp [List.getD, hv]) (g := mkF m pc L (.int (Int32.ofNat i) :: .ref a :: S)) rfl rfl (hb C.2.1 hd) t st
theorem s_laload (C : Cx p s m meth c Z own bytes maxL ret nm) {a : Addr} {vs : List Value} {j : Int32} {i : Nat} {v : Value} (A : Ar Z h a .long vs) (hj : j = Int32.ofNat i) (hv : vs[i]? = some v) (hd : decode bytes pc = .ok (.laload, 1)) (hq : pc + 1 = q) (K : AtS p l e R s m args below meth c Z EL own n0 Q mk sf h cells slots (mkF m q L (v :: S))) : AtS p l e R s m args below meth c Z EL own n0 Q mk sf h cells slots (mkF m pc L (.int j :: .ref a :: S)) := by
  subst hq hj
  obtain ⟨hlt, k, cl, Ar, -, hS, hM, H, -⟩ := A
  obtain ⟨hi, hg⟩ := List.getElem?_eq_some_iff.mp hv
  have e1 := ofNat_nat (n := i) (by omega)
  have e2 := ofNat_nat hlt
  have hin : ¬ (Int32.ofNat i < 0 ∨ cl.slots.size ≤ (Int32.ofNat i).toNatClampNeg) := by
    rw [e1, hS, e2]; exact fun q => q.elim (ofNat_neg (by omega)) (by omega)
  refine K.goX fun T locs k n vm0 X eT hZ hown t st => X.laload C.1 (j := Int32.ofNat i) (v := v) (by rw [eT]; exact Ar.1) (State.isArrayOf_alike (T := s.setVm vm0) hZ.alike Ar.2.1) Ar.2.2 hin (by rw [e1, H i (by rw [hS, e2]; exact hi)]; simp [List.getD, hv]) (g := mkF m pc L (.int (Int32.ofNat i) :: .ref a :: S)) rfl rfl (hb C.2.1 hd) t st
theorem s_aaload (C : Cx p s m meth c Z own bytes maxL ret nm) {a : Addr} {ty : FieldType} {vs : List Value} {j : Int32} {i : Nat} {v : Value} (A : Ar Z h a ty vs) (hj : j = Int32.ofNat i) (hv : vs[i]? = some v) (hr : ty.isReference = true) (hd : decode bytes pc = .ok (.aaload, 1)) (hq : pc + 1 = q) (K : AtS p l e R s m args below meth c Z EL own n0 Q mk sf h cells slots (mkF m q L (v :: S))) : AtS p l e R s m args below meth c Z EL own n0 Q mk sf h cells slots (mkF m pc L (.int j :: .ref a :: S)) := by
  subst hq hj
  obtain ⟨hlt, k, cl, Ar, -, hS, hM, H, -⟩ := A
  obtain ⟨hi, hg⟩ := List.getElem?_eq_some_iff.mp hv
  have e1 := ofNat_nat (n := i) (by omega)
  have e2 := ofNat_nat hlt
  have hin : ¬ (Int32.ofNat i < 0 ∨ cl.slots.size ≤ (Int32.ofNat i).toNatClampNeg) := by
    rw [e1, hS, e2]; exact fun q => q.elim (ofNat_neg (by omega)) (by omega)
  refine K.goX fun T locs k n vm0 X eT hZ hown t st => X.aaload C.1 (j := Int32.ofNat i) (v := v) (by rw [eT]; exact Ar.1) (State.isArrayOf_alike (T := s.setVm vm0) hZ.alike Ar.2.1) hr Ar.2.2 hin (by rw [e1, H i (by rw [hS, e2]; exact hi)]; simp [List.getD, hv]) (g := mkF m pc L (.int (Int32.ofNat i) :: .ref a :: S)) rfl rfl (hb C.2.1 hd) t st
theorem s_iastore (C : Cx p s m meth c Z own bytes maxL ret nm) {a : Addr} {vs : List Value} {j : Int32} {i : Nat} {x : Int32} (A : Ar Z h a .int vs) (hj : j = Int32.ofNat i) (hi : i < vs.length) (hge : n0 ≤ a) (hd : decode bytes pc = .ok (.iastore, 1)) (hq : pc + 1 = q)
    (K : ∀ h', Wr h h' a i (.int x) → Ar Z h' a .int (vs.set i (.int x)) → AtS p l e R s m args below meth c Z EL own n0 Q mk sf h' cells slots (mkF m q L S)) : AtS p l e R s m args below meth c Z EL own n0 Q mk sf h cells slots (mkF m pc L (.int x :: .int j :: .ref a :: S)) := by
  subst hq hj
  intro T locs k n' vm0 k0 X hk hn' eT N hZ hown hS0 hk0 hC hB hF
  have hsafe := SfOk.safe (mk := mk) (sf := sf) (SfOk.arr A (by decide)) hZ.alike hB hF
  obtain ⟨hlt, k', cl, Ar, q1, hS, hM, H, G⟩ := A
  have e1 := ofNat_nat (n := i) (by omega)
  have e2 := ofNat_nat hlt
  have hin : ¬ (Int32.ofNat i < 0 ∨ cl.slots.size ≤ (Int32.ofNat i).toNatClampNeg) := by
    rw [e1, hS, e2]; exact fun q => q.elim (ofNat_neg (by omega)) (by omega)
  obtain ⟨T', h', X', e', W, st⟩ := stI X C.1 (show Z.Warmed39 (s.setVm vm0).vm from hZ) eT Ar (j := Int32.ofNat i) (x := x) hin (g := mkF m pc L (.int x :: .int (Int32.ofNat i) :: .ref a :: S)) rfl rfl (hb C.2.1 hd)
  have V := Arv.set Ar q1 hS hM H G (rfl) W i e1 hi
  obtain ⟨H', hB'⟩ := hC.1.wrStep W hsafe
  obtain ⟨t, o, r1, r⟩ := K h' (by rw [e1] at W; exact W) ⟨by simpa using hlt, k', by rw [List.length_set]; exact V⟩ T' _ k n' vm0 k0 X' hk hn' e' (Fr.snoc X' N hge) hZ hown hS0 (by rw [W.size]; exact hk0) (hC.trans (CHr.wr W hsafe hC.1)) (fun y hy => hB y (hB' y hy)) (fun x hx => ⟨by rw [W.size]; exact (hF x hx).1, Safe.wr W hsafe hC.1 (hF x hx).2⟩)
  exact ⟨t, o, st _ r1, r⟩
theorem s_castore (C : Cx p s m meth c Z own bytes maxL ret nm) {a : Addr} {vs : List Value} {j : Int32} {i : Nat} {x : Int32} {z : Int32} (hz : nar .char x = z) (A : Ar Z h a .char vs) (hj : j = Int32.ofNat i) (hi : i < vs.length) (hge : n0 ≤ a) (hd : decode bytes pc = .ok (.castore, 1)) (hq : pc + 1 = q)
    (K : ∀ h', Wr h h' a i (.int z) → Ar Z h' a .char (vs.set i (.int z)) → AtS p l e R s m args below meth c Z EL own n0 Q mk sf h' cells slots (mkF m q L S)) : AtS p l e R s m args below meth c Z EL own n0 Q mk sf h cells slots (mkF m pc L (.int x :: .int j :: .ref a :: S)) := by
  subst hq hj hz
  intro T locs k n' vm0 k0 X hk hn' eT N hZ hown hS0 hk0 hC hB hF
  have hsafe := SfOk.safe (mk := mk) (sf := sf) (SfOk.arr A (by decide)) hZ.alike hB hF
  obtain ⟨hlt, k', cl, Ar, q1, hS, hM, H, G⟩ := A
  have e1 := ofNat_nat (n := i) (by omega)
  have e2 := ofNat_nat hlt
  have hin : ¬ (Int32.ofNat i < 0 ∨ cl.slots.size ≤ (Int32.ofNat i).toNatClampNeg) := by
    rw [e1, hS, e2]; exact fun q => q.elim (ofNat_neg (by omega)) (by omega)
  obtain ⟨T', h', X', e', W, st⟩ := stC X C.1 (show Z.Warmed39 (s.setVm vm0).vm from hZ) eT Ar (j := Int32.ofNat i) (x := x) hin (g := mkF m pc L (.int x :: .int (Int32.ofNat i) :: .ref a :: S)) rfl rfl (hb C.2.1 hd)
  have V := Arv.set Ar q1 hS hM H G (fits_nar_char _) W i e1 hi
  obtain ⟨H', hB'⟩ := hC.1.wrStep W hsafe
  obtain ⟨t, o, r1, r⟩ := K h' (by rw [e1] at W; exact W) ⟨by simpa using hlt, k', by rw [List.length_set]; exact V⟩ T' _ k n' vm0 k0 X' hk hn' e' (Fr.snoc X' N hge) hZ hown hS0 (by rw [W.size]; exact hk0) (hC.trans (CHr.wr W hsafe hC.1)) (fun y hy => hB y (hB' y hy)) (fun x hx => ⟨by rw [W.size]; exact (hF x hx).1, Safe.wr W hsafe hC.1 (hF x hx).2⟩)
  exact ⟨t, o, st _ r1, r⟩
theorem s_bastore (C : Cx p s m meth c Z own bytes maxL ret nm) {a : Addr} {vs : List Value} {j : Int32} {i : Nat} {x : Int32} {z : Int32} (hz : nar .byte x = z) (A : Ar Z h a .byte vs) (hj : j = Int32.ofNat i) (hi : i < vs.length) (hge : n0 ≤ a) (hsf : SfOk Z h mk sf a) (hd : decode bytes pc = .ok (.bastore, 1)) (hq : pc + 1 = q)
    (K : ∀ h', Wr h h' a i (.int z) → Ar Z h' a .byte (vs.set i (.int z)) → AtS p l e R s m args below meth c Z EL own n0 Q mk sf h' cells slots (mkF m q L S)) : AtS p l e R s m args below meth c Z EL own n0 Q mk sf h cells slots (mkF m pc L (.int x :: .int j :: .ref a :: S)) := by
  subst hq hj hz
  intro T locs k n' vm0 k0 X hk hn' eT N hZ hown hS0 hk0 hC hB hF
  have hsafe := SfOk.safe (mk := mk) (sf := sf) hsf hZ.alike hB hF
  obtain ⟨hlt, k', cl, Ar, q1, hS, hM, H, G⟩ := A
  have e1 := ofNat_nat (n := i) (by omega)
  have e2 := ofNat_nat hlt
  have hin : ¬ (Int32.ofNat i < 0 ∨ cl.slots.size ≤ (Int32.ofNat i).toNatClampNeg) := by
    rw [e1, hS, e2]; exact fun q => q.elim (ofNat_neg (by omega)) (by omega)
  obtain ⟨T', h', X', e', W, st⟩ := stB X C.1 (show Z.Warmed39 (s.setVm vm0).vm from hZ) eT Ar (j := Int32.ofNat i) (x := x) hin (g := mkF m pc L (.int x :: .int (Int32.ofNat i) :: .ref a :: S)) rfl rfl (hb C.2.1 hd)
  have V := Arv.set Ar q1 hS hM H G (fits_nar_byte _) W i e1 hi
  obtain ⟨H', hB'⟩ := hC.1.wrStep W hsafe
  obtain ⟨t, o, r1, r⟩ := K h' (by rw [e1] at W; exact W) ⟨by simpa using hlt, k', by rw [List.length_set]; exact V⟩ T' _ k n' vm0 k0 X' hk hn' e' (Fr.snoc X' N hge) hZ hown hS0 (by rw [W.size]; exact hk0) (hC.trans (CHr.wr W hsafe hC.1)) (fun y hy => hB y (hB' y hy)) (fun x hx => ⟨by rw [W.size]; exact (hF x hx).1, Safe.wr W hsafe hC.1 (hF x hx).2⟩)
  exact ⟨t, o, st _ r1, r⟩
theorem s_lastore (C : Cx p s m meth c Z own bytes maxL ret nm) {a : Addr} {vs : List Value} {j : Int32} {i : Nat} {x : Int64} (A : Ar Z h a .long vs) (hj : j = Int32.ofNat i) (hi : i < vs.length) (hge : n0 ≤ a) (hd : decode bytes pc = .ok (.lastore, 1)) (hq : pc + 1 = q)
    (K : ∀ h', Wr h h' a i (.long x) → Ar Z h' a .long (vs.set i (.long x)) → AtS p l e R s m args below meth c Z EL own n0 Q mk sf h' cells slots (mkF m q L S)) : AtS p l e R s m args below meth c Z EL own n0 Q mk sf h cells slots (mkF m pc L (.long x :: .int j :: .ref a :: S)) := by
  subst hq hj
  intro T locs k n' vm0 k0 X hk hn' eT N hZ hown hS0 hk0 hC hB hF
  have hsafe := SfOk.safe (mk := mk) (sf := sf) (SfOk.arr A (by decide)) hZ.alike hB hF
  obtain ⟨hlt, k', cl, Ar, q1, hS, hM, H, G⟩ := A
  have e1 := ofNat_nat (n := i) (by omega)
  have e2 := ofNat_nat hlt
  have hin : ¬ (Int32.ofNat i < 0 ∨ cl.slots.size ≤ (Int32.ofNat i).toNatClampNeg) := by
    rw [e1, hS, e2]; exact fun q => q.elim (ofNat_neg (by omega)) (by omega)
  obtain ⟨T', h', X', e', W, st⟩ := stJ X C.1 (show Z.Warmed39 (s.setVm vm0).vm from hZ) eT Ar (j := Int32.ofNat i) (x := x) hin (g := mkF m pc L (.long x :: .int (Int32.ofNat i) :: .ref a :: S)) rfl rfl (hb C.2.1 hd)
  have V := Arv.set Ar q1 hS hM H G (rfl) W i e1 hi
  obtain ⟨H', hB'⟩ := hC.1.wrStep W hsafe
  obtain ⟨t, o, r1, r⟩ := K h' (by rw [e1] at W; exact W) ⟨by simpa using hlt, k', by rw [List.length_set]; exact V⟩ T' _ k n' vm0 k0 X' hk hn' e' (Fr.snoc X' N hge) hZ hown hS0 (by rw [W.size]; exact hk0) (hC.trans (CHr.wr W hsafe hC.1)) (fun y hy => hB y (hB' y hy)) (fun x hx => ⟨by rw [W.size]; exact (hF x hx).1, Safe.wr W hsafe hC.1 (hF x hx).2⟩)
  exact ⟨t, o, st _ r1, r⟩
theorem s_retZ (C : Cx p s m meth c Z own bytes maxL ret nm) (hEL : EW Z a0 EL) {t : FieldType} {x z : Int32} (hret : ret = some t) (ht : t = .boolean ∨ t = .byte ∨ t = .char ∨ t = .short) (hz : nar t x = z) (hd : decode bytes pc = .ok (.ireturn, 1)) (hc : cells ≤ R.cells) (hs : slots ≤ R.slots) (hQ : Q (some (.int z)) h) : AtS p l e R s m args below meth c Z EL own n0 Q mk sf h cells slots (mkF m pc L (.int x :: S)) := by
  subst hz
  intro T locs k n vm0 k0 X hk hn eT N hZ hown hS hk0 hC hB hF
  obtain ⟨fs, hr, hrun, hended, hW1, hW2, hW3, hW4⟩ := X.leaveW hS (by rw [eT]; exact hk0) (v := some (.int (nar t x))) (fun h => by rw [C.2.2.2.2.2.1, hret] at h; cases h) C.2.2.2.2.2.2.1
  have hA := hC.trans (CHv.at (h := h) X hZ hEL hC.1)
  refine ⟨_, _, retN X C.1 (t := t) (C.2.2.2.2.2.1.trans hret) ht (hb C.2.1 hd) hr, hrun, hended, _, _, rfl, ⟨N, ?_⟩, ?_, hW1, hW2, hW3, hW4.mono (Nat.le_trans hk hc) (Nat.le_trans hn hs)⟩
  · show Q _ T.heap
    rw [eT]; exact hQ
  · show CHr Z EL s.vm s.heap T.vm T.heap
    rw [eT]; exact hA
theorem s_ret (C : Cx p s m meth c Z own bytes maxL ret nm) (hEL : EW Z a0 EL) {t : FieldType} {v : Value} {i : Instr} (hret : ret = some t) (hn' : narrow t v = v)
    (hi : (i = .ireturn ∧ (t = .int ∨ t = .boolean ∨ t = .byte ∨ t = .char ∨ t = .short) ∧ ∃ z, v = .int z) ∨ (i = .lreturn ∧ t = .long ∧ ∃ z, v = .long z) ∨ (i = .dreturn ∧ t = .double ∧ ∃ z, v = .double z) ∨ (i = .freturn ∧ t = .float ∧ ∃ z, v = .float z) ∨ (i = .areturn ∧ t.isReference = true ∧ v.isRef = true))
    (hd : decode bytes pc = .ok (i, 1)) (hc : cells ≤ R.cells) (hs : slots ≤ R.slots) (hQ : Q (some v) h) : AtS p l e R s m args below meth c Z EL own n0 Q mk sf h cells slots (mkF m pc L (v :: S)) := by
  intro T locs k n vm0 k0 X hk hn eT N hZ hown hS hk0 hC hB hF
  obtain ⟨fs, hr, hrun, hended, hW1, hW2, hW3, hW4⟩ := X.leaveW hS (by rw [eT]; exact hk0) (v := some v) (fun h => by rw [C.2.2.2.2.2.1, hret] at h; cases h) C.2.2.2.2.2.2.1
  have hA := hC.trans (CHv.at (h := h) X hZ hEL hC.1)
  refine ⟨_, _, retOut X C.1 (t := t) (C.2.2.2.2.2.1.trans hret) hn' hi (hb C.2.1 hd) hr, hrun, hended, _, _, rfl, ⟨N, ?_⟩, ?_, hW1, hW2, hW3, hW4.mono (Nat.le_trans hk hc) (Nat.le_trans hn hs)⟩
  · show Q _ T.heap
    rw [eT]; exact hQ
  · show CHr Z EL s.vm s.heap T.vm T.heap
    rw [eT]; exact hA
theorem s_retI (C : Cx p s m meth c Z own bytes maxL ret nm) (hEL : EW Z a0 EL) {x : Int32} (hret : ret = some .int) (hd : decode bytes pc = .ok (.ireturn, 1)) (hc : cells ≤ R.cells) (hs : slots ≤ R.slots) (hQ : Q (some (.int x)) h) : AtS p l e R s m args below meth c Z EL own n0 Q mk sf h cells slots (mkF m pc L (.int x :: S)) :=
  s_ret C hEL hret rfl (Or.inl ⟨rfl, Or.inl rfl, _, rfl⟩) hd hc hs hQ
theorem s_retJ (C : Cx p s m meth c Z own bytes maxL ret nm) (hEL : EW Z a0 EL) {x : Int64} (hret : ret = some .long) (hd : decode bytes pc = .ok (.lreturn, 1)) (hc : cells ≤ R.cells) (hs : slots ≤ R.slots) (hQ : Q (some (.long x)) h) : AtS p l e R s m args below meth c Z EL own n0 Q mk sf h cells slots (mkF m pc L (.long x :: S)) :=
  s_ret C hEL hret rfl (Or.inr (Or.inl ⟨rfl, rfl, _, rfl⟩)) hd hc hs hQ
theorem s_retA (C : Cx p s m meth c Z own bytes maxL ret nm) (hEL : EW Z a0 EL) {t : FieldType} {v : Value} (hret : ret = some t) (ht : t.isReference = true) (hv : v.isRef = true) (hd : decode bytes pc = .ok (.areturn, 1)) (hc : cells ≤ R.cells) (hs : slots ≤ R.slots) (hQ : Q (some v) h) : AtS p l e R s m args below meth c Z EL own n0 Q mk sf h cells slots (mkF m pc L (v :: S)) :=
  s_ret C hEL hret (by rcases ref_cases hv with rfl | ⟨a, rfl⟩ <;> cases t <;> first | rfl | cases ht) (Or.inr (Or.inr (Or.inr (Or.inr ⟨rfl, ht, hv⟩)))) hd hc hs hQ
theorem s_retV (C : Cx p s m meth c Z own bytes maxL ret nm) (hEL : EW Z a0 EL) (hret : ret = none) (hd : decode bytes pc = .ok (.return_, 1)) (hc : cells ≤ R.cells) (hs : slots ≤ R.slots) (hQ : Q none h) : AtS p l e R s m args below meth c Z EL own n0 Q mk sf h cells slots (mkF m pc L []) := by
  intro T locs k n vm0 k0 X hk hn eT N hZ hown hS hk0 hC hB hF
  obtain ⟨fs, hr, hrun, hended, hW1, hW2, hW3, hW4⟩ := X.leaveW hS (by rw [eT]; exact hk0) (v := none) (fun h => by rfl) C.2.2.2.2.2.2.1
  have hA := hC.trans (CHv.at (h := h) X hZ hEL hC.1)
  refine ⟨_, _, X.returnOut C.1 (C.2.2.2.2.2.1.trans hret) (hb C.2.1 hd) hr, hrun, hended, _, _, rfl, ⟨N, ?_⟩, ?_, hW1, hW2, hW3, hW4.mono (Nat.le_trans hk hc) (Nat.le_trans hn hs)⟩
  · show Q _ T.heap
    rw [eT]; exact hQ
  · show CHr Z EL s.vm s.heap T.vm T.heap
    rw [eT]; exact hA

theorem s_callS1 (C : Cx p s m meth c Z own bytes maxL ret nm) {y : MethodName} {i : Nat} {argsL : List Value} {bytesY : ByteArray} {maxY : Nat} {retY : Option FieldType} {rm : Room} {Qy : Option Value → Heap → Prop} (w1 : (Jvm.Cond.methodLink own i y).before a0 Z = true) (w2 : (Jvm.Cond.static y).before a0 Z = true) (wz : (Jvm.Cond.initialized y.cls).before a0 Z = true) (wc : (Jvm.Cond.code y bytesY maxY retY).before a0 Z = true)
    (hy : y.cls ≠ "java/lang/invoke/MethodHandle" ∧ y.cls ≠ "java/lang/invoke/VarHandle") (ct : Ct [] l Z n0 y bytesY maxY retY rm argsL.toArray h Qy) {S' : List Value} (hS : S' = argsL.reverse ++ S) (hlen : ∀ sig, parseMethodDescriptor y.desc = some sig → argsL.length = sig.parameters.length) (hL : L.size = maxL) (hf : rm.frames + 1 ≤ R.frames) {W : Nat} (hW : (S.map fun v => v.category).sum ≤ W) (hlo : W + (maxY + 11) + rm.locals ≤ R.locals) {cells' slots' : Nat} (hc1 : cells + rm.cells = cells') (hs1 : slots + rm.slots = slots') (hc : cells' ≤ R.cells) (hl : slots' ≤ R.slots) {wl : List Addr} (hKp : ∀ v h', Qy v h' → Keep h h' wl) (hSf : ∀ x ∈ wl, SfOk Z h mk sf x)
    (hd : decode bytes pc = .ok (.invokestatic i, 3)) (hq : pc + 3 = q) (K : ∀ v h', Qy v h' → AtS p l e R s m args below meth c Z EL own n0 Q mk sf h' cells' slots' (mkF m q L (v.toList ++ S))) : AtS p l e R s m args below meth c Z EL own n0 Q mk sf h cells slots (mkF m pc L S') := by
  subst hq hc1 hs1
  intro T locs k n' vm0 k0 X hk hn' eT N hZ hown hS0 hk0 hC hB hF
  obtain ⟨v, _, ⟨T', L', k', n''⟩, -, X', ⟨Lc, hQ, hl', hc', hs'⟩, st⟩ := Jvm.LawKit.callS X C.1 (y := y) hown (mvT (s := s.setVm vm0) hZ w1) (mvT (s := s.setVm vm0) hZ w2) (mvT (s := s.setVm vm0) hZ wz) (mvT (s := s.setVm vm0) hZ wc) hy (backOf (s := s.setVm vm0) (W := W) (Q := fun v h L => Fr n0 L ∧ Qy v h) ct hZ wc wz hf hlo) (g := mkF m pc L S') rfl (hL.trans C.2.2.1.symm) (argsL := argsL) (rest := S) hlen hS (by show 2 * 0 + _ ≤ _; omega) (hb C.2.1 hd) (fun _ _ => ⟨rfl, eT, (by show k + _ ≤ _; omega), (by show n' + _ ≤ _; omega)⟩)
  dsimp only [Pt.U, Pt.locs, Pt.cells, Pt.slots] at X' hl' hc' hs' st hQ
  subst hl' hc' hs'
  have hKp' := hKp v T'.heap hQ.2
  have hsafe : ∀ x ∈ wl, Safe Z EL vm0 h x := fun x hx => (hSf x hx).safe hZ.alike hB hF
  obtain ⟨H', hB'⟩ := hC.1.keepStep hKp' hsafe
  obtain ⟨t, o, r1, r⟩ := K v T'.heap hQ.2 T' _ _ _ vm0 k0 X' (by omega) (by omega) rfl (Fr.app N hQ.1) hZ hown hS0 (Nat.le_trans hk0 hKp'.1) (hC.trans (CHr.keep hKp' hsafe hC.1)) (fun y hy => hB y (hB' y hy)) (fun x hx => ⟨Nat.lt_of_lt_of_le (hF x hx).1 hKp'.1, (hF x hx).2.keep hKp' hsafe hC.1⟩)
  exact ⟨t, o, st _ r1, r⟩
theorem s_callI1 (C : Cx p s m meth c Z own bytes maxL ret nm) {y : MethodName} {i : Nat} {a : Addr} {argsL : List Value} {bytesY : ByteArray} {maxY : Nat} {rm : Room} {Qy : Option Value → Heap → Prop} (hnm : y.name = "<init>") (w1 : (Jvm.Cond.methodLink own i y).before a0 Z = true) (w2 : (Jvm.Cond.instanceMethod y).before a0 Z = true) (wz : (Jvm.Cond.initialized y.cls).before a0 Z = true) (wc : (Jvm.Cond.code y bytesY maxY none).before a0 Z = true)
    (hy : y.cls ≠ "java/lang/invoke/MethodHandle" ∧ y.cls ≠ "java/lang/invoke/VarHandle") (ct : Ct [] l Z n0 y bytesY maxY none rm (.ref a :: argsL).toArray h Qy) {S' : List Value} (hS : S' = argsL.reverse ++ .ref a :: S) (hlen : ∀ sig, parseMethodDescriptor y.desc = some sig → argsL.length = sig.parameters.length) (hL : L.size = maxL) (hf : rm.frames + 1 ≤ R.frames) {W : Nat} (hW : (S.map fun v => v.category).sum ≤ W) (hlo : W + (maxY + 11) + rm.locals ≤ R.locals) {cells' slots' : Nat} (hc1 : cells + rm.cells = cells') (hs1 : slots + rm.slots = slots') (hc : cells' ≤ R.cells) (hl : slots' ≤ R.slots) {wl : List Addr} (hKp : ∀ v h', Qy v h' → Keep h h' wl) (hSf : ∀ x ∈ wl, SfOk Z h mk sf x)
    (hd : decode bytes pc = .ok (.invokespecial i, 3)) (hq : pc + 3 = q) (K : ∀ v h', Qy v h' → AtS p l e R s m args below meth c Z EL own n0 Q mk sf h' cells' slots' (mkF m q L (v.toList ++ S))) : AtS p l e R s m args below meth c Z EL own n0 Q mk sf h cells slots (mkF m pc L S') := by
  subst hq hc1 hs1
  intro T locs k n' vm0 k0 X hk hn' eT N hZ hown hS0 hk0 hC hB hF
  obtain ⟨v, _, ⟨T', L', k', n''⟩, -, X', ⟨Lc, hQ, hl', hc', hs'⟩, st⟩ := X.specialBack C.1 (y := y) hnm hown (mvT (s := s.setVm vm0) hZ w1) (mvT (s := s.setVm vm0) hZ w2) (mvT (s := s.setVm vm0) hZ wc) hy (backOf (s := s.setVm vm0) (W := W) (Q := fun v h L => Fr n0 L ∧ Qy v h) ct hZ wc wz hf hlo) (g := mkF m pc L S') rfl (hL.trans C.2.2.1.symm) (Steps.refl _) (a := a) (argsL := argsL) (rest := S) hlen hS (by show 2 * 0 + _ ≤ _; omega) (hb C.2.1 hd) (fun _ _ => ⟨rfl, eT, (by show k + _ ≤ _; omega), (by show n' + _ ≤ _; omega)⟩)
  dsimp only [Pt.U, Pt.locs, Pt.cells, Pt.slots] at X' hl' hc' hs' st hQ
  subst hl' hc' hs'
  have hKp' := hKp v T'.heap hQ.2
  have hsafe : ∀ x ∈ wl, Safe Z EL vm0 h x := fun x hx => (hSf x hx).safe hZ.alike hB hF
  obtain ⟨H', hB'⟩ := hC.1.keepStep hKp' hsafe
  obtain ⟨t, o, r1, r⟩ := K v T'.heap hQ.2 T' _ _ _ vm0 k0 X' (by omega) (by omega) rfl (Fr.app N hQ.1) hZ hown hS0 (Nat.le_trans hk0 hKp'.1) (hC.trans (CHr.keep hKp' hsafe hC.1)) (fun y hy => hB y (hB' y hy)) (fun x hx => ⟨Nat.lt_of_lt_of_le (hF x hx).1 hKp'.1, (hF x hx).2.keep hKp' hsafe hC.1⟩)
  exact ⟨t, o, st.trans r1, r⟩
theorem s_callV1 (C : Cx p s m meth c Z own bytes maxL ret nm) {y z : MethodName} {Cl : String} {i : Nat} {a : Addr} {argsL : List Value} {bytesY : ByteArray} {maxY : Nat} {retY : Option FieldType} {rm : Room} {Qy : Option Value → Heap → Prop} (E : Exa Z h a Cl) (w1 : (Jvm.Cond.methodLink own i y).before a0 Z = true) (w2 : (Jvm.Cond.declares y).before a0 Z = true) (hnf : ∀ vm0, Z.Warmed39 vm0 → NotFace (s.setVm vm0) y) (w3 : (Jvm.Cond.selects Cl y z).before a0 Z = true) (w4 : (Jvm.Cond.instanceMethod z).before a0 Z = true) (wz : (Jvm.Cond.initialized z.cls).before a0 Z = true) (wc : (Jvm.Cond.code z bytesY maxY retY).before a0 Z = true)
    (hy : y.cls ≠ "java/lang/invoke/MethodHandle" ∧ y.cls ≠ "java/lang/invoke/VarHandle") (ct : Ct [] l Z n0 z bytesY maxY retY rm (.ref a :: argsL).toArray h Qy) {S' : List Value} (hS : S' = argsL.reverse ++ .ref a :: S) (hlen : ∀ sig, parseMethodDescriptor y.desc = some sig → argsL.length = sig.parameters.length) (hL : L.size = maxL) (hf : rm.frames + 1 ≤ R.frames) {W : Nat} (hW : (S.map fun v => v.category).sum ≤ W) (hlo : W + (maxY + 11) + rm.locals ≤ R.locals) {cells' slots' : Nat} (hc1 : cells + rm.cells = cells') (hs1 : slots + rm.slots = slots') (hc : cells' ≤ R.cells) (hl : slots' ≤ R.slots) {wl : List Addr} (hKp : ∀ v h', Qy v h' → Keep h h' wl) (hSf : ∀ x ∈ wl, SfOk Z h mk sf x)
    (hd : decode bytes pc = .ok (.invokevirtual i, 3)) (hq : pc + 3 = q) (K : ∀ v h', Qy v h' → AtS p l e R s m args below meth c Z EL own n0 Q mk sf h' cells' slots' (mkF m q L (v.toList ++ S))) : AtS p l e R s m args below meth c Z EL own n0 Q mk sf h cells slots (mkF m pc L S') := by
  subst hq hc1 hs1
  intro T locs k n' vm0 k0 X hk hn' eT N hZ hown hS0 hk0 hC hB hF
  obtain ⟨cB, kB, q1, q2, q3⟩ := isOf (s := s.setVm vm0) hZ eT E
  obtain ⟨v, _, ⟨T', L', k', n''⟩, -, X', ⟨Lc, hQ, hl', hc', hs'⟩, st⟩ := X.virtualBack C.1 (y := y) (z := z) hown (mvT (s := s.setVm vm0) hZ w1) (mvT (s := s.setVm vm0) hZ w2) (hnf vm0 hZ) (mvT (s := s.setVm vm0) hZ w3) (mvT (s := s.setVm vm0) hZ w4) hy (backOf (s := s.setVm vm0) (W := W) (Q := fun v h L => Fr n0 L ∧ Qy v h) ct hZ wc wz hf hlo) q1 q3 (g := mkF m pc L S') rfl (hL.trans C.2.2.1.symm) (Steps.refl _) (argsL := argsL) (rest := S) hlen hS (by show 2 * 0 + _ ≤ _; omega) (hb C.2.1 hd) (fun _ _ => ⟨rfl, eT, (by show k + _ ≤ _; omega), (by show n' + _ ≤ _; omega)⟩)
  dsimp only [Pt.U, Pt.locs, Pt.cells, Pt.slots] at X' hl' hc' hs' st hQ
  subst hl' hc' hs'
  have hKp' := hKp v T'.heap hQ.2
  have hsafe : ∀ x ∈ wl, Safe Z EL vm0 h x := fun x hx => (hSf x hx).safe hZ.alike hB hF
  obtain ⟨H', hB'⟩ := hC.1.keepStep hKp' hsafe
  obtain ⟨t, o, r1, r⟩ := K v T'.heap hQ.2 T' _ _ _ vm0 k0 X' (by omega) (by omega) rfl (Fr.app N hQ.1) hZ hown hS0 (Nat.le_trans hk0 hKp'.1) (hC.trans (CHr.keep hKp' hsafe hC.1)) (fun y hy => hB y (hB' y hy)) (fun x hx => ⟨Nat.lt_of_lt_of_le (hF x hx).1 hKp'.1, (hF x hx).2.keep hKp' hsafe hC.1⟩)
  exact ⟨t, o, st.trans r1, r⟩
theorem s_callP1 (C : Cx p s m meth c Z own bytes maxL ret nm) {y : MethodName} {Cl : String} {i : Nat} {a : Addr} {argsL : List Value} {bytesY : ByteArray} {maxY : Nat} {retY : Option FieldType} {rm : Room} {Qy : Option Value → Heap → Prop} (E : Exa Z h a Cl) (w1 : (Jvm.Cond.methodLink own i y).before a0 Z = true) (w4 : (Jvm.Cond.instanceMethod y).before a0 Z = true) (hni : ∀ vm0, Z.Warmed39 vm0 → NI (s.setVm vm0) y.cls) (w5 : (Jvm.Cond.privateMethod y).before a0 Z = true) (wz : (Jvm.Cond.initialized y.cls).before a0 Z = true) (wc : (Jvm.Cond.code y bytesY maxY retY).before a0 Z = true)
    (hy : y.cls ≠ "java/lang/invoke/MethodHandle" ∧ y.cls ≠ "java/lang/invoke/VarHandle") (ct : Ct [] l Z n0 y bytesY maxY retY rm (.ref a :: argsL).toArray h Qy) {S' : List Value} (hS : S' = argsL.reverse ++ .ref a :: S) (hlen : ∀ sig, parseMethodDescriptor y.desc = some sig → argsL.length = sig.parameters.length) (hL : L.size = maxL) (hf : rm.frames + 1 ≤ R.frames) {W : Nat} (hW : (S.map fun v => v.category).sum ≤ W) (hlo : W + (maxY + 11) + rm.locals ≤ R.locals) {cells' slots' : Nat} (hc1 : cells + rm.cells = cells') (hs1 : slots + rm.slots = slots') (hc : cells' ≤ R.cells) (hl : slots' ≤ R.slots) {wl : List Addr} (hKp : ∀ v h', Qy v h' → Keep h h' wl) (hSf : ∀ x ∈ wl, SfOk Z h mk sf x)
    (hd : decode bytes pc = .ok (.invokevirtual i, 3)) (hq : pc + 3 = q) (K : ∀ v h', Qy v h' → AtS p l e R s m args below meth c Z EL own n0 Q mk sf h' cells' slots' (mkF m q L (v.toList ++ S))) : AtS p l e R s m args below meth c Z EL own n0 Q mk sf h cells slots (mkF m pc L S') := by
  subst hq hc1 hs1
  intro T locs k n' vm0 k0 X hk hn' eT N hZ hown hS0 hk0 hC hB hF
  obtain ⟨cq, q1, q2⟩ := E.cell
  obtain ⟨cN, kN, n1, n2, n3⟩ := hni vm0 hZ
  have hpv := Cond.privateMethod_at (mvP (s := s.setVm vm0) hZ w5 (args := #[]))
  obtain ⟨v, _, ⟨T', L', k', n''⟩, -, X', ⟨Lc, hQ, hl', hc', hs'⟩, st⟩ := X.privateBack C.1 (y := y) hown (mvT (s := s.setVm vm0) hZ w1) (mvT (s := s.setVm vm0) hZ w4) (selects_self_of_private n1 n2 n3 hpv (mvT (s := s.setVm vm0) hZ w4) hy) hpv (mvT (s := s.setVm vm0) hZ wc) hy (backOf (s := s.setVm vm0) (W := W) (Q := fun v h L => Fr n0 L ∧ Qy v h) ct hZ wc wz hf hlo) (g := mkF m pc L S') rfl (hL.trans C.2.2.1.symm) (Steps.refl _) (a := a) (by rw [eT]; exact q1) q2 (argsL := argsL) (rest := S) hlen hS (by show 2 * 0 + _ ≤ _; omega) (hb C.2.1 hd) (fun _ _ => ⟨rfl, eT, (by show k + _ ≤ _; omega), (by show n' + _ ≤ _; omega)⟩)
  dsimp only [Pt.U, Pt.locs, Pt.cells, Pt.slots] at X' hl' hc' hs' st hQ
  subst hl' hc' hs'
  have hKp' := hKp v T'.heap hQ.2
  have hsafe : ∀ x ∈ wl, Safe Z EL vm0 h x := fun x hx => (hSf x hx).safe hZ.alike hB hF
  obtain ⟨H', hB'⟩ := hC.1.keepStep hKp' hsafe
  obtain ⟨t, o, r1, r⟩ := K v T'.heap hQ.2 T' _ _ _ vm0 k0 X' (by omega) (by omega) rfl (Fr.app N hQ.1) hZ hown hS0 (Nat.le_trans hk0 hKp'.1) (hC.trans (CHr.keep hKp' hsafe hC.1)) (fun y hy => hB y (hB' y hy)) (fun x hx => ⟨Nat.lt_of_lt_of_le (hF x hx).1 hKp'.1, (hF x hx).2.keep hKp' hsafe hC.1⟩)
  exact ⟨t, o, st.trans r1, r⟩
theorem s_callS2 (C : Cx p s m meth c Z own bytes maxL ret nm) (hEL : EW Z a0 EL) {y : MethodName} {i : Nat} {argsL : List Value} {bytesY : ByteArray} {maxY : Nat} {retY : Option FieldType} {rm : Room} {Qy : Option Value → Heap → Prop} (w1 : (Jvm.Cond.methodLink own i y).before a0 Z = true) (w2 : (Jvm.Cond.static y).before a0 Z = true) (wz : (Jvm.Cond.initialized y.cls).before a0 Z = true) (wc : (Jvm.Cond.code y bytesY maxY retY).before a0 Z = true)
    (hy : y.cls ≠ "java/lang/invoke/MethodHandle" ∧ y.cls ≠ "java/lang/invoke/VarHandle") (ct : Cs [] l Z EL n0 y bytesY maxY retY rm argsL.toArray h Qy) {S' : List Value} (hS : S' = argsL.reverse ++ S) (hlen : ∀ sig, parseMethodDescriptor y.desc = some sig → argsL.length = sig.parameters.length) (hL : L.size = maxL) (hf : rm.frames + 1 ≤ R.frames) {W : Nat} (hW : (S.map fun v => v.category).sum ≤ W) (hlo : W + (maxY + 11) + rm.locals ≤ R.locals) {cells' slots' : Nat} (hc1 : cells + rm.cells = cells') (hs1 : slots + rm.slots = slots') (hc : cells' ≤ R.cells) (hl : slots' ≤ R.slots) 
    (hd : decode bytes pc = .ok (.invokestatic i, 3)) (hq : pc + 3 = q) (K : ∀ v h', Qy v h' → AtS p l e R s m args below meth c Z EL own n0 Q h'.size sf h' cells' slots' (mkF m q L (v.toList ++ S))) : AtS p l e R s m args below meth c Z EL own n0 Q mk sf h cells slots (mkF m pc L S') := by
  subst hq hc1 hs1
  intro T locs k n' vm0 k0 X hk hn' eT N hZ hown hS0 hk0 hC hB hF
  obtain ⟨v, _, ⟨T', L', k', n''⟩, -, X', hSn, hgr, ⟨Lc, hQ, hl', hc', hs', hCr⟩, st⟩ := callSS X C.1 (y := y) hown (mvT (s := s.setVm vm0) hZ w1) (mvT (s := s.setVm vm0) hZ w2) (mvT (s := s.setVm vm0) hZ wz) (mvT (s := s.setVm vm0) hZ wc) hy (backOfSH (W := W) (Q := fun v h L => Fr n0 L ∧ Qy v h) ct hZ wc wz hf hlo hEL hC.1) (g := mkF m pc L S') rfl (hL.trans C.2.2.1.symm) (argsL := argsL) (rest := S) hlen hS (by show 2 * 0 + _ ≤ _; omega) (hb C.2.1 hd) (fun _ _ => ⟨rfl, eT, (by show k + _ ≤ _; omega), (by show n' + _ ≤ _; omega)⟩)
  dsimp only [Pt.U, Pt.locs, Pt.cells, Pt.slots] at X' hSn hgr hl' hc' hs' st hQ hCr
  subst hl' hc' hs'
  rw [eT] at hgr
  obtain ⟨X2, hS2, hZ2, hown2⟩ := rebS hS0 hk0 X' hSn hgr (show Z.Warmed39 (s.setVm vm0).vm from hZ) hown
  obtain ⟨t, o, r1, r⟩ := K v T'.heap hQ.2 T' _ _ _ T'.vm T'.heap.size X2 (by omega) (by omega) rfl (Fr.app N hQ.1) hZ2 hown2 hS2 (Nat.le_refl _) (hC.trans hCr) (fun y hy => bk_lt hy) (fun x hx => ⟨Nat.lt_of_lt_of_le (hF x hx).1 hgr, hCr.safe (hF x hx).1 (hF x hx).2⟩)
  exact ⟨t, o, st.trans r1, r⟩
theorem s_callI2 (C : Cx p s m meth c Z own bytes maxL ret nm) (hEL : EW Z a0 EL) {y : MethodName} {i : Nat} {a : Addr} {argsL : List Value} {bytesY : ByteArray} {maxY : Nat} {rm : Room} {Qy : Option Value → Heap → Prop} (hnm : y.name = "<init>") (w1 : (Jvm.Cond.methodLink own i y).before a0 Z = true) (w2 : (Jvm.Cond.instanceMethod y).before a0 Z = true) (wz : (Jvm.Cond.initialized y.cls).before a0 Z = true) (wc : (Jvm.Cond.code y bytesY maxY none).before a0 Z = true)
    (hy : y.cls ≠ "java/lang/invoke/MethodHandle" ∧ y.cls ≠ "java/lang/invoke/VarHandle") (ct : Cs [] l Z EL n0 y bytesY maxY none rm (.ref a :: argsL).toArray h Qy) {S' : List Value} (hS : S' = argsL.reverse ++ .ref a :: S) (hlen : ∀ sig, parseMethodDescriptor y.desc = some sig → argsL.length = sig.parameters.length) (hL : L.size = maxL) (hf : rm.frames + 1 ≤ R.frames) {W : Nat} (hW : (S.map fun v => v.category).sum ≤ W) (hlo : W + (maxY + 11) + rm.locals ≤ R.locals) {cells' slots' : Nat} (hc1 : cells + rm.cells = cells') (hs1 : slots + rm.slots = slots') (hc : cells' ≤ R.cells) (hl : slots' ≤ R.slots) 
    (hd : decode bytes pc = .ok (.invokespecial i, 3)) (hq : pc + 3 = q) (K : ∀ v h', Qy v h' → AtS p l e R s m args below meth c Z EL own n0 Q h'.size sf h' cells' slots' (mkF m q L (v.toList ++ S))) : AtS p l e R s m args below meth c Z EL own n0 Q mk sf h cells slots (mkF m pc L S') := by
  subst hq hc1 hs1
  intro T locs k n' vm0 k0 X hk hn' eT N hZ hown hS0 hk0 hC hB hF
  obtain ⟨v, _, ⟨T', L', k', n''⟩, -, X', hSn, hgr, ⟨Lc, hQ, hl', hc', hs', hCr⟩, st⟩ := X.specialBackS C.1 (y := y) hnm hown (mvT (s := s.setVm vm0) hZ w1) (mvT (s := s.setVm vm0) hZ w2) (mvT (s := s.setVm vm0) hZ wc) hy (backOfSH (W := W) (Q := fun v h L => Fr n0 L ∧ Qy v h) ct hZ wc wz hf hlo hEL hC.1) (g := mkF m pc L S') rfl (hL.trans C.2.2.1.symm) (Steps.refl _) (a := a) (argsL := argsL) (rest := S) hlen hS (by show 2 * 0 + _ ≤ _; omega) (hb C.2.1 hd) (fun _ _ => ⟨rfl, eT, (by show k + _ ≤ _; omega), (by show n' + _ ≤ _; omega)⟩)
  dsimp only [Pt.U, Pt.locs, Pt.cells, Pt.slots] at X' hSn hgr hl' hc' hs' st hQ hCr
  subst hl' hc' hs'
  rw [eT] at hgr
  obtain ⟨X2, hS2, hZ2, hown2⟩ := rebS hS0 hk0 X' hSn hgr (show Z.Warmed39 (s.setVm vm0).vm from hZ) hown
  obtain ⟨t, o, r1, r⟩ := K v T'.heap hQ.2 T' _ _ _ T'.vm T'.heap.size X2 (by omega) (by omega) rfl (Fr.app N hQ.1) hZ2 hown2 hS2 (Nat.le_refl _) (hC.trans hCr) (fun y hy => bk_lt hy) (fun x hx => ⟨Nat.lt_of_lt_of_le (hF x hx).1 hgr, hCr.safe (hF x hx).1 (hF x hx).2⟩)
  exact ⟨t, o, st.trans r1, r⟩
theorem s_callV2 (C : Cx p s m meth c Z own bytes maxL ret nm) (hEL : EW Z a0 EL) {y z : MethodName} {Cl : String} {i : Nat} {a : Addr} {argsL : List Value} {bytesY : ByteArray} {maxY : Nat} {retY : Option FieldType} {rm : Room} {Qy : Option Value → Heap → Prop} (E : Exa Z h a Cl) (w1 : (Jvm.Cond.methodLink own i y).before a0 Z = true) (w2 : (Jvm.Cond.declares y).before a0 Z = true) (hnf : ∀ vm0, Z.Warmed39 vm0 → NotFace (s.setVm vm0) y) (w3 : (Jvm.Cond.selects Cl y z).before a0 Z = true) (w4 : (Jvm.Cond.instanceMethod z).before a0 Z = true) (wz : (Jvm.Cond.initialized z.cls).before a0 Z = true) (wc : (Jvm.Cond.code z bytesY maxY retY).before a0 Z = true)
    (hy : y.cls ≠ "java/lang/invoke/MethodHandle" ∧ y.cls ≠ "java/lang/invoke/VarHandle") (ct : Cs [] l Z EL n0 z bytesY maxY retY rm (.ref a :: argsL).toArray h Qy) {S' : List Value} (hS : S' = argsL.reverse ++ .ref a :: S) (hlen : ∀ sig, parseMethodDescriptor y.desc = some sig → argsL.length = sig.parameters.length) (hL : L.size = maxL) (hf : rm.frames + 1 ≤ R.frames) {W : Nat} (hW : (S.map fun v => v.category).sum ≤ W) (hlo : W + (maxY + 11) + rm.locals ≤ R.locals) {cells' slots' : Nat} (hc1 : cells + rm.cells = cells') (hs1 : slots + rm.slots = slots') (hc : cells' ≤ R.cells) (hl : slots' ≤ R.slots) 
    (hd : decode bytes pc = .ok (.invokevirtual i, 3)) (hq : pc + 3 = q) (K : ∀ v h', Qy v h' → AtS p l e R s m args below meth c Z EL own n0 Q h'.size sf h' cells' slots' (mkF m q L (v.toList ++ S))) : AtS p l e R s m args below meth c Z EL own n0 Q mk sf h cells slots (mkF m pc L S') := by
  subst hq hc1 hs1
  intro T locs k n' vm0 k0 X hk hn' eT N hZ hown hS0 hk0 hC hB hF
  obtain ⟨cB, kB, q1, q2, q3⟩ := isOf (s := s.setVm vm0) hZ eT E
  obtain ⟨v, _, ⟨T', L', k', n''⟩, -, X', hSn, hgr, ⟨Lc, hQ, hl', hc', hs', hCr⟩, st⟩ := X.virtualBackS C.1 (y := y) (z := z) hown (mvT (s := s.setVm vm0) hZ w1) (mvT (s := s.setVm vm0) hZ w2) (hnf vm0 hZ) (mvT (s := s.setVm vm0) hZ w3) (mvT (s := s.setVm vm0) hZ w4) hy (backOfSH (W := W) (Q := fun v h L => Fr n0 L ∧ Qy v h) ct hZ wc wz hf hlo hEL hC.1) q1 q3 (g := mkF m pc L S') rfl (hL.trans C.2.2.1.symm) (Steps.refl _) (argsL := argsL) (rest := S) hlen hS (by show 2 * 0 + _ ≤ _; omega) (hb C.2.1 hd) (fun _ _ => ⟨rfl, eT, (by show k + _ ≤ _; omega), (by show n' + _ ≤ _; omega)⟩)
  dsimp only [Pt.U, Pt.locs, Pt.cells, Pt.slots] at X' hSn hgr hl' hc' hs' st hQ hCr
  subst hl' hc' hs'
  rw [eT] at hgr
  obtain ⟨X2, hS2, hZ2, hown2⟩ := rebS hS0 hk0 X' hSn hgr (show Z.Warmed39 (s.setVm vm0).vm from hZ) hown
  obtain ⟨t, o, r1, r⟩ := K v T'.heap hQ.2 T' _ _ _ T'.vm T'.heap.size X2 (by omega) (by omega) rfl (Fr.app N hQ.1) hZ2 hown2 hS2 (Nat.le_refl _) (hC.trans hCr) (fun y hy => bk_lt hy) (fun x hx => ⟨Nat.lt_of_lt_of_le (hF x hx).1 hgr, hCr.safe (hF x hx).1 (hF x hx).2⟩)
  exact ⟨t, o, st.trans r1, r⟩
theorem s_callP2 (C : Cx p s m meth c Z own bytes maxL ret nm) (hEL : EW Z a0 EL) {y : MethodName} {Cl : String} {i : Nat} {a : Addr} {argsL : List Value} {bytesY : ByteArray} {maxY : Nat} {retY : Option FieldType} {rm : Room} {Qy : Option Value → Heap → Prop} (E : Exa Z h a Cl) (w1 : (Jvm.Cond.methodLink own i y).before a0 Z = true) (w4 : (Jvm.Cond.instanceMethod y).before a0 Z = true) (hni : ∀ vm0, Z.Warmed39 vm0 → NI (s.setVm vm0) y.cls) (w5 : (Jvm.Cond.privateMethod y).before a0 Z = true) (wz : (Jvm.Cond.initialized y.cls).before a0 Z = true) (wc : (Jvm.Cond.code y bytesY maxY retY).before a0 Z = true)
    (hy : y.cls ≠ "java/lang/invoke/MethodHandle" ∧ y.cls ≠ "java/lang/invoke/VarHandle") (ct : Cs [] l Z EL n0 y bytesY maxY retY rm (.ref a :: argsL).toArray h Qy) {S' : List Value} (hS : S' = argsL.reverse ++ .ref a :: S) (hlen : ∀ sig, parseMethodDescriptor y.desc = some sig → argsL.length = sig.parameters.length) (hL : L.size = maxL) (hf : rm.frames + 1 ≤ R.frames) {W : Nat} (hW : (S.map fun v => v.category).sum ≤ W) (hlo : W + (maxY + 11) + rm.locals ≤ R.locals) {cells' slots' : Nat} (hc1 : cells + rm.cells = cells') (hs1 : slots + rm.slots = slots') (hc : cells' ≤ R.cells) (hl : slots' ≤ R.slots) 
    (hd : decode bytes pc = .ok (.invokevirtual i, 3)) (hq : pc + 3 = q) (K : ∀ v h', Qy v h' → AtS p l e R s m args below meth c Z EL own n0 Q h'.size sf h' cells' slots' (mkF m q L (v.toList ++ S))) : AtS p l e R s m args below meth c Z EL own n0 Q mk sf h cells slots (mkF m pc L S') := by
  subst hq hc1 hs1
  intro T locs k n' vm0 k0 X hk hn' eT N hZ hown hS0 hk0 hC hB hF
  obtain ⟨cq, q1, q2⟩ := E.cell
  obtain ⟨cN, kN, n1, n2, n3⟩ := hni vm0 hZ
  have hpv := Cond.privateMethod_at (mvP (s := s.setVm vm0) hZ w5 (args := #[]))
  obtain ⟨v, _, ⟨T', L', k', n''⟩, -, X', hSn, hgr, ⟨Lc, hQ, hl', hc', hs', hCr⟩, st⟩ := X.privateBackS C.1 (y := y) hown (mvT (s := s.setVm vm0) hZ w1) (mvT (s := s.setVm vm0) hZ w4) (selects_self_of_private n1 n2 n3 hpv (mvT (s := s.setVm vm0) hZ w4) hy) hpv (mvT (s := s.setVm vm0) hZ wc) hy (backOfSH (W := W) (Q := fun v h L => Fr n0 L ∧ Qy v h) ct hZ wc wz hf hlo hEL hC.1) (g := mkF m pc L S') rfl (hL.trans C.2.2.1.symm) (Steps.refl _) (a := a) (by rw [eT]; exact q1) q2 (argsL := argsL) (rest := S) hlen hS (by show 2 * 0 + _ ≤ _; omega) (hb C.2.1 hd) (fun _ _ => ⟨rfl, eT, (by show k + _ ≤ _; omega), (by show n' + _ ≤ _; omega)⟩)
  dsimp only [Pt.U, Pt.locs, Pt.cells, Pt.slots] at X' hSn hgr hl' hc' hs' st hQ hCr
  subst hl' hc' hs'
  rw [eT] at hgr
  obtain ⟨X2, hS2, hZ2, hown2⟩ := rebS hS0 hk0 X' hSn hgr (show Z.Warmed39 (s.setVm vm0).vm from hZ) hown
  obtain ⟨t, o, r1, r⟩ := K v T'.heap hQ.2 T' _ _ _ T'.vm T'.heap.size X2 (by omega) (by omega) rfl (Fr.app N hQ.1) hZ2 hown2 hS2 (Nat.le_refl _) (hC.trans hCr) (fun y hy => bk_lt hy) (fun x hx => ⟨Nat.lt_of_lt_of_le (hF x hx).1 hgr, hCr.safe (hF x hx).1 (hF x hx).2⟩)
  exact ⟨t, o, st.trans r1, r⟩
theorem s_nf {y : MethodName} {Cl : String} (w3 : (Jvm.Cond.selects Cl y y).before a0 Z = true) : ∀ vm0, Z.Warmed39 vm0 → NotFace (s.setVm vm0) y := fun vm0 hZ => notFace_of_selects (args := #[]) (mvT (s := s.setVm vm0) hZ w3)
theorem s_nfs {y : MethodName} {Cl : String} (w3 : (Jvm.Cond.superclass y.cls Cl).before a0 Z = true) : ∀ vm0, Z.Warmed39 vm0 → NotFace (s.setVm vm0) y := fun vm0 hZ => nf_super (args := #[]) (mvT (s := s.setVm vm0) hZ w3)
/-- ldc of a String constant: what it spells -/
theorem s_ldc (C : Cx p s m meth c Z own bytes maxL ret nm) (hEL : EW Z a0 EL) (wS : ∀ a ∈ Bundle.stringAtoms, a.before a0 Z = true) {text : String} {i : Nat} (w : (Jvm.Cond.stringLink own i text).before a0 Z = true) (hmem : (own, i) ∈ EL) {vs : List Value} (ht : (∀ c ∈ text.toList, c.toNat < 256) ∧ text.toList.map (fun c => Value.int (Jvm.Lit.byteI c.toNat.toUInt16)) = vs) (hvl : vs.length < 2 ^ 31)
    {n : Nat} (hn1 : 4 * text.toList.length ≤ n) (hbig : n ≤ 536870912) {cells' slots' : Nat} (hc1 : cells + 2 = cells') (hs1 : slots + (n + 4) = slots') (hc : cells' ≤ R.cells) (hl : slots' ≤ R.slots)
    (hd : decode bytes pc = .ok (.ldc i, 2)) (hq : pc + 2 = q) (K : ∀ h' a b, Ext h h' → Exa Z h' a "java/lang/String" → Fld Z h' a "java/lang/String" "coder" "B" (.int 0) → Fld Z h' a "java/lang/String" "value" "[B" (.ref b) → Ar Z h' b .byte vs → (∀ x ∈ sf, x ≠ a ∧ x ≠ b) → AtS p l e R s m args below meth c Z EL own n0 Q h'.size sf h' cells' slots' (mkF m q L (.ref a :: S))) : AtS p l e R s m args below meth c Z EL own n0 Q mk sf h cells slots (mkF m pc L S) := by
  subst hq hc1 hs1
  intro T locs k n' vm0 k0 X hk hn' eT N hZ hown hS0 hk0 hC hB hF
  obtain ⟨a, T', h', k1, b, kc, X', e', E, hS1, hk1, hZ1, hown1, f1, f2, f3, f4, -, -, hCr, -, hne, st⟩ := ldcCH X C.1 hZ hown w wS eT hS0 hk0 hEL hmem hC.1 ht (ofNat_neg hvl) (ofNat_nat hvl) (g := mkF m pc L S) rfl (hb C.2.1 hd) hn1 hbig (by omega) (by omega)
  have hsf : ∀ x ∈ sf, x < h'.size ∧ Safe Z EL T'.vm h' x := fun x hx => ⟨Nat.lt_of_lt_of_le (hF x hx).1 E.1, hCr.safe (hF x hx).1 (hF x hx).2⟩
  obtain ⟨t, o, r1, r⟩ := K h' a b E f1 f2 f3 ⟨hvl, kc, f4⟩ (fun x hx => hne x (hsf x hx).2) T' _ _ _ T'.vm k1 X' (by omega) (by omega) e' N hZ1 hown1 hS1 hk1 (hC.trans hCr) (fun y hy => bk_lt hy) hsf
  exact ⟨t, o, st _ r1, r⟩
/-- ldc of a String constant of which nothing is said -/
theorem s_ldcO (C : Cx p s m meth c Z own bytes maxL ret nm) (hEL : EW Z a0 EL) (wS : ∀ a ∈ Bundle.stringAtoms, a.before a0 Z = true) {text : String} {i : Nat} (w : (Jvm.Cond.stringLink own i text).before a0 Z = true)
    {n : Nat} (hn1 : 4 * text.toList.length ≤ n) (hbig : n ≤ 536870912) {cells' slots' : Nat} (hc1 : cells + 2 = cells') (hs1 : slots + (n + 4) = slots') (hc : cells' ≤ R.cells) (hl : slots' ≤ R.slots)
    (hd : decode bytes pc = .ok (.ldc i, 2)) (hq : pc + 2 = q) (K : ∀ h' a, Ext h h' → AtS p l e R s m args below meth c Z EL own n0 Q h'.size sf h' cells' slots' (mkF m q L (.ref a :: S))) : AtS p l e R s m args below meth c Z EL own n0 Q mk sf h cells slots (mkF m pc L S) := by
  subst hq hc1 hs1
  intro T locs k n' vm0 k0 X hk hn' eT N hZ hown hS0 hk0 hC hB hF
  obtain ⟨a, T', h', k1, X', e', E, hS1, hk1, hZ1, hown1, hCr, -, st⟩ := ldcOH X C.1 hZ hown w wS eT hS0 hk0 hEL hC.1 (g := mkF m pc L S) rfl (hb C.2.1 hd) hn1 hbig (by omega) (by omega)
  have hsf : ∀ x ∈ sf, x < h'.size ∧ Safe Z EL T'.vm h' x := fun x hx => ⟨Nat.lt_of_lt_of_le (hF x hx).1 E.1, hCr.safe (hF x hx).1 (hF x hx).2⟩
  obtain ⟨t, o, r1, r⟩ := K h' a E T' _ _ _ T'.vm k1 X' (by omega) (by omega) e' N hZ1 hown1 hS1 hk1 (hC.trans hCr) (fun y hy => bk_lt hy) hsf
  exact ⟨t, o, st _ r1, r⟩
end WkS
-- CUT
def Gl (Z : State) (a0 : Array Value) (n0 : Nat) : Prop := (∀ d ∈ tables_1, d.before a0 Z = true) ∧ (∃ z : Int32, Sta Z Z.heap "java/lang/String" "COMPACT_STRINGS" "Z" (.int z) ∧ ¬ z = 0) ∧ (∃ v : Value, Sta Z Z.heap "jdk/internal/util/Preconditions" "SIOOBE_FORMATTER" "Ljava/util/function/BiFunction;" v ∧ v.isRef = true ∧ v.category = 1) ∧ EW Z a0 consts_1 ∧ True
theorem Gl.cs {Z : State} {a0 : Array Value} {n0 : Nat} (G : Gl Z a0 n0) : ∃ z : Int32, Sta Z Z.heap "java/lang/String" "COMPACT_STRINGS" "Z" (.int z) ∧ ¬ z = 0 := G.2.1
theorem Gl.fm {Z : State} {a0 : Array Value} {n0 : Nat} (G : Gl Z a0 n0) : ∃ v : Value, Sta Z Z.heap "jdk/internal/util/Preconditions" "SIOOBE_FORMATTER" "Ljava/util/function/BiFunction;" v ∧ v.isRef = true ∧ v.category = 1 := G.2.2.1
theorem Gl.el {Z : State} {a0 : Array Value} {n0 : Nat} (G : Gl Z a0 n0) : EW Z a0 consts_1 := G.2.2.2.1
theorem own_sa : ∀ d ∈ Bundle.stringAtoms, d ∈ tables_1 := by decide +kernel
theorem Gl.sa {Z : State} {a0 : Array Value} {n0 : Nat} (G : Gl Z a0 n0) : ∀ d ∈ Bundle.stringAtoms, d.before a0 Z = true := fun d hd => G.1 d (own_sa d hd)
theorem pd_1 : parseMethodDescriptor "([CI)Ljava/lang/String;" = some ⟨[(.array .char), .int], some (.object "java/lang/String")⟩ := by decide +kernel
theorem pd_2 : parseMethodDescriptor "([C)V" = some ⟨[(.array .char)], none⟩ := by decide +kernel
theorem pd_3 : parseMethodDescriptor "([CIILjava/lang/Void;)V" = some ⟨[(.array .char), .int, .int, (.object "java/lang/Void")], none⟩ := by decide +kernel
theorem pd_4 : parseMethodDescriptor "()V" = some ⟨[], none⟩ := by decide +kernel
theorem pd_5 : parseMethodDescriptor "([CII)[B" = some ⟨[(.array .char), .int, .int], some (.array .byte)⟩ := by decide +kernel
theorem pd_6 : parseMethodDescriptor "([CI[BII)I" = some ⟨[(.array .char), .int, (.array .byte), .int, .int], some .int⟩ := by decide +kernel
theorem pd_7 : parseMethodDescriptor "([BI)B" = some ⟨[(.array .byte), .int], some .byte⟩ := by decide +kernel
theorem pd_8 : parseMethodDescriptor "(C)Z" = some ⟨[.char], some .boolean⟩ := by decide +kernel
theorem pd_9 : parseMethodDescriptor "(Ljava/lang/String;I)Z" = some ⟨[(.object "java/lang/String"), .int], some .boolean⟩ := by decide +kernel
theorem pd_10 : parseMethodDescriptor "()I" = some ⟨[], some .int⟩ := by decide +kernel
theorem pd_11 : parseMethodDescriptor "()B" = some ⟨[], some .byte⟩ := by decide +kernel
theorem pd_12 : parseMethodDescriptor "(I)C" = some ⟨[.int], some .char⟩ := by decide +kernel
theorem pd_13 : parseMethodDescriptor "()Z" = some ⟨[], some .boolean⟩ := by decide +kernel
theorem pd_14 : parseMethodDescriptor "([BI)C" = some ⟨[(.array .byte), .int], some .char⟩ := by decide +kernel
theorem pd_15 : parseMethodDescriptor "(II)V" = some ⟨[.int, .int], none⟩ := by decide +kernel
theorem pd_16 : parseMethodDescriptor "(IILjava/util/function/BiFunction;)I" = some ⟨[.int, .int, (.object "java/util/function/BiFunction")], some .int⟩ := by decide +kernel
theorem d11_0 : decode jdk_42_method_152_code 0 = .ok (.getstatic 38, 3) := by decide +kernel
theorem d11_3 : decode jdk_42_method_152_code 3 = .ok (.ifCond .eq 10, 3) := by decide +kernel
theorem d11_6 : decode jdk_42_method_152_code 6 = .ok (.aload_n 0, 1) := by decide +kernel
theorem d11_7 : decode jdk_42_method_152_code 7 = .ok (.getfield 15, 3) := by decide +kernel
theorem d11_10 : decode jdk_42_method_152_code 10 = .ok (.goto 4, 3) := by decide +kernel
theorem d11_13 : decode jdk_42_method_152_code 13 = .ok (.iconst 1, 1) := by decide +kernel
theorem d11_14 : decode jdk_42_method_152_code 14 = .ok (.ireturn, 1) := by decide +kernel
theorem pf11 : plainFor (⟨"java/lang/String", "coder", "()B"⟩ : MethodName) = true := by first | exact plainFor_of_name (by first | (simp [plainName, overriddenIn]; done) | decide +kernel) | decide +kernel
theorem ef_coder (m : MethodId) (z0 : Addr) : entryFrame m #[(.ref z0)] 1 = mkF m 0 #[.val (.ref z0)] [] := by first | rfl | (simp [entryFrame, mkF, argsToLocals, Value.category, *]; done) | rfl
set_option maxRecDepth 65536 in
set_option maxHeartbeats 40000000 in
theorem rm_coder {l : Launch} {Z : State} {a0 : Array Value} {n0 : Nat} (G : Gl Z a0 n0) {h0 : Heap} (O : Old Z n0 h0) (a : Addr) (cs : List Int32) (S : Str Z h0 a cs) :
    Ct [] l Z n0 (⟨"java/lang/String", "coder", "()B"⟩ : MethodName) jdk_42_method_152_code 1 (some .byte) ({ frames := 0, cells := 0, slots := 0, locals := 0 } : Room) #[(.ref a)] h0 (fun v h => h = h0 ∧ v = some (.int 0)) := by
  refine Ct.intro pf11 ?_
  intro p e s m below meth c C
  refine AtW.cast ?_ (ef_coder m a)
  obtain ⟨E, hr, t, FC, FV, A⟩ := id S
  obtain ⟨zc, SC, hzc⟩ := G.cs
  refine w_getS (q := 3) (host := "") C (Or.inl (G.1 _ (List.mem_of_getElem? (i := 18) rfl))) Via.refl (SC.ext O.2) d11_0 rfl ?_
  refine w_if_eq_f (q := 6) C d11_3 rfl hzc ?_
  refine w_aloadN (q := 7) C rfl rfl d11_6 rfl ?_
  refine w_getF (q := 10) (host := "") C (Or.inl (G.1 _ (List.mem_of_getElem? (i := 30) rfl))) Via.refl FC d11_7 rfl ?_
  refine w_goto (q := 14) C d11_10 (by decide) (by decide) ?_
  exact w_retZ (z := (0 : Int32)) C (t := .byte) rfl (by simp) (by decide) d11_14 (by decide) (by decide) ⟨rfl, rfl⟩
theorem d10_0 : decode jdk_42_method_54_code 0 = .ok (.aload_n 0, 1) := by decide +kernel
theorem d10_1 : decode jdk_42_method_54_code 1 = .ok (.getfield 9, 3) := by decide +kernel
theorem d10_4 : decode jdk_42_method_54_code 4 = .ok (.arraylength, 1) := by decide +kernel
theorem d10_5 : decode jdk_42_method_54_code 5 = .ok (.aload_n 0, 1) := by decide +kernel
theorem d10_6 : decode jdk_42_method_54_code 6 = .ok (.invokevirtual 335, 3) := by decide +kernel
theorem d10_9 : decode jdk_42_method_54_code 9 = .ok (.ishr, 1) := by decide +kernel
theorem d10_10 : decode jdk_42_method_54_code 10 = .ok (.ireturn, 1) := by decide +kernel
theorem pf10 : plainFor (⟨"java/lang/String", "length", "()I"⟩ : MethodName) = true := by first | exact plainFor_of_name (by first | (simp [plainName, overriddenIn]; done) | decide +kernel) | decide +kernel
theorem ef_length (m : MethodId) (z0 : Addr) : entryFrame m #[(.ref z0)] 1 = mkF m 0 #[.val (.ref z0)] [] := by first | rfl | (simp [entryFrame, mkF, argsToLocals, Value.category, *]; done) | rfl
set_option maxRecDepth 65536 in
set_option maxHeartbeats 40000000 in
theorem rm_length {l : Launch} {Z : State} {a0 : Array Value} {n0 : Nat} (G : Gl Z a0 n0) {h0 : Heap} (O : Old Z n0 h0) (a : Addr) (cs : List Int32) (S : Str Z h0 a cs) :
    Ct [] l Z n0 (⟨"java/lang/String", "length", "()I"⟩ : MethodName) jdk_42_method_54_code 1 (some .int) ({ frames := 1, cells := 0, slots := 0, locals := 13 } : Room) #[(.ref a)] h0 (fun v h => h = h0 ∧ v = some (.int (Int32.ofNat cs.length))) := by
  refine Ct.intro pf10 ?_
  intro p e s m below meth c C
  refine AtW.cast ?_ (ef_length m a)
  obtain ⟨E, hr, t, FC, FV, A⟩ := id S
  refine w_aloadN (q := 1) C rfl rfl d10_0 rfl ?_
  refine w_getF (q := 4) (host := "") C (Or.inl (G.1 _ (List.mem_of_getElem? (i := 32) rfl))) Via.refl FV d10_1 rfl ?_
  refine w_len (q := 5) (z := (Int32.ofNat cs.length)) C A (by rw [own_bs_len]) d10_4 rfl ?_
  refine w_aloadN (q := 6) C rfl rfl d10_5 rfl ?_
  refine w_callV (q := 9) (argsL := []) (S := [(.int (Int32.ofNat cs.length))]) (W := 1) (cells' := 0) (slots' := 0) (a := a) C E (G.1 _ (List.mem_of_getElem? (i := 46) rfl)) (G.1 _ (List.mem_of_getElem? (i := 47) rfl)) (w_nf C (G.1 _ (List.mem_of_getElem? (i := 49) rfl))) (G.1 _ (List.mem_of_getElem? (i := 49) rfl)) (G.1 _ (List.mem_of_getElem? (i := 48) rfl)) (G.1 _ (List.mem_of_getElem? (i := 7) rfl)) (G.1 _ (List.mem_of_getElem? (i := 50) rfl)) (by decide) (rm_coder G O a cs S) rfl (lenOf pd_11 rfl) rfl (by decide) (own_leb rfl) (by decide) rfl rfl (by decide) (by decide) d10_6 rfl ?_
  rintro _ h1 ⟨eh2, rfl⟩
  rw [eh2]
  show AtW p l e _ s m _ below meth c n0 _ h0 0 0 (mkF m 9 #[.val (.ref a)] [(.int (0 : Int32)), (.int (Int32.ofNat cs.length))])
  refine w_ishr (q := 10) C rfl d10_9 rfl ?_
  rw [show ((Int32.ofNat cs.length) >>> ((0 : Int32) &&& 31)) = (Int32.ofNat cs.length) from own_shr0 _]
  exact w_retI C rfl d10_10 (by decide) (by decide) ⟨rfl, rfl⟩
theorem d13_0 : decode jdk_42_method_154_code 0 = .ok (.getstatic 38, 3) := by decide +kernel
theorem d13_3 : decode jdk_42_method_154_code 3 = .ok (.ifCond .eq 14, 3) := by decide +kernel
theorem d13_6 : decode jdk_42_method_154_code 6 = .ok (.aload_n 0, 1) := by decide +kernel
theorem d13_7 : decode jdk_42_method_154_code 7 = .ok (.getfield 15, 3) := by decide +kernel
theorem d13_10 : decode jdk_42_method_154_code 10 = .ok (.ifCond .ne 7, 3) := by decide +kernel
theorem d13_13 : decode jdk_42_method_154_code 13 = .ok (.iconst 1, 1) := by decide +kernel
theorem d13_14 : decode jdk_42_method_154_code 14 = .ok (.goto 4, 3) := by decide +kernel
theorem d13_17 : decode jdk_42_method_154_code 17 = .ok (.iconst 0, 1) := by decide +kernel
theorem d13_18 : decode jdk_42_method_154_code 18 = .ok (.ireturn, 1) := by decide +kernel
theorem pf13 : plainFor (⟨"java/lang/String", "isLatin1", "()Z"⟩ : MethodName) = true := by first | exact plainFor_of_name (by first | (simp [plainName, overriddenIn]; done) | decide +kernel) | decide +kernel
theorem ef_isLatin1 (m : MethodId) (z0 : Addr) : entryFrame m #[(.ref z0)] 1 = mkF m 0 #[.val (.ref z0)] [] := by first | rfl | (simp [entryFrame, mkF, argsToLocals, Value.category, *]; done) | rfl
set_option maxRecDepth 65536 in
set_option maxHeartbeats 40000000 in
theorem rm_isLatin1 {l : Launch} {Z : State} {a0 : Array Value} {n0 : Nat} (G : Gl Z a0 n0) {h0 : Heap} (O : Old Z n0 h0) (a : Addr) (cs : List Int32) (S : Str Z h0 a cs) :
    Ct [] l Z n0 (⟨"java/lang/String", "isLatin1", "()Z"⟩ : MethodName) jdk_42_method_154_code 1 (some .boolean) ({ frames := 0, cells := 0, slots := 0, locals := 0 } : Room) #[(.ref a)] h0 (fun v h => h = h0 ∧ v = some (.int 1)) := by
  refine Ct.intro pf13 ?_
  intro p e s m below meth c C
  refine AtW.cast ?_ (ef_isLatin1 m a)
  obtain ⟨E, hr, t, FC, FV, A⟩ := id S
  obtain ⟨zc, SC, hzc⟩ := G.cs
  refine w_getS (q := 3) (host := "") C (Or.inl (G.1 _ (List.mem_of_getElem? (i := 18) rfl))) Via.refl (SC.ext O.2) d13_0 rfl ?_
  refine w_if_eq_f (q := 6) C d13_3 rfl hzc ?_
  refine w_aloadN (q := 7) C rfl rfl d13_6 rfl ?_
  refine w_getF (q := 10) (host := "") C (Or.inl (G.1 _ (List.mem_of_getElem? (i := 30) rfl))) Via.refl FC d13_7 rfl ?_
  refine w_if_ne_f (q := 13) C d13_10 rfl (by decide) ?_
  refine w_iconst (q := 14) (v := (1 : Int32)) C (by rfl) d13_13 rfl ?_
  refine w_goto (q := 18) C d13_14 (by decide) (by decide) ?_
  exact w_retZ (z := (1 : Int32)) C (t := .boolean) rfl (by simp) (by decide) d13_18 (by decide) (by decide) ⟨rfl, rfl⟩
theorem d16_0 : decode jdk_41_method_11_code 0 = .ok (.iload_n 0, 1) := by decide +kernel
theorem d16_1 : decode jdk_41_method_11_code 1 = .ok (.ifCond .lt 8, 3) := by decide +kernel
theorem d16_4 : decode jdk_41_method_11_code 4 = .ok (.iload_n 0, 1) := by decide +kernel
theorem d16_5 : decode jdk_41_method_11_code 5 = .ok (.iload_n 1, 1) := by decide +kernel
theorem d16_6 : decode jdk_41_method_11_code 6 = .ok (.if_icmp .lt 10, 3) := by decide +kernel
theorem d16_9 : decode jdk_41_method_11_code 9 = .ok (.aload_n 2, 1) := by decide +kernel
theorem d16_10 : decode jdk_41_method_11_code 10 = .ok (.iload_n 0, 1) := by decide +kernel
theorem d16_11 : decode jdk_41_method_11_code 11 = .ok (.iload_n 1, 1) := by decide +kernel
theorem d16_12 : decode jdk_41_method_11_code 12 = .ok (.invokestatic 95, 3) := by decide +kernel
theorem d16_15 : decode jdk_41_method_11_code 15 = .ok (.athrow, 1) := by decide +kernel
theorem d16_16 : decode jdk_41_method_11_code 16 = .ok (.iload_n 0, 1) := by decide +kernel
theorem d16_17 : decode jdk_41_method_11_code 17 = .ok (.ireturn, 1) := by decide +kernel
theorem pf16 : plainFor (⟨"jdk/internal/util/Preconditions", "checkIndex", "(IILjava/util/function/BiFunction;)I"⟩ : MethodName) = true := by first | exact plainFor_of_name (by first | (simp [plainName, overriddenIn]; done) | decide +kernel) | decide +kernel
theorem ef_pcheck (m : MethodId) (z0 : Int32) (z1 : Int32) (z2 : Value) (cz2 : z2.category = 1) : entryFrame m #[(.int z0), (.int z1), z2] 3 = mkF m 0 #[.val (.int z0), .val (.int z1), .val z2] [] := by cases z2 <;> first | (simp [Value.category] at cz2; done) | first | rfl | (simp [entryFrame, mkF, argsToLocals, Value.category, *]; done) | rfl
set_option maxRecDepth 65536 in
set_option maxHeartbeats 40000000 in
theorem rm_pcheck {l : Launch} {Z : State} {a0 : Array Value} {n0 : Nat} (G : Gl Z a0 n0) {h0 : Heap} (O : Old Z n0 h0) (x : Int32) (y : Int32) (f : Value) (hf : f.isRef = true) (hfc : f.category = 1) (hx : ¬ x < 0) (hxy : x < y) :
    Ct [] l Z n0 (⟨"jdk/internal/util/Preconditions", "checkIndex", "(IILjava/util/function/BiFunction;)I"⟩ : MethodName) jdk_41_method_11_code 3 (some .int) ({ frames := 0, cells := 0, slots := 0, locals := 0 } : Room) #[(.int x), (.int y), f] h0 (fun v h => h = h0 ∧ v = some (.int x)) := by
  refine Ct.intro pf16 ?_
  intro p e s m below meth c C
  refine AtW.cast ?_ (ef_pcheck m x y f (by assumption))
  refine w_iloadN (q := 1) C rfl d16_0 rfl ?_
  refine w_if_lt_f (q := 4) C d16_1 rfl hx ?_
  refine w_iloadN (q := 5) C rfl d16_4 rfl ?_
  refine w_iloadN (q := 6) C rfl d16_5 rfl ?_
  refine w_icmp_lt_t (q := 16) C d16_6 (by decide) (by decide) hxy ?_
  refine w_iloadN (q := 17) C rfl d16_16 rfl ?_
  exact w_retI C rfl d16_17 (by decide) (by decide) ⟨rfl, rfl⟩
theorem d15_0 : decode jdk_42_method_155_code 0 = .ok (.iload_n 0, 1) := by decide +kernel
theorem d15_1 : decode jdk_42_method_155_code 1 = .ok (.iload_n 1, 1) := by decide +kernel
theorem d15_2 : decode jdk_42_method_155_code 2 = .ok (.getstatic 1053, 3) := by decide +kernel
theorem d15_5 : decode jdk_42_method_155_code 5 = .ok (.invokestatic 1059, 3) := by decide +kernel
theorem d15_8 : decode jdk_42_method_155_code 8 = .ok (.pop, 1) := by decide +kernel
theorem d15_9 : decode jdk_42_method_155_code 9 = .ok (.return_, 1) := by decide +kernel
theorem pf15 : plainFor (⟨"java/lang/String", "checkIndex", "(II)V"⟩ : MethodName) = true := by first | exact plainFor_of_name (by first | (simp [plainName, overriddenIn]; done) | decide +kernel) | decide +kernel
theorem ef_scheck (m : MethodId) (z0 : Int32) (z1 : Int32) : entryFrame m #[(.int z0), (.int z1)] 2 = mkF m 0 #[.val (.int z0), .val (.int z1)] [] := by first | rfl | (simp [entryFrame, mkF, argsToLocals, Value.category, *]; done) | rfl
set_option maxRecDepth 65536 in
set_option maxHeartbeats 40000000 in
theorem rm_scheck {l : Launch} {Z : State} {a0 : Array Value} {n0 : Nat} (G : Gl Z a0 n0) {h0 : Heap} (O : Old Z n0 h0) (x : Int32) (y : Int32) (hx : ¬ x < 0) (hxy : x < y) :
    Ct [] l Z n0 (⟨"java/lang/String", "checkIndex", "(II)V"⟩ : MethodName) jdk_42_method_155_code 2 none ({ frames := 1, cells := 0, slots := 0, locals := 14 } : Room) #[(.int x), (.int y)] h0 (fun v h => h = h0 ∧ v = none) := by
  refine Ct.intro pf15 ?_
  intro p e s m below meth c C
  refine AtW.cast ?_ (ef_scheck m x y)
  obtain ⟨f, Sf, hf, hfc⟩ := G.fm
  refine w_iloadN (q := 1) C rfl d15_0 rfl ?_
  refine w_iloadN (q := 2) C rfl d15_1 rfl ?_
  refine w_getS (q := 5) (host := "") C (Or.inl (G.1 _ (List.mem_of_getElem? (i := 68) rfl))) Via.refl (Sf.ext O.2) d15_2 rfl ?_
  refine w_callS (q := 8) (argsL := [(.int x), (.int y), f]) (S := []) (W := 0) (cells' := 0) (slots' := 0) C (G.1 _ (List.mem_of_getElem? (i := 70) rfl)) (G.1 _ (List.mem_of_getElem? (i := 71) rfl)) (G.1 _ (List.mem_of_getElem? (i := 69) rfl)) (G.1 _ (List.mem_of_getElem? (i := 72) rfl)) (by decide) (rm_pcheck G O x y f hf hfc hx hxy) rfl (lenOf pd_16 rfl) rfl (by decide) (own_leb rfl) (by decide) rfl rfl (by decide) (by decide) d15_5 rfl ?_
  rintro _ h3 ⟨eh4, rfl⟩
  rw [eh4]
  show AtW p l e _ s m _ below meth c n0 _ h0 0 0 (mkF m 8 #[.val (.int x), .val (.int y)] [(.int x)])
  refine w_pop (q := 9) C rfl d15_8 rfl ?_
  exact w_retV C rfl d15_9 (by decide) (by decide) ⟨rfl, rfl⟩
theorem d14_0 : decode jdk_43_method_2_code 0 = .ok (.iload_n 1, 1) := by decide +kernel
theorem d14_1 : decode jdk_43_method_2_code 1 = .ok (.aload_n 0, 1) := by decide +kernel
theorem d14_2 : decode jdk_43_method_2_code 2 = .ok (.arraylength, 1) := by decide +kernel
theorem d14_3 : decode jdk_43_method_2_code 3 = .ok (.invokestatic 9, 3) := by decide +kernel
theorem d14_6 : decode jdk_43_method_2_code 6 = .ok (.aload_n 0, 1) := by decide +kernel
theorem d14_7 : decode jdk_43_method_2_code 7 = .ok (.iload_n 1, 1) := by decide +kernel
theorem d14_8 : decode jdk_43_method_2_code 8 = .ok (.baload, 1) := by decide +kernel
theorem d14_9 : decode jdk_43_method_2_code 9 = .ok (.sipush 255, 3) := by decide +kernel
theorem d14_12 : decode jdk_43_method_2_code 12 = .ok (.iand, 1) := by decide +kernel
theorem d14_13 : decode jdk_43_method_2_code 13 = .ok (.i2c, 1) := by decide +kernel
theorem d14_14 : decode jdk_43_method_2_code 14 = .ok (.ireturn, 1) := by decide +kernel
theorem pf14 : plainFor (⟨"java/lang/StringLatin1", "charAt", "([BI)C"⟩ : MethodName) = true := by first | exact plainFor_of_name (by first | (simp [plainName, overriddenIn]; done) | decide +kernel) | decide +kernel
theorem ef_charAtL (m : MethodId) (z0 : Addr) (z1 : Int32) : entryFrame m #[(.ref z0), (.int z1)] 2 = mkF m 0 #[.val (.ref z0), .val (.int z1)] [] := by first | rfl | (simp [entryFrame, mkF, argsToLocals, Value.category, *]; done) | rfl
set_option maxRecDepth 65536 in
set_option maxHeartbeats 40000000 in
theorem rm_charAtL {l : Launch} {Z : State} {a0 : Array Value} {n0 : Nat} (G : Gl Z a0 n0) {h0 : Heap} (O : Old Z n0 h0) (t : Addr) (cs : List Int32) (i : Nat) (ch : Int32) (A : Ar Z h0 t .byte (own_bs cs)) (hr : L1 cs) (hi : cs[i]? = some ch) :
    Ct [] l Z n0 (⟨"java/lang/StringLatin1", "charAt", "([BI)C"⟩ : MethodName) jdk_43_method_2_code 2 (some .char) ({ frames := 2, cells := 0, slots := 0, locals := 27 } : Room) #[(.ref t), (.int (Int32.ofNat i))] h0 (fun v h => h = h0 ∧ v = some (.int ch)) := by
  refine Ct.intro pf14 ?_
  intro p e s m below meth c C
  refine AtW.cast ?_ (ef_charAtL m t (Int32.ofNat i))
  have hl := A.1
  rw [own_bs_len] at hl
  have hil : i < cs.length := (List.getElem?_eq_some_iff.mp hi).1
  have hc := hr.get hi
  refine w_iloadN (q := 1) C rfl d14_0 rfl ?_
  refine w_aloadN (q := 2) C rfl rfl d14_1 rfl ?_
  refine w_len (q := 3) (z := (Int32.ofNat cs.length)) C A (by rw [own_bs_len]) d14_2 rfl ?_
  refine w_callS (q := 6) (argsL := [(.int (Int32.ofNat i)), (.int (Int32.ofNat cs.length))]) (S := []) (W := 0) (cells' := 0) (slots' := 0) C (G.1 _ (List.mem_of_getElem? (i := 65) rfl)) (G.1 _ (List.mem_of_getElem? (i := 66) rfl)) (G.1 _ (List.mem_of_getElem? (i := 7) rfl)) (G.1 _ (List.mem_of_getElem? (i := 67) rfl)) (by decide) (rm_scheck G O _ _ (ofNat_neg (by omega)) ((own_nlt (by omega) hl).mpr hil)) rfl (lenOf pd_15 rfl) rfl (by decide) (own_leb rfl) (by decide) rfl rfl (by decide) (by decide) d14_3 rfl ?_
  rintro _ h5 ⟨eh6, rfl⟩
  rw [eh6]
  show AtW p l e _ s m _ below meth c n0 _ h0 0 0 (mkF m 6 #[.val (.ref t), .val (.int (Int32.ofNat i))] [])
  refine w_aloadN (q := 7) C rfl rfl d14_6 rfl ?_
  refine w_iloadN (q := 8) C rfl d14_7 rfl ?_
  refine w_baload (q := 9) (i := i) (v := (.int ch.toInt8.toInt32)) C A rfl (own_bs_get hi) d14_8 rfl ?_
  refine w_sipush (q := 12) (v := (255 : Int32)) C (by rfl) d14_9 rfl ?_
  refine w_iand (q := 13) C rfl d14_12 rfl ?_
  refine w_i2c (q := 14) C rfl d14_13 rfl ?_
  rw [show ((ch.toInt8.toInt32 &&& (255 : Int32)).toUInt32.toUInt16.toUInt32.toInt32) = ch from own_lo8 hc.1 hc.2]
  exact w_retZ (z := ch) C (t := .char) rfl (by simp) (own_nar hc.1 hc.2) d14_14 (by decide) (by decide) ⟨rfl, rfl⟩
theorem d12_0 : decode jdk_42_method_56_code 0 = .ok (.aload_n 0, 1) := by decide +kernel
theorem d12_1 : decode jdk_42_method_56_code 1 = .ok (.invokevirtual 492, 3) := by decide +kernel
theorem d12_4 : decode jdk_42_method_56_code 4 = .ok (.ifCond .eq 12, 3) := by decide +kernel
theorem d12_7 : decode jdk_42_method_56_code 7 = .ok (.aload_n 0, 1) := by decide +kernel
theorem d12_8 : decode jdk_42_method_56_code 8 = .ok (.getfield 9, 3) := by decide +kernel
theorem d12_11 : decode jdk_42_method_56_code 11 = .ok (.iload_n 1, 1) := by decide +kernel
theorem d12_12 : decode jdk_42_method_56_code 12 = .ok (.invokestatic 495, 3) := by decide +kernel
theorem d12_15 : decode jdk_42_method_56_code 15 = .ok (.ireturn, 1) := by decide +kernel
theorem d12_16 : decode jdk_42_method_56_code 16 = .ok (.aload_n 0, 1) := by decide +kernel
theorem d12_17 : decode jdk_42_method_56_code 17 = .ok (.getfield 9, 3) := by decide +kernel
theorem d12_20 : decode jdk_42_method_56_code 20 = .ok (.iload_n 1, 1) := by decide +kernel
theorem d12_21 : decode jdk_42_method_56_code 21 = .ok (.invokestatic 498, 3) := by decide +kernel
theorem d12_24 : decode jdk_42_method_56_code 24 = .ok (.ireturn, 1) := by decide +kernel
theorem pf12 : plainFor (⟨"java/lang/String", "charAt", "(I)C"⟩ : MethodName) = true := by first | exact plainFor_of_name (by first | (simp [plainName, overriddenIn]; done) | decide +kernel) | decide +kernel
theorem ef_charAt (m : MethodId) (z0 : Addr) (z1 : Int32) : entryFrame m #[(.ref z0), (.int z1)] 2 = mkF m 0 #[.val (.ref z0), .val (.int z1)] [] := by first | rfl | (simp [entryFrame, mkF, argsToLocals, Value.category, *]; done) | rfl
set_option maxRecDepth 65536 in
set_option maxHeartbeats 40000000 in
theorem rm_charAt {l : Launch} {Z : State} {a0 : Array Value} {n0 : Nat} (G : Gl Z a0 n0) {h0 : Heap} (O : Old Z n0 h0) (a : Addr) (cs : List Int32) (i : Nat) (ch : Int32) (S : Str Z h0 a cs) (hi : cs[i]? = some ch) :
    Ct [] l Z n0 (⟨"java/lang/String", "charAt", "(I)C"⟩ : MethodName) jdk_42_method_56_code 2 (some .char) ({ frames := 3, cells := 0, slots := 0, locals := 40 } : Room) #[(.ref a), (.int (Int32.ofNat i))] h0 (fun v h => h = h0 ∧ v = some (.int ch)) := by
  refine Ct.intro pf12 ?_
  intro p e s m below meth c C
  refine AtW.cast ?_ (ef_charAt m a (Int32.ofNat i))
  obtain ⟨E, hr, t, FC, FV, A⟩ := id S
  have hc := hr.get hi
  refine w_aloadN (q := 1) C rfl rfl d12_0 rfl ?_
  refine w_callV (q := 4) (argsL := []) (S := []) (W := 0) (cells' := 0) (slots' := 0) (a := a) C E (G.1 _ (List.mem_of_getElem? (i := 56) rfl)) (G.1 _ (List.mem_of_getElem? (i := 57) rfl)) (w_nf C (G.1 _ (List.mem_of_getElem? (i := 59) rfl))) (G.1 _ (List.mem_of_getElem? (i := 59) rfl)) (G.1 _ (List.mem_of_getElem? (i := 58) rfl)) (G.1 _ (List.mem_of_getElem? (i := 7) rfl)) (G.1 _ (List.mem_of_getElem? (i := 60) rfl)) (by decide) (rm_isLatin1 G O a cs S) rfl (lenOf pd_13 rfl) rfl (by decide) (own_leb rfl) (by decide) rfl rfl (by decide) (by decide) d12_1 rfl ?_
  rintro _ h7 ⟨eh8, rfl⟩
  rw [eh8]
  show AtW p l e _ s m _ below meth c n0 _ h0 0 0 (mkF m 4 #[.val (.ref a), .val (.int (Int32.ofNat i))] [(.int (1 : Int32))])
  refine w_if_eq_f (q := 7) C d12_4 rfl (by decide) ?_
  refine w_aloadN (q := 8) C rfl rfl d12_7 rfl ?_
  refine w_getF (q := 11) (host := "") C (Or.inl (G.1 _ (List.mem_of_getElem? (i := 32) rfl))) Via.refl FV d12_8 rfl ?_
  refine w_iloadN (q := 12) C rfl d12_11 rfl ?_
  refine w_callS (q := 15) (argsL := [(.ref t), (.int (Int32.ofNat i))]) (S := []) (W := 0) (cells' := 0) (slots' := 0) C (G.1 _ (List.mem_of_getElem? (i := 61) rfl)) (G.1 _ (List.mem_of_getElem? (i := 62) rfl)) (G.1 _ (List.mem_of_getElem? (i := 63) rfl)) (G.1 _ (List.mem_of_getElem? (i := 64) rfl)) (by decide) (rm_charAtL G O t cs i ch A hr hi) rfl (lenOf pd_14 rfl) rfl (by decide) (own_leb rfl) (by decide) rfl rfl (by decide) (by decide) d12_12 rfl ?_
  rintro _ h9 ⟨eh10, rfl⟩
  rw [eh10]
  show AtW p l e _ s m _ below meth c n0 _ h0 0 0 (mkF m 15 #[.val (.ref a), .val (.int (Int32.ofNat i))] [(.int ch)])
  exact w_retZ (z := ch) C (t := .char) rfl (by simp) (own_nar hc.1 hc.2) d12_15 (by decide) (by decide) ⟨rfl, rfl⟩
theorem own_fill (cs : List Int32) (i k : Nat) (c : Int32) (h : cs[i]? = some c) : (own_bs (cs.take i) ++ List.replicate (k + 1) (Value.int (0 : Int32))).set i (.int c.toInt8.toInt32) = own_bs (cs.take (i + 1)) ++ List.replicate k (Value.int (0 : Int32)) := by
  obtain ⟨hi, hg⟩ := List.getElem?_eq_some_iff.mp h
  have hl : (own_bs (cs.take i)).length = i := by rw [own_bs_len, List.length_take]; omega
  rw [List.set_append_right _ _ (by omega), hl, Nat.sub_self, List.replicate_succ, List.set_cons_zero, List.take_add_one, h]
  simp [own_bs]

theorem d6_0 : decode jdk_52_method_21_code 0 = .ok (.iconst 0, 1) := by decide +kernel
theorem d6_1 : decode jdk_52_method_21_code 1 = .ok (.istore 5, 2) := by decide +kernel
theorem d6_3 : decode jdk_52_method_21_code 3 = .ok (.iload 5, 2) := by decide +kernel
theorem d6_5 : decode jdk_52_method_21_code 5 = .ok (.iload 4, 2) := by decide +kernel
theorem d6_7 : decode jdk_52_method_21_code 7 = .ok (.if_icmp .ge 37, 3) := by decide +kernel
theorem d6_10 : decode jdk_52_method_21_code 10 = .ok (.aload_n 0, 1) := by decide +kernel
theorem d6_11 : decode jdk_52_method_21_code 11 = .ok (.iload_n 1, 1) := by decide +kernel
theorem d6_12 : decode jdk_52_method_21_code 12 = .ok (.caload, 1) := by decide +kernel
theorem d6_13 : decode jdk_52_method_21_code 13 = .ok (.istore 6, 2) := by decide +kernel
theorem d6_15 : decode jdk_52_method_21_code 15 = .ok (.iload 6, 2) := by decide +kernel
theorem d6_17 : decode jdk_52_method_21_code 17 = .ok (.sipush 255, 3) := by decide +kernel
theorem d6_20 : decode jdk_52_method_21_code 20 = .ok (.if_icmp .le 6, 3) := by decide +kernel
theorem d6_23 : decode jdk_52_method_21_code 23 = .ok (.iload 5, 2) := by decide +kernel
theorem d6_25 : decode jdk_52_method_21_code 25 = .ok (.ireturn, 1) := by decide +kernel
theorem d6_26 : decode jdk_52_method_21_code 26 = .ok (.aload_n 2, 1) := by decide +kernel
theorem d6_27 : decode jdk_52_method_21_code 27 = .ok (.iload_n 3, 1) := by decide +kernel
theorem d6_28 : decode jdk_52_method_21_code 28 = .ok (.iload 6, 2) := by decide +kernel
theorem d6_30 : decode jdk_52_method_21_code 30 = .ok (.i2b, 1) := by decide +kernel
theorem d6_31 : decode jdk_52_method_21_code 31 = .ok (.bastore, 1) := by decide +kernel
theorem d6_32 : decode jdk_52_method_21_code 32 = .ok (.iinc 1 1, 3) := by decide +kernel
theorem d6_35 : decode jdk_52_method_21_code 35 = .ok (.iinc 3 1, 3) := by decide +kernel
theorem d6_38 : decode jdk_52_method_21_code 38 = .ok (.iinc 5 1, 3) := by decide +kernel
theorem d6_41 : decode jdk_52_method_21_code 41 = .ok (.goto (-38), 3) := by decide +kernel
theorem d6_44 : decode jdk_52_method_21_code 44 = .ok (.iload 4, 2) := by decide +kernel
theorem d6_46 : decode jdk_52_method_21_code 46 = .ok (.ireturn, 1) := by decide +kernel
theorem pf6 : plainFor (⟨"java/lang/StringUTF16", "compress", "([CI[BII)I"⟩ : MethodName) = true := by first | exact plainFor_of_name (by first | (simp [plainName, overriddenIn]; done) | decide +kernel) | decide +kernel
theorem ef_comp5 (m : MethodId) (z0 : Addr) (z1 : Int32) (z2 : Addr) (z3 : Int32) (z4 : Int32) : entryFrame m #[(.ref z0), (.int z1), (.ref z2), (.int z3), (.int z4)] 7 = mkF m 0 #[.val (.ref z0), .val (.int z1), .val (.ref z2), .val (.int z3), .val (.int z4), .unset, .unset] [] := by first | rfl | (simp [entryFrame, mkF, argsToLocals, Value.category, *]; done) | rfl
set_option maxRecDepth 65536 in
set_option maxHeartbeats 40000000 in
theorem rm_comp5 {l : Launch} {Z : State} {a0 : Array Value} {n0 : Nat} (G : Gl Z a0 n0) {h0 : Heap} (O : Old Z n0 h0) (a : Addr) (cs : List Int32) (t : Addr) (A : Ar Z h0 a .char (cs.map Value.int)) (hr : L1 cs) (B : Ar Z h0 t .byte (List.replicate cs.length (Value.int (0 : Int32)))) (hne : a ≠ t) (hge : n0 ≤ t) :
    Ct [] l Z n0 (⟨"java/lang/StringUTF16", "compress", "([CI[BII)I"⟩ : MethodName) jdk_52_method_21_code 7 (some .int) ({ frames := 0, cells := 0, slots := 0, locals := 0 } : Room) #[(.ref a), (.int (0 : Int32)), (.ref t), (.int (0 : Int32)), (.int (Int32.ofNat cs.length))] h0 (fun v h => Keep h0 h [t] ∧ v = some (.int (Int32.ofNat cs.length)) ∧ Ar Z h t .byte (own_bs cs)) := by
  refine Ct.intro pf6 ?_
  intro p e s m below meth c C
  refine AtW.cast ?_ (ef_comp5 m a (0 : Int32) t (0 : Int32) (Int32.ofNat cs.length))
  have hl : cs.length < 2 ^ 31 := by have := A.1; rw [List.length_map] at this; exact this
  have LOOP : ∀ (k i : Nat) (h1 : Heap) (s6 : Slot), i + k = cs.length → One s6 → Keep h0 h1 [t] → Ar Z h1 t .byte (own_bs (cs.take i) ++ List.replicate k (Value.int (0 : Int32))) → AtW p l e ({ frames := 0, cells := 0, slots := 0, locals := 0 } : Room) s m #[(.ref a), (.int (0 : Int32)), (.ref t), (.int (0 : Int32)), (.int (Int32.ofNat cs.length))] below meth c n0 (fun v h => Keep h0 h [t] ∧ v = some (.int (Int32.ofNat cs.length)) ∧ Ar Z h t .byte (own_bs cs)) h1 0 0 (mkF m 3 #[.val (.ref a), .val (.int (Int32.ofNat i)), .val (.ref t), .val (.int (Int32.ofNat i)), .val (.int (Int32.ofNat cs.length)), .val (.int (Int32.ofNat i)), s6] []) := by
    intro k
    induction k with
    | zero =>
      intro i h1 s6 hik hs K V
      obtain rfl : i = cs.length := by omega
      refine w_iload (q := 5) C rfl d6_3 rfl ?_
      refine w_iload (q := 7) C rfl d6_5 rfl ?_
      refine w_icmp_ge_t (q := 44) C d6_7 (by decide) (by decide) (fun q => Nat.lt_irrefl _ ((own_nlt hl hl).mp q)) ?_
      refine w_iload (q := 46) C rfl d6_44 rfl ?_
      exact w_retI C rfl d6_46 (by decide) (by decide) ⟨K, rfl, by simpa using V⟩
    | succ k ih =>
      intro i h1 s6 hik hs K V
      have hil : i < cs.length := by omega
      obtain ⟨ch, hch⟩ : ∃ ch, cs[i]? = some ch := ⟨_, List.getElem?_eq_getElem hil⟩
      have hc := hr.get hch
      refine w_iload (q := 5) C rfl d6_3 rfl ?_
      refine w_iload (q := 7) C rfl d6_5 rfl ?_
      refine w_icmp_ge_f (q := 10) C d6_7 rfl ((own_nlt (by omega) hl).mpr hil) ?_
      refine w_aloadN (q := 11) C rfl rfl d6_10 rfl ?_
      refine w_iloadN (q := 12) C rfl d6_11 rfl ?_
      refine w_caload (q := 13) (i := i) (v := (.int ch)) C (A.keep K (ninS hne nin0)) rfl (by simp [hch]) d6_12 rfl ?_
      refine w_istore (q := 15) (L' := #[.val (.ref a), .val (.int (Int32.ofNat i)), .val (.ref t), .val (.int (Int32.ofNat i)), .val (.int (Int32.ofNat cs.length)), .val (.int (Int32.ofNat i)), .val (.int ch)]) C (Jvm.Free.XS.store1 (o := s6) rfl hs rfl) d6_13 rfl ?_
      refine w_iload (q := 17) C rfl d6_15 rfl ?_
      refine w_sipush (q := 20) (v := (255 : Int32)) C (by rfl) d6_17 rfl ?_
      refine w_icmp_le_t (q := 26) C d6_20 (by decide) (by decide) hc.2 ?_
      refine w_aloadN (q := 27) C rfl rfl d6_26 rfl ?_
      refine w_iloadN (q := 28) C rfl d6_27 rfl ?_
      refine w_iload (q := 30) C rfl d6_28 rfl ?_
      refine w_i2b (q := 31) C rfl d6_30 rfl ?_
      refine w_bastore (q := 32) (z := ch.toInt8.toInt32) (i := i) C (own_nar8 ch) V rfl (by simp [own_bs_len]; omega) hge d6_31 rfl ?_
      intro h11 Wh11 Vh11
      rw [own_fill cs i k ch hch] at Vh11
      refine w_iinc (q := 35) (L' := #[.val (.ref a), .val (.int (Int32.ofNat (i + 1))), .val (.ref t), .val (.int (Int32.ofNat i)), .val (.int (Int32.ofNat cs.length)), .val (.int (Int32.ofNat i)), .val (.int ch)]) C rfl (own_one i) rfl d6_32 rfl ?_
      refine w_iinc (q := 38) (L' := #[.val (.ref a), .val (.int (Int32.ofNat (i + 1))), .val (.ref t), .val (.int (Int32.ofNat (i + 1))), .val (.int (Int32.ofNat cs.length)), .val (.int (Int32.ofNat i)), .val (.int ch)]) C rfl (own_one i) rfl d6_35 rfl ?_
      refine w_iinc (q := 41) (L' := #[.val (.ref a), .val (.int (Int32.ofNat (i + 1))), .val (.ref t), .val (.int (Int32.ofNat (i + 1))), .val (.int (Int32.ofNat cs.length)), .val (.int (Int32.ofNat (i + 1))), .val (.int ch)]) C rfl (own_one i) rfl d6_38 rfl ?_
      refine w_goto (q := 3) C d6_41 (by decide) (by decide) ?_
      exact ih (i + 1) h11 _ (by omega) (One.val rfl) (K.wr Wh11 (Or.inl (List.mem_cons_self ..))) Vh11
  refine w_iconst (q := 1) (v := (0 : Int32)) C (by rfl) d6_0 rfl ?_
  refine w_istore (q := 3) (L' := #[.val (.ref a), .val (.int (0 : Int32)), .val (.ref t), .val (.int (0 : Int32)), .val (.int (Int32.ofNat cs.length)), .val (.int (0 : Int32)), .unset]) C rfl d6_1 rfl ?_
  exact LOOP cs.length 0 h0 .unset (by omega) One.u (Keep.refl _ _) (by simpa [own_bs] using B)
theorem own_K1 {h0 h1 h2 : Heap} {t : Addr} (K1 : Keep h0 h1 []) (K2 : Keep h1 h2 [t]) (g : h0.size ≤ t) : Keep h0 h2 [] := K1.trans K2 (allS (P := fun x => x ∈ [] ∨ h0.size ≤ x) (Or.inr g) all0)
theorem own_K0 {h0 h1 h2 : Heap} {ws : List Addr} (K1 : Keep h0 h1 ws) (K2 : Keep h1 h2 []) : Keep h0 h2 ws := K1.trans K2 (all0 (P := fun x => x ∈ ws ∨ h0.size ≤ x))

theorem d5_0 : decode jdk_52_method_16_code 0 = .ok (.iload_n 2, 1) := by decide +kernel
theorem d5_1 : decode jdk_52_method_16_code 1 = .ok (.newarray .byte, 2) := by decide +kernel
theorem d5_3 : decode jdk_52_method_16_code 3 = .ok (.astore_n 3, 1) := by decide +kernel
theorem d5_4 : decode jdk_52_method_16_code 4 = .ok (.aload_n 0, 1) := by decide +kernel
theorem d5_5 : decode jdk_52_method_16_code 5 = .ok (.iload_n 1, 1) := by decide +kernel
theorem d5_6 : decode jdk_52_method_16_code 6 = .ok (.aload_n 3, 1) := by decide +kernel
theorem d5_7 : decode jdk_52_method_16_code 7 = .ok (.iconst 0, 1) := by decide +kernel
theorem d5_8 : decode jdk_52_method_16_code 8 = .ok (.iload_n 2, 1) := by decide +kernel
theorem d5_9 : decode jdk_52_method_16_code 9 = .ok (.invokestatic 115, 3) := by decide +kernel
theorem d5_12 : decode jdk_52_method_16_code 12 = .ok (.istore 4, 2) := by decide +kernel
theorem d5_14 : decode jdk_52_method_16_code 14 = .ok (.iload 4, 2) := by decide +kernel
theorem d5_16 : decode jdk_52_method_16_code 16 = .ok (.iload_n 2, 1) := by decide +kernel
theorem d5_17 : decode jdk_52_method_16_code 17 = .ok (.if_icmp .eq 40, 3) := by decide +kernel
theorem d5_20 : decode jdk_52_method_16_code 20 = .ok (.aload_n 0, 1) := by decide +kernel
theorem d5_21 : decode jdk_52_method_16_code 21 = .ok (.iload_n 1, 1) := by decide +kernel
theorem d5_22 : decode jdk_52_method_16_code 22 = .ok (.iload_n 2, 1) := by decide +kernel
theorem d5_23 : decode jdk_52_method_16_code 23 = .ok (.invokestatic 119, 3) := by decide +kernel
theorem d5_26 : decode jdk_52_method_16_code 26 = .ok (.astore 5, 2) := by decide +kernel
theorem d5_28 : decode jdk_52_method_16_code 28 = .ok (.aload 5, 2) := by decide +kernel
theorem d5_30 : decode jdk_52_method_16_code 30 = .ok (.iload 4, 2) := by decide +kernel
theorem d5_32 : decode jdk_52_method_16_code 32 = .ok (.invokestatic 71, 3) := by decide +kernel
theorem d5_35 : decode jdk_52_method_16_code 35 = .ok (.sipush 255, 3) := by decide +kernel
theorem d5_38 : decode jdk_52_method_16_code 38 = .ok (.if_icmp .gt 16, 3) := by decide +kernel
theorem d5_41 : decode jdk_52_method_16_code 41 = .ok (.aload 5, 2) := by decide +kernel
theorem d5_43 : decode jdk_52_method_16_code 43 = .ok (.iconst 0, 1) := by decide +kernel
theorem d5_44 : decode jdk_52_method_16_code 44 = .ok (.aload_n 3, 1) := by decide +kernel
theorem d5_45 : decode jdk_52_method_16_code 45 = .ok (.iconst 0, 1) := by decide +kernel
theorem d5_46 : decode jdk_52_method_16_code 46 = .ok (.iload_n 2, 1) := by decide +kernel
theorem d5_47 : decode jdk_52_method_16_code 47 = .ok (.invokestatic 123, 3) := by decide +kernel
theorem d5_50 : decode jdk_52_method_16_code 50 = .ok (.iload_n 2, 1) := by decide +kernel
theorem d5_51 : decode jdk_52_method_16_code 51 = .ok (.if_icmp .eq 6, 3) := by decide +kernel
theorem d5_54 : decode jdk_52_method_16_code 54 = .ok (.aload 5, 2) := by decide +kernel
theorem d5_56 : decode jdk_52_method_16_code 56 = .ok (.areturn, 1) := by decide +kernel
theorem d5_57 : decode jdk_52_method_16_code 57 = .ok (.aload_n 3, 1) := by decide +kernel
theorem d5_58 : decode jdk_52_method_16_code 58 = .ok (.areturn, 1) := by decide +kernel
theorem pf5 : plainFor (⟨"java/lang/StringUTF16", "compress", "([CII)[B"⟩ : MethodName) = true := by first | exact plainFor_of_name (by first | (simp [plainName, overriddenIn]; done) | decide +kernel) | decide +kernel
theorem ef_comp3 (m : MethodId) (z0 : Addr) (z1 : Int32) (z2 : Int32) : entryFrame m #[(.ref z0), (.int z1), (.int z2)] 6 = mkF m 0 #[.val (.ref z0), .val (.int z1), .val (.int z2), .unset, .unset, .unset] [] := by first | rfl | (simp [entryFrame, mkF, argsToLocals, Value.category, *]; done) | rfl
set_option maxRecDepth 65536 in
set_option maxHeartbeats 40000000 in
theorem rm_comp3 {l : Launch} {Z : State} {a0 : Array Value} {n0 : Nat} (G : Gl Z a0 n0) {h0 : Heap} (O : Old Z n0 h0) (a : Addr) (cs : List Int32) (A : Ar Z h0 a .char (cs.map Value.int)) (hr : L1 cs) (hcap : cs.length ≤ 5) :
    Ct [] l Z n0 (⟨"java/lang/StringUTF16", "compress", "([CII)[B"⟩ : MethodName) jdk_52_method_16_code 6 (some (.array .byte)) ({ frames := 1, cells := 1, slots := 5, locals := 18 } : Room) #[(.ref a), (.int (0 : Int32)), (.int (Int32.ofNat cs.length))] h0 (fun v h => Keep h0 h [] ∧ ∃ t, v = some (.ref t) ∧ h0.size ≤ t ∧ Ar Z h t .byte (own_bs cs)) := by
  refine Ct.intro pf5 ?_
  intro p e s m below meth c C
  refine AtW.cast ?_ (ef_comp3 m a (0 : Int32) (Int32.ofNat cs.length))
  have hl : cs.length < 2 ^ 31 := by omega
  refine w_iloadN (q := 1) C rfl d5_0 rfl ?_
  refine w_newArr (q := 3) (cap := 5) (cells' := 1) (slots' := 5) C (G.1 _ (List.mem_of_getElem? (i := 23) rfl)) rfl (ofNat_neg hl) (by rw [ofNat_nat hl]; exact hcap) (by decide) rfl rfl (by decide) (by decide) d5_1 rfl ?_
  intro h12 t g_t Eh12 V_t
  replace V_t : Ar Z h12 t .byte (List.replicate cs.length (Value.int (0 : Int32))) := by rw [ofNat_nat hl] at V_t; exact V_t
  have hge : n0 ≤ t := by rw [g_t]; exact Old_le O
  have hg0 : h0.size ≤ t := Nat.le_of_eq g_t.symm
  have K1 : Keep h0 h12 [] := Keep.of_ext Eh12
  replace O := Old_k0 O K1
  refine w_astoreN (q := 4) (L' := #[.val (.ref a), .val (.int (0 : Int32)), .val (.int (Int32.ofNat cs.length)), .val (.ref t), .unset, .unset]) C rfl rfl d5_3 rfl ?_
  refine w_aloadN (q := 5) C rfl rfl d5_4 rfl ?_
  refine w_iloadN (q := 6) C rfl d5_5 rfl ?_
  refine w_aloadN (q := 7) C rfl rfl d5_6 rfl ?_
  refine w_iconst (q := 8) (v := (0 : Int32)) C (by rfl) d5_7 rfl ?_
  refine w_iloadN (q := 9) C rfl d5_8 rfl ?_
  refine w_callS (q := 12) (argsL := [(.ref a), (.int (0 : Int32)), (.ref t), (.int (0 : Int32)), (.int (Int32.ofNat cs.length))]) (S := []) (W := 0) (cells' := 1) (slots' := 5) C (G.1 _ (List.mem_of_getElem? (i := 24) rfl)) (G.1 _ (List.mem_of_getElem? (i := 25) rfl)) (G.1 _ (List.mem_of_getElem? (i := 21) rfl)) (G.1 _ (List.mem_of_getElem? (i := 26) rfl)) (by decide) (rm_comp5 G O a cs t (Ar_k0 A K1) hr V_t (Nat.ne_of_lt (by rw [g_t]; exact A.lt)) hge) rfl (lenOf pd_6 rfl) rfl (by decide) (own_leb rfl) (by decide) rfl rfl (by decide) (by decide) d5_9 rfl ?_
  rintro _ h13 ⟨Kh13, rfl, B2⟩
  show AtW p l e _ s m _ below meth c n0 _ h13 1 5 (mkF m 12 #[.val (.ref a), .val (.int (0 : Int32)), .val (.int (Int32.ofNat cs.length)), .val (.ref t), .unset, .unset] [(.int (Int32.ofNat cs.length))])
  refine w_istore (q := 14) (L' := #[.val (.ref a), .val (.int (0 : Int32)), .val (.int (Int32.ofNat cs.length)), .val (.ref t), .val (.int (Int32.ofNat cs.length)), .unset]) C rfl d5_12 rfl ?_
  refine w_iload (q := 16) C rfl d5_14 rfl ?_
  refine w_iloadN (q := 17) C rfl d5_16 rfl ?_
  refine w_icmp_eq_t (q := 57) C d5_17 (by decide) (by decide) rfl ?_
  refine w_aloadN (q := 58) C rfl rfl d5_57 rfl ?_
  exact w_retA C rfl rfl rfl d5_58 (by decide) (by decide) ⟨own_K1 K1 Kh13 hg0, t, rfl, hg0, B2⟩
theorem d7_0 : decode jdk_52_method_15_code 0 = .ok (.iload_n 1, 1) := by decide +kernel
theorem d7_1 : decode jdk_52_method_15_code 1 = .ok (.aload_n 0, 1) := by decide +kernel
theorem d7_2 : decode jdk_52_method_15_code 2 = .ok (.arraylength, 1) := by decide +kernel
theorem d7_3 : decode jdk_52_method_15_code 3 = .ok (.isub, 1) := by decide +kernel
theorem d7_4 : decode jdk_52_method_15_code 4 = .ok (.bipush 31, 2) := by decide +kernel
theorem d7_6 : decode jdk_52_method_15_code 6 = .ok (.iushr, 1) := by decide +kernel
theorem d7_7 : decode jdk_52_method_15_code 7 = .ok (.i2b, 1) := by decide +kernel
theorem d7_8 : decode jdk_52_method_15_code 8 = .ok (.ireturn, 1) := by decide +kernel
theorem pf7 : plainFor (⟨"java/lang/StringUTF16", "coderFromArrayLen", "([BI)B"⟩ : MethodName) = true := by first | exact plainFor_of_name (by first | (simp [plainName, overriddenIn]; done) | decide +kernel) | decide +kernel
theorem ef_codL (m : MethodId) (z0 : Addr) (z1 : Int32) : entryFrame m #[(.ref z0), (.int z1)] 2 = mkF m 0 #[.val (.ref z0), .val (.int z1)] [] := by first | rfl | (simp [entryFrame, mkF, argsToLocals, Value.category, *]; done) | rfl
set_option maxRecDepth 65536 in
set_option maxHeartbeats 40000000 in
theorem rm_codL {l : Launch} {Z : State} {a0 : Array Value} {n0 : Nat} (G : Gl Z a0 n0) {h0 : Heap} (O : Old Z n0 h0) (t : Addr) (cs : List Int32) (A : Ar Z h0 t .byte (own_bs cs)) :
    Ct [] l Z n0 (⟨"java/lang/StringUTF16", "coderFromArrayLen", "([BI)B"⟩ : MethodName) jdk_52_method_15_code 2 (some .byte) ({ frames := 0, cells := 0, slots := 0, locals := 0 } : Room) #[(.ref t), (.int (Int32.ofNat cs.length))] h0 (fun v h => h = h0 ∧ v = some (.int 0)) := by
  refine Ct.intro pf7 ?_
  intro p e s m below meth c C
  refine AtW.cast ?_ (ef_codL m t (Int32.ofNat cs.length))
  refine w_iloadN (q := 1) C rfl d7_0 rfl ?_
  refine w_aloadN (q := 2) C rfl rfl d7_1 rfl ?_
  refine w_len (q := 3) (z := (Int32.ofNat cs.length)) C A (by rw [own_bs_len]) d7_2 rfl ?_
  refine w_isub (q := 4) C rfl d7_3 rfl ?_
  rw [show ((Int32.ofNat cs.length) - (Int32.ofNat cs.length)) = (0 : Int32) from Int32.sub_self _]
  refine w_bipush (q := 6) (v := (31 : Int32)) C (by rfl) d7_4 rfl ?_
  refine w_iushr (q := 7) (z := (0 : Int32)) C (by decide) d7_6 rfl ?_
  refine w_i2b (q := 8) (z := (0 : Int32)) C (by decide) d7_7 rfl ?_
  exact w_retZ (z := (0 : Int32)) C (t := .byte) rfl (by simp) (by decide) d7_8 (by decide) (by decide) ⟨rfl, rfl⟩
theorem d3_0 : decode jdk_42_method_149_code 0 = .ok (.aload_n 0, 1) := by decide +kernel
theorem d3_1 : decode jdk_42_method_149_code 1 = .ok (.invokespecial 1, 3) := by decide +kernel
theorem d3_4 : decode jdk_42_method_149_code 4 = .ok (.iload_n 3, 1) := by decide +kernel
theorem d3_5 : decode jdk_42_method_149_code 5 = .ok (.ifCond .ne 22, 3) := by decide +kernel
theorem d3_8 : decode jdk_42_method_149_code 8 = .ok (.aload_n 0, 1) := by decide +kernel
theorem d3_9 : decode jdk_42_method_149_code 9 = .ok (.ldc 7, 2) := by decide +kernel
theorem d3_11 : decode jdk_42_method_149_code 11 = .ok (.getfield 9, 3) := by decide +kernel
theorem d3_14 : decode jdk_42_method_149_code 14 = .ok (.putfield 9, 3) := by decide +kernel
theorem d3_17 : decode jdk_42_method_149_code 17 = .ok (.aload_n 0, 1) := by decide +kernel
theorem d3_18 : decode jdk_42_method_149_code 18 = .ok (.ldc 7, 2) := by decide +kernel
theorem d3_20 : decode jdk_42_method_149_code 20 = .ok (.getfield 15, 3) := by decide +kernel
theorem d3_23 : decode jdk_42_method_149_code 23 = .ok (.putfield 15, 3) := by decide +kernel
theorem d3_26 : decode jdk_42_method_149_code 26 = .ok (.return_, 1) := by decide +kernel
theorem d3_27 : decode jdk_42_method_149_code 27 = .ok (.getstatic 38, 3) := by decide +kernel
theorem d3_30 : decode jdk_42_method_149_code 30 = .ok (.ifCond .eq 28, 3) := by decide +kernel
theorem d3_33 : decode jdk_42_method_149_code 33 = .ok (.aload_n 1, 1) := by decide +kernel
theorem d3_34 : decode jdk_42_method_149_code 34 = .ok (.iload_n 2, 1) := by decide +kernel
theorem d3_35 : decode jdk_42_method_149_code 35 = .ok (.iload_n 3, 1) := by decide +kernel
theorem d3_36 : decode jdk_42_method_149_code 36 = .ok (.invokestatic 177, 3) := by decide +kernel
theorem d3_39 : decode jdk_42_method_149_code 39 = .ok (.astore 5, 2) := by decide +kernel
theorem d3_41 : decode jdk_42_method_149_code 41 = .ok (.aload_n 0, 1) := by decide +kernel
theorem d3_42 : decode jdk_42_method_149_code 42 = .ok (.aload 5, 2) := by decide +kernel
theorem d3_44 : decode jdk_42_method_149_code 44 = .ok (.iload_n 3, 1) := by decide +kernel
theorem d3_45 : decode jdk_42_method_149_code 45 = .ok (.invokestatic 47, 3) := by decide +kernel
theorem d3_48 : decode jdk_42_method_149_code 48 = .ok (.putfield 15, 3) := by decide +kernel
theorem d3_51 : decode jdk_42_method_149_code 51 = .ok (.aload_n 0, 1) := by decide +kernel
theorem d3_52 : decode jdk_42_method_149_code 52 = .ok (.aload 5, 2) := by decide +kernel
theorem d3_54 : decode jdk_42_method_149_code 54 = .ok (.putfield 9, 3) := by decide +kernel
theorem d3_57 : decode jdk_42_method_149_code 57 = .ok (.return_, 1) := by decide +kernel
theorem d3_58 : decode jdk_42_method_149_code 58 = .ok (.aload_n 0, 1) := by decide +kernel
theorem d3_59 : decode jdk_42_method_149_code 59 = .ok (.iconst 1, 1) := by decide +kernel
theorem d3_60 : decode jdk_42_method_149_code 60 = .ok (.putfield 15, 3) := by decide +kernel
theorem d3_63 : decode jdk_42_method_149_code 63 = .ok (.aload_n 0, 1) := by decide +kernel
theorem d3_64 : decode jdk_42_method_149_code 64 = .ok (.aload_n 1, 1) := by decide +kernel
theorem d3_65 : decode jdk_42_method_149_code 65 = .ok (.iload_n 2, 1) := by decide +kernel
theorem d3_66 : decode jdk_42_method_149_code 66 = .ok (.iload_n 3, 1) := by decide +kernel
theorem d3_67 : decode jdk_42_method_149_code 67 = .ok (.invokestatic 180, 3) := by decide +kernel
theorem d3_70 : decode jdk_42_method_149_code 70 = .ok (.putfield 9, 3) := by decide +kernel
theorem d3_73 : decode jdk_42_method_149_code 73 = .ok (.return_, 1) := by decide +kernel
theorem pf3 : plainFor (⟨"java/lang/String", "<init>", "([CIILjava/lang/Void;)V"⟩ : MethodName) = true := by first | exact plainFor_of_name (by first | (simp [plainName, overriddenIn]; done) | decide +kernel) | decide +kernel
theorem ef_strinit4 (m : MethodId) (z0 : Addr) (z1 : Addr) (z2 : Int32) (z3 : Int32) : entryFrame m #[(.ref z0), (.ref z1), (.int z2), (.int z3), .null] 6 = mkF m 0 #[.val (.ref z0), .val (.ref z1), .val (.int z2), .val (.int z3), .val .null, .unset] [] := by first | rfl | (simp [entryFrame, mkF, argsToLocals, Value.category, *]; done) | rfl
set_option maxRecDepth 65536 in
set_option maxHeartbeats 40000000 in
theorem rm_strinit4 {l : Launch} {Z : State} {a0 : Array Value} {n0 : Nat} (G : Gl Z a0 n0) {h0 : Heap} (O : Old Z n0 h0) (a : Addr) (b : Addr) (cs : List Int32) (E : Exa Z h0 a "java/lang/String") (FV : Fld Z h0 a "java/lang/String" "value" "[B" .null) (FC : Fld Z h0 a "java/lang/String" "coder" "B" (.int (0 : Int32))) (hge : n0 ≤ a) (A : Ar Z h0 b .char (cs.map Value.int)) (hr : L1 cs) (hcap : cs.length ≤ 5) (h1 : cs.length ≠ 0) :
    Ct [] l Z n0 (⟨"java/lang/String", "<init>", "([CIILjava/lang/Void;)V"⟩ : MethodName) jdk_42_method_149_code 6 none ({ frames := 2, cells := 1, slots := 5, locals := 35 } : Room) #[(.ref a), (.ref b), (.int (0 : Int32)), (.int (Int32.ofNat cs.length)), .null] h0 (fun v h => Keep h0 h [a] ∧ v = none ∧ Str Z h a cs) := by
  refine Ct.intro pf3 ?_
  intro p e s m below meth c C
  refine AtW.cast ?_ (ef_strinit4 m a b (0 : Int32) (Int32.ofNat cs.length))
  obtain ⟨zc, SC, hzc⟩ := G.cs
  refine w_aloadN (q := 1) C rfl rfl d3_0 rfl ?_
  refine w_initO (q := 4) (W := 0) C (G.1 _ (List.mem_of_getElem? (i := 15) rfl)) (G.1 _ (List.mem_of_getElem? (i := 16) rfl)) (G.1 _ (List.mem_of_getElem? (i := 17) rfl)) rfl (by decide) (own_leb rfl) (by decide) d3_1 rfl ?_
  refine w_iloadN (q := 5) C rfl d3_4 rfl ?_
  refine w_if_ne_t (q := 27) C d3_5 (by decide) (by decide) (fun q => h1 ((own_neq (n := 0) (by omega) (by omega)).mp q)) ?_
  refine w_getS (q := 30) (host := "") C (Or.inl (G.1 _ (List.mem_of_getElem? (i := 18) rfl))) Via.refl (SC.ext O.2) d3_27 rfl ?_
  refine w_if_eq_f (q := 33) C d3_30 rfl hzc ?_
  refine w_aloadN (q := 34) C rfl rfl d3_33 rfl ?_
  refine w_iloadN (q := 35) C rfl d3_34 rfl ?_
  refine w_iloadN (q := 36) C rfl d3_35 rfl ?_
  have A_lt := E.lt
  refine w_callS (q := 39) (argsL := [(.ref b), (.int (0 : Int32)), (.int (Int32.ofNat cs.length))]) (S := []) (W := 0) (cells' := 1) (slots' := 5) C (G.1 _ (List.mem_of_getElem? (i := 19) rfl)) (G.1 _ (List.mem_of_getElem? (i := 20) rfl)) (G.1 _ (List.mem_of_getElem? (i := 21) rfl)) (G.1 _ (List.mem_of_getElem? (i := 22) rfl)) (by decide) (rm_comp3 G O b cs A hr hcap) rfl (lenOf pd_5 rfl) rfl (by decide) (own_leb rfl) (by decide) rfl rfl (by decide) (by decide) d3_36 rfl ?_
  rintro _ h14 ⟨Kh14, t, rfl, hg, B⟩
  show AtW p l e _ s m _ below meth c n0 _ h14 1 5 (mkF m 39 #[.val (.ref a), .val (.ref b), .val (.int (0 : Int32)), .val (.int (Int32.ofNat cs.length)), .val .null, .unset] [(.ref t)])
  replace O := Old_k0 O Kh14
  replace E := Exa_k0 E Kh14
  replace FV := Fld_k0 FV Kh14
  replace FC := Fld_k0 FC Kh14
  have hne : t ≠ a := Ne.symm (Nat.ne_of_lt (Nat.lt_of_lt_of_le A_lt hg))
  refine w_astore (q := 41) (L' := #[.val (.ref a), .val (.ref b), .val (.int (0 : Int32)), .val (.int (Int32.ofNat cs.length)), .val .null, .val (.ref t)]) C rfl rfl d3_39 rfl ?_
  refine w_aloadN (q := 42) C rfl rfl d3_41 rfl ?_
  refine w_aload (q := 44) C rfl rfl d3_42 rfl ?_
  refine w_iloadN (q := 45) C rfl d3_44 rfl ?_
  refine w_callS (q := 48) (argsL := [(.ref t), (.int (Int32.ofNat cs.length))]) (S := [(.ref a)]) (W := 1) (cells' := 1) (slots' := 5) C (G.1 _ (List.mem_of_getElem? (i := 27) rfl)) (G.1 _ (List.mem_of_getElem? (i := 28) rfl)) (G.1 _ (List.mem_of_getElem? (i := 21) rfl)) (G.1 _ (List.mem_of_getElem? (i := 29) rfl)) (by decide) (rm_codL G O t cs B) rfl (lenOf pd_7 rfl) rfl (by decide) (own_leb rfl) (by decide) rfl rfl (by decide) (by decide) d3_45 rfl ?_
  rintro _ h15 ⟨eh16, rfl⟩
  rw [eh16]
  show AtW p l e _ s m _ below meth c n0 _ h14 1 5 (mkF m 48 #[.val (.ref a), .val (.ref b), .val (.int (0 : Int32)), .val (.int (Int32.ofNat cs.length)), .val .null, .val (.ref t)] [(.int (0 : Int32)), (.ref a)])
  refine w_putF (q := 51) (host := "") (v' := (.int (0 : Int32))) C (G.1 _ (List.mem_of_getElem? (i := 30) rfl)) Via.refl FC E (Or.inr ⟨(G.1 _ (List.mem_of_getElem? (i := 31) rfl)), rfl, rfl⟩) (G.1 _ (List.mem_of_getElem? (i := 6) rfl)) (ty := .byte) (by decide) rfl rfl hge d3_48 rfl ?_
  intro h17 Wh17
  have K2 : Keep h0 h17 [a] := ((Keep.refl h0 [a]).trans Kh14 (all0 (P := fun x => x ∈ [a] ∨ h0.size ≤ x))).wr Wh17 (Or.inl (List.mem_cons_self ..))
  replace FC := FC.same Wh17
  replace FV := FV.other Wh17 (Or.inr (slot_ne (Or.inr (G.1 _ (List.mem_of_getElem? (i := 33) rfl))) (Or.inr (G.1 _ (List.mem_of_getElem? (i := 31) rfl))) (by decide) (t := .array .byte) (t' := .byte) (by decide) (by decide)))
  replace E := E.wr Wh17
  replace B := B.other Wh17 hne
  refine w_aloadN (q := 52) C rfl rfl d3_51 rfl ?_
  refine w_aload (q := 54) C rfl rfl d3_52 rfl ?_
  refine w_putF (q := 57) (host := "") (v' := (.ref t)) C (G.1 _ (List.mem_of_getElem? (i := 32) rfl)) Via.refl FV E (Or.inr ⟨(G.1 _ (List.mem_of_getElem? (i := 33) rfl)), rfl, rfl⟩) (G.1 _ (List.mem_of_getElem? (i := 6) rfl)) (ty := (.array .byte)) (by decide) rfl rfl hge d3_54 rfl ?_
  intro h18 Wh18
  replace FV := FV.same Wh18
  replace FC := FC.other Wh18 (Or.inr (slot_ne (Or.inr (G.1 _ (List.mem_of_getElem? (i := 31) rfl))) (Or.inr (G.1 _ (List.mem_of_getElem? (i := 33) rfl))) (by decide) (t := .byte) (t' := .array .byte) (by decide) (by decide)))
  replace E := E.wr Wh18
  replace B := B.other Wh18 hne
  exact w_retV C rfl d3_57 (by decide) (by decide) ⟨K2.wr Wh18 (Or.inl (List.mem_cons_self ..)), rfl, E, hr, t, FC, FV, B⟩
theorem d2_0 : decode jdk_42_method_3_code 0 = .ok (.aload_n 0, 1) := by decide +kernel
theorem d2_1 : decode jdk_42_method_3_code 1 = .ok (.aload_n 1, 1) := by decide +kernel
theorem d2_2 : decode jdk_42_method_3_code 2 = .ok (.iconst 0, 1) := by decide +kernel
theorem d2_3 : decode jdk_42_method_3_code 3 = .ok (.aload_n 1, 1) := by decide +kernel
theorem d2_4 : decode jdk_42_method_3_code 4 = .ok (.arraylength, 1) := by decide +kernel
theorem d2_5 : decode jdk_42_method_3_code 5 = .ok (.aconst_null, 1) := by decide +kernel
theorem d2_6 : decode jdk_42_method_3_code 6 = .ok (.invokespecial 27, 3) := by decide +kernel
theorem d2_9 : decode jdk_42_method_3_code 9 = .ok (.return_, 1) := by decide +kernel
theorem pf2 : plainFor (⟨"java/lang/String", "<init>", "([C)V"⟩ : MethodName) = true := by first | exact plainFor_of_name (by first | (simp [plainName, overriddenIn]; done) | decide +kernel) | decide +kernel
theorem ef_strinit (m : MethodId) (z0 : Addr) (z1 : Addr) : entryFrame m #[(.ref z0), (.ref z1)] 2 = mkF m 0 #[.val (.ref z0), .val (.ref z1)] [] := by first | rfl | (simp [entryFrame, mkF, argsToLocals, Value.category, *]; done) | rfl
set_option maxRecDepth 65536 in
set_option maxHeartbeats 40000000 in
theorem rm_strinit {l : Launch} {Z : State} {a0 : Array Value} {n0 : Nat} (G : Gl Z a0 n0) {h0 : Heap} (O : Old Z n0 h0) (a : Addr) (b : Addr) (cs : List Int32) (E : Exa Z h0 a "java/lang/String") (FV : Fld Z h0 a "java/lang/String" "value" "[B" .null) (FC : Fld Z h0 a "java/lang/String" "coder" "B" (.int (0 : Int32))) (hge : n0 ≤ a) (A : Ar Z h0 b .char (cs.map Value.int)) (hr : L1 cs) (hcap : cs.length ≤ 5) (h1 : cs.length ≠ 0) :
    Ct [] l Z n0 (⟨"java/lang/String", "<init>", "([C)V"⟩ : MethodName) jdk_42_method_3_code 2 none ({ frames := 3, cells := 1, slots := 5, locals := 52 } : Room) #[(.ref a), (.ref b)] h0 (fun v h => Keep h0 h [a] ∧ v = none ∧ Str Z h a cs) := by
  refine Ct.intro pf2 ?_
  intro p e s m below meth c C
  refine AtW.cast ?_ (ef_strinit m a b)
  refine w_aloadN (q := 1) C rfl rfl d2_0 rfl ?_
  refine w_aloadN (q := 2) C rfl rfl d2_1 rfl ?_
  refine w_iconst (q := 3) (v := (0 : Int32)) C (by rfl) d2_2 rfl ?_
  refine w_aloadN (q := 4) C rfl rfl d2_3 rfl ?_
  refine w_len (q := 5) (z := (Int32.ofNat cs.length)) C A (by rw [List.length_map]) d2_4 rfl ?_
  refine w_aconst_null (q := 6) C d2_5 rfl ?_
  refine w_callI (q := 9) (argsL := [(.ref b), (.int (0 : Int32)), (.int (Int32.ofNat cs.length)), .null]) (S := []) (W := 0) (cells' := 1) (slots' := 5) (a := a) C rfl (G.1 _ (List.mem_of_getElem? (i := 11) rfl)) (G.1 _ (List.mem_of_getElem? (i := 12) rfl)) (G.1 _ (List.mem_of_getElem? (i := 7) rfl)) (G.1 _ (List.mem_of_getElem? (i := 14) rfl)) (by decide) (rm_strinit4 G O a b cs E FV FC hge A hr hcap h1) rfl (lenOf pd_3 rfl) rfl (by decide) (own_leb rfl) (by decide) rfl rfl (by decide) (by decide) d2_6 rfl ?_
  rintro _ h19 ⟨Kh19, rfl, S⟩
  show AtW p l e _ s m _ below meth c n0 _ h19 1 5 (mkF m 9 #[.val (.ref a), .val (.ref b)] [])
  exact w_retV C rfl d2_9 (by decide) (by decide) ⟨Kh19, rfl, S⟩
theorem AtS.addS {p : Program} {l : Launch} {e : Env} {R : Room} {s : State} {m : MethodId} {args : Array Value} {below : List Frame} {meth : Method} {c : Code} {n0 : Nat} {Q : Option Value → Heap → Prop} {h : Heap} {cells slots : Nat} {Z : State} {own : String} {EL : List (String × Nat)} {mk : Nat} {sf : List Addr} {g : JFrame} {x : Addr} (E : Exa Z h x "java/lang/String") (F : Fld Z h x "java/lang/String" "value" "[B" .null)
    (K : AtS p l e R s m args below meth c Z EL own n0 Q mk (x :: sf) h cells slots g) : AtS p l e R s m args below meth c Z EL own n0 Q mk sf h cells slots g :=
  fun T locs k n vm0 k0 X hk hn eT N hZ hown hS hk0 hC hB hF => K T locs k n vm0 k0 X hk hn eT N hZ hown hS hk0 hC hB (fun y hy => by
    rcases List.mem_cons.mp hy with rfl | hy
    · refine ⟨E.lt, fun B => ?_⟩
      obtain ⟨cell, cf, kf, jf, f, f1, f2, -, -, -, -, f7⟩ := F
      obtain ⟨cE, kE, e1, e2, -, -, -⟩ := E
      cases f1.symm.trans e1
      obtain ⟨pr, -, u, a, -, q, -, ⟨cS, ⟨⟨s1, s2, s3, ⟨cv, kv, iv, s4, s4'⟩, s5, s6, s7, s8, s9⟩, hfS, hcS⟩, -, hb, -⟩, rfl | rfl⟩ := B
      · obtain ⟨kv', z4⟩ := ff_back (Z := Z) (U := Wst Z vm0 h) hZ.alike s4
        cases (show h[q.sa]? = some q.sC from s1).symm.trans f1
        cases f2.symm.trans z4
        rw [f7] at s8; cases s8
      · have hd : h[q.sd]? = some q.SA := s9.2.1
        cases hd.symm.trans f1
        have hb' : vm0.findClass "[B" = some q.SA.cls := hb
        rw [hZ.alike.findClass] at hb'
        obtain ⟨k1, q1, q2⟩ := Vm.findClass_spec hb'
        obtain ⟨k2, q3, q4⟩ := Vm.findClass_spec e2
        cases q1.symm.trans q3
        exact absurd (q2.symm.trans q4) (by decide)
    · exact hF y hy)

theorem ef_strinit4e (m : MethodId) (z0 : Addr) (z1 : Addr) (z2 : Int32) (z3 : Int32) : entryFrame m #[(.ref z0), (.ref z1), (.int z2), (.int z3), .null] 6 = mkF m 0 #[.val (.ref z0), .val (.ref z1), .val (.int z2), .val (.int z3), .val .null, .unset] [] := by first | rfl | (simp [entryFrame, mkF, argsToLocals, Value.category, *]; done) | rfl
set_option maxRecDepth 65536 in
set_option maxHeartbeats 40000000 in
theorem rm_strinit4e {l : Launch} {Z : State} {a0 : Array Value} {n0 : Nat} (G : Gl Z a0 n0) {h0 : Heap} (O : Old Z n0 h0) (a : Addr) (b : Addr) (E : Exa Z h0 a "java/lang/String") (FV : Fld Z h0 a "java/lang/String" "value" "[B" .null) (FC : Fld Z h0 a "java/lang/String" "coder" "B" (.int (0 : Int32))) (hge : n0 ≤ a) :
    Cs [] l Z consts_1 n0 (⟨"java/lang/String", "<init>", "([CIILjava/lang/Void;)V"⟩ : MethodName) jdk_42_method_149_code 6 none ({ frames := 1, cells := 4, slots := 8, locals := 12 } : Room) #[(.ref a), (.ref b), (.int (0 : Int32)), (.int (0 : Int32)), .null] h0 (fun v h => Keep h0 h [a] ∧ v = none ∧ Str Z h a []) := by
  refine Cs.intro pf3 ?_
  intro p e s m below meth c C
  refine AtS.cast ?_ (ef_strinit4e m a b (0 : Int32) (0 : Int32))
  refine AtS.addS E FV ?_
  refine s_aloadN (q := 1) C rfl rfl d3_0 rfl ?_
  refine s_initO (q := 4) (W := 0) C (G.1 _ (List.mem_of_getElem? (i := 15) rfl)) (G.1 _ (List.mem_of_getElem? (i := 16) rfl)) (G.1 _ (List.mem_of_getElem? (i := 17) rfl)) rfl (by decide) (own_leb rfl) (by decide) d3_1 rfl ?_
  refine s_iloadN (q := 5) C rfl d3_4 rfl ?_
  refine s_if_ne_f (q := 8) C d3_5 rfl (by decide) ?_
  refine s_aloadN (q := 9) C rfl rfl d3_8 rfl ?_
  refine s_ldc (q := 11) (n := 0) (cells' := 2) (slots' := 4) (vs := []) C G.el G.sa (G.1 _ (List.mem_of_getElem? (i := 76) rfl)) (by decide) (by decide +kernel) (by decide) (by decide +kernel) (by decide) rfl rfl (by decide) (by decide) d3_9 rfl ?_
  intro h20 s t21 Eh20 e1_s e2_s e3_s e4_s hne_s
  have S_s : Str Z h20 s [] := ⟨e1_s, (fun c hc => absurd hc List.not_mem_nil), t21, e2_s, e3_s, e4_s⟩
  have K1 : Keep h0 h20 [a] := (Keep.refl h0 [a]).ext Eh20
  replace FV := FV.ext Eh20
  replace FC := FC.ext Eh20
  replace E := E.ext Eh20
  have hne := (hne_s a (List.mem_cons_self ..)).2
  refine s_getF (q := 14) (host := "") C (Or.inl (G.1 _ (List.mem_of_getElem? (i := 32) rfl))) Via.refl e3_s d3_11 rfl ?_
  refine s_putF (q := 17) (host := "") (v' := (.ref t21)) C (G.1 _ (List.mem_of_getElem? (i := 32) rfl)) Via.refl FV E (Or.inr ⟨(G.1 _ (List.mem_of_getElem? (i := 33) rfl)), rfl, rfl⟩) (G.1 _ (List.mem_of_getElem? (i := 6) rfl)) (ty := (.array .byte)) (by decide) rfl rfl hge (SfOk.mem (List.mem_cons_self ..)) d3_14 rfl ?_
  intro h22 Wh22
  have K2 := K1.wr Wh22 (Or.inl (List.mem_cons_self ..))
  replace FV := FV.same Wh22
  replace FC := FC.other Wh22 (Or.inr (slot_ne (Or.inr (G.1 _ (List.mem_of_getElem? (i := 31) rfl))) (Or.inr (G.1 _ (List.mem_of_getElem? (i := 33) rfl))) (by decide) (t := .byte) (t' := .array .byte) (by decide) (by decide)))
  replace E := E.wr Wh22
  have B := e4_s.other Wh22 (Ne.symm hne)
  refine s_aloadN (q := 18) C rfl rfl d3_17 rfl ?_
  refine s_ldc (q := 20) (n := 0) (cells' := 4) (slots' := 8) (vs := []) C G.el G.sa (G.1 _ (List.mem_of_getElem? (i := 76) rfl)) (by decide) (by decide +kernel) (by decide) (by decide +kernel) (by decide) rfl rfl (by decide) (by decide) d3_18 rfl ?_
  intro h23 s2 t24 Eh23 e1_s2 e2_s2 e3_s2 e4_s2 hne_s2
  have S_s2 : Str Z h23 s2 [] := ⟨e1_s2, (fun c hc => absurd hc List.not_mem_nil), t24, e2_s2, e3_s2, e4_s2⟩
  have K3 := K2.ext Eh23
  replace FV := FV.ext Eh23
  replace FC := FC.ext Eh23
  replace E := E.ext Eh23
  replace B := B.ext Eh23
  refine s_getF (q := 23) (host := "") C (Or.inl (G.1 _ (List.mem_of_getElem? (i := 30) rfl))) Via.refl e2_s2 d3_20 rfl ?_
  refine s_putF (q := 26) (host := "") (v' := (.int (0 : Int32))) C (G.1 _ (List.mem_of_getElem? (i := 30) rfl)) Via.refl FC E (Or.inr ⟨(G.1 _ (List.mem_of_getElem? (i := 31) rfl)), rfl, rfl⟩) (G.1 _ (List.mem_of_getElem? (i := 6) rfl)) (ty := .byte) (by decide) rfl rfl hge (SfOk.mem (List.mem_cons_self ..)) d3_23 rfl ?_
  intro h25 Wh25
  replace FC := FC.same Wh25
  replace FV := FV.other Wh25 (Or.inr (slot_ne (Or.inr (G.1 _ (List.mem_of_getElem? (i := 33) rfl))) (Or.inr (G.1 _ (List.mem_of_getElem? (i := 31) rfl))) (by decide) (t := .array .byte) (t' := .byte) (by decide) (by decide)))
  replace E := E.wr Wh25
  replace B := B.other Wh25 (Ne.symm hne)
  exact s_retV C G.el rfl d3_26 (by decide) (by decide) ⟨K3.wr Wh25 (Or.inl (List.mem_cons_self ..)), rfl, E, (fun c hc => absurd hc List.not_mem_nil), t21, FC, FV, B⟩
theorem ef_strinite (m : MethodId) (z0 : Addr) (z1 : Addr) : entryFrame m #[(.ref z0), (.ref z1)] 2 = mkF m 0 #[.val (.ref z0), .val (.ref z1)] [] := by first | rfl | (simp [entryFrame, mkF, argsToLocals, Value.category, *]; done) | rfl
set_option maxRecDepth 65536 in
set_option maxHeartbeats 40000000 in
theorem rm_strinite {l : Launch} {Z : State} {a0 : Array Value} {n0 : Nat} (G : Gl Z a0 n0) {h0 : Heap} (O : Old Z n0 h0) (a : Addr) (b : Addr) (E : Exa Z h0 a "java/lang/String") (FV : Fld Z h0 a "java/lang/String" "value" "[B" .null) (FC : Fld Z h0 a "java/lang/String" "coder" "B" (.int (0 : Int32))) (hge : n0 ≤ a) (A : Ar Z h0 b .char []) :
    Cs [] l Z consts_1 n0 (⟨"java/lang/String", "<init>", "([C)V"⟩ : MethodName) jdk_42_method_3_code 2 none ({ frames := 2, cells := 4, slots := 8, locals := 29 } : Room) #[(.ref a), (.ref b)] h0 (fun v h => Keep h0 h [a] ∧ v = none ∧ Str Z h a []) := by
  refine Cs.intro pf2 ?_
  intro p e s m below meth c C
  refine AtS.cast ?_ (ef_strinite m a b)
  refine s_aloadN (q := 1) C rfl rfl d2_0 rfl ?_
  refine s_aloadN (q := 2) C rfl rfl d2_1 rfl ?_
  refine s_iconst (q := 3) (v := (0 : Int32)) C (by rfl) d2_2 rfl ?_
  refine s_aloadN (q := 4) C rfl rfl d2_3 rfl ?_
  refine s_len (q := 5) (z := (0 : Int32)) C A rfl d2_4 rfl ?_
  refine s_aconst_null (q := 6) C d2_5 rfl ?_
  refine s_callI2 (q := 9) (argsL := [(.ref b), (.int (0 : Int32)), (.int (0 : Int32)), .null]) (S := []) (W := 0) (cells' := 4) (slots' := 8) (a := a) C G.el rfl (G.1 _ (List.mem_of_getElem? (i := 11) rfl)) (G.1 _ (List.mem_of_getElem? (i := 12) rfl)) (G.1 _ (List.mem_of_getElem? (i := 7) rfl)) (G.1 _ (List.mem_of_getElem? (i := 14) rfl)) (by decide) (rm_strinit4e G O a b E FV FC hge) rfl (lenOf pd_3 rfl) rfl (by decide) (own_leb rfl) (by decide) rfl rfl (by decide) (by decide) d2_6 rfl ?_
  rintro _ h26 ⟨Kh26, rfl, S⟩
  show AtS p l e _ s m _ below meth c Z _ _ n0 _ _ _ h26 4 8 (mkF m 9 #[.val (.ref a), .val (.ref b)] [])
  exact s_retV C G.el rfl d2_9 (by decide) (by decide) ⟨Kh26, rfl, S⟩
def own_low (c : Int32) : Int32 := if c < 97 then 0 else if 122 < c then 0 else 1
theorem own_low01 (c : Int32) : nar .boolean (own_low c) = own_low c := by unfold own_low; (repeat' split) <;> rfl
def own_lang (cs : List Int32) (j : Nat) : Int32 := match cs[j]?, cs[j + 1]? with
  | some c, some d => if own_low c = 0 then 0 else if own_low d = 0 then 0 else 1
  | _, _ => 0

theorem d8_0 : decode method_3_code 0 = .ok (.iload_n 0, 1) := by decide +kernel
theorem d8_1 : decode method_3_code 1 = .ok (.bipush 97, 2) := by decide +kernel
theorem d8_3 : decode method_3_code 3 = .ok (.if_icmp .lt 13, 3) := by decide +kernel
theorem d8_6 : decode method_3_code 6 = .ok (.iload_n 0, 1) := by decide +kernel
theorem d8_7 : decode method_3_code 7 = .ok (.bipush 122, 2) := by decide +kernel
theorem d8_9 : decode method_3_code 9 = .ok (.if_icmp .gt 7, 3) := by decide +kernel
theorem d8_12 : decode method_3_code 12 = .ok (.iconst 1, 1) := by decide +kernel
theorem d8_13 : decode method_3_code 13 = .ok (.goto 4, 3) := by decide +kernel
theorem d8_16 : decode method_3_code 16 = .ok (.iconst 0, 1) := by decide +kernel
theorem d8_17 : decode method_3_code 17 = .ok (.ireturn, 1) := by decide +kernel
theorem pf8 : plainFor (⟨"com/example/descriptor/descriptor/TaggedFileReaderIsLanguageCodePinLaw", "lower", "(C)Z"⟩ : MethodName) = true := by first | exact plainFor_of_name (by first | (simp [plainName, overriddenIn]; done) | decide +kernel) | decide +kernel
theorem ef_lower (m : MethodId) (z0 : Int32) : entryFrame m #[(.int z0)] 1 = mkF m 0 #[.val (.int z0)] [] := by first | rfl | (simp [entryFrame, mkF, argsToLocals, Value.category, *]; done) | rfl
set_option maxRecDepth 65536 in
set_option maxHeartbeats 40000000 in
theorem rm_lower {l : Launch} {Z : State} {a0 : Array Value} {n0 : Nat} (G : Gl Z a0 n0) {h0 : Heap} (O : Old Z n0 h0) (ch : Int32) :
    Ct [] l Z n0 (⟨"com/example/descriptor/descriptor/TaggedFileReaderIsLanguageCodePinLaw", "lower", "(C)Z"⟩ : MethodName) method_3_code 1 (some .boolean) ({ frames := 0, cells := 0, slots := 0, locals := 0 } : Room) #[(.int ch)] h0 (fun v h => h = h0 ∧ v = some (.int (own_low ch))) := by
  refine Ct.intro pf8 ?_
  intro p e s m below meth c C
  refine AtW.cast ?_ (ef_lower m ch)
  refine w_iloadN (q := 1) C rfl d8_0 rfl ?_
  refine w_bipush (q := 3) (v := (97 : Int32)) C (by rfl) d8_1 rfl ?_
  by_cases h1 : ch < (97 : Int32)
  · refine w_icmp_lt_t (q := 16) C d8_3 (by decide) (by decide) h1 ?_
    refine w_iconst (q := 17) (v := (0 : Int32)) C (by rfl) d8_16 rfl ?_
    exact w_retZ (z := (0 : Int32)) C (t := .boolean) rfl (by simp) (by decide) d8_17 (by decide) (by decide) ⟨rfl, by simp [own_low, h1]⟩
  · refine w_icmp_lt_f (q := 6) C d8_3 rfl h1 ?_
    refine w_iloadN (q := 7) C rfl d8_6 rfl ?_
    refine w_bipush (q := 9) (v := (122 : Int32)) C (by rfl) d8_7 rfl ?_
    by_cases h2 : (122 : Int32) < ch
    · refine w_icmp_gt_t (q := 16) C d8_9 (by decide) (by decide) h2 ?_
      refine w_iconst (q := 17) (v := (0 : Int32)) C (by rfl) d8_16 rfl ?_
      exact w_retZ (z := (0 : Int32)) C (t := .boolean) rfl (by simp) (by decide) d8_17 (by decide) (by decide) ⟨rfl, by simp [own_low, h1, h2]⟩
    · refine w_icmp_gt_f (q := 12) C d8_9 rfl h2 ?_
      refine w_iconst (q := 13) (v := (1 : Int32)) C (by rfl) d8_12 rfl ?_
      refine w_goto (q := 17) C d8_13 (by decide) (by decide) ?_
      exact w_retZ (z := (1 : Int32)) C (t := .boolean) rfl (by simp) (by decide) d8_17 (by decide) (by decide) ⟨rfl, by simp [own_low, h1, h2]⟩
theorem d17_0 : decode prog_13_method_9_code 0 = .ok (.iload_n 0, 1) := by decide +kernel
theorem d17_1 : decode prog_13_method_9_code 1 = .ok (.bipush 97, 2) := by decide +kernel
theorem d17_3 : decode prog_13_method_9_code 3 = .ok (.if_icmp .lt 13, 3) := by decide +kernel
theorem d17_6 : decode prog_13_method_9_code 6 = .ok (.iload_n 0, 1) := by decide +kernel
theorem d17_7 : decode prog_13_method_9_code 7 = .ok (.bipush 122, 2) := by decide +kernel
theorem d17_9 : decode prog_13_method_9_code 9 = .ok (.if_icmp .gt 7, 3) := by decide +kernel
theorem d17_12 : decode prog_13_method_9_code 12 = .ok (.iconst 1, 1) := by decide +kernel
theorem d17_13 : decode prog_13_method_9_code 13 = .ok (.goto 4, 3) := by decide +kernel
theorem d17_16 : decode prog_13_method_9_code 16 = .ok (.iconst 0, 1) := by decide +kernel
theorem d17_17 : decode prog_13_method_9_code 17 = .ok (.ireturn, 1) := by decide +kernel
theorem pf17 : plainFor (⟨"com/example/descriptor/descriptor/TaggedFileReader", "isLowerCaseLetter", "(C)Z"⟩ : MethodName) = true := by first | exact plainFor_of_name (by first | (simp [plainName, overriddenIn]; done) | decide +kernel) | decide +kernel
theorem ef_lowerP (m : MethodId) (z0 : Int32) : entryFrame m #[(.int z0)] 1 = mkF m 0 #[.val (.int z0)] [] := by first | rfl | (simp [entryFrame, mkF, argsToLocals, Value.category, *]; done) | rfl
set_option maxRecDepth 65536 in
set_option maxHeartbeats 40000000 in
theorem rm_lowerP {l : Launch} {Z : State} {a0 : Array Value} {n0 : Nat} (G : Gl Z a0 n0) {h0 : Heap} (O : Old Z n0 h0) (ch : Int32) :
    Ct [] l Z n0 (⟨"com/example/descriptor/descriptor/TaggedFileReader", "isLowerCaseLetter", "(C)Z"⟩ : MethodName) prog_13_method_9_code 1 (some .boolean) ({ frames := 0, cells := 0, slots := 0, locals := 0 } : Room) #[(.int ch)] h0 (fun v h => h = h0 ∧ v = some (.int (own_low ch))) := by
  refine Ct.intro pf17 ?_
  intro p e s m below meth c C
  refine AtW.cast ?_ (ef_lowerP m ch)
  refine w_iloadN (q := 1) C rfl d17_0 rfl ?_
  refine w_bipush (q := 3) (v := (97 : Int32)) C (by rfl) d17_1 rfl ?_
  by_cases h1 : ch < (97 : Int32)
  · refine w_icmp_lt_t (q := 16) C d17_3 (by decide) (by decide) h1 ?_
    refine w_iconst (q := 17) (v := (0 : Int32)) C (by rfl) d17_16 rfl ?_
    exact w_retZ (z := (0 : Int32)) C (t := .boolean) rfl (by simp) (by decide) d17_17 (by decide) (by decide) ⟨rfl, by simp [own_low, h1]⟩
  · refine w_icmp_lt_f (q := 6) C d17_3 rfl h1 ?_
    refine w_iloadN (q := 7) C rfl d17_6 rfl ?_
    refine w_bipush (q := 9) (v := (122 : Int32)) C (by rfl) d17_7 rfl ?_
    by_cases h2 : (122 : Int32) < ch
    · refine w_icmp_gt_t (q := 16) C d17_9 (by decide) (by decide) h2 ?_
      refine w_iconst (q := 17) (v := (0 : Int32)) C (by rfl) d17_16 rfl ?_
      exact w_retZ (z := (0 : Int32)) C (t := .boolean) rfl (by simp) (by decide) d17_17 (by decide) (by decide) ⟨rfl, by simp [own_low, h1, h2]⟩
    · refine w_icmp_gt_f (q := 12) C d17_9 rfl h2 ?_
      refine w_iconst (q := 13) (v := (1 : Int32)) C (by rfl) d17_12 rfl ?_
      refine w_goto (q := 17) C d17_13 (by decide) (by decide) ?_
      exact w_retZ (z := (1 : Int32)) C (t := .boolean) rfl (by simp) (by decide) d17_17 (by decide) (by decide) ⟨rfl, by simp [own_low, h1, h2]⟩
theorem d9_0 : decode prog_13_method_8_code 0 = .ok (.aload_n 0, 1) := by decide +kernel
theorem d9_1 : decode prog_13_method_8_code 1 = .ok (.invokevirtual 162, 3) := by decide +kernel
theorem d9_4 : decode prog_13_method_8_code 4 = .ok (.iload_n 1, 1) := by decide +kernel
theorem d9_5 : decode prog_13_method_8_code 5 = .ok (.iconst 2, 1) := by decide +kernel
theorem d9_6 : decode prog_13_method_8_code 6 = .ok (.iadd, 1) := by decide +kernel
theorem d9_7 : decode prog_13_method_8_code 7 = .ok (.if_icmp .lt 31, 3) := by decide +kernel
theorem d9_10 : decode prog_13_method_8_code 10 = .ok (.aload_n 0, 1) := by decide +kernel
theorem d9_11 : decode prog_13_method_8_code 11 = .ok (.iload_n 1, 1) := by decide +kernel
theorem d9_12 : decode prog_13_method_8_code 12 = .ok (.invokevirtual 163, 3) := by decide +kernel
theorem d9_15 : decode prog_13_method_8_code 15 = .ok (.invokestatic 167, 3) := by decide +kernel
theorem d9_18 : decode prog_13_method_8_code 18 = .ok (.ifCond .eq 20, 3) := by decide +kernel
theorem d9_21 : decode prog_13_method_8_code 21 = .ok (.aload_n 0, 1) := by decide +kernel
theorem d9_22 : decode prog_13_method_8_code 22 = .ok (.iload_n 1, 1) := by decide +kernel
theorem d9_23 : decode prog_13_method_8_code 23 = .ok (.iconst 1, 1) := by decide +kernel
theorem d9_24 : decode prog_13_method_8_code 24 = .ok (.iadd, 1) := by decide +kernel
theorem d9_25 : decode prog_13_method_8_code 25 = .ok (.invokevirtual 163, 3) := by decide +kernel
theorem d9_28 : decode prog_13_method_8_code 28 = .ok (.invokestatic 167, 3) := by decide +kernel
theorem d9_31 : decode prog_13_method_8_code 31 = .ok (.ifCond .eq 7, 3) := by decide +kernel
theorem d9_34 : decode prog_13_method_8_code 34 = .ok (.iconst 1, 1) := by decide +kernel
theorem d9_35 : decode prog_13_method_8_code 35 = .ok (.goto 4, 3) := by decide +kernel
theorem d9_38 : decode prog_13_method_8_code 38 = .ok (.iconst 0, 1) := by decide +kernel
theorem d9_39 : decode prog_13_method_8_code 39 = .ok (.ireturn, 1) := by decide +kernel
theorem pf9 : plainFor (⟨"com/example/descriptor/descriptor/TaggedFileReader", "isLanguageCode", "(Ljava/lang/String;I)Z"⟩ : MethodName) = true := by first | exact plainFor_of_name (by first | (simp [plainName, overriddenIn]; done) | decide +kernel) | decide +kernel
theorem ef_isLang (m : MethodId) (z0 : Addr) (z1 : Int32) : entryFrame m #[(.ref z0), (.int z1)] 2 = mkF m 0 #[.val (.ref z0), .val (.int z1)] [] := by first | rfl | (simp [entryFrame, mkF, argsToLocals, Value.category, *]; done) | rfl
set_option maxRecDepth 65536 in
set_option maxHeartbeats 40000000 in
theorem rm_isLang {l : Launch} {Z : State} {a0 : Array Value} {n0 : Nat} (G : Gl Z a0 n0) {h0 : Heap} (O : Old Z n0 h0) (a : Addr) (cs : List Int32) (j : Nat) (S : Str Z h0 a cs) (hj : j ≤ 7) :
    Ct [] l Z n0 (⟨"com/example/descriptor/descriptor/TaggedFileReader", "isLanguageCode", "(Ljava/lang/String;I)Z"⟩ : MethodName) prog_13_method_8_code 2 (some .boolean) ({ frames := 4, cells := 0, slots := 0, locals := 53 } : Room) #[(.ref a), (.int (Int32.ofNat j))] h0 (fun v h => h = h0 ∧ v = some (.int (own_lang cs j))) := by
  refine Ct.intro pf9 ?_
  intro p e s m below meth c C
  refine AtW.cast ?_ (ef_isLang m a (Int32.ofNat j))
  obtain ⟨E, hr, t, FC, FV, A⟩ := id S
  have hl := S.len
  refine w_aloadN (q := 1) C rfl rfl d9_0 rfl ?_
  refine w_callV (q := 4) (argsL := []) (S := []) (W := 0) (cells' := 0) (slots' := 0) (a := a) C E (G.1 _ (List.mem_of_getElem? (i := 41) rfl)) (G.1 _ (List.mem_of_getElem? (i := 42) rfl)) (w_nf C (G.1 _ (List.mem_of_getElem? (i := 44) rfl))) (G.1 _ (List.mem_of_getElem? (i := 44) rfl)) (G.1 _ (List.mem_of_getElem? (i := 43) rfl)) (G.1 _ (List.mem_of_getElem? (i := 7) rfl)) (G.1 _ (List.mem_of_getElem? (i := 45) rfl)) (by decide) (rm_length G O a cs S) rfl (lenOf pd_10 rfl) rfl (by decide) (own_leb rfl) (by decide) rfl rfl (by decide) (by decide) d9_1 rfl ?_
  rintro _ h27 ⟨eh28, rfl⟩
  rw [eh28]
  show AtW p l e _ s m _ below meth c n0 _ h0 0 0 (mkF m 4 #[.val (.ref a), .val (.int (Int32.ofNat j))] [(.int (Int32.ofNat cs.length))])
  refine w_iloadN (q := 5) C rfl d9_4 rfl ?_
  refine w_iconst (q := 6) (v := (2 : Int32)) C (by rfl) d9_5 rfl ?_
  refine w_iadd (q := 7) C rfl d9_6 rfl ?_
  rw [show ((Int32.ofNat j) + (2 : Int32)) = (Int32.ofNat (j + 2)) from (Int32.ofNat_add j 2).symm]
  by_cases h1 : (Int32.ofNat cs.length) < (Int32.ofNat (j + 2))
  · refine w_icmp_lt_t (q := 38) C d9_7 (by decide) (by decide) h1 ?_
    refine w_iconst (q := 39) (v := (0 : Int32)) C (by rfl) d9_38 rfl ?_
    exact w_retZ (z := (0 : Int32)) C (t := .boolean) rfl (by simp) (by decide) d9_39 (by decide) (by decide) ⟨rfl, by rw [own_nlt hl (by omega)] at h1; unfold own_lang; rw [List.getElem?_eq_none (show cs.length ≤ j + 1 by omega)]; split <;> simp_all⟩
  · refine w_icmp_lt_f (q := 10) C d9_7 rfl h1 ?_
    rw [own_nlt hl (by omega)] at h1
    obtain ⟨c1, e1⟩ : ∃ c, cs[j]? = some c := ⟨_, List.getElem?_eq_getElem (by omega)⟩
    obtain ⟨c2, e2⟩ : ∃ c, cs[j + 1]? = some c := ⟨_, List.getElem?_eq_getElem (by omega)⟩
    refine w_aloadN (q := 11) C rfl rfl d9_10 rfl ?_
    refine w_iloadN (q := 12) C rfl d9_11 rfl ?_
    refine w_callV (q := 15) (argsL := [(.int (Int32.ofNat j))]) (S := []) (W := 0) (cells' := 0) (slots' := 0) (a := a) C E (G.1 _ (List.mem_of_getElem? (i := 51) rfl)) (G.1 _ (List.mem_of_getElem? (i := 52) rfl)) (w_nf C (G.1 _ (List.mem_of_getElem? (i := 54) rfl))) (G.1 _ (List.mem_of_getElem? (i := 54) rfl)) (G.1 _ (List.mem_of_getElem? (i := 53) rfl)) (G.1 _ (List.mem_of_getElem? (i := 7) rfl)) (G.1 _ (List.mem_of_getElem? (i := 55) rfl)) (by decide) (rm_charAt G O a cs j c1 S e1) rfl (lenOf pd_12 rfl) rfl (by decide) (own_leb rfl) (by decide) rfl rfl (by decide) (by decide) d9_12 rfl ?_
    rintro _ h29 ⟨eh30, rfl⟩
    rw [eh30]
    show AtW p l e _ s m _ below meth c n0 _ h0 0 0 (mkF m 15 #[.val (.ref a), .val (.int (Int32.ofNat j))] [(.int c1)])
    refine w_callS (q := 18) (argsL := [(.int c1)]) (S := []) (W := 0) (cells' := 0) (slots' := 0) C (G.1 _ (List.mem_of_getElem? (i := 73) rfl)) (G.1 _ (List.mem_of_getElem? (i := 74) rfl)) (G.1 _ (List.mem_of_getElem? (i := 39) rfl)) (G.1 _ (List.mem_of_getElem? (i := 75) rfl)) (by decide) (rm_lowerP G O c1) rfl (lenOf pd_8 rfl) rfl (by decide) (own_leb rfl) (by decide) rfl rfl (by decide) (by decide) d9_15 rfl ?_
    rintro _ h31 ⟨eh32, rfl⟩
    rw [eh32]
    show AtW p l e _ s m _ below meth c n0 _ h0 0 0 (mkF m 18 #[.val (.ref a), .val (.int (Int32.ofNat j))] [(.int (own_low c1))])
    by_cases h2 : (own_low c1) = 0
    · refine w_if_eq_t (q := 38) C d9_18 (by decide) (by decide) h2 ?_
      refine w_iconst (q := 39) (v := (0 : Int32)) C (by rfl) d9_38 rfl ?_
      exact w_retZ (z := (0 : Int32)) C (t := .boolean) rfl (by simp) (by decide) d9_39 (by decide) (by decide) ⟨rfl, by simp [own_lang, e1, e2, *]⟩
    · refine w_if_eq_f (q := 21) C d9_18 rfl h2 ?_
      refine w_aloadN (q := 22) C rfl rfl d9_21 rfl ?_
      refine w_iloadN (q := 23) C rfl d9_22 rfl ?_
      refine w_iconst (q := 24) (v := (1 : Int32)) C (by rfl) d9_23 rfl ?_
      refine w_iadd (q := 25) C rfl d9_24 rfl ?_
      rw [show ((Int32.ofNat j) + (1 : Int32)) = (Int32.ofNat (j + 1)) from own_one j]
      refine w_callV (q := 28) (argsL := [(.int (Int32.ofNat (j + 1)))]) (S := []) (W := 0) (cells' := 0) (slots' := 0) (a := a) C E (G.1 _ (List.mem_of_getElem? (i := 51) rfl)) (G.1 _ (List.mem_of_getElem? (i := 52) rfl)) (w_nf C (G.1 _ (List.mem_of_getElem? (i := 54) rfl))) (G.1 _ (List.mem_of_getElem? (i := 54) rfl)) (G.1 _ (List.mem_of_getElem? (i := 53) rfl)) (G.1 _ (List.mem_of_getElem? (i := 7) rfl)) (G.1 _ (List.mem_of_getElem? (i := 55) rfl)) (by decide) (rm_charAt G O a cs (j + 1) c2 S e2) rfl (lenOf pd_12 rfl) rfl (by decide) (own_leb rfl) (by decide) rfl rfl (by decide) (by decide) d9_25 rfl ?_
      rintro _ h33 ⟨eh34, rfl⟩
      rw [eh34]
      show AtW p l e _ s m _ below meth c n0 _ h0 0 0 (mkF m 28 #[.val (.ref a), .val (.int (Int32.ofNat j))] [(.int c2)])
      refine w_callS (q := 31) (argsL := [(.int c2)]) (S := []) (W := 0) (cells' := 0) (slots' := 0) C (G.1 _ (List.mem_of_getElem? (i := 73) rfl)) (G.1 _ (List.mem_of_getElem? (i := 74) rfl)) (G.1 _ (List.mem_of_getElem? (i := 39) rfl)) (G.1 _ (List.mem_of_getElem? (i := 75) rfl)) (by decide) (rm_lowerP G O c2) rfl (lenOf pd_8 rfl) rfl (by decide) (own_leb rfl) (by decide) rfl rfl (by decide) (by decide) d9_28 rfl ?_
      rintro _ h35 ⟨eh36, rfl⟩
      rw [eh36]
      show AtW p l e _ s m _ below meth c n0 _ h0 0 0 (mkF m 31 #[.val (.ref a), .val (.int (Int32.ofNat j))] [(.int (own_low c2))])
      by_cases h3 : (own_low c2) = 0
      · refine w_if_eq_t (q := 38) C d9_31 (by decide) (by decide) h3 ?_
        refine w_iconst (q := 39) (v := (0 : Int32)) C (by rfl) d9_38 rfl ?_
        exact w_retZ (z := (0 : Int32)) C (t := .boolean) rfl (by simp) (by decide) d9_39 (by decide) (by decide) ⟨rfl, by simp [own_lang, e1, e2, *]⟩
      · refine w_if_eq_f (q := 34) C d9_31 rfl h3 ?_
        refine w_iconst (q := 35) (v := (1 : Int32)) C (by rfl) d9_34 rfl ?_
        refine w_goto (q := 39) C d9_35 (by decide) (by decide) ?_
        exact w_retZ (z := (1 : Int32)) C (t := .boolean) rfl (by simp) (by decide) d9_39 (by decide) (by decide) ⟨rfl, by simp [own_lang, e1, e2, *]⟩
theorem d1_0 : decode method_4_code 0 = .ok (.iload_n 1, 1) := by decide +kernel
theorem d1_1 : decode method_4_code 1 = .ok (.ifCond .ne 14, 3) := by decide +kernel
theorem d1_4 : decode method_4_code 4 = .ok (.new 23, 3) := by decide +kernel
theorem d1_7 : decode method_4_code 7 = .ok (.dup, 1) := by decide +kernel
theorem d1_8 : decode method_4_code 8 = .ok (.iconst 0, 1) := by decide +kernel
theorem d1_9 : decode method_4_code 9 = .ok (.newarray .char, 2) := by decide +kernel
theorem d1_11 : decode method_4_code 11 = .ok (.invokespecial 25, 3) := by decide +kernel
theorem d1_14 : decode method_4_code 14 = .ok (.areturn, 1) := by decide +kernel
theorem d1_15 : decode method_4_code 15 = .ok (.iload_n 1, 1) := by decide +kernel
theorem d1_16 : decode method_4_code 16 = .ok (.iconst 1, 1) := by decide +kernel
theorem d1_17 : decode method_4_code 17 = .ok (.if_icmp .ne 20, 3) := by decide +kernel
theorem d1_20 : decode method_4_code 20 = .ok (.new 23, 3) := by decide +kernel
theorem d1_23 : decode method_4_code 23 = .ok (.dup, 1) := by decide +kernel
theorem d1_24 : decode method_4_code 24 = .ok (.iconst 1, 1) := by decide +kernel
theorem d1_25 : decode method_4_code 25 = .ok (.newarray .char, 2) := by decide +kernel
theorem d1_27 : decode method_4_code 27 = .ok (.dup, 1) := by decide +kernel
theorem d1_28 : decode method_4_code 28 = .ok (.iconst 0, 1) := by decide +kernel
theorem d1_29 : decode method_4_code 29 = .ok (.aload_n 0, 1) := by decide +kernel
theorem d1_30 : decode method_4_code 30 = .ok (.iconst 0, 1) := by decide +kernel
theorem d1_31 : decode method_4_code 31 = .ok (.caload, 1) := by decide +kernel
theorem d1_32 : decode method_4_code 32 = .ok (.castore, 1) := by decide +kernel
theorem d1_33 : decode method_4_code 33 = .ok (.invokespecial 25, 3) := by decide +kernel
theorem d1_36 : decode method_4_code 36 = .ok (.areturn, 1) := by decide +kernel
theorem d1_37 : decode method_4_code 37 = .ok (.iload_n 1, 1) := by decide +kernel
theorem d1_38 : decode method_4_code 38 = .ok (.iconst 2, 1) := by decide +kernel
theorem d1_39 : decode method_4_code 39 = .ok (.if_icmp .ne 26, 3) := by decide +kernel
theorem d1_42 : decode method_4_code 42 = .ok (.new 23, 3) := by decide +kernel
theorem d1_45 : decode method_4_code 45 = .ok (.dup, 1) := by decide +kernel
theorem d1_46 : decode method_4_code 46 = .ok (.iconst 2, 1) := by decide +kernel
theorem d1_47 : decode method_4_code 47 = .ok (.newarray .char, 2) := by decide +kernel
theorem d1_49 : decode method_4_code 49 = .ok (.dup, 1) := by decide +kernel
theorem d1_50 : decode method_4_code 50 = .ok (.iconst 0, 1) := by decide +kernel
theorem d1_51 : decode method_4_code 51 = .ok (.aload_n 0, 1) := by decide +kernel
theorem d1_52 : decode method_4_code 52 = .ok (.iconst 0, 1) := by decide +kernel
theorem d1_53 : decode method_4_code 53 = .ok (.caload, 1) := by decide +kernel
theorem d1_54 : decode method_4_code 54 = .ok (.castore, 1) := by decide +kernel
theorem d1_55 : decode method_4_code 55 = .ok (.dup, 1) := by decide +kernel
theorem d1_56 : decode method_4_code 56 = .ok (.iconst 1, 1) := by decide +kernel
theorem d1_57 : decode method_4_code 57 = .ok (.aload_n 0, 1) := by decide +kernel
theorem d1_58 : decode method_4_code 58 = .ok (.iconst 1, 1) := by decide +kernel
theorem d1_59 : decode method_4_code 59 = .ok (.caload, 1) := by decide +kernel
theorem d1_60 : decode method_4_code 60 = .ok (.castore, 1) := by decide +kernel
theorem d1_61 : decode method_4_code 61 = .ok (.invokespecial 25, 3) := by decide +kernel
theorem d1_64 : decode method_4_code 64 = .ok (.areturn, 1) := by decide +kernel
theorem d1_65 : decode method_4_code 65 = .ok (.iload_n 1, 1) := by decide +kernel
theorem d1_66 : decode method_4_code 66 = .ok (.iconst 3, 1) := by decide +kernel
theorem d1_67 : decode method_4_code 67 = .ok (.if_icmp .ne 32, 3) := by decide +kernel
theorem d1_70 : decode method_4_code 70 = .ok (.new 23, 3) := by decide +kernel
theorem d1_73 : decode method_4_code 73 = .ok (.dup, 1) := by decide +kernel
theorem d1_74 : decode method_4_code 74 = .ok (.iconst 3, 1) := by decide +kernel
theorem d1_75 : decode method_4_code 75 = .ok (.newarray .char, 2) := by decide +kernel
theorem d1_77 : decode method_4_code 77 = .ok (.dup, 1) := by decide +kernel
theorem d1_78 : decode method_4_code 78 = .ok (.iconst 0, 1) := by decide +kernel
theorem d1_79 : decode method_4_code 79 = .ok (.aload_n 0, 1) := by decide +kernel
theorem d1_80 : decode method_4_code 80 = .ok (.iconst 0, 1) := by decide +kernel
theorem d1_81 : decode method_4_code 81 = .ok (.caload, 1) := by decide +kernel
theorem d1_82 : decode method_4_code 82 = .ok (.castore, 1) := by decide +kernel
theorem d1_83 : decode method_4_code 83 = .ok (.dup, 1) := by decide +kernel
theorem d1_84 : decode method_4_code 84 = .ok (.iconst 1, 1) := by decide +kernel
theorem d1_85 : decode method_4_code 85 = .ok (.aload_n 0, 1) := by decide +kernel
theorem d1_86 : decode method_4_code 86 = .ok (.iconst 1, 1) := by decide +kernel
theorem d1_87 : decode method_4_code 87 = .ok (.caload, 1) := by decide +kernel
theorem d1_88 : decode method_4_code 88 = .ok (.castore, 1) := by decide +kernel
theorem d1_89 : decode method_4_code 89 = .ok (.dup, 1) := by decide +kernel
theorem d1_90 : decode method_4_code 90 = .ok (.iconst 2, 1) := by decide +kernel
theorem d1_91 : decode method_4_code 91 = .ok (.aload_n 0, 1) := by decide +kernel
theorem d1_92 : decode method_4_code 92 = .ok (.iconst 2, 1) := by decide +kernel
theorem d1_93 : decode method_4_code 93 = .ok (.caload, 1) := by decide +kernel
theorem d1_94 : decode method_4_code 94 = .ok (.castore, 1) := by decide +kernel
theorem d1_95 : decode method_4_code 95 = .ok (.invokespecial 25, 3) := by decide +kernel
theorem d1_98 : decode method_4_code 98 = .ok (.areturn, 1) := by decide +kernel
theorem d1_99 : decode method_4_code 99 = .ok (.iload_n 1, 1) := by decide +kernel
theorem d1_100 : decode method_4_code 100 = .ok (.iconst 4, 1) := by decide +kernel
theorem d1_101 : decode method_4_code 101 = .ok (.if_icmp .ne 38, 3) := by decide +kernel
theorem d1_104 : decode method_4_code 104 = .ok (.new 23, 3) := by decide +kernel
theorem d1_107 : decode method_4_code 107 = .ok (.dup, 1) := by decide +kernel
theorem d1_108 : decode method_4_code 108 = .ok (.iconst 4, 1) := by decide +kernel
theorem d1_109 : decode method_4_code 109 = .ok (.newarray .char, 2) := by decide +kernel
theorem d1_111 : decode method_4_code 111 = .ok (.dup, 1) := by decide +kernel
theorem d1_112 : decode method_4_code 112 = .ok (.iconst 0, 1) := by decide +kernel
theorem d1_113 : decode method_4_code 113 = .ok (.aload_n 0, 1) := by decide +kernel
theorem d1_114 : decode method_4_code 114 = .ok (.iconst 0, 1) := by decide +kernel
theorem d1_115 : decode method_4_code 115 = .ok (.caload, 1) := by decide +kernel
theorem d1_116 : decode method_4_code 116 = .ok (.castore, 1) := by decide +kernel
theorem d1_117 : decode method_4_code 117 = .ok (.dup, 1) := by decide +kernel
theorem d1_118 : decode method_4_code 118 = .ok (.iconst 1, 1) := by decide +kernel
theorem d1_119 : decode method_4_code 119 = .ok (.aload_n 0, 1) := by decide +kernel
theorem d1_120 : decode method_4_code 120 = .ok (.iconst 1, 1) := by decide +kernel
theorem d1_121 : decode method_4_code 121 = .ok (.caload, 1) := by decide +kernel
theorem d1_122 : decode method_4_code 122 = .ok (.castore, 1) := by decide +kernel
theorem d1_123 : decode method_4_code 123 = .ok (.dup, 1) := by decide +kernel
theorem d1_124 : decode method_4_code 124 = .ok (.iconst 2, 1) := by decide +kernel
theorem d1_125 : decode method_4_code 125 = .ok (.aload_n 0, 1) := by decide +kernel
theorem d1_126 : decode method_4_code 126 = .ok (.iconst 2, 1) := by decide +kernel
theorem d1_127 : decode method_4_code 127 = .ok (.caload, 1) := by decide +kernel
theorem d1_128 : decode method_4_code 128 = .ok (.castore, 1) := by decide +kernel
theorem d1_129 : decode method_4_code 129 = .ok (.dup, 1) := by decide +kernel
theorem d1_130 : decode method_4_code 130 = .ok (.iconst 3, 1) := by decide +kernel
theorem d1_131 : decode method_4_code 131 = .ok (.aload_n 0, 1) := by decide +kernel
theorem d1_132 : decode method_4_code 132 = .ok (.iconst 3, 1) := by decide +kernel
theorem d1_133 : decode method_4_code 133 = .ok (.caload, 1) := by decide +kernel
theorem d1_134 : decode method_4_code 134 = .ok (.castore, 1) := by decide +kernel
theorem d1_135 : decode method_4_code 135 = .ok (.invokespecial 25, 3) := by decide +kernel
theorem d1_138 : decode method_4_code 138 = .ok (.areturn, 1) := by decide +kernel
theorem d1_139 : decode method_4_code 139 = .ok (.new 23, 3) := by decide +kernel
theorem d1_142 : decode method_4_code 142 = .ok (.dup, 1) := by decide +kernel
theorem d1_143 : decode method_4_code 143 = .ok (.iconst 5, 1) := by decide +kernel
theorem d1_144 : decode method_4_code 144 = .ok (.newarray .char, 2) := by decide +kernel
theorem d1_146 : decode method_4_code 146 = .ok (.dup, 1) := by decide +kernel
theorem d1_147 : decode method_4_code 147 = .ok (.iconst 0, 1) := by decide +kernel
theorem d1_148 : decode method_4_code 148 = .ok (.aload_n 0, 1) := by decide +kernel
theorem d1_149 : decode method_4_code 149 = .ok (.iconst 0, 1) := by decide +kernel
theorem d1_150 : decode method_4_code 150 = .ok (.caload, 1) := by decide +kernel
theorem d1_151 : decode method_4_code 151 = .ok (.castore, 1) := by decide +kernel
theorem d1_152 : decode method_4_code 152 = .ok (.dup, 1) := by decide +kernel
theorem d1_153 : decode method_4_code 153 = .ok (.iconst 1, 1) := by decide +kernel
theorem d1_154 : decode method_4_code 154 = .ok (.aload_n 0, 1) := by decide +kernel
theorem d1_155 : decode method_4_code 155 = .ok (.iconst 1, 1) := by decide +kernel
theorem d1_156 : decode method_4_code 156 = .ok (.caload, 1) := by decide +kernel
theorem d1_157 : decode method_4_code 157 = .ok (.castore, 1) := by decide +kernel
theorem d1_158 : decode method_4_code 158 = .ok (.dup, 1) := by decide +kernel
theorem d1_159 : decode method_4_code 159 = .ok (.iconst 2, 1) := by decide +kernel
theorem d1_160 : decode method_4_code 160 = .ok (.aload_n 0, 1) := by decide +kernel
theorem d1_161 : decode method_4_code 161 = .ok (.iconst 2, 1) := by decide +kernel
theorem d1_162 : decode method_4_code 162 = .ok (.caload, 1) := by decide +kernel
theorem d1_163 : decode method_4_code 163 = .ok (.castore, 1) := by decide +kernel
theorem d1_164 : decode method_4_code 164 = .ok (.dup, 1) := by decide +kernel
theorem d1_165 : decode method_4_code 165 = .ok (.iconst 3, 1) := by decide +kernel
theorem d1_166 : decode method_4_code 166 = .ok (.aload_n 0, 1) := by decide +kernel
theorem d1_167 : decode method_4_code 167 = .ok (.iconst 3, 1) := by decide +kernel
theorem d1_168 : decode method_4_code 168 = .ok (.caload, 1) := by decide +kernel
theorem d1_169 : decode method_4_code 169 = .ok (.castore, 1) := by decide +kernel
theorem d1_170 : decode method_4_code 170 = .ok (.dup, 1) := by decide +kernel
theorem d1_171 : decode method_4_code 171 = .ok (.iconst 4, 1) := by decide +kernel
theorem d1_172 : decode method_4_code 172 = .ok (.aload_n 0, 1) := by decide +kernel
theorem d1_173 : decode method_4_code 173 = .ok (.iconst 4, 1) := by decide +kernel
theorem d1_174 : decode method_4_code 174 = .ok (.caload, 1) := by decide +kernel
theorem d1_175 : decode method_4_code 175 = .ok (.castore, 1) := by decide +kernel
theorem d1_176 : decode method_4_code 176 = .ok (.invokespecial 25, 3) := by decide +kernel
theorem d1_179 : decode method_4_code 179 = .ok (.areturn, 1) := by decide +kernel
theorem pf1 : plainFor (⟨"com/example/descriptor/descriptor/TaggedFileReaderIsLanguageCodePinLaw", "make", "([CI)Ljava/lang/String;"⟩ : MethodName) = true := by first | exact plainFor_of_name (by first | (simp [plainName, overriddenIn]; done) | decide +kernel) | decide +kernel
theorem ef_make (m : MethodId) (z0 : Addr) (z1 : Int32) : entryFrame m #[(.ref z0), (.int z1)] 2 = mkF m 0 #[.val (.ref z0), .val (.int z1)] [] := by first | rfl | (simp [entryFrame, mkF, argsToLocals, Value.category, *]; done) | rfl
set_option maxRecDepth 65536 in
set_option maxHeartbeats 40000000 in
theorem rm_make {l : Launch} {Z : State} {a0 : Array Value} {n0 : Nat} (G : Gl Z a0 n0) {h0 : Heap} (O : Old Z n0 h0) (b : Addr) (x0 : Int32) (x1 : Int32) (x2 : Int32) (x3 : Int32) (x4 : Int32) (n : Nat) (V : Ar Z h0 b .char (List.map Value.int [x0, x1, x2, x3, x4])) (hL : L1 [x0, x1, x2, x3, x4]) (hn : n ≤ 5) :
    Cs [] l Z consts_1 n0 (⟨"com/example/descriptor/descriptor/TaggedFileReaderIsLanguageCodePinLaw", "make", "([CI)Ljava/lang/String;"⟩ : MethodName) method_4_code 2 (some (.object "java/lang/String")) ({ frames := 4, cells := 6, slots := 14, locals := 66 } : Room) #[(.ref b), (.int (Int32.ofNat n))] h0 (fun v h => Keep h0 h [] ∧ ∃ a, v = some (.ref a) ∧ Str Z h a ([x0, x1, x2, x3, x4].take n)) := by
  refine Cs.intro pf1 ?_
  intro p e s m below meth c C
  refine AtS.cast ?_ (ef_make m b (Int32.ofNat n))
  have hx0 := hL x0 (by simp)
  have hx1 := hL x1 (by simp)
  have hx2 := hL x2 (by simp)
  have hx3 := hL x3 (by simp)
  have hx4 := hL x4 (by simp)
  rcases n with _ | _ | _ | _ | _ | _ | n
  · show AtS p l e _ s m _ below meth c Z _ _ n0 _ _ _ h0 0 0 (mkF m 0 #[.val (.ref b), .val (.int (0 : Int32))] [])
    refine s_iloadN (q := 1) C rfl d1_0 rfl ?_
    refine s_if_ne_f (q := 4) C d1_1 rfl (by decide) ?_
    refine s_new (q := 7) (cells' := 1) (slots' := 4) C (G.1 _ (List.mem_of_getElem? (i := 5) rfl)) (G.1 _ (List.mem_of_getElem? (i := 6) rfl)) (G.1 _ (List.mem_of_getElem? (i := 7) rfl)) rfl rfl (by decide) (by decide) d1_4 rfl ?_
    intro h37 o38 g_o38 Eh37 A_o38 D_o38
    have F_coder_o38 : Fld Z h37 o38 "java/lang/String" "coder" "B" (.int (0 : Int32)) := D_o38 (Or.inr (G.1 _ (List.mem_of_getElem? (i := 31) rfl))) (ty := .byte) (by decide)
    have F_value_o38 : Fld Z h37 o38 "java/lang/String" "value" "[B" .null := D_o38 (Or.inr (G.1 _ (List.mem_of_getElem? (i := 33) rfl))) (ty := (.array .byte)) (by decide)
    have ge_o38 : n0 ≤ o38 := by rw [g_o38]; exact Old_le O
    refine s_dup (q := 8) C rfl d1_7 rfl ?_
    refine s_iconst (q := 9) (v := (0 : Int32)) C (by rfl) d1_8 rfl ?_
    refine s_newArr (q := 11) (cap := 0) (cells' := 2) (slots' := 4) C (G.1 _ (List.mem_of_getElem? (i := 0) rfl)) rfl (by decide) (by decide) (by decide) rfl rfl (by decide) (by decide) d1_9 rfl ?_
    intro h39 o40 g_o40 Eh39 V_o40
    replace V_o40 : Ar Z h39 o40 .char [] := V_o40
    have ge_o40 : n0 ≤ o40 := by rw [g_o40]; exact Nat.le_trans (Old_le O) Eh37.1
    have ne_o38 : o38 ≠ o40 := Nat.ne_of_lt (by rw [g_o40]; exact A_o38.lt)
    have sz_o40 : h0.size ≤ o40 := by rw [g_o40]; exact Eh37.1
    have K41 : Keep h0 h39 [] := (Keep.of_ext Eh37).ext Eh39
    replace A_o38 := A_o38.ext Eh39
    replace F_value_o38 := F_value_o38.ext Eh39
    replace F_coder_o38 := F_coder_o38.ext Eh39
    have O42 := Old_k0 O K41
    refine s_callI2 (q := 14) (argsL := [(.ref o40)]) (S := [(.ref o38)]) (W := 1) (cells' := 6) (slots' := 12) (a := o38) C G.el rfl (G.1 _ (List.mem_of_getElem? (i := 8) rfl)) (G.1 _ (List.mem_of_getElem? (i := 9) rfl)) (G.1 _ (List.mem_of_getElem? (i := 7) rfl)) (G.1 _ (List.mem_of_getElem? (i := 10) rfl)) (by decide) (rm_strinite G O42 o38 o40 A_o38 F_value_o38 F_coder_o38 ge_o38 V_o40) rfl (lenOf pd_2 rfl) rfl (by decide) (own_leb rfl) (by decide) rfl rfl (by decide) (by decide) d1_11 rfl ?_
    rintro _ h43 ⟨Kh43, rfl, S1⟩
    show AtS p l e _ s m _ below meth c Z _ _ n0 _ _ _ h43 6 12 (mkF m 14 #[.val (.ref b), .val (.int (0 : Int32))] [(.ref o38)])
    have K44 : Keep h0 h43 [] := own_K1 K41 Kh43 (Nat.le_of_eq g_o38.symm)
    replace O := Old_k0 O K44
    exact s_retA C G.el rfl rfl rfl d1_14 (by decide) (by decide) ⟨K44, o38, rfl, S1⟩
  · show AtS p l e _ s m _ below meth c Z _ _ n0 _ _ _ h0 0 0 (mkF m 0 #[.val (.ref b), .val (.int (1 : Int32))] [])
    refine s_iloadN (q := 1) C rfl d1_0 rfl ?_
    refine s_if_ne_t (q := 15) C d1_1 (by decide) (by decide) (by decide) ?_
    refine s_iloadN (q := 16) C rfl d1_15 rfl ?_
    refine s_iconst (q := 17) (v := (1 : Int32)) C (by rfl) d1_16 rfl ?_
    refine s_icmp_ne_f (q := 20) C d1_17 rfl (by decide) ?_
    refine s_new (q := 23) (cells' := 1) (slots' := 4) C (G.1 _ (List.mem_of_getElem? (i := 5) rfl)) (G.1 _ (List.mem_of_getElem? (i := 6) rfl)) (G.1 _ (List.mem_of_getElem? (i := 7) rfl)) rfl rfl (by decide) (by decide) d1_20 rfl ?_
    intro h45 o46 g_o46 Eh45 A_o46 D_o46
    have F_coder_o46 : Fld Z h45 o46 "java/lang/String" "coder" "B" (.int (0 : Int32)) := D_o46 (Or.inr (G.1 _ (List.mem_of_getElem? (i := 31) rfl))) (ty := .byte) (by decide)
    have F_value_o46 : Fld Z h45 o46 "java/lang/String" "value" "[B" .null := D_o46 (Or.inr (G.1 _ (List.mem_of_getElem? (i := 33) rfl))) (ty := (.array .byte)) (by decide)
    have ge_o46 : n0 ≤ o46 := by rw [g_o46]; exact Old_le O
    refine s_dup (q := 24) C rfl d1_23 rfl ?_
    refine s_iconst (q := 25) (v := (1 : Int32)) C (by rfl) d1_24 rfl ?_
    refine s_newArr (q := 27) (cap := 1) (cells' := 2) (slots' := 5) C (G.1 _ (List.mem_of_getElem? (i := 0) rfl)) rfl (by decide) (by decide) (by decide) rfl rfl (by decide) (by decide) d1_25 rfl ?_
    intro h47 o48 g_o48 Eh47 V_o48
    replace V_o48 : Ar Z h47 o48 .char [(.int (0 : Int32))] := V_o48
    have ge_o48 : n0 ≤ o48 := by rw [g_o48]; exact Nat.le_trans (Old_le O) Eh45.1
    have ne_o46 : o46 ≠ o48 := Nat.ne_of_lt (by rw [g_o48]; exact A_o46.lt)
    have sz_o48 : h0.size ≤ o48 := by rw [g_o48]; exact Eh45.1
    have K49 : Keep h0 h47 [] := (Keep.of_ext Eh45).ext Eh47
    replace A_o46 := A_o46.ext Eh47
    replace F_value_o46 := F_value_o46.ext Eh47
    replace F_coder_o46 := F_coder_o46.ext Eh47
    refine s_dup (q := 28) C rfl d1_27 rfl ?_
    refine s_iconst (q := 29) (v := (0 : Int32)) C (by rfl) d1_28 rfl ?_
    refine s_aloadN (q := 30) C rfl rfl d1_29 rfl ?_
    refine s_iconst (q := 31) (v := (0 : Int32)) C (by rfl) d1_30 rfl ?_
    refine s_caload (q := 32) (i := 0) (v := (.int x0)) C (Ar_k0 V K49) rfl rfl d1_31 rfl ?_
    refine s_castore (q := 33) (z := x0) (i := 0) C (own_nar hx0.1 hx0.2) V_o48 rfl (own_ltb rfl) ge_o48 d1_32 rfl ?_
    intro h50 Wh50 Vh50
    replace A_o46 := A_o46.wr Wh50
    replace F_value_o46 := F_value_o46.other Wh50 (Or.inl ne_o46)
    replace F_coder_o46 := F_coder_o46.other Wh50 (Or.inl ne_o46)
    have K51 := K49.wr Wh50 (Or.inr sz_o48)
    have O52 := Old_k0 O K51
    have hL_S1 : L1 [x0] := (own_L1c hx0 (fun c hc => absurd hc List.not_mem_nil))
    have hA_S1 : Ar Z h50 o48 .char (List.map Value.int [x0]) := Vh50
    refine s_callI1 (q := 36) (argsL := [(.ref o48)]) (S := [(.ref o46)]) (W := 1) (cells' := 3) (slots' := 10) (a := o46) C rfl (G.1 _ (List.mem_of_getElem? (i := 8) rfl)) (G.1 _ (List.mem_of_getElem? (i := 9) rfl)) (G.1 _ (List.mem_of_getElem? (i := 7) rfl)) (G.1 _ (List.mem_of_getElem? (i := 10) rfl)) (by decide) (rm_strinit G O52 o46 o48 [x0] A_o46 F_value_o46 F_coder_o46 ge_o46 hA_S1 hL_S1 (own_leb rfl) (by simp)) rfl (lenOf pd_2 rfl) rfl (by decide) (own_leb rfl) (by decide) rfl rfl (by decide) (by decide) (wl := [o46]) (fun _ _ q => q.1) (allS (SfOk.mem (by simp)) (all0)) d1_33 rfl ?_
    rintro _ h53 ⟨Kh53, rfl, S1⟩
    show AtS p l e _ s m _ below meth c Z _ _ n0 _ _ _ h53 3 10 (mkF m 36 #[.val (.ref b), .val (.int (1 : Int32))] [(.ref o46)])
    have K54 : Keep h0 h53 [] := own_K1 K51 Kh53 (Nat.le_of_eq g_o46.symm)
    replace O := Old_k0 O K54
    exact s_retA C G.el rfl rfl rfl d1_36 (by decide) (by decide) ⟨K54, o46, rfl, S1⟩
  · show AtS p l e _ s m _ below meth c Z _ _ n0 _ _ _ h0 0 0 (mkF m 0 #[.val (.ref b), .val (.int (2 : Int32))] [])
    refine s_iloadN (q := 1) C rfl d1_0 rfl ?_
    refine s_if_ne_t (q := 15) C d1_1 (by decide) (by decide) (by decide) ?_
    refine s_iloadN (q := 16) C rfl d1_15 rfl ?_
    refine s_iconst (q := 17) (v := (1 : Int32)) C (by rfl) d1_16 rfl ?_
    refine s_icmp_ne_t (q := 37) C d1_17 (by decide) (by decide) (by decide) ?_
    refine s_iloadN (q := 38) C rfl d1_37 rfl ?_
    refine s_iconst (q := 39) (v := (2 : Int32)) C (by rfl) d1_38 rfl ?_
    refine s_icmp_ne_f (q := 42) C d1_39 rfl (by decide) ?_
    refine s_new (q := 45) (cells' := 1) (slots' := 4) C (G.1 _ (List.mem_of_getElem? (i := 5) rfl)) (G.1 _ (List.mem_of_getElem? (i := 6) rfl)) (G.1 _ (List.mem_of_getElem? (i := 7) rfl)) rfl rfl (by decide) (by decide) d1_42 rfl ?_
    intro h55 o56 g_o56 Eh55 A_o56 D_o56
    have F_coder_o56 : Fld Z h55 o56 "java/lang/String" "coder" "B" (.int (0 : Int32)) := D_o56 (Or.inr (G.1 _ (List.mem_of_getElem? (i := 31) rfl))) (ty := .byte) (by decide)
    have F_value_o56 : Fld Z h55 o56 "java/lang/String" "value" "[B" .null := D_o56 (Or.inr (G.1 _ (List.mem_of_getElem? (i := 33) rfl))) (ty := (.array .byte)) (by decide)
    have ge_o56 : n0 ≤ o56 := by rw [g_o56]; exact Old_le O
    refine s_dup (q := 46) C rfl d1_45 rfl ?_
    refine s_iconst (q := 47) (v := (2 : Int32)) C (by rfl) d1_46 rfl ?_
    refine s_newArr (q := 49) (cap := 2) (cells' := 2) (slots' := 6) C (G.1 _ (List.mem_of_getElem? (i := 0) rfl)) rfl (by decide) (by decide) (by decide) rfl rfl (by decide) (by decide) d1_47 rfl ?_
    intro h57 o58 g_o58 Eh57 V_o58
    replace V_o58 : Ar Z h57 o58 .char [(.int (0 : Int32)), (.int (0 : Int32))] := V_o58
    have ge_o58 : n0 ≤ o58 := by rw [g_o58]; exact Nat.le_trans (Old_le O) Eh55.1
    have ne_o56 : o56 ≠ o58 := Nat.ne_of_lt (by rw [g_o58]; exact A_o56.lt)
    have sz_o58 : h0.size ≤ o58 := by rw [g_o58]; exact Eh55.1
    have K59 : Keep h0 h57 [] := (Keep.of_ext Eh55).ext Eh57
    replace A_o56 := A_o56.ext Eh57
    replace F_value_o56 := F_value_o56.ext Eh57
    replace F_coder_o56 := F_coder_o56.ext Eh57
    refine s_dup (q := 50) C rfl d1_49 rfl ?_
    refine s_iconst (q := 51) (v := (0 : Int32)) C (by rfl) d1_50 rfl ?_
    refine s_aloadN (q := 52) C rfl rfl d1_51 rfl ?_
    refine s_iconst (q := 53) (v := (0 : Int32)) C (by rfl) d1_52 rfl ?_
    refine s_caload (q := 54) (i := 0) (v := (.int x0)) C (Ar_k0 V K59) rfl rfl d1_53 rfl ?_
    refine s_castore (q := 55) (z := x0) (i := 0) C (own_nar hx0.1 hx0.2) V_o58 rfl (own_ltb rfl) ge_o58 d1_54 rfl ?_
    intro h60 Wh60 Vh60
    replace A_o56 := A_o56.wr Wh60
    replace F_value_o56 := F_value_o56.other Wh60 (Or.inl ne_o56)
    replace F_coder_o56 := F_coder_o56.other Wh60 (Or.inl ne_o56)
    have K61 := K59.wr Wh60 (Or.inr sz_o58)
    refine s_dup (q := 56) C rfl d1_55 rfl ?_
    refine s_iconst (q := 57) (v := (1 : Int32)) C (by rfl) d1_56 rfl ?_
    refine s_aloadN (q := 58) C rfl rfl d1_57 rfl ?_
    refine s_iconst (q := 59) (v := (1 : Int32)) C (by rfl) d1_58 rfl ?_
    refine s_caload (q := 60) (i := 1) (v := (.int x1)) C (Ar_k0 V K61) rfl rfl d1_59 rfl ?_
    refine s_castore (q := 61) (z := x1) (i := 1) C (own_nar hx1.1 hx1.2) Vh60 rfl (own_ltb rfl) ge_o58 d1_60 rfl ?_
    intro h62 Wh62 Vh62
    replace A_o56 := A_o56.wr Wh62
    replace F_value_o56 := F_value_o56.other Wh62 (Or.inl ne_o56)
    replace F_coder_o56 := F_coder_o56.other Wh62 (Or.inl ne_o56)
    have K63 := K61.wr Wh62 (Or.inr sz_o58)
    have O64 := Old_k0 O K63
    have hL_S1 : L1 [x0, x1] := (own_L1c hx0 (own_L1c hx1 (fun c hc => absurd hc List.not_mem_nil)))
    have hA_S1 : Ar Z h62 o58 .char (List.map Value.int [x0, x1]) := Vh62
    refine s_callI1 (q := 64) (argsL := [(.ref o58)]) (S := [(.ref o56)]) (W := 1) (cells' := 3) (slots' := 11) (a := o56) C rfl (G.1 _ (List.mem_of_getElem? (i := 8) rfl)) (G.1 _ (List.mem_of_getElem? (i := 9) rfl)) (G.1 _ (List.mem_of_getElem? (i := 7) rfl)) (G.1 _ (List.mem_of_getElem? (i := 10) rfl)) (by decide) (rm_strinit G O64 o56 o58 [x0, x1] A_o56 F_value_o56 F_coder_o56 ge_o56 hA_S1 hL_S1 (own_leb rfl) (by simp)) rfl (lenOf pd_2 rfl) rfl (by decide) (own_leb rfl) (by decide) rfl rfl (by decide) (by decide) (wl := [o56]) (fun _ _ q => q.1) (allS (SfOk.mem (by simp)) (all0)) d1_61 rfl ?_
    rintro _ h65 ⟨Kh65, rfl, S1⟩
    show AtS p l e _ s m _ below meth c Z _ _ n0 _ _ _ h65 3 11 (mkF m 64 #[.val (.ref b), .val (.int (2 : Int32))] [(.ref o56)])
    have K66 : Keep h0 h65 [] := own_K1 K63 Kh65 (Nat.le_of_eq g_o56.symm)
    replace O := Old_k0 O K66
    exact s_retA C G.el rfl rfl rfl d1_64 (by decide) (by decide) ⟨K66, o56, rfl, S1⟩
  · show AtS p l e _ s m _ below meth c Z _ _ n0 _ _ _ h0 0 0 (mkF m 0 #[.val (.ref b), .val (.int (3 : Int32))] [])
    refine s_iloadN (q := 1) C rfl d1_0 rfl ?_
    refine s_if_ne_t (q := 15) C d1_1 (by decide) (by decide) (by decide) ?_
    refine s_iloadN (q := 16) C rfl d1_15 rfl ?_
    refine s_iconst (q := 17) (v := (1 : Int32)) C (by rfl) d1_16 rfl ?_
    refine s_icmp_ne_t (q := 37) C d1_17 (by decide) (by decide) (by decide) ?_
    refine s_iloadN (q := 38) C rfl d1_37 rfl ?_
    refine s_iconst (q := 39) (v := (2 : Int32)) C (by rfl) d1_38 rfl ?_
    refine s_icmp_ne_t (q := 65) C d1_39 (by decide) (by decide) (by decide) ?_
    refine s_iloadN (q := 66) C rfl d1_65 rfl ?_
    refine s_iconst (q := 67) (v := (3 : Int32)) C (by rfl) d1_66 rfl ?_
    refine s_icmp_ne_f (q := 70) C d1_67 rfl (by decide) ?_
    refine s_new (q := 73) (cells' := 1) (slots' := 4) C (G.1 _ (List.mem_of_getElem? (i := 5) rfl)) (G.1 _ (List.mem_of_getElem? (i := 6) rfl)) (G.1 _ (List.mem_of_getElem? (i := 7) rfl)) rfl rfl (by decide) (by decide) d1_70 rfl ?_
    intro h67 o68 g_o68 Eh67 A_o68 D_o68
    have F_coder_o68 : Fld Z h67 o68 "java/lang/String" "coder" "B" (.int (0 : Int32)) := D_o68 (Or.inr (G.1 _ (List.mem_of_getElem? (i := 31) rfl))) (ty := .byte) (by decide)
    have F_value_o68 : Fld Z h67 o68 "java/lang/String" "value" "[B" .null := D_o68 (Or.inr (G.1 _ (List.mem_of_getElem? (i := 33) rfl))) (ty := (.array .byte)) (by decide)
    have ge_o68 : n0 ≤ o68 := by rw [g_o68]; exact Old_le O
    refine s_dup (q := 74) C rfl d1_73 rfl ?_
    refine s_iconst (q := 75) (v := (3 : Int32)) C (by rfl) d1_74 rfl ?_
    refine s_newArr (q := 77) (cap := 3) (cells' := 2) (slots' := 7) C (G.1 _ (List.mem_of_getElem? (i := 0) rfl)) rfl (by decide) (by decide) (by decide) rfl rfl (by decide) (by decide) d1_75 rfl ?_
    intro h69 o70 g_o70 Eh69 V_o70
    replace V_o70 : Ar Z h69 o70 .char [(.int (0 : Int32)), (.int (0 : Int32)), (.int (0 : Int32))] := V_o70
    have ge_o70 : n0 ≤ o70 := by rw [g_o70]; exact Nat.le_trans (Old_le O) Eh67.1
    have ne_o68 : o68 ≠ o70 := Nat.ne_of_lt (by rw [g_o70]; exact A_o68.lt)
    have sz_o70 : h0.size ≤ o70 := by rw [g_o70]; exact Eh67.1
    have K71 : Keep h0 h69 [] := (Keep.of_ext Eh67).ext Eh69
    replace A_o68 := A_o68.ext Eh69
    replace F_value_o68 := F_value_o68.ext Eh69
    replace F_coder_o68 := F_coder_o68.ext Eh69
    refine s_dup (q := 78) C rfl d1_77 rfl ?_
    refine s_iconst (q := 79) (v := (0 : Int32)) C (by rfl) d1_78 rfl ?_
    refine s_aloadN (q := 80) C rfl rfl d1_79 rfl ?_
    refine s_iconst (q := 81) (v := (0 : Int32)) C (by rfl) d1_80 rfl ?_
    refine s_caload (q := 82) (i := 0) (v := (.int x0)) C (Ar_k0 V K71) rfl rfl d1_81 rfl ?_
    refine s_castore (q := 83) (z := x0) (i := 0) C (own_nar hx0.1 hx0.2) V_o70 rfl (own_ltb rfl) ge_o70 d1_82 rfl ?_
    intro h72 Wh72 Vh72
    replace A_o68 := A_o68.wr Wh72
    replace F_value_o68 := F_value_o68.other Wh72 (Or.inl ne_o68)
    replace F_coder_o68 := F_coder_o68.other Wh72 (Or.inl ne_o68)
    have K73 := K71.wr Wh72 (Or.inr sz_o70)
    refine s_dup (q := 84) C rfl d1_83 rfl ?_
    refine s_iconst (q := 85) (v := (1 : Int32)) C (by rfl) d1_84 rfl ?_
    refine s_aloadN (q := 86) C rfl rfl d1_85 rfl ?_
    refine s_iconst (q := 87) (v := (1 : Int32)) C (by rfl) d1_86 rfl ?_
    refine s_caload (q := 88) (i := 1) (v := (.int x1)) C (Ar_k0 V K73) rfl rfl d1_87 rfl ?_
    refine s_castore (q := 89) (z := x1) (i := 1) C (own_nar hx1.1 hx1.2) Vh72 rfl (own_ltb rfl) ge_o70 d1_88 rfl ?_
    intro h74 Wh74 Vh74
    replace A_o68 := A_o68.wr Wh74
    replace F_value_o68 := F_value_o68.other Wh74 (Or.inl ne_o68)
    replace F_coder_o68 := F_coder_o68.other Wh74 (Or.inl ne_o68)
    have K75 := K73.wr Wh74 (Or.inr sz_o70)
    refine s_dup (q := 90) C rfl d1_89 rfl ?_
    refine s_iconst (q := 91) (v := (2 : Int32)) C (by rfl) d1_90 rfl ?_
    refine s_aloadN (q := 92) C rfl rfl d1_91 rfl ?_
    refine s_iconst (q := 93) (v := (2 : Int32)) C (by rfl) d1_92 rfl ?_
    refine s_caload (q := 94) (i := 2) (v := (.int x2)) C (Ar_k0 V K75) rfl rfl d1_93 rfl ?_
    refine s_castore (q := 95) (z := x2) (i := 2) C (own_nar hx2.1 hx2.2) Vh74 rfl (own_ltb rfl) ge_o70 d1_94 rfl ?_
    intro h76 Wh76 Vh76
    replace A_o68 := A_o68.wr Wh76
    replace F_value_o68 := F_value_o68.other Wh76 (Or.inl ne_o68)
    replace F_coder_o68 := F_coder_o68.other Wh76 (Or.inl ne_o68)
    have K77 := K75.wr Wh76 (Or.inr sz_o70)
    have O78 := Old_k0 O K77
    have hL_S1 : L1 [x0, x1, x2] := (own_L1c hx0 (own_L1c hx1 (own_L1c hx2 (fun c hc => absurd hc List.not_mem_nil))))
    have hA_S1 : Ar Z h76 o70 .char (List.map Value.int [x0, x1, x2]) := Vh76
    refine s_callI1 (q := 98) (argsL := [(.ref o70)]) (S := [(.ref o68)]) (W := 1) (cells' := 3) (slots' := 12) (a := o68) C rfl (G.1 _ (List.mem_of_getElem? (i := 8) rfl)) (G.1 _ (List.mem_of_getElem? (i := 9) rfl)) (G.1 _ (List.mem_of_getElem? (i := 7) rfl)) (G.1 _ (List.mem_of_getElem? (i := 10) rfl)) (by decide) (rm_strinit G O78 o68 o70 [x0, x1, x2] A_o68 F_value_o68 F_coder_o68 ge_o68 hA_S1 hL_S1 (own_leb rfl) (by simp)) rfl (lenOf pd_2 rfl) rfl (by decide) (own_leb rfl) (by decide) rfl rfl (by decide) (by decide) (wl := [o68]) (fun _ _ q => q.1) (allS (SfOk.mem (by simp)) (all0)) d1_95 rfl ?_
    rintro _ h79 ⟨Kh79, rfl, S1⟩
    show AtS p l e _ s m _ below meth c Z _ _ n0 _ _ _ h79 3 12 (mkF m 98 #[.val (.ref b), .val (.int (3 : Int32))] [(.ref o68)])
    have K80 : Keep h0 h79 [] := own_K1 K77 Kh79 (Nat.le_of_eq g_o68.symm)
    replace O := Old_k0 O K80
    exact s_retA C G.el rfl rfl rfl d1_98 (by decide) (by decide) ⟨K80, o68, rfl, S1⟩
  · show AtS p l e _ s m _ below meth c Z _ _ n0 _ _ _ h0 0 0 (mkF m 0 #[.val (.ref b), .val (.int (4 : Int32))] [])
    refine s_iloadN (q := 1) C rfl d1_0 rfl ?_
    refine s_if_ne_t (q := 15) C d1_1 (by decide) (by decide) (by decide) ?_
    refine s_iloadN (q := 16) C rfl d1_15 rfl ?_
    refine s_iconst (q := 17) (v := (1 : Int32)) C (by rfl) d1_16 rfl ?_
    refine s_icmp_ne_t (q := 37) C d1_17 (by decide) (by decide) (by decide) ?_
    refine s_iloadN (q := 38) C rfl d1_37 rfl ?_
    refine s_iconst (q := 39) (v := (2 : Int32)) C (by rfl) d1_38 rfl ?_
    refine s_icmp_ne_t (q := 65) C d1_39 (by decide) (by decide) (by decide) ?_
    refine s_iloadN (q := 66) C rfl d1_65 rfl ?_
    refine s_iconst (q := 67) (v := (3 : Int32)) C (by rfl) d1_66 rfl ?_
    refine s_icmp_ne_t (q := 99) C d1_67 (by decide) (by decide) (by decide) ?_
    refine s_iloadN (q := 100) C rfl d1_99 rfl ?_
    refine s_iconst (q := 101) (v := (4 : Int32)) C (by rfl) d1_100 rfl ?_
    refine s_icmp_ne_f (q := 104) C d1_101 rfl (by decide) ?_
    refine s_new (q := 107) (cells' := 1) (slots' := 4) C (G.1 _ (List.mem_of_getElem? (i := 5) rfl)) (G.1 _ (List.mem_of_getElem? (i := 6) rfl)) (G.1 _ (List.mem_of_getElem? (i := 7) rfl)) rfl rfl (by decide) (by decide) d1_104 rfl ?_
    intro h81 o82 g_o82 Eh81 A_o82 D_o82
    have F_coder_o82 : Fld Z h81 o82 "java/lang/String" "coder" "B" (.int (0 : Int32)) := D_o82 (Or.inr (G.1 _ (List.mem_of_getElem? (i := 31) rfl))) (ty := .byte) (by decide)
    have F_value_o82 : Fld Z h81 o82 "java/lang/String" "value" "[B" .null := D_o82 (Or.inr (G.1 _ (List.mem_of_getElem? (i := 33) rfl))) (ty := (.array .byte)) (by decide)
    have ge_o82 : n0 ≤ o82 := by rw [g_o82]; exact Old_le O
    refine s_dup (q := 108) C rfl d1_107 rfl ?_
    refine s_iconst (q := 109) (v := (4 : Int32)) C (by rfl) d1_108 rfl ?_
    refine s_newArr (q := 111) (cap := 4) (cells' := 2) (slots' := 8) C (G.1 _ (List.mem_of_getElem? (i := 0) rfl)) rfl (by decide) (by decide) (by decide) rfl rfl (by decide) (by decide) d1_109 rfl ?_
    intro h83 o84 g_o84 Eh83 V_o84
    replace V_o84 : Ar Z h83 o84 .char [(.int (0 : Int32)), (.int (0 : Int32)), (.int (0 : Int32)), (.int (0 : Int32))] := V_o84
    have ge_o84 : n0 ≤ o84 := by rw [g_o84]; exact Nat.le_trans (Old_le O) Eh81.1
    have ne_o82 : o82 ≠ o84 := Nat.ne_of_lt (by rw [g_o84]; exact A_o82.lt)
    have sz_o84 : h0.size ≤ o84 := by rw [g_o84]; exact Eh81.1
    have K85 : Keep h0 h83 [] := (Keep.of_ext Eh81).ext Eh83
    replace A_o82 := A_o82.ext Eh83
    replace F_value_o82 := F_value_o82.ext Eh83
    replace F_coder_o82 := F_coder_o82.ext Eh83
    refine s_dup (q := 112) C rfl d1_111 rfl ?_
    refine s_iconst (q := 113) (v := (0 : Int32)) C (by rfl) d1_112 rfl ?_
    refine s_aloadN (q := 114) C rfl rfl d1_113 rfl ?_
    refine s_iconst (q := 115) (v := (0 : Int32)) C (by rfl) d1_114 rfl ?_
    refine s_caload (q := 116) (i := 0) (v := (.int x0)) C (Ar_k0 V K85) rfl rfl d1_115 rfl ?_
    refine s_castore (q := 117) (z := x0) (i := 0) C (own_nar hx0.1 hx0.2) V_o84 rfl (own_ltb rfl) ge_o84 d1_116 rfl ?_
    intro h86 Wh86 Vh86
    replace A_o82 := A_o82.wr Wh86
    replace F_value_o82 := F_value_o82.other Wh86 (Or.inl ne_o82)
    replace F_coder_o82 := F_coder_o82.other Wh86 (Or.inl ne_o82)
    have K87 := K85.wr Wh86 (Or.inr sz_o84)
    refine s_dup (q := 118) C rfl d1_117 rfl ?_
    refine s_iconst (q := 119) (v := (1 : Int32)) C (by rfl) d1_118 rfl ?_
    refine s_aloadN (q := 120) C rfl rfl d1_119 rfl ?_
    refine s_iconst (q := 121) (v := (1 : Int32)) C (by rfl) d1_120 rfl ?_
    refine s_caload (q := 122) (i := 1) (v := (.int x1)) C (Ar_k0 V K87) rfl rfl d1_121 rfl ?_
    refine s_castore (q := 123) (z := x1) (i := 1) C (own_nar hx1.1 hx1.2) Vh86 rfl (own_ltb rfl) ge_o84 d1_122 rfl ?_
    intro h88 Wh88 Vh88
    replace A_o82 := A_o82.wr Wh88
    replace F_value_o82 := F_value_o82.other Wh88 (Or.inl ne_o82)
    replace F_coder_o82 := F_coder_o82.other Wh88 (Or.inl ne_o82)
    have K89 := K87.wr Wh88 (Or.inr sz_o84)
    refine s_dup (q := 124) C rfl d1_123 rfl ?_
    refine s_iconst (q := 125) (v := (2 : Int32)) C (by rfl) d1_124 rfl ?_
    refine s_aloadN (q := 126) C rfl rfl d1_125 rfl ?_
    refine s_iconst (q := 127) (v := (2 : Int32)) C (by rfl) d1_126 rfl ?_
    refine s_caload (q := 128) (i := 2) (v := (.int x2)) C (Ar_k0 V K89) rfl rfl d1_127 rfl ?_
    refine s_castore (q := 129) (z := x2) (i := 2) C (own_nar hx2.1 hx2.2) Vh88 rfl (own_ltb rfl) ge_o84 d1_128 rfl ?_
    intro h90 Wh90 Vh90
    replace A_o82 := A_o82.wr Wh90
    replace F_value_o82 := F_value_o82.other Wh90 (Or.inl ne_o82)
    replace F_coder_o82 := F_coder_o82.other Wh90 (Or.inl ne_o82)
    have K91 := K89.wr Wh90 (Or.inr sz_o84)
    refine s_dup (q := 130) C rfl d1_129 rfl ?_
    refine s_iconst (q := 131) (v := (3 : Int32)) C (by rfl) d1_130 rfl ?_
    refine s_aloadN (q := 132) C rfl rfl d1_131 rfl ?_
    refine s_iconst (q := 133) (v := (3 : Int32)) C (by rfl) d1_132 rfl ?_
    refine s_caload (q := 134) (i := 3) (v := (.int x3)) C (Ar_k0 V K91) rfl rfl d1_133 rfl ?_
    refine s_castore (q := 135) (z := x3) (i := 3) C (own_nar hx3.1 hx3.2) Vh90 rfl (own_ltb rfl) ge_o84 d1_134 rfl ?_
    intro h92 Wh92 Vh92
    replace A_o82 := A_o82.wr Wh92
    replace F_value_o82 := F_value_o82.other Wh92 (Or.inl ne_o82)
    replace F_coder_o82 := F_coder_o82.other Wh92 (Or.inl ne_o82)
    have K93 := K91.wr Wh92 (Or.inr sz_o84)
    have O94 := Old_k0 O K93
    have hL_S1 : L1 [x0, x1, x2, x3] := (own_L1c hx0 (own_L1c hx1 (own_L1c hx2 (own_L1c hx3 (fun c hc => absurd hc List.not_mem_nil)))))
    have hA_S1 : Ar Z h92 o84 .char (List.map Value.int [x0, x1, x2, x3]) := Vh92
    refine s_callI1 (q := 138) (argsL := [(.ref o84)]) (S := [(.ref o82)]) (W := 1) (cells' := 3) (slots' := 13) (a := o82) C rfl (G.1 _ (List.mem_of_getElem? (i := 8) rfl)) (G.1 _ (List.mem_of_getElem? (i := 9) rfl)) (G.1 _ (List.mem_of_getElem? (i := 7) rfl)) (G.1 _ (List.mem_of_getElem? (i := 10) rfl)) (by decide) (rm_strinit G O94 o82 o84 [x0, x1, x2, x3] A_o82 F_value_o82 F_coder_o82 ge_o82 hA_S1 hL_S1 (own_leb rfl) (by simp)) rfl (lenOf pd_2 rfl) rfl (by decide) (own_leb rfl) (by decide) rfl rfl (by decide) (by decide) (wl := [o82]) (fun _ _ q => q.1) (allS (SfOk.mem (by simp)) (all0)) d1_135 rfl ?_
    rintro _ h95 ⟨Kh95, rfl, S1⟩
    show AtS p l e _ s m _ below meth c Z _ _ n0 _ _ _ h95 3 13 (mkF m 138 #[.val (.ref b), .val (.int (4 : Int32))] [(.ref o82)])
    have K96 : Keep h0 h95 [] := own_K1 K93 Kh95 (Nat.le_of_eq g_o82.symm)
    replace O := Old_k0 O K96
    exact s_retA C G.el rfl rfl rfl d1_138 (by decide) (by decide) ⟨K96, o82, rfl, S1⟩
  · show AtS p l e _ s m _ below meth c Z _ _ n0 _ _ _ h0 0 0 (mkF m 0 #[.val (.ref b), .val (.int (5 : Int32))] [])
    refine s_iloadN (q := 1) C rfl d1_0 rfl ?_
    refine s_if_ne_t (q := 15) C d1_1 (by decide) (by decide) (by decide) ?_
    refine s_iloadN (q := 16) C rfl d1_15 rfl ?_
    refine s_iconst (q := 17) (v := (1 : Int32)) C (by rfl) d1_16 rfl ?_
    refine s_icmp_ne_t (q := 37) C d1_17 (by decide) (by decide) (by decide) ?_
    refine s_iloadN (q := 38) C rfl d1_37 rfl ?_
    refine s_iconst (q := 39) (v := (2 : Int32)) C (by rfl) d1_38 rfl ?_
    refine s_icmp_ne_t (q := 65) C d1_39 (by decide) (by decide) (by decide) ?_
    refine s_iloadN (q := 66) C rfl d1_65 rfl ?_
    refine s_iconst (q := 67) (v := (3 : Int32)) C (by rfl) d1_66 rfl ?_
    refine s_icmp_ne_t (q := 99) C d1_67 (by decide) (by decide) (by decide) ?_
    refine s_iloadN (q := 100) C rfl d1_99 rfl ?_
    refine s_iconst (q := 101) (v := (4 : Int32)) C (by rfl) d1_100 rfl ?_
    refine s_icmp_ne_t (q := 139) C d1_101 (by decide) (by decide) (by decide) ?_
    refine s_new (q := 142) (cells' := 1) (slots' := 4) C (G.1 _ (List.mem_of_getElem? (i := 5) rfl)) (G.1 _ (List.mem_of_getElem? (i := 6) rfl)) (G.1 _ (List.mem_of_getElem? (i := 7) rfl)) rfl rfl (by decide) (by decide) d1_139 rfl ?_
    intro h97 o98 g_o98 Eh97 A_o98 D_o98
    have F_coder_o98 : Fld Z h97 o98 "java/lang/String" "coder" "B" (.int (0 : Int32)) := D_o98 (Or.inr (G.1 _ (List.mem_of_getElem? (i := 31) rfl))) (ty := .byte) (by decide)
    have F_value_o98 : Fld Z h97 o98 "java/lang/String" "value" "[B" .null := D_o98 (Or.inr (G.1 _ (List.mem_of_getElem? (i := 33) rfl))) (ty := (.array .byte)) (by decide)
    have ge_o98 : n0 ≤ o98 := by rw [g_o98]; exact Old_le O
    refine s_dup (q := 143) C rfl d1_142 rfl ?_
    refine s_iconst (q := 144) (v := (5 : Int32)) C (by rfl) d1_143 rfl ?_
    refine s_newArr (q := 146) (cap := 5) (cells' := 2) (slots' := 9) C (G.1 _ (List.mem_of_getElem? (i := 0) rfl)) rfl (by decide) (by decide) (by decide) rfl rfl (by decide) (by decide) d1_144 rfl ?_
    intro h99 o100 g_o100 Eh99 V_o100
    replace V_o100 : Ar Z h99 o100 .char [(.int (0 : Int32)), (.int (0 : Int32)), (.int (0 : Int32)), (.int (0 : Int32)), (.int (0 : Int32))] := V_o100
    have ge_o100 : n0 ≤ o100 := by rw [g_o100]; exact Nat.le_trans (Old_le O) Eh97.1
    have ne_o98 : o98 ≠ o100 := Nat.ne_of_lt (by rw [g_o100]; exact A_o98.lt)
    have sz_o100 : h0.size ≤ o100 := by rw [g_o100]; exact Eh97.1
    have K101 : Keep h0 h99 [] := (Keep.of_ext Eh97).ext Eh99
    replace A_o98 := A_o98.ext Eh99
    replace F_value_o98 := F_value_o98.ext Eh99
    replace F_coder_o98 := F_coder_o98.ext Eh99
    refine s_dup (q := 147) C rfl d1_146 rfl ?_
    refine s_iconst (q := 148) (v := (0 : Int32)) C (by rfl) d1_147 rfl ?_
    refine s_aloadN (q := 149) C rfl rfl d1_148 rfl ?_
    refine s_iconst (q := 150) (v := (0 : Int32)) C (by rfl) d1_149 rfl ?_
    refine s_caload (q := 151) (i := 0) (v := (.int x0)) C (Ar_k0 V K101) rfl rfl d1_150 rfl ?_
    refine s_castore (q := 152) (z := x0) (i := 0) C (own_nar hx0.1 hx0.2) V_o100 rfl (own_ltb rfl) ge_o100 d1_151 rfl ?_
    intro h102 Wh102 Vh102
    replace A_o98 := A_o98.wr Wh102
    replace F_value_o98 := F_value_o98.other Wh102 (Or.inl ne_o98)
    replace F_coder_o98 := F_coder_o98.other Wh102 (Or.inl ne_o98)
    have K103 := K101.wr Wh102 (Or.inr sz_o100)
    refine s_dup (q := 153) C rfl d1_152 rfl ?_
    refine s_iconst (q := 154) (v := (1 : Int32)) C (by rfl) d1_153 rfl ?_
    refine s_aloadN (q := 155) C rfl rfl d1_154 rfl ?_
    refine s_iconst (q := 156) (v := (1 : Int32)) C (by rfl) d1_155 rfl ?_
    refine s_caload (q := 157) (i := 1) (v := (.int x1)) C (Ar_k0 V K103) rfl rfl d1_156 rfl ?_
    refine s_castore (q := 158) (z := x1) (i := 1) C (own_nar hx1.1 hx1.2) Vh102 rfl (own_ltb rfl) ge_o100 d1_157 rfl ?_
    intro h104 Wh104 Vh104
    replace A_o98 := A_o98.wr Wh104
    replace F_value_o98 := F_value_o98.other Wh104 (Or.inl ne_o98)
    replace F_coder_o98 := F_coder_o98.other Wh104 (Or.inl ne_o98)
    have K105 := K103.wr Wh104 (Or.inr sz_o100)
    refine s_dup (q := 159) C rfl d1_158 rfl ?_
    refine s_iconst (q := 160) (v := (2 : Int32)) C (by rfl) d1_159 rfl ?_
    refine s_aloadN (q := 161) C rfl rfl d1_160 rfl ?_
    refine s_iconst (q := 162) (v := (2 : Int32)) C (by rfl) d1_161 rfl ?_
    refine s_caload (q := 163) (i := 2) (v := (.int x2)) C (Ar_k0 V K105) rfl rfl d1_162 rfl ?_
    refine s_castore (q := 164) (z := x2) (i := 2) C (own_nar hx2.1 hx2.2) Vh104 rfl (own_ltb rfl) ge_o100 d1_163 rfl ?_
    intro h106 Wh106 Vh106
    replace A_o98 := A_o98.wr Wh106
    replace F_value_o98 := F_value_o98.other Wh106 (Or.inl ne_o98)
    replace F_coder_o98 := F_coder_o98.other Wh106 (Or.inl ne_o98)
    have K107 := K105.wr Wh106 (Or.inr sz_o100)
    refine s_dup (q := 165) C rfl d1_164 rfl ?_
    refine s_iconst (q := 166) (v := (3 : Int32)) C (by rfl) d1_165 rfl ?_
    refine s_aloadN (q := 167) C rfl rfl d1_166 rfl ?_
    refine s_iconst (q := 168) (v := (3 : Int32)) C (by rfl) d1_167 rfl ?_
    refine s_caload (q := 169) (i := 3) (v := (.int x3)) C (Ar_k0 V K107) rfl rfl d1_168 rfl ?_
    refine s_castore (q := 170) (z := x3) (i := 3) C (own_nar hx3.1 hx3.2) Vh106 rfl (own_ltb rfl) ge_o100 d1_169 rfl ?_
    intro h108 Wh108 Vh108
    replace A_o98 := A_o98.wr Wh108
    replace F_value_o98 := F_value_o98.other Wh108 (Or.inl ne_o98)
    replace F_coder_o98 := F_coder_o98.other Wh108 (Or.inl ne_o98)
    have K109 := K107.wr Wh108 (Or.inr sz_o100)
    refine s_dup (q := 171) C rfl d1_170 rfl ?_
    refine s_iconst (q := 172) (v := (4 : Int32)) C (by rfl) d1_171 rfl ?_
    refine s_aloadN (q := 173) C rfl rfl d1_172 rfl ?_
    refine s_iconst (q := 174) (v := (4 : Int32)) C (by rfl) d1_173 rfl ?_
    refine s_caload (q := 175) (i := 4) (v := (.int x4)) C (Ar_k0 V K109) rfl rfl d1_174 rfl ?_
    refine s_castore (q := 176) (z := x4) (i := 4) C (own_nar hx4.1 hx4.2) Vh108 rfl (own_ltb rfl) ge_o100 d1_175 rfl ?_
    intro h110 Wh110 Vh110
    replace A_o98 := A_o98.wr Wh110
    replace F_value_o98 := F_value_o98.other Wh110 (Or.inl ne_o98)
    replace F_coder_o98 := F_coder_o98.other Wh110 (Or.inl ne_o98)
    have K111 := K109.wr Wh110 (Or.inr sz_o100)
    have O112 := Old_k0 O K111
    have hL_S1 : L1 [x0, x1, x2, x3, x4] := (own_L1c hx0 (own_L1c hx1 (own_L1c hx2 (own_L1c hx3 (own_L1c hx4 (fun c hc => absurd hc List.not_mem_nil))))))
    have hA_S1 : Ar Z h110 o100 .char (List.map Value.int [x0, x1, x2, x3, x4]) := Vh110
    refine s_callI1 (q := 179) (argsL := [(.ref o100)]) (S := [(.ref o98)]) (W := 1) (cells' := 3) (slots' := 14) (a := o98) C rfl (G.1 _ (List.mem_of_getElem? (i := 8) rfl)) (G.1 _ (List.mem_of_getElem? (i := 9) rfl)) (G.1 _ (List.mem_of_getElem? (i := 7) rfl)) (G.1 _ (List.mem_of_getElem? (i := 10) rfl)) (by decide) (rm_strinit G O112 o98 o100 [x0, x1, x2, x3, x4] A_o98 F_value_o98 F_coder_o98 ge_o98 hA_S1 hL_S1 (own_leb rfl) (by simp)) rfl (lenOf pd_2 rfl) rfl (by decide) (own_leb rfl) (by decide) rfl rfl (by decide) (by decide) (wl := [o98]) (fun _ _ q => q.1) (allS (SfOk.mem (by simp)) (all0)) d1_176 rfl ?_
    rintro _ h113 ⟨Kh113, rfl, S1⟩
    show AtS p l e _ s m _ below meth c Z _ _ n0 _ _ _ h113 3 14 (mkF m 179 #[.val (.ref b), .val (.int (5 : Int32))] [(.ref o98)])
    have K114 : Keep h0 h113 [] := own_K1 K111 Kh113 (Nat.le_of_eq g_o98.symm)
    replace O := Old_k0 O K114
    exact s_retA C G.el rfl rfl rfl d1_179 (by decide) (by decide) ⟨K114, o98, rfl, S1⟩
  · exact absurd hn (by omega)
theorem own_n6 (x : Int32) : ∃ k : Nat, k ≤ 5 ∧ (x &&& (7 : Int32)) % (6 : Int32) = Int32.ofNat k := by
  obtain ⟨j, hj, e⟩ := own_maskN x 7 3 (by decide) (by decide)
  have t : ∀ k : Fin 8, ∃ q : Fin 6, (Int32.ofNat k.val) % (6 : Int32) = Int32.ofNat q.val := by decide +kernel
  obtain ⟨q, hq⟩ := t ⟨j, hj⟩
  exact ⟨q.val, by omega, by rw [e]; exact hq⟩

-- CUT
theorem pf0 : plainFor (⟨"com/example/descriptor/descriptor/TaggedFileReaderIsLanguageCodePinLaw", "law", "(IIIIII)Z"⟩ : MethodName) = true := by first | exact plainFor_of_name (by first | (simp [plainName, overriddenIn]; done) | decide +kernel) | decide +kernel
theorem ef_law (m : MethodId) (z0 : Int32) (z1 : Int32) (z2 : Int32) (z3 : Int32) (z4 : Int32) (z5 : Int32) : entryFrame m #[(.int z0), (.int z1), (.int z2), (.int z3), (.int z4), (.int z5)] maxLocals = mkF m 0 #[.val (.int z0), .val (.int z1), .val (.int z2), .val (.int z3), .val (.int z4), .val (.int z5), .unset, .unset, .unset, .unset, .unset] [] := by first | (simp [entryFrame, mkF, argsToLocals, Value.category, *, maxLocals]; done) | rfl
set_option maxRecDepth 65536 in
set_option maxHeartbeats 40000000 in
theorem rm_law {l : Launch} {Z : State} {a0 : Array Value} {n0 : Nat} (G : Gl Z a0 n0) {h0 : Heap} (O : Old Z n0 h0) (y0 : Int32) (y1 : Int32) (y2 : Int32) (y3 : Int32) (y4 : Int32) (shape : Int32) :
    Cs tables_1 l Z consts_1 n0 x code maxLocals ret room_1 #[(.int y0), (.int y1), (.int y2), (.int y3), (.int y4), (.int shape)] h0 (fun v h => v = some (.int 1)) := by
  refine Cs.intro pf0 ?_
  intro p e s m below meth c C
  refine AtS.cast ?_ (ef_law m y0 y1 y2 y3 y4 shape)
  refine s_iconst (q := 1) (v := (5 : Int32)) C (by rfl) at_0 rfl ?_
  refine s_newArr (q := 3) (cap := 5) (cells' := 1) (slots' := 5) C (G.1 _ (List.mem_of_getElem? (i := 0) rfl)) rfl (by decide) (by decide) (by decide) rfl rfl (by decide) (by decide) at_1 rfl ?_
  intro h115 o116 g_o116 Eh115 V_o116
  replace V_o116 : Ar Z h115 o116 .char [(.int (0 : Int32)), (.int (0 : Int32)), (.int (0 : Int32)), (.int (0 : Int32)), (.int (0 : Int32))] := V_o116
  have ge : n0 ≤ o116 := by rw [g_o116]; exact Old_le O
  have sz : h0.size ≤ o116 := Nat.le_of_eq g_o116.symm
  have KA : Keep h0 h115 [] := Keep.of_ext Eh115
  refine s_dup (q := 4) C rfl at_3 rfl ?_
  refine s_iconst (q := 5) (v := (0 : Int32)) C (by rfl) at_4 rfl ?_
  refine s_iloadN (q := 6) C rfl at_5 rfl ?_
  refine s_sipush (q := 9) (v := (255 : Int32)) C (by rfl) at_6 rfl ?_
  refine s_iand (q := 10) C rfl at_9 rfl ?_
  refine s_i2c (q := 11) C rfl at_10 rfl ?_
  rw [show ((y0 &&& (255 : Int32)).toUInt32.toUInt16.toUInt32.toInt32) = (y0 &&& (255 : Int32)) from own_i2c (own_255 y0)]
  generalize hx0 : (y0 &&& (255 : Int32)) = x0
  have hr0 : ¬ x0 < 0 ∧ ¬ 255 < x0 := by rw [← hx0]; exact own_255 y0
  refine s_castore (q := 12) (z := x0) (i := 0) C (own_nar hr0.1 hr0.2) V_o116 rfl (own_ltb rfl) ge at_11 rfl ?_
  intro h117 Wh117 Vh117
  have K118 := KA.wr Wh117 (Or.inr sz)
  refine s_dup (q := 13) C rfl at_12 rfl ?_
  refine s_iconst (q := 14) (v := (1 : Int32)) C (by rfl) at_13 rfl ?_
  refine s_iloadN (q := 15) C rfl at_14 rfl ?_
  refine s_sipush (q := 18) (v := (255 : Int32)) C (by rfl) at_15 rfl ?_
  refine s_iand (q := 19) C rfl at_18 rfl ?_
  refine s_i2c (q := 20) C rfl at_19 rfl ?_
  rw [show ((y1 &&& (255 : Int32)).toUInt32.toUInt16.toUInt32.toInt32) = (y1 &&& (255 : Int32)) from own_i2c (own_255 y1)]
  generalize hx1 : (y1 &&& (255 : Int32)) = x1
  have hr1 : ¬ x1 < 0 ∧ ¬ 255 < x1 := by rw [← hx1]; exact own_255 y1
  refine s_castore (q := 21) (z := x1) (i := 1) C (own_nar hr1.1 hr1.2) Vh117 rfl (own_ltb rfl) ge at_20 rfl ?_
  intro h119 Wh119 Vh119
  have K120 := K118.wr Wh119 (Or.inr sz)
  refine s_dup (q := 22) C rfl at_21 rfl ?_
  refine s_iconst (q := 23) (v := (2 : Int32)) C (by rfl) at_22 rfl ?_
  refine s_iloadN (q := 24) C rfl at_23 rfl ?_
  refine s_sipush (q := 27) (v := (255 : Int32)) C (by rfl) at_24 rfl ?_
  refine s_iand (q := 28) C rfl at_27 rfl ?_
  refine s_i2c (q := 29) C rfl at_28 rfl ?_
  rw [show ((y2 &&& (255 : Int32)).toUInt32.toUInt16.toUInt32.toInt32) = (y2 &&& (255 : Int32)) from own_i2c (own_255 y2)]
  generalize hx2 : (y2 &&& (255 : Int32)) = x2
  have hr2 : ¬ x2 < 0 ∧ ¬ 255 < x2 := by rw [← hx2]; exact own_255 y2
  refine s_castore (q := 30) (z := x2) (i := 2) C (own_nar hr2.1 hr2.2) Vh119 rfl (own_ltb rfl) ge at_29 rfl ?_
  intro h121 Wh121 Vh121
  have K122 := K120.wr Wh121 (Or.inr sz)
  refine s_dup (q := 31) C rfl at_30 rfl ?_
  refine s_iconst (q := 32) (v := (3 : Int32)) C (by rfl) at_31 rfl ?_
  refine s_iloadN (q := 33) C rfl at_32 rfl ?_
  refine s_sipush (q := 36) (v := (255 : Int32)) C (by rfl) at_33 rfl ?_
  refine s_iand (q := 37) C rfl at_36 rfl ?_
  refine s_i2c (q := 38) C rfl at_37 rfl ?_
  rw [show ((y3 &&& (255 : Int32)).toUInt32.toUInt16.toUInt32.toInt32) = (y3 &&& (255 : Int32)) from own_i2c (own_255 y3)]
  generalize hx3 : (y3 &&& (255 : Int32)) = x3
  have hr3 : ¬ x3 < 0 ∧ ¬ 255 < x3 := by rw [← hx3]; exact own_255 y3
  refine s_castore (q := 39) (z := x3) (i := 3) C (own_nar hr3.1 hr3.2) Vh121 rfl (own_ltb rfl) ge at_38 rfl ?_
  intro h123 Wh123 Vh123
  have K124 := K122.wr Wh123 (Or.inr sz)
  refine s_dup (q := 40) C rfl at_39 rfl ?_
  refine s_iconst (q := 41) (v := (4 : Int32)) C (by rfl) at_40 rfl ?_
  refine s_iload (q := 43) C rfl at_41 rfl ?_
  refine s_sipush (q := 46) (v := (255 : Int32)) C (by rfl) at_43 rfl ?_
  refine s_iand (q := 47) C rfl at_46 rfl ?_
  refine s_i2c (q := 48) C rfl at_47 rfl ?_
  rw [show ((y4 &&& (255 : Int32)).toUInt32.toUInt16.toUInt32.toInt32) = (y4 &&& (255 : Int32)) from own_i2c (own_255 y4)]
  generalize hx4 : (y4 &&& (255 : Int32)) = x4
  have hr4 : ¬ x4 < 0 ∧ ¬ 255 < x4 := by rw [← hx4]; exact own_255 y4
  refine s_castore (q := 49) (z := x4) (i := 4) C (own_nar hr4.1 hr4.2) Vh123 rfl (own_ltb rfl) ge at_48 rfl ?_
  intro h125 Wh125 Vh125
  have K126 := K124.wr Wh125 (Or.inr sz)
  replace O := Old_k0 O K126
  have V : Ar Z h125 o116 .char (List.map Value.int [x0, x1, x2, x3, x4]) := Vh125
  have hL : L1 [x0, x1, x2, x3, x4] := (own_L1c hr0 (own_L1c hr1 (own_L1c hr2 (own_L1c hr3 (own_L1c hr4 (fun c hc => absurd hc List.not_mem_nil))))))
  refine s_astore (q := 51) (L' := #[.val (.int y0), .val (.int y1), .val (.int y2), .val (.int y3), .val (.int y4), .val (.int shape), .val (.ref o116), .unset, .unset, .unset, .unset]) C rfl rfl at_49 rfl ?_
  refine s_iload (q := 53) C rfl at_51 rfl ?_
  refine s_bipush (q := 55) (v := (7 : Int32)) C (by rfl) at_53 rfl ?_
  refine s_iand (q := 56) C rfl at_55 rfl ?_
  refine s_bipush (q := 58) (v := (6 : Int32)) C (by rfl) at_56 rfl ?_
  refine s_irem (q := 59) C (by decide) rfl at_58 rfl ?_
  obtain ⟨k, hk, ek⟩ := own_n6 shape
  rw [show ((shape &&& (7 : Int32)) % (6 : Int32)) = (Int32.ofNat k) from ek]
  refine s_istore (q := 61) (L' := #[.val (.int y0), .val (.int y1), .val (.int y2), .val (.int y3), .val (.int y4), .val (.int shape), .val (.ref o116), .val (.int (Int32.ofNat k)), .unset, .unset, .unset]) C rfl at_59 rfl ?_
  refine s_iload (q := 63) C rfl at_61 rfl ?_
  refine s_iconst (q := 64) (v := (3 : Int32)) C (by rfl) at_63 rfl ?_
  refine s_iushr (q := 65) C rfl at_64 rfl ?_
  refine s_bipush (q := 67) (v := (7 : Int32)) C (by rfl) at_65 rfl ?_
  refine s_iand (q := 68) C rfl at_67 rfl ?_
  obtain ⟨j, hj, ej⟩ := own_maskN ((shape.toUInt32 >>> ((3 : Int32) &&& 31).toUInt32).toInt32) 7 3 (by decide) (by decide)
  have hj7 : j ≤ 7 := by omega
  rw [show (((shape.toUInt32 >>> ((3 : Int32) &&& 31).toUInt32).toInt32) &&& (7 : Int32)) = (Int32.ofNat j) from ej]
  refine s_istore (q := 70) (L' := #[.val (.int y0), .val (.int y1), .val (.int y2), .val (.int y3), .val (.int y4), .val (.int shape), .val (.ref o116), .val (.int (Int32.ofNat k)), .val (.int (Int32.ofNat j)), .unset, .unset]) C rfl at_68 rfl ?_
  refine s_aload (q := 72) C rfl rfl at_70 rfl ?_
  refine s_iload (q := 74) C rfl at_72 rfl ?_
  refine s_callS2 (q := 77) (argsL := [(.ref o116), (.int (Int32.ofNat k))]) (S := []) (W := 0) (cells' := 7) (slots' := 19) C G.el (G.1 _ (List.mem_of_getElem? (i := 1) rfl)) (G.1 _ (List.mem_of_getElem? (i := 2) rfl)) (G.1 _ (List.mem_of_getElem? (i := 3) rfl)) (G.1 _ (List.mem_of_getElem? (i := 4) rfl)) (by decide) (rm_make G O o116 x0 x1 x2 x3 x4 k V hL hk) rfl (lenOf pd_1 rfl) rfl (by decide) (own_leb rfl) (by decide) rfl rfl (by decide) (by decide) at_74 rfl ?_
  rintro _ h127 ⟨Kh127, a, rfl, S⟩
  show AtS p l e _ s m _ below meth c Z _ _ n0 _ _ _ h127 7 19 (mkF m 77 #[.val (.int y0), .val (.int y1), .val (.int y2), .val (.int y3), .val (.int y4), .val (.int shape), .val (.ref o116), .val (.int (Int32.ofNat k)), .val (.int (Int32.ofNat j)), .unset, .unset] [(.ref a)])
  replace O := Old_k0 O Kh127
  replace V := Ar_k0 V Kh127
  have hlen : ([x0, x1, x2, x3, x4].take k).length = k := by rw [List.length_take]; exact Nat.min_eq_left (by simpa using hk)
  have E := S.1
  refine s_astore (q := 79) (L' := #[.val (.int y0), .val (.int y1), .val (.int y2), .val (.int y3), .val (.int y4), .val (.int shape), .val (.ref o116), .val (.int (Int32.ofNat k)), .val (.int (Int32.ofNat j)), .val (.ref a), .unset]) C rfl rfl at_77 rfl ?_
  refine s_iload (q := 81) C rfl at_79 rfl ?_
  refine s_iconst (q := 82) (v := (1 : Int32)) C (by rfl) at_81 rfl ?_
  refine s_iadd (q := 83) C rfl at_82 rfl ?_
  rw [show ((Int32.ofNat j) + (1 : Int32)) = (Int32.ofNat (j + 1)) from own_one j]
  refine s_iload (q := 85) C rfl at_83 rfl ?_
  have J : ∀ ex : Int32, ex = own_lang ([x0, x1, x2, x3, x4].take k) j → AtS p l e room_1 s m #[(.int y0), (.int y1), (.int y2), (.int y3), (.int y4), (.int shape)] below meth c Z consts_1 "com/example/descriptor/descriptor/TaggedFileReaderIsLanguageCodePinLaw" n0 (fun v h => v = some (.int 1)) h127.size [o116] h127 7 19 (mkF m 117 #[.val (.int y0), .val (.int y1), .val (.int y2), .val (.int y3), .val (.int y4), .val (.int shape), .val (.ref o116), .val (.int (Int32.ofNat k)), .val (.int (Int32.ofNat j)), .val (.ref a), .unset] [(.int ex)]) := by
    intro ex hex
    refine s_istore (q := 119) (L' := #[.val (.int y0), .val (.int y1), .val (.int y2), .val (.int y3), .val (.int y4), .val (.int shape), .val (.ref o116), .val (.int (Int32.ofNat k)), .val (.int (Int32.ofNat j)), .val (.ref a), .val (.int ex)]) C rfl at_117 rfl ?_
    refine s_aload (q := 121) C rfl rfl at_119 rfl ?_
    refine s_iload (q := 123) C rfl at_121 rfl ?_
    refine s_callS1 (q := 126) (argsL := [(.ref a), (.int (Int32.ofNat j))]) (S := []) (W := 0) (cells' := 7) (slots' := 19) C (G.1 _ (List.mem_of_getElem? (i := 37) rfl)) (G.1 _ (List.mem_of_getElem? (i := 38) rfl)) (G.1 _ (List.mem_of_getElem? (i := 39) rfl)) (G.1 _ (List.mem_of_getElem? (i := 40) rfl)) (by decide) (rm_isLang G O a _ j S hj7) rfl (lenOf pd_9 rfl) rfl (by decide) (own_leb rfl) (by decide) rfl rfl (by decide) (by decide) (wl := []) (fun _ _ q => by rw [q.1]; exact Keep.refl _ _) all0 at_123 rfl ?_
    rintro _ h128 ⟨eh129, rfl⟩
    rw [eh129]
    show AtS p l e _ s m _ below meth c Z _ _ n0 _ _ _ h127 7 19 (mkF m 126 #[.val (.int y0), .val (.int y1), .val (.int y2), .val (.int y3), .val (.int y4), .val (.int shape), .val (.ref o116), .val (.int (Int32.ofNat k)), .val (.int (Int32.ofNat j)), .val (.ref a), .val (.int ex)] [(.int (own_lang ([x0, x1, x2, x3, x4].take k) j))])
    refine s_iload (q := 128) C rfl at_126 rfl ?_
    refine s_icmp_ne_f (q := 131) C at_128 rfl hex.symm ?_
    refine s_iconst (q := 132) (v := (1 : Int32)) C (by rfl) at_131 rfl ?_
    refine s_goto (q := 136) C at_132 (by decide) (by decide) ?_
    exact s_retZ (z := (1 : Int32)) C G.el (t := .boolean) rfl (by simp) (by decide) at_136 (by decide) (by decide) rfl
  by_cases h1 : (Int32.ofNat (j + 1)) < (Int32.ofNat k)
  · refine s_icmp_ge_f (q := 88) C at_85 rfl h1 ?_
    rw [own_nlt (by omega) (by omega)] at h1
    obtain ⟨c1, e1⟩ : ∃ c, ([x0, x1, x2, x3, x4].take k)[j]? = some c := ⟨_, List.getElem?_eq_getElem (by omega)⟩
    obtain ⟨c2, e2⟩ : ∃ c, ([x0, x1, x2, x3, x4].take k)[j + 1]? = some c := ⟨_, List.getElem?_eq_getElem (by omega)⟩
    have f1 : [x0, x1, x2, x3, x4][j]? = some c1 := by rw [← e1, List.getElem?_take, if_pos (by omega)]
    have f2 : [x0, x1, x2, x3, x4][j + 1]? = some c2 := by rw [← e2, List.getElem?_take, if_pos (by omega)]
    refine s_aload (q := 90) C rfl rfl at_88 rfl ?_
    refine s_iload (q := 92) C rfl at_90 rfl ?_
    refine s_caload (q := 93) (i := j) (v := (.int c1)) C V rfl (by rw [List.getElem?_map, f1]; rfl) at_92 rfl ?_
    refine s_callS1 (q := 96) (argsL := [(.int c1)]) (S := []) (W := 0) (cells' := 7) (slots' := 19) C (G.1 _ (List.mem_of_getElem? (i := 34) rfl)) (G.1 _ (List.mem_of_getElem? (i := 35) rfl)) (G.1 _ (List.mem_of_getElem? (i := 3) rfl)) (G.1 _ (List.mem_of_getElem? (i := 36) rfl)) (by decide) (rm_lower G O c1) rfl (lenOf pd_8 rfl) rfl (by decide) (own_leb rfl) (by decide) rfl rfl (by decide) (by decide) (wl := []) (fun _ _ q => by rw [q.1]; exact Keep.refl _ _) all0 at_93 rfl ?_
    rintro _ h130 ⟨eh131, rfl⟩
    rw [eh131]
    show AtS p l e _ s m _ below meth c Z _ _ n0 _ _ _ h127 7 19 (mkF m 96 #[.val (.int y0), .val (.int y1), .val (.int y2), .val (.int y3), .val (.int y4), .val (.int shape), .val (.ref o116), .val (.int (Int32.ofNat k)), .val (.int (Int32.ofNat j)), .val (.ref a), .unset] [(.int (own_low c1))])
    by_cases h2 : (own_low c1) = 0
    · refine s_if_eq_t (q := 116) C at_96 (by decide) (by decide) h2 ?_
      refine s_iconst (q := 117) (v := (0 : Int32)) C (by rfl) at_116 rfl ?_
      exact J _ (by simp only [own_lang, e1, e2]; simp [*])
    · refine s_if_eq_f (q := 99) C at_96 rfl h2 ?_
      refine s_aload (q := 101) C rfl rfl at_99 rfl ?_
      refine s_iload (q := 103) C rfl at_101 rfl ?_
      refine s_iconst (q := 104) (v := (1 : Int32)) C (by rfl) at_103 rfl ?_
      refine s_iadd (q := 105) C rfl at_104 rfl ?_
      rw [show ((Int32.ofNat j) + (1 : Int32)) = (Int32.ofNat (j + 1)) from own_one j]
      refine s_caload (q := 106) (i := (j + 1)) (v := (.int c2)) C V rfl (by rw [List.getElem?_map, f2]; rfl) at_105 rfl ?_
      refine s_callS1 (q := 109) (argsL := [(.int c2)]) (S := []) (W := 0) (cells' := 7) (slots' := 19) C (G.1 _ (List.mem_of_getElem? (i := 34) rfl)) (G.1 _ (List.mem_of_getElem? (i := 35) rfl)) (G.1 _ (List.mem_of_getElem? (i := 3) rfl)) (G.1 _ (List.mem_of_getElem? (i := 36) rfl)) (by decide) (rm_lower G O c2) rfl (lenOf pd_8 rfl) rfl (by decide) (own_leb rfl) (by decide) rfl rfl (by decide) (by decide) (wl := []) (fun _ _ q => by rw [q.1]; exact Keep.refl _ _) all0 at_106 rfl ?_
      rintro _ h132 ⟨eh133, rfl⟩
      rw [eh133]
      show AtS p l e _ s m _ below meth c Z _ _ n0 _ _ _ h127 7 19 (mkF m 109 #[.val (.int y0), .val (.int y1), .val (.int y2), .val (.int y3), .val (.int y4), .val (.int shape), .val (.ref o116), .val (.int (Int32.ofNat k)), .val (.int (Int32.ofNat j)), .val (.ref a), .unset] [(.int (own_low c2))])
      by_cases h3 : (own_low c2) = 0
      · refine s_if_eq_t (q := 116) C at_109 (by decide) (by decide) h3 ?_
        refine s_iconst (q := 117) (v := (0 : Int32)) C (by rfl) at_116 rfl ?_
        exact J _ (by simp only [own_lang, e1, e2]; simp [*])
      · refine s_if_eq_f (q := 112) C at_109 rfl h3 ?_
        refine s_iconst (q := 113) (v := (1 : Int32)) C (by rfl) at_112 rfl ?_
        refine s_goto (q := 117) C at_113 (by decide) (by decide) ?_
        exact J _ (by simp only [own_lang, e1, e2]; simp [*])
  · refine s_icmp_ge_t (q := 116) C at_85 (by decide) (by decide) h1 ?_
    refine s_iconst (q := 117) (v := (0 : Int32)) C (by rfl) at_116 rfl ?_
    exact J _ (by rw [own_nlt (by omega) (by omega)] at h1; unfold own_lang; rw [List.getElem?_eq_none (show ([x0, x1, x2, x3, x4].take k).length ≤ j + 1 by omega)]; split <;> simp_all)
set_option maxRecDepth 65536 in
set_option maxHeartbeats 40000000 in
theorem comes_1 {Post : Tables → Env → Array Value → State → Outcome → State → Prop} (hpost : ∀ tb e args s v u, (limb_1_1.after args s (.returned v) u = true ∧ limb_1_2.after args s (.returned v) u = true ∧ True) → ReturnedEndW s (.returned v) u (Jvm.fieldLocs frame_1_writes args s ++ Jvm.arrayLocs frame_1_arrays args s ++ Jvm.staticLocs frame_1_statics s) 24 1152 → Post tb e args s (.returned v) u) :
    ArmFor flags0 classFile x code maxLocals ret World_1 tables_1 room_1 Calls_1 rest_1 Pre_1 Post := by
  intro l hfl _ _ p e ha hc hk s m args below hf hA hF happ hP
  obtain ⟨hcalls, hrest, hpre⟩ := hP
  obtain ⟨-, -, -, hnamed, -, -, -, hat⟩ := (Spec.applies_iff hf).mp happ
  obtain ⟨hg, hn⟩ := and_e (Cond.before_iff.mp (show (Jvm.Cond.and given_1 narrow_1).before args s = true from hpre))
  obtain ⟨hcount, hg0⟩ := and_e hg
  obtain ⟨ha0, hg1⟩ := and_e hg0
  obtain ⟨ha1, hg2⟩ := and_e hg1
  obtain ⟨ha2, hg3⟩ := and_e hg2
  obtain ⟨ha3, hg4⟩ := and_e hg3
  obtain ⟨ha4, hg5⟩ := and_e hg4
  have ha5 := hg5
  obtain ⟨w0, w1, w2, w3, w4, w5, rfl⟩ : ∃ w0 w1 w2 w3 w4 w5 : Value, args = #[w0, w1, w2, w3, w4, w5] := by
    have hs : args.size = 6 := by simpa [Cond.value, given_1] using hcount
    obtain ⟨L⟩ := args
    match L, hs with
    | [w0, w1, w2, w3, w4, w5], _ => exact ⟨w0, w1, w2, w3, w4, w5, rfl⟩
  have hw := fun d (hd : d ∈ tables_1) => atoms_spec (ws := Jvm.Cond.code x code maxLocals ret :: tables_1) hat d (List.mem_cons_of_mem _ hd)
  have hfit : Fit s := fun {y c} hc i hi => by
    obtain ⟨ha, rfl⟩ := Array.getElem?_eq_some_iff.mp hc
    have q := List.all_eq_true.mp ((Array.all_eq_true_iff_forall_mem.mp hF) _ (Array.getElem_mem ha)) i (List.mem_range.mpr hi)
    simpa [Array.getElem?_eq_getElem hi] using q
  obtain ⟨i0, e0⟩ := is_v ha0
  obtain rfl : w0 = (.int i0) := Option.some.inj e0
  obtain ⟨i1, e1⟩ := is_v ha1
  obtain rfl : w1 = (.int i1) := Option.some.inj e1
  obtain ⟨i2, e2⟩ := is_v ha2
  obtain rfl : w2 = (.int i2) := Option.some.inj e2
  obtain ⟨i3, e3⟩ := is_v ha3
  obtain rfl : w3 = (.int i3) := Option.some.inj e3
  obtain ⟨i4, e4⟩ := is_v ha4
  obtain rfl : w4 = (.int i4) := Option.some.inj e4
  obtain ⟨i5, e5⟩ := is_v ha5
  obtain rfl : w5 = (.int i5) := Option.some.inj e5
  obtain ⟨hsets, hown0⟩ := atoms_of _ (rest_1_c_eq ▸ (show rest_1_c.before _ s = true from hrest))
  have hcs1 := not_v (Cond.before_iff.mp (hsets _ (List.mem_of_getElem? (i := 2) rfl)))
  obtain ⟨zc, ezc⟩ := is_v (Cond.before_iff.mp (hsets _ (List.mem_of_getElem? (i := 1) rfl)))
  have Scs : Sta s s.heap "java/lang/String" "COMPACT_STRINGS" "Z" (.int zc) := Sta.start ezc (Or.inl (hsets _ (List.mem_of_getElem? (i := 0) rfl)))
  have hzc : ¬ (zc = (0 : Int32)) := gotF (Cond.eq_ints ezc (Term.int_eval (0))) hcs1
  obtain ⟨vfm, efm, rfm⟩ := isR_v (Cond.before_iff.mp (hsets _ (List.mem_of_getElem? (i := 8) rfl)))
  have Sfm : Sta s s.heap "jdk/internal/util/Preconditions" "SIOOBE_FORMATTER" "Ljava/util/function/BiFunction;" vfm := Sta.start efm (Or.inl (hsets _ (List.mem_of_getElem? (i := 7) rfl)))
  have hEL : EW s #[(.int i0), (.int i1), (.int i2), (.int i3), (.int i4), (.int i5)] consts_1 := (EW.cons (hw _ (List.mem_of_getElem? (i := 76) rfl)) (by decide +kernel) EW.nil)
  have G : Gl s #[(.int i0), (.int i1), (.int i2), (.int i3), (.int i4), (.int i5)] s.heap.size := ⟨hw, ⟨zc, Scs, hzc⟩, ⟨vfm, Sfm, rfm, by rcases ref_cases rfm with rfl | ⟨a, rfl⟩ <;> rfl⟩, hEL, trivial⟩
  have hCH : CHv s consts_1 s.vm s.heap := CHv.start hEL (fun q hq => hcalls.1 q hq) (show Jvm.Lit.compactW.before #[(.int i0), (.int i1), (.int i2), (.int i3), (.int i4), (.int i5)] s = true from (hsets _ (List.mem_of_getElem? (i := 2) rfl))) (G.sa _ (by simp [Bundle.stringAtoms])) (G.sa _ (by simp [Bundle.stringAtoms, Bundle.sN]))
  obtain ⟨n, o, h1, h2, h3, v, L, rfl, ⟨N, hQ⟩, -, hq⟩ := rm_law (l := l) G (Old.start s) i0 i1 i2 i3 i4 i5 p e ha hc hk s m _ below hf ((Spec.applies_iff_loose hf).mp happ).1 ⟨rfl, State.Warmed39.refl s, rfl, hCH⟩ trivial
  obtain rfl : v = some (.int 1) := hQ
  refine ⟨n, _, h1, h2, h3, hpost _ _ _ _ _ _ ⟨Cond.after_iff.mpr rfl, Cond.after_iff.mpr (eq_i res_at (Term.int_eval (1)) rfl), trivial⟩ ⟨hq.1, hq.2.1, hq.2.2.1, (hq.2.2.2.sift fun y hy => Or.inr (N y hy)).mono (by decide) (by decide)⟩⟩
theorem main_1_1 : Claimed_1_1 := comes_1 fun _ _ _ _ _ _ h hF => ⟨h.1, hF⟩
theorem main_1_2 : Claimed_1_2 := comes_1 fun _ _ _ _ _ _ h hF => ⟨h.2.1, hF⟩
end Jvm.Pilot.@@N@@
namespace Jvm.Pilot.@@N@@
open Jvm Jvm.ClassFile Sem Op Lib Jvm.Free Jvm.Stand Jvm.Pilot.@@N@@.Jvm.D
/-! MADE BY PROGRAM (witnessworld.py) out of the Statement's table words and the real class files: 23 classes; the members and pool entries that the words name. The judged class is class 1, her method 1. -/
namespace start1
open Jvm.ClassFile
def u (s : String) : CpInfo := .utf8 (stringToUtf16 s)
/-- a pool by its gaps: so many unusable entries, then the entry; so many at the end -/
def gap : Nat → List CpInfo → List CpInfo
  | 0, r => r
  | n + 1, r => .unusable :: gap n r
def poolList (es : List (Nat × CpInfo)) (last : Nat) : List CpInfo := es.foldr (fun e r => gap e.1 (e.2 :: r)) (gap last [])
def pool (es : List (Nat × CpInfo)) (last : Nat) : Array CpInfo := ⟨poolList es last⟩
def fileOf (pool : Array CpInfo) (this : Nat) (attrs : Array Attribute := #[]) (ms : Array MethodInfo := #[]) (fl : Nat := 33) (sup : Nat := 0) (ifs : Array Nat := #[]) (fds : Array FieldInfo := #[]) : ClassFile where
  minorVersion := 0
  majorVersion := 65
  constantPool := pool
  accessFlags := fl
  thisClass := this
  superClass := sup
  interfaces := ifs
  fields := fds
  methods := ms
  attributes := attrs
def plain (name : String) (sup : Option ClassId) : Class where
  name := name
  kind := .ordinary
  loader := none
  accessFlags := 33
  super := sup
  interfaces := #[]
  cf := none
  fields := #[]
  methods := #[]
  instanceTypes := #[]
  staticTypes := #[]
  resolved := #[]
  callSites := []
  init := .initialized
  statics := none
  mirror := none

def pool0 : Array CpInfo := pool [(5, u "<init>"), (0, u "()V"), (1, .class_ 10), (1, u "java/lang/Object")] 113

def k0c0 : Code := { maxStack := 0, maxLocals := 1, code := object_method_1_code, exceptionTable := #[], attributes := #[] }
def k0m0 : Method := { name := "<init>", desc := "()V", sig := { parameters := [], returnType := none }, accessFlags := 1, code := some k0c0 }
/-- java/lang/Object -/
def k0 : Class := { plain "java/lang/Object" none with
  accessFlags := 33
  interfaces := #[]
  cf := some (fileOf pool0 8 #[] #[{ accessFlags := 1, nameIndex := 5, descriptorIndex := 6, attributes := #[] }] 33 0 #[] #[])
  fields := #[]
  methods := #[k0m0]
  instanceTypes := #[]
  staticTypes := #[]
  resolved := Array.replicate 124 none
  statics := none }

def pool1 : Array CpInfo := pool [(2, .class_ 4), (1, u "java/lang/Object"), (0, u "<init>"), (0, u "()V"), (0, .methodref 8 9), (0, .class_ 10), (0, .nameAndType 11 12), (0, u "com/example/descriptor/descriptor/TaggedFileReaderIsLanguageCodePinLaw"), (0, u "make"), (0, u "([CI)Ljava/lang/String;"), (0, .methodref 8 14), (0, .nameAndType 15 16), (0, u "lower"), (0, u "(C)Z"), (0, .methodref 18 19), (0, .class_ 20), (0, .nameAndType 21 22), (0, u "com/example/descriptor/descriptor/TaggedFileReader"), (0, u "isLanguageCode"), (0, u "(Ljava/lang/String;I)Z"), (0, .class_ 24), (0, u "java/lang/String"), (0, .methodref 23 26), (0, .nameAndType 5 27), (0, u "([C)V"), (2, u "law"), (0, u "(IIIIII)Z")] 5

def k1m0 : Method := { name := "<init>", desc := "()V", sig := { parameters := [], returnType := none }, accessFlags := 1, code := none }
def k1c1 : Code := { maxStack := 5, maxLocals := 11, code := code, exceptionTable := #[], attributes := #[] }
def k1m1 : Method := { name := "law", desc := "(IIIIII)Z", sig := { parameters := [.int, .int, .int, .int, .int, .int], returnType := some .boolean }, accessFlags := 9, code := some k1c1 }
def k1c2 : Code := { maxStack := 2, maxLocals := 1, code := method_3_code, exceptionTable := #[], attributes := #[] }
def k1m2 : Method := { name := "lower", desc := "(C)Z", sig := { parameters := [.char], returnType := some .boolean }, accessFlags := 10, code := some k1c2 }
def k1c3 : Code := { maxStack := 7, maxLocals := 2, code := method_4_code, exceptionTable := #[], attributes := #[] }
def k1m3 : Method := { name := "make", desc := "([CI)Ljava/lang/String;", sig := { parameters := [(.array .char), .int], returnType := some (.object "java/lang/String") }, accessFlags := 10, code := some k1c3 }
/-- com/example/descriptor/descriptor/TaggedFileReaderIsLanguageCodePinLaw -/
def k1 : Class := { plain "com/example/descriptor/descriptor/TaggedFileReaderIsLanguageCodePinLaw" (some 0) with
  accessFlags := 49
  interfaces := #[]
  cf := some (fileOf pool1 8 #[] #[{ accessFlags := 1, nameIndex := 5, descriptorIndex := 6, attributes := #[] }, { accessFlags := 9, nameIndex := 30, descriptorIndex := 31, attributes := #[] }, { accessFlags := 10, nameIndex := 15, descriptorIndex := 16, attributes := #[] }, { accessFlags := 10, nameIndex := 11, descriptorIndex := 12, attributes := #[] }] 49 2 #[] #[])
  fields := #[]
  methods := #[k1m0, k1m1, k1m2, k1m3]
  instanceTypes := #[]
  staticTypes := #[]
  resolved := Array.replicate 37 none
  statics := none }

def pool2 : Array CpInfo := pool [(1, .class_ 2), (0, u "java/io/Serializable"), (0, .class_ 4), (0, u "java/lang/Object")] 2

/-- java/io/Serializable -/
def k2 : Class := { plain "java/io/Serializable" (some 0) with
  accessFlags := 1537
  interfaces := #[]
  cf := some (fileOf pool2 1 #[] #[] 1537 3 #[] #[])
  fields := #[]
  methods := #[]
  instanceTypes := #[]
  staticTypes := #[]
  resolved := Array.replicate 7 none
  statics := none }

def pool3 : Array CpInfo := pool [(1, .class_ 2), (0, u "java/lang/Comparable"), (0, .class_ 4), (0, u "java/lang/Object")] 7

/-- java/lang/Comparable -/
def k3 : Class := { plain "java/lang/Comparable" (some 0) with
  accessFlags := 1537
  interfaces := #[]
  cf := some (fileOf pool3 1 #[] #[] 1537 3 #[] #[])
  fields := #[]
  methods := #[]
  instanceTypes := #[]
  staticTypes := #[]
  resolved := Array.replicate 12 none
  statics := none }

def pool4 : Array CpInfo := pool [(2, .class_ 4), (1, u "java/lang/CharSequence"), (42, .class_ 48), (0, u "java/lang/CharSequence$1CodePointIterator"), (10, .class_ 60), (0, u "java/lang/CharSequence$1CharIterator"), (5, .class_ 67), (0, u "java/lang/Object")] 63

/-- java/lang/CharSequence -/
def k4 : Class := { plain "java/lang/CharSequence" (some 0) with
  accessFlags := 1537
  interfaces := #[]
  cf := some (fileOf pool4 2 #[.nestMembers #[47, 59]] #[] 1537 66 #[] #[])
  fields := #[]
  methods := #[]
  instanceTypes := #[]
  staticTypes := #[]
  resolved := Array.replicate 131 none
  statics := none }

def pool5 : Array CpInfo := pool [(1, .class_ 2), (0, u "java/lang/constant/Constable"), (0, .class_ 4), (0, u "java/lang/Object")] 6

/-- java/lang/constant/Constable -/
def k5 : Class := { plain "java/lang/constant/Constable" (some 0) with
  accessFlags := 1537
  interfaces := #[]
  cf := some (fileOf pool5 1 #[] #[] 1537 3 #[] #[])
  fields := #[]
  methods := #[]
  instanceTypes := #[]
  staticTypes := #[]
  resolved := Array.replicate 11 none
  statics := none }

def pool6 : Array CpInfo := pool [(1, .class_ 2), (0, u "java/lang/constant/ConstantDesc"), (0, .class_ 4), (0, u "java/lang/Object")] 32

/-- java/lang/constant/ConstantDesc -/
def k6 : Class := { plain "java/lang/constant/ConstantDesc" (some 0) with
  accessFlags := 1537
  interfaces := #[]
  cf := some (fileOf pool6 1 #[] #[] 1537 3 #[] #[])
  fields := #[]
  methods := #[]
  instanceTypes := #[]
  staticTypes := #[]
  resolved := Array.replicate 37 none
  statics := none }

def pool7 : Array CpInfo := pool [(1, .methodref 2 3), (0, .class_ 4), (0, .nameAndType 5 6), (0, u "java/lang/Object"), (0, u "<init>"), (0, u "()V"), (0, .string 8), (0, u ""), (0, .fieldref 10 11), (0, .class_ 12), (0, .nameAndType 13 14), (0, u "java/lang/String"), (0, u "value"), (0, u "[B"), (0, .fieldref 10 16), (0, .nameAndType 17 18), (0, u "coder"), (0, u "B"), (2, u "hash"), (0, u "I"), (2, u "hashIsZero"), (0, u "Z"), (0, .methodref 10 28), (0, .nameAndType 5 29), (0, u "([CIILjava/lang/Void;)V"), (8, .fieldref 10 39), (0, .nameAndType 40 26), (0, u "COMPACT_STRINGS"), (1, .class_ 44), (1, u "java/lang/StringUTF16"), (0, u "compress"), (1, .methodref 42 48), (0, .nameAndType 49 50), (0, u "coderFromArrayLen"), (0, u "([BI)B"), (56, .class_ 109), (1, u "java/lang/StringLatin1"), (32, u "()Z"), (34, .methodref 42 178), (0, .nameAndType 45 179), (0, u "([CII)[B"), (154, u "()I"), (0, .methodref 10 336), (0, .nameAndType 17 337), (0, u "()B"), (25, u "([BI)C"), (27, u "(II)V"), (35, u "(I)C"), (64, .methodref 10 493), (0, .nameAndType 494 142), (0, u "isLatin1"), (0, .methodref 107 496), (0, .nameAndType 497 363), (0, u "charAt"), (3, u "checkIndex"), (5, u "length"), (67, .class_ 576), (0, u "java/lang/CharSequence"), (22, u "CASE_INSENSITIVE_ORDER"), (0, u "Ljava/util/Comparator;"), (409, u "([C)V"), (42, .fieldref 1054 1055), (0, .class_ 1056), (0, .nameAndType 1057 1058), (0, u "jdk/internal/util/Preconditions"), (0, u "SIOOBE_FORMATTER"), (0, u "Ljava/util/function/BiFunction;"), (0, .methodref 1054 1060), (0, .nameAndType 501 1061), (0, u "(IILjava/util/function/BiFunction;)I"), (39, u "serialPersistentFields"), (0, u "[Ljava/io/ObjectStreamField;"), (0, .class_ 1104), (0, u "java/lang/String$CaseInsensitiveComparator"), (1, .class_ 1107), (0, u "java/io/Serializable"), (0, .class_ 1109), (0, u "java/lang/Comparable"), (0, .class_ 1111), (0, u "java/lang/constant/Constable"), (0, .class_ 1113), (0, u "java/lang/constant/ConstantDesc"), (2, u "serialVersionUID"), (0, u "J"), (3, u "REPL"), (0, u "C"), (2, u "LATIN1"), (1, u "UTF16")] 323

def k7m0 : Method := { name := "<init>", desc := "()V", sig := { parameters := [], returnType := none }, accessFlags := 1, code := none }
def k7c1 : Code := { maxStack := 5, maxLocals := 2, code := jdk_42_method_3_code, exceptionTable := #[], attributes := #[] }
def k7m1 : Method := { name := "<init>", desc := "([C)V", sig := { parameters := [(.array .char)], returnType := none }, accessFlags := 1, code := some k7c1 }
def k7c2 : Code := { maxStack := 2, maxLocals := 1, code := jdk_42_method_54_code, exceptionTable := #[], attributes := #[] }
def k7m2 : Method := { name := "length", desc := "()I", sig := { parameters := [], returnType := some .int }, accessFlags := 1, code := some k7c2 }
def k7c3 : Code := { maxStack := 2, maxLocals := 2, code := jdk_42_method_56_code, exceptionTable := #[], attributes := #[] }
def k7m3 : Method := { name := "charAt", desc := "(I)C", sig := { parameters := [.int], returnType := some .char }, accessFlags := 1, code := some k7c3 }
def k7c4 : Code := { maxStack := 4, maxLocals := 6, code := jdk_42_method_149_code, exceptionTable := #[], attributes := #[] }
def k7m4 : Method := { name := "<init>", desc := "([CIILjava/lang/Void;)V", sig := { parameters := [(.array .char), .int, .int, (.object "java/lang/Void")], returnType := none }, accessFlags := 2, code := some k7c4 }
def k7c5 : Code := { maxStack := 1, maxLocals := 1, code := jdk_42_method_152_code, exceptionTable := #[], attributes := #[] }
def k7m5 : Method := { name := "coder", desc := "()B", sig := { parameters := [], returnType := some .byte }, accessFlags := 0, code := some k7c5 }
def k7c6 : Code := { maxStack := 1, maxLocals := 1, code := jdk_42_method_154_code, exceptionTable := #[], attributes := #[] }
def k7m6 : Method := { name := "isLatin1", desc := "()Z", sig := { parameters := [], returnType := some .boolean }, accessFlags := 0, code := some k7c6 }
def k7c7 : Code := { maxStack := 3, maxLocals := 2, code := jdk_42_method_155_code, exceptionTable := #[], attributes := #[] }
def k7m7 : Method := { name := "checkIndex", desc := "(II)V", sig := { parameters := [.int, .int], returnType := none }, accessFlags := 8, code := some k7c7 }
/-- java/lang/String -/
def k7 : Class := { plain "java/lang/String" (some 0) with
  accessFlags := 49
  interfaces := #[2, 3, 4, 5, 6]
  cf := some (fileOf pool7 10 #[.nestMembers #[1103]] #[{ accessFlags := 1, nameIndex := 5, descriptorIndex := 6, attributes := #[] }, { accessFlags := 1, nameIndex := 5, descriptorIndex := 1010, attributes := #[] }, { accessFlags := 1, nameIndex := 507, descriptorIndex := 334, attributes := #[] }, { accessFlags := 1, nameIndex := 497, descriptorIndex := 427, attributes := #[] }, { accessFlags := 2, nameIndex := 5, descriptorIndex := 29, attributes := #[] }, { accessFlags := 0, nameIndex := 17, descriptorIndex := 337, attributes := #[] }, { accessFlags := 0, nameIndex := 494, descriptorIndex := 142, attributes := #[] }, { accessFlags := 8, nameIndex := 501, descriptorIndex := 391, attributes := #[] }] 49 2 #[1106, 1108, 575, 1110, 1112] #[{ accessFlags := 18, nameIndex := 13, descriptorIndex := 14, attributes := #[] }, { accessFlags := 18, nameIndex := 17, descriptorIndex := 18, attributes := #[] }, { accessFlags := 2, nameIndex := 21, descriptorIndex := 22, attributes := #[] }, { accessFlags := 2, nameIndex := 25, descriptorIndex := 26, attributes := #[] }, { accessFlags := 26, nameIndex := 1116, descriptorIndex := 1117, attributes := #[] }, { accessFlags := 24, nameIndex := 40, descriptorIndex := 26, attributes := #[] }, { accessFlags := 26, nameIndex := 1101, descriptorIndex := 1102, attributes := #[] }, { accessFlags := 26, nameIndex := 1121, descriptorIndex := 1122, attributes := #[] }, { accessFlags := 25, nameIndex := 599, descriptorIndex := 600, attributes := #[] }, { accessFlags := 24, nameIndex := 1125, descriptorIndex := 18, attributes := #[] }, { accessFlags := 24, nameIndex := 1127, descriptorIndex := 18, attributes := #[] }])
  fields := #[{ name := "value", type := (.array .byte), accessFlags := 18, slot := 0, constantValue := 0 }, { name := "coder", type := .byte, accessFlags := 18, slot := 1, constantValue := 0 }, { name := "hash", type := .int, accessFlags := 2, slot := 2, constantValue := 0 }, { name := "hashIsZero", type := .boolean, accessFlags := 2, slot := 3, constantValue := 0 }, { name := "serialVersionUID", type := .long, accessFlags := 26, slot := 0, constantValue := 0 }, { name := "COMPACT_STRINGS", type := .boolean, accessFlags := 24, slot := 1, constantValue := 0 }, { name := "serialPersistentFields", type := (.array (.object "java/io/ObjectStreamField")), accessFlags := 26, slot := 2, constantValue := 0 }, { name := "REPL", type := .char, accessFlags := 26, slot := 3, constantValue := 0 }, { name := "CASE_INSENSITIVE_ORDER", type := (.object "java/util/Comparator"), accessFlags := 25, slot := 4, constantValue := 0 }, { name := "LATIN1", type := .byte, accessFlags := 24, slot := 5, constantValue := 0 }, { name := "UTF16", type := .byte, accessFlags := 24, slot := 6, constantValue := 0 }]
  methods := #[k7m0, k7m1, k7m2, k7m3, k7m4, k7m5, k7m6, k7m7]
  instanceTypes := #[(.array .byte), .byte, .int, .boolean]
  staticTypes := #[.long, .boolean, (.array (.object "java/io/ObjectStreamField")), .char, (.object "java/util/Comparator"), .byte, .byte]
  resolved := Array.replicate 1451 none
  statics := some 0 }

def pool8 : Array CpInfo := pool [(6, .class_ 8), (1, u "java/lang/Object"), (0, u "<init>"), (0, u "()V"), (1, .class_ 14), (1, u "java/lang/StringUTF16"), (31, u "$assertionsDisabled"), (0, u "Z"), (13, u "HI_BYTE_SHIFT"), (0, u "I"), (2, u "LO_BYTE_SHIFT"), (49, .methodref 12 116), (0, .nameAndType 117 118), (0, u "compress"), (0, u "([CI[BII)I"), (3, u "([CII)[B"), (138, u "coderFromArrayLen"), (0, u "([BI)B"), (106, .class_ 371), (1, u "java/lang/StringUTF16$LinesSpliterator"), (58, u "MAX_LENGTH"), (196, .class_ 628), (0, u "java/lang/StringUTF16$CodePointsSpliterator"), (0, .class_ 630), (0, u "java/lang/StringUTF16$CharsSpliterator")] 4

def k8m0 : Method := { name := "<init>", desc := "()V", sig := { parameters := [], returnType := none }, accessFlags := 0, code := none }
def k8c1 : Code := { maxStack := 2, maxLocals := 2, code := jdk_52_method_15_code, exceptionTable := #[], attributes := #[] }
def k8m1 : Method := { name := "coderFromArrayLen", desc := "([BI)B", sig := { parameters := [(.array .byte), .int], returnType := some .byte }, accessFlags := 8, code := some k8c1 }
def k8c2 : Code := { maxStack := 5, maxLocals := 6, code := jdk_52_method_16_code, exceptionTable := #[], attributes := #[] }
def k8m2 : Method := { name := "compress", desc := "([CII)[B", sig := { parameters := [(.array .char), .int, .int], returnType := some (.array .byte) }, accessFlags := 9, code := some k8c2 }
def k8c3 : Code := { maxStack := 3, maxLocals := 7, code := jdk_52_method_21_code, exceptionTable := #[], attributes := #[] }
def k8m3 : Method := { name := "compress", desc := "([CI[BII)I", sig := { parameters := [(.array .char), .int, (.array .byte), .int, .int], returnType := some .int }, accessFlags := 9, code := some k8c3 }
/-- java/lang/StringUTF16 -/
def k8 : Class := { plain "java/lang/StringUTF16" (some 0) with
  accessFlags := 48
  interfaces := #[]
  cf := some (fileOf pool8 12 #[.nestMembers #[627, 629, 369]] #[{ accessFlags := 0, nameIndex := 9, descriptorIndex := 10, attributes := #[] }, { accessFlags := 8, nameIndex := 261, descriptorIndex := 262, attributes := #[] }, { accessFlags := 9, nameIndex := 117, descriptorIndex := 122, attributes := #[] }, { accessFlags := 9, nameIndex := 117, descriptorIndex := 118, attributes := #[] }] 48 6 #[] #[{ accessFlags := 26, nameIndex := 61, descriptorIndex := 62, attributes := #[] }, { accessFlags := 26, nameIndex := 65, descriptorIndex := 62, attributes := #[] }, { accessFlags := 24, nameIndex := 430, descriptorIndex := 62, attributes := #[] }, { accessFlags := 4120, nameIndex := 46, descriptorIndex := 47, attributes := #[] }])
  fields := #[{ name := "HI_BYTE_SHIFT", type := .int, accessFlags := 26, slot := 0, constantValue := 0 }, { name := "LO_BYTE_SHIFT", type := .int, accessFlags := 26, slot := 1, constantValue := 0 }, { name := "MAX_LENGTH", type := .int, accessFlags := 24, slot := 2, constantValue := 0 }, { name := "$assertionsDisabled", type := .boolean, accessFlags := 4120, slot := 3, constantValue := 0 }]
  methods := #[k8m0, k8m1, k8m2, k8m3]
  instanceTypes := #[]
  staticTypes := #[.int, .int, .int, .boolean]
  resolved := Array.replicate 635 none
  statics := none }

def pool9 : Array CpInfo := pool [(1, .class_ 2), (0, u "java/lang/AutoCloseable"), (0, .class_ 4), (0, u "java/lang/Object")] 7

/-- java/lang/AutoCloseable -/
def k9 : Class := { plain "java/lang/AutoCloseable" (some 0) with
  accessFlags := 1537
  interfaces := #[]
  cf := some (fileOf pool9 1 #[] #[] 1537 3 #[] #[])
  fields := #[]
  methods := #[]
  instanceTypes := #[]
  staticTypes := #[]
  resolved := Array.replicate 12 none
  statics := none }

def pool10 : Array CpInfo := pool [(1, .class_ 2), (0, u "java/io/Closeable"), (0, .class_ 4), (0, u "java/lang/Object"), (0, .class_ 6), (0, u "java/lang/AutoCloseable")] 7

/-- java/io/Closeable -/
def k10 : Class := { plain "java/io/Closeable" (some 0) with
  accessFlags := 1537
  interfaces := #[9]
  cf := some (fileOf pool10 1 #[] #[] 1537 3 #[5] #[])
  fields := #[]
  methods := #[]
  instanceTypes := #[]
  staticTypes := #[]
  resolved := Array.replicate 14 none
  statics := none }

def pool11 : Array CpInfo := pool [(1, .class_ 2), (0, u "com/example/descriptor/descriptor/ElementReader"), (0, .class_ 4), (0, u "java/lang/Object"), (0, .class_ 6), (0, u "java/io/Closeable")] 7

/-- com/example/descriptor/descriptor/ElementReader -/
def k11 : Class := { plain "com/example/descriptor/descriptor/ElementReader" (some 0) with
  accessFlags := 1536
  interfaces := #[10]
  cf := some (fileOf pool11 1 #[] #[] 1536 3 #[5] #[])
  fields := #[]
  methods := #[]
  instanceTypes := #[]
  staticTypes := #[]
  resolved := Array.replicate 14 none
  statics := none }

def pool12 : Array CpInfo := pool [(2, .class_ 4), (1, u "com/example/descriptor/descriptor/TaggedFileReader"), (3, .class_ 10), (1, u "java/lang/Object"), (3, u "text"), (0, u "[C"), (2, u "line"), (0, u "J"), (5, u "markupText"), (0, u "Ljava/lang/StringBuilder;"), (2, u "file"), (0, u "Ljava/nio/file/Path;"), (2, u "elementName"), (0, u "Ljava/lang/String;"), (2, u "startTagEndsField"), (0, u "Z"), (8, u "lines"), (0, u "Lcom/example/descriptor/descriptor/Utf8LineReader;"), (3, u "()I"), (16, u "tagName"), (1, .class_ 73), (1, u "java/lang/String"), (7, u "elementCount"), (0, u "I"), (60, .nameAndType 144 52), (0, u "length"), (17, .methodref 71 143), (0, .methodref 71 164), (0, .nameAndType 165 166), (0, u "charAt"), (0, u "(I)C"), (0, .methodref 2 168), (0, .nameAndType 169 170), (0, u "isLowerCaseLetter"), (0, u "(C)Z"), (5, u "position"), (2, u "textEnd"), (17, .class_ 198), (0, u "com/example/descriptor/descriptor/ElementReader"), (0, u "END"), (2, u "START_TAG"), (1, u "END_TAG"), (1, u "EMPTY_TAG"), (1, u "OTHER_MARKUP"), (1, u "NOT_MARKUP"), (1, u "PIECE_LIMIT"), (8, u "isLanguageCode"), (0, u "(Ljava/lang/String;I)Z")] 22

def k12c0 : Code := { maxStack := 3, maxLocals := 2, code := prog_13_method_8_code, exceptionTable := #[], attributes := #[] }
def k12m0 : Method := { name := "isLanguageCode", desc := "(Ljava/lang/String;I)Z", sig := { parameters := [(.object "java/lang/String"), .int], returnType := some .boolean }, accessFlags := 8, code := some k12c0 }
def k12c1 : Code := { maxStack := 2, maxLocals := 1, code := prog_13_method_9_code, exceptionTable := #[], attributes := #[] }
def k12m1 : Method := { name := "isLowerCaseLetter", desc := "(C)Z", sig := { parameters := [.char], returnType := some .boolean }, accessFlags := 10, code := some k12c1 }
/-- com/example/descriptor/descriptor/TaggedFileReader -/
def k12 : Class := { plain "com/example/descriptor/descriptor/TaggedFileReader" (some 0) with
  accessFlags := 48
  interfaces := #[11]
  cf := some (fileOf pool12 2 #[] #[{ accessFlags := 8, nameIndex := 221, descriptorIndex := 222, attributes := #[] }, { accessFlags := 10, nameIndex := 169, descriptorIndex := 170, attributes := #[] }] 48 8 #[197] #[{ accessFlags := 26, nameIndex := 199, descriptorIndex := 82, attributes := #[] }, { accessFlags := 26, nameIndex := 202, descriptorIndex := 82, attributes := #[] }, { accessFlags := 26, nameIndex := 204, descriptorIndex := 82, attributes := #[] }, { accessFlags := 26, nameIndex := 206, descriptorIndex := 82, attributes := #[] }, { accessFlags := 26, nameIndex := 208, descriptorIndex := 82, attributes := #[] }, { accessFlags := 26, nameIndex := 210, descriptorIndex := 82, attributes := #[] }, { accessFlags := 26, nameIndex := 212, descriptorIndex := 82, attributes := #[] }, { accessFlags := 18, nameIndex := 29, descriptorIndex := 30, attributes := #[] }, { accessFlags := 18, nameIndex := 33, descriptorIndex := 34, attributes := #[] }, { accessFlags := 18, nameIndex := 37, descriptorIndex := 38, attributes := #[] }, { accessFlags := 18, nameIndex := 47, descriptorIndex := 48, attributes := #[] }, { accessFlags := 2, nameIndex := 14, descriptorIndex := 15, attributes := #[] }, { accessFlags := 2, nameIndex := 179, descriptorIndex := 82, attributes := #[] }, { accessFlags := 2, nameIndex := 176, descriptorIndex := 82, attributes := #[] }, { accessFlags := 2, nameIndex := 18, descriptorIndex := 19, attributes := #[] }, { accessFlags := 2, nameIndex := 81, descriptorIndex := 82, attributes := #[] }, { accessFlags := 2, nameIndex := 69, descriptorIndex := 34, attributes := #[] }, { accessFlags := 18, nameIndex := 25, descriptorIndex := 26, attributes := #[] }])
  fields := #[{ name := "END", type := .int, accessFlags := 26, slot := 0, constantValue := 0 }, { name := "START_TAG", type := .int, accessFlags := 26, slot := 1, constantValue := 0 }, { name := "END_TAG", type := .int, accessFlags := 26, slot := 2, constantValue := 0 }, { name := "EMPTY_TAG", type := .int, accessFlags := 26, slot := 3, constantValue := 0 }, { name := "OTHER_MARKUP", type := .int, accessFlags := 26, slot := 4, constantValue := 0 }, { name := "NOT_MARKUP", type := .int, accessFlags := 26, slot := 5, constantValue := 0 }, { name := "PIECE_LIMIT", type := .int, accessFlags := 26, slot := 6, constantValue := 0 }, { name := "file", type := (.object "java/nio/file/Path"), accessFlags := 18, slot := 0, constantValue := 0 }, { name := "elementName", type := (.object "java/lang/String"), accessFlags := 18, slot := 1, constantValue := 0 }, { name := "startTagEndsField", type := .boolean, accessFlags := 18, slot := 2, constantValue := 0 }, { name := "lines", type := (.object "com/example/descriptor/descriptor/Utf8LineReader"), accessFlags := 18, slot := 3, constantValue := 0 }, { name := "text", type := (.array .char), accessFlags := 2, slot := 4, constantValue := 0 }, { name := "textEnd", type := .int, accessFlags := 2, slot := 5, constantValue := 0 }, { name := "position", type := .int, accessFlags := 2, slot := 6, constantValue := 0 }, { name := "line", type := .long, accessFlags := 2, slot := 7, constantValue := 0 }, { name := "elementCount", type := .int, accessFlags := 2, slot := 8, constantValue := 0 }, { name := "tagName", type := (.object "java/lang/String"), accessFlags := 2, slot := 9, constantValue := 0 }, { name := "markupText", type := (.object "java/lang/StringBuilder"), accessFlags := 18, slot := 10, constantValue := 0 }]
  methods := #[k12m0, k12m1]
  instanceTypes := #[(.object "java/nio/file/Path"), (.object "java/lang/String"), .boolean, (.object "com/example/descriptor/descriptor/Utf8LineReader"), (.array .char), .int, .int, .long, .int, (.object "java/lang/String"), (.object "java/lang/StringBuilder")]
  staticTypes := #[.int, .int, .int, .int, .int, .int, .int]
  resolved := Array.replicate 245 none
  statics := none }

def pool13 : Array CpInfo := pool [(1, .class_ 2), (0, u "java/lang/String"), (1, .class_ 6), (1, u "java/lang/Object"), (0, u "<init>"), (0, u "()V"), (0, .methodref 1 10), (0, .nameAndType 11 12), (0, u "checkIndex"), (0, u "(II)V"), (1, .class_ 16), (1, u "java/lang/StringLatin1"), (36, u "([BI)C"), (67, u "$assertionsDisabled"), (0, u "Z"), (98, .class_ 223), (1, u "java/lang/StringLatin1$LinesSpliterator"), (28, u "charAt"), (137, .class_ 391), (0, u "java/lang/StringLatin1$CharsSpliterator")] 3

def k13m0 : Method := { name := "<init>", desc := "()V", sig := { parameters := [], returnType := none }, accessFlags := 0, code := none }
def k13c1 : Code := { maxStack := 2, maxLocals := 2, code := jdk_43_method_2_code, exceptionTable := #[], attributes := #[] }
def k13m1 : Method := { name := "charAt", desc := "([BI)C", sig := { parameters := [(.array .byte), .int], returnType := some .char }, accessFlags := 9, code := some k13c1 }
/-- java/lang/StringLatin1 -/
def k13 : Class := { plain "java/lang/StringLatin1" (some 0) with
  accessFlags := 48
  interfaces := #[]
  cf := some (fileOf pool13 14 #[.nestMembers #[390, 221]] #[{ accessFlags := 0, nameIndex := 7, descriptorIndex := 8, attributes := #[] }, { accessFlags := 9, nameIndex := 252, descriptorIndex := 53, attributes := #[] }] 48 4 #[] #[{ accessFlags := 4120, nameIndex := 121, descriptorIndex := 122, attributes := #[] }])
  fields := #[{ name := "$assertionsDisabled", type := .boolean, accessFlags := 4120, slot := 0, constantValue := 0 }]
  methods := #[k13m0, k13m1]
  instanceTypes := #[]
  staticTypes := #[.boolean]
  resolved := Array.replicate 395 none
  statics := none }

def pool14 : Array CpInfo := pool [(2, .class_ 4), (1, u "java/lang/Object"), (0, u "<init>"), (0, u "()V"), (17, .class_ 26), (1, u "jdk/internal/util/Preconditions"), (6, u "checkIndex"), (21, .class_ 56), (0, u "jdk/internal/util/Preconditions$4"), (57, .class_ 115), (0, u "jdk/internal/util/Preconditions$1"), (7, u "SIOOBE_FORMATTER"), (0, u "Ljava/util/function/BiFunction;"), (0, .class_ 126), (0, u "jdk/internal/util/Preconditions$2"), (3, u "AIOOBE_FORMATTER"), (0, .class_ 132), (0, u "jdk/internal/util/Preconditions$3"), (3, u "IOOBE_FORMATTER"), (41, u "(IILjava/util/function/BiFunction;)I")] 15

def k14m0 : Method := { name := "<init>", desc := "()V", sig := { parameters := [], returnType := none }, accessFlags := 1, code := none }
def k14c1 : Code := { maxStack := 3, maxLocals := 3, code := jdk_41_method_11_code, exceptionTable := #[], attributes := #[] }
def k14m1 : Method := { name := "checkIndex", desc := "(IILjava/util/function/BiFunction;)I", sig := { parameters := [.int, .int, (.object "java/util/function/BiFunction")], returnType := some .int }, accessFlags := 9, code := some k14c1 }
/-- jdk/internal/util/Preconditions -/
def k14 : Class := { plain "jdk/internal/util/Preconditions" (some 0) with
  accessFlags := 33
  interfaces := #[]
  cf := some (fileOf pool14 24 #[.nestMembers #[55, 131, 125, 114]] #[{ accessFlags := 1, nameIndex := 5, descriptorIndex := 6, attributes := #[] }, { accessFlags := 9, nameIndex := 33, descriptorIndex := 178, attributes := #[] }] 33 2 #[] #[{ accessFlags := 25, nameIndex := 123, descriptorIndex := 124, attributes := #[] }, { accessFlags := 25, nameIndex := 130, descriptorIndex := 124, attributes := #[] }, { accessFlags := 25, nameIndex := 136, descriptorIndex := 124, attributes := #[] }])
  fields := #[{ name := "SIOOBE_FORMATTER", type := (.object "java/util/function/BiFunction"), accessFlags := 25, slot := 0, constantValue := 0 }, { name := "AIOOBE_FORMATTER", type := (.object "java/util/function/BiFunction"), accessFlags := 25, slot := 1, constantValue := 0 }, { name := "IOOBE_FORMATTER", type := (.object "java/util/function/BiFunction"), accessFlags := 25, slot := 2, constantValue := 0 }]
  methods := #[k14m0, k14m1]
  instanceTypes := #[]
  staticTypes := #[(.object "java/util/function/BiFunction"), (.object "java/util/function/BiFunction"), (.object "java/util/function/BiFunction")]
  resolved := Array.replicate 194 none
  statics := some 1 }

def pool15 : Array CpInfo := pool [(9, u "<init>"), (6, .class_ 18), (1, u "java/lang/Object"), (0, u "()V"), (1, .class_ 23), (1, u "jdk/internal/util/ArraysSupport"), (0, u "LOG2_ARRAY_LONG_INDEX_SCALE"), (0, u "I"), (2, u "U"), (0, u "Ljdk/internal/misc/Unsafe;"), (8, u "BIG_ENDIAN"), (0, u "Z"), (8, u "LOG2_BYTE_BIT_SIZE"), (4, u "LOG2_ARRAY_INT_INDEX_SCALE"), (54, u "JLA"), (0, u "Ljdk/internal/access/JavaLangAccess;"), (11, u "LOG2_ARRAY_BOOLEAN_INDEX_SCALE"), (9, u "LOG2_ARRAY_BYTE_INDEX_SCALE"), (5, u "LOG2_ARRAY_CHAR_INDEX_SCALE"), (5, u "LOG2_ARRAY_SHORT_INDEX_SCALE"), (18, u "LOG2_ARRAY_FLOAT_INDEX_SCALE"), (24, u "LOG2_ARRAY_DOUBLE_INDEX_SCALE"), (89, u "T_BOOLEAN"), (2, u "T_CHAR"), (1, u "T_FLOAT"), (1, u "T_DOUBLE"), (1, u "T_BYTE"), (1, u "T_SHORT"), (1, u "T_INT"), (1, u "T_LONG"), (1, u "SOFT_MAX_ARRAY_LENGTH")] 83

def k15m0 : Method := { name := "<init>", desc := "()V", sig := { parameters := [], returnType := none }, accessFlags := 2, code := none }
/-- jdk/internal/util/ArraysSupport -/
def k15 : Class := { plain "jdk/internal/util/ArraysSupport" (some 0) with
  accessFlags := 33
  interfaces := #[]
  cf := some (fileOf pool15 21 #[] #[{ accessFlags := 2, nameIndex := 9, descriptorIndex := 19, attributes := #[] }] 33 16 #[] #[{ accessFlags := 24, nameIndex := 28, descriptorIndex := 29, attributes := #[] }, { accessFlags := 26, nameIndex := 38, descriptorIndex := 39, attributes := #[] }, { accessFlags := 25, nameIndex := 121, descriptorIndex := 25, attributes := #[] }, { accessFlags := 25, nameIndex := 131, descriptorIndex := 25, attributes := #[] }, { accessFlags := 25, nameIndex := 137, descriptorIndex := 25, attributes := #[] }, { accessFlags := 25, nameIndex := 143, descriptorIndex := 25, attributes := #[] }, { accessFlags := 25, nameIndex := 53, descriptorIndex := 25, attributes := #[] }, { accessFlags := 25, nameIndex := 24, descriptorIndex := 25, attributes := #[] }, { accessFlags := 25, nameIndex := 162, descriptorIndex := 25, attributes := #[] }, { accessFlags := 25, nameIndex := 187, descriptorIndex := 25, attributes := #[] }, { accessFlags := 26, nameIndex := 48, descriptorIndex := 25, attributes := #[] }, { accessFlags := 25, nameIndex := 277, descriptorIndex := 25, attributes := #[] }, { accessFlags := 25, nameIndex := 280, descriptorIndex := 25, attributes := #[] }, { accessFlags := 25, nameIndex := 282, descriptorIndex := 25, attributes := #[] }, { accessFlags := 25, nameIndex := 284, descriptorIndex := 25, attributes := #[] }, { accessFlags := 25, nameIndex := 286, descriptorIndex := 25, attributes := #[] }, { accessFlags := 25, nameIndex := 288, descriptorIndex := 25, attributes := #[] }, { accessFlags := 25, nameIndex := 290, descriptorIndex := 25, attributes := #[] }, { accessFlags := 25, nameIndex := 292, descriptorIndex := 25, attributes := #[] }, { accessFlags := 26, nameIndex := 108, descriptorIndex := 109, attributes := #[] }, { accessFlags := 25, nameIndex := 294, descriptorIndex := 25, attributes := #[] }])
  fields := #[{ name := "U", type := (.object "jdk/internal/misc/Unsafe"), accessFlags := 24, slot := 0, constantValue := 0 }, { name := "BIG_ENDIAN", type := .boolean, accessFlags := 26, slot := 1, constantValue := 0 }, { name := "LOG2_ARRAY_BOOLEAN_INDEX_SCALE", type := .int, accessFlags := 25, slot := 2, constantValue := 0 }, { name := "LOG2_ARRAY_BYTE_INDEX_SCALE", type := .int, accessFlags := 25, slot := 3, constantValue := 0 }, { name := "LOG2_ARRAY_CHAR_INDEX_SCALE", type := .int, accessFlags := 25, slot := 4, constantValue := 0 }, { name := "LOG2_ARRAY_SHORT_INDEX_SCALE", type := .int, accessFlags := 25, slot := 5, constantValue := 0 }, { name := "LOG2_ARRAY_INT_INDEX_SCALE", type := .int, accessFlags := 25, slot := 6, constantValue := 0 }, { name := "LOG2_ARRAY_LONG_INDEX_SCALE", type := .int, accessFlags := 25, slot := 7, constantValue := 0 }, { name := "LOG2_ARRAY_FLOAT_INDEX_SCALE", type := .int, accessFlags := 25, slot := 8, constantValue := 0 }, { name := "LOG2_ARRAY_DOUBLE_INDEX_SCALE", type := .int, accessFlags := 25, slot := 9, constantValue := 0 }, { name := "LOG2_BYTE_BIT_SIZE", type := .int, accessFlags := 26, slot := 10, constantValue := 0 }, { name := "T_BOOLEAN", type := .int, accessFlags := 25, slot := 11, constantValue := 0 }, { name := "T_CHAR", type := .int, accessFlags := 25, slot := 12, constantValue := 0 }, { name := "T_FLOAT", type := .int, accessFlags := 25, slot := 13, constantValue := 0 }, { name := "T_DOUBLE", type := .int, accessFlags := 25, slot := 14, constantValue := 0 }, { name := "T_BYTE", type := .int, accessFlags := 25, slot := 15, constantValue := 0 }, { name := "T_SHORT", type := .int, accessFlags := 25, slot := 16, constantValue := 0 }, { name := "T_INT", type := .int, accessFlags := 25, slot := 17, constantValue := 0 }, { name := "T_LONG", type := .int, accessFlags := 25, slot := 18, constantValue := 0 }, { name := "JLA", type := (.object "jdk/internal/access/JavaLangAccess"), accessFlags := 26, slot := 19, constantValue := 0 }, { name := "SOFT_MAX_ARRAY_LENGTH", type := .int, accessFlags := 25, slot := 20, constantValue := 0 }]
  methods := #[k15m0]
  instanceTypes := #[]
  staticTypes := #[(.object "jdk/internal/misc/Unsafe"), .boolean, .int, .int, .int, .int, .int, .int, .int, .int, .int, .int, .int, .int, .int, .int, .int, .int, .int, (.object "jdk/internal/access/JavaLangAccess"), .int]
  resolved := Array.replicate 378 none
  statics := none }

def pool16 : Array CpInfo := pool [(1, u "java/lang/Cloneable"), (0, .class_ 1), (0, u "java/lang/Object"), (0, .class_ 3)] 3

/-- java/lang/Cloneable -/
def k16 : Class := { plain "java/lang/Cloneable" (some 0) with
  accessFlags := 1537
  interfaces := #[]
  cf := some (fileOf pool16 2 #[] #[] 1537 4 #[] #[])
  fields := #[]
  methods := #[]
  instanceTypes := #[]
  staticTypes := #[]
  resolved := Array.replicate 8 none
  statics := none }

/-- the primitive byte -/
def k17 : Class := { plain "byte" none with kind := .primitive 'B', accessFlags := 0x411 }
/-- [B -/
def k18 : Class := { plain "[B" (some 0) with kind := .array 17 .byte, interfaces := #[16, 2], accessFlags := 1041 }

/-- the primitive char -/
def k19 : Class := { plain "char" none with kind := .primitive 'C', accessFlags := 0x411 }
/-- [C -/
def k20 : Class := { plain "[C" (some 0) with kind := .array 19 .char, interfaces := #[16, 2], accessFlags := 1041 }

/-- the primitive int -/
def k21 : Class := { plain "int" none with kind := .primitive 'I', accessFlags := 0x411 }
/-- [I -/
def k22 : Class := { plain "[I" (some 0) with kind := .array 21 .int, interfaces := #[16, 2], accessFlags := 1041 }

def heap : Heap := #[{ cls := 7, slots := #[.long 0, .int 1, .null, .int 0, .null, .int 0, .int 0], vm := .statics 7 },
  { cls := 14, slots := #[.null, .null, .null], vm := .statics 14 }]
def classes : Array Class := #[k0, k1, k2, k3, k4, k5, k6, k7, k8, k9, k10, k11, k12, k13, k14, k15, k16, k17, k18, k19, k20, k21, k22]
def interned : List (Array UInt16 × Addr) := []
def slotsUsed : Nat := 10
def theMethod : MethodId := ⟨1, 1⟩
def args0 : Array Value := #[.int 1, .int 2, .int 3, .int 4, .int 5, .int 6]
def aboutOver (below : List Frame) : State where
  vm := { classes := classes, interned := interned.toArray }
  heap := heap
  slotsUsed := slotsUsed
  threads := #[{ frames := .invoking theMethod args0 :: below }]
def below0 : List Frame := [.native { method := ⟨0, 0⟩, args := #[] }]
def about1 : State := aboutOver below0
def p0 : Program := .bare "" "" ""
def e0 : Env := launch0.env 0 0 0
theorem w_frames : about1.frames = Frame.invoking theMethod args0 :: below0 := rfl
set_option maxRecDepth 65536 in
theorem w_args : argsFit about1.vm theMethod args0 = true := by decide +kernel
set_option maxRecDepth 65536 in
theorem w_heap : heapFits about1 = true := by decide +kernel
set_option maxRecDepth 65536 in
theorem w_runnable : about1.curStatus? = some .runnable := by decide +kernel
set_option maxRecDepth 65536 in
theorem w_alone : about1.alone = true := by decide +kernel
set_option maxRecDepth 65536 in
theorem w_named : about1.methodNamed? x = some theMethod := by decide +kernel
set_option maxRecDepth 65536 in
theorem w_hears : about1.hears theMethod below0 = true := by decide +kernel
set_option maxRecDepth 65536 in
theorem w_ripe : about1.ripe theMethod args0 below0 = true := by decide +kernel
theorem w_running : about1.status = .running := rfl
set_option maxRecDepth 65536 in
theorem w_room : about1.hasRoom e0.platform room_1 = true :=
  launch0.hasRoom_least _ room_1 (by decide +kernel) (by decide +kernel) (by decide +kernel) (by decide +kernel) (by decide +kernel) (by decide +kernel)
theorem allAtoms_all (ts : List Jvm.Cond) (a : Array Jvm.Value) (st : Jvm.State) : (allAtoms ts).before a st = ts.all (fun c => c.before a st) := by
  induction ts with
  | nil => rfl
  | cons c t ih =>
    show (Jvm.Cond.and c (allAtoms t)).before a st = _
    rw [Jvm.Cond.before_and, ih, List.all_cons]
def words1 : List Jvm.Cond := Jvm.Cond.code x code maxLocals ret :: tables_1
/-- a 'code' word, met by the world's own term for the bytes: nothing is compared byte by byte -/
theorem code_word {y : MethodName} {bytes : ByteArray} {mx : Nat} {rt : Option FieldType} {a : Array Value} {s : State} {m : MethodId} {meth : Method} {c : Code} (h1 : s.methodNamed? y = some m) (h2 : s.vm.method? m = some meth) (h3 : meth.code = some c) (h4 : c.code = bytes)
    (h5 : (c.maxLocals == mx && c.exceptionTable.isEmpty && decide (c.maxStack ≤ mostOperands) && decide (meth.sig.returnType = rt) && !meth.locks && decide (parseMethodDescriptor y.desc = some meth.sig)) = true) : (Jvm.Cond.code y bytes mx rt).before a s = true := by
  simp only [Bool.and_eq_true, beq_iff_eq, Bool.not_eq_true', decide_eq_true_eq] at h5
  obtain ⟨⟨⟨⟨⟨g1, g2⟩, g3⟩, g4⟩, g5⟩, g6⟩ := h5
  simp [Cond.before, Cond.holds, Cond.value, h1, h2, h3, h4, g1, g2, g3, g4, g5, g6]
def isCode : Jvm.Cond → Bool
  | .code _ _ _ _ => true
  | _ => false
theorem all_split {L : List Jvm.Cond} {P : Jvm.Cond → Bool} (h1 : L.all (fun c => isCode c || P c) = true) (h2 : ∀ c ∈ L.filter isCode, P c = true) : L.all P = true := by
  refine List.all_eq_true.mpr fun c hc => ?_
  have h := List.all_eq_true.mp h1 c hc
  rcases Bool.eq_false_or_eq_true (isCode c) with hi | hi
  · exact h2 c (List.mem_filter.mpr ⟨hc, hi⟩)
  · simpa [hi] using h
set_option maxRecDepth 65536 in
theorem w_c0 : (Jvm.Cond.code x code maxLocals ret).before args0 about1 = true := code_word (m := ⟨1, 1⟩) (meth := k1m1) (c := k1c1) (by decide +kernel) rfl rfl rfl (by decide +kernel)
set_option maxRecDepth 65536 in
theorem w_c1 : (Jvm.Cond.code ({ cls := "com/example/descriptor/descriptor/TaggedFileReaderIsLanguageCodePinLaw", name := "make", desc := "([CI)Ljava/lang/String;" } : Jvm.MethodName) method_4_code (2 : Nat) (Option.some (Jvm.ClassFile.FieldType.object "java/lang/String"))).before args0 about1 = true := code_word (m := ⟨1, 3⟩) (meth := k1m3) (c := k1c3) (by decide +kernel) rfl rfl rfl (by decide +kernel)
set_option maxRecDepth 65536 in
theorem w_c2 : (Jvm.Cond.code ({ cls := "java/lang/String", name := "<init>", desc := "([C)V" } : Jvm.MethodName) jdk_42_method_3_code (2 : Nat) (Option.none : Option Jvm.ClassFile.FieldType)).before args0 about1 = true := code_word (m := ⟨7, 1⟩) (meth := k7m1) (c := k7c1) (by decide +kernel) rfl rfl rfl (by decide +kernel)
set_option maxRecDepth 65536 in
theorem w_c3 : (Jvm.Cond.code ({ cls := "java/lang/String", name := "<init>", desc := "([CIILjava/lang/Void;)V" } : Jvm.MethodName) jdk_42_method_149_code (6 : Nat) (Option.none : Option Jvm.ClassFile.FieldType)).before args0 about1 = true := code_word (m := ⟨7, 4⟩) (meth := k7m4) (c := k7c4) (by decide +kernel) rfl rfl rfl (by decide +kernel)
set_option maxRecDepth 65536 in
theorem w_c4 : (Jvm.Cond.code ({ cls := "java/lang/Object", name := "<init>", desc := "()V" } : Jvm.MethodName) object_method_1_code (1 : Nat) (Option.none : Option Jvm.ClassFile.FieldType)).before args0 about1 = true := code_word (m := ⟨0, 0⟩) (meth := k0m0) (c := k0c0) (by decide +kernel) rfl rfl rfl (by decide +kernel)
set_option maxRecDepth 65536 in
theorem w_c5 : (Jvm.Cond.code ({ cls := "java/lang/StringUTF16", name := "compress", desc := "([CII)[B" } : Jvm.MethodName) jdk_52_method_16_code (6 : Nat) (Option.some (Jvm.ClassFile.FieldType.array Jvm.ClassFile.FieldType.byte))).before args0 about1 = true := code_word (m := ⟨8, 2⟩) (meth := k8m2) (c := k8c2) (by decide +kernel) rfl rfl rfl (by decide +kernel)
set_option maxRecDepth 65536 in
theorem w_c6 : (Jvm.Cond.code ({ cls := "java/lang/StringUTF16", name := "compress", desc := "([CI[BII)I" } : Jvm.MethodName) jdk_52_method_21_code (7 : Nat) (Option.some Jvm.ClassFile.FieldType.int)).before args0 about1 = true := code_word (m := ⟨8, 3⟩) (meth := k8m3) (c := k8c3) (by decide +kernel) rfl rfl rfl (by decide +kernel)
set_option maxRecDepth 65536 in
theorem w_c7 : (Jvm.Cond.code ({ cls := "java/lang/StringUTF16", name := "coderFromArrayLen", desc := "([BI)B" } : Jvm.MethodName) jdk_52_method_15_code (2 : Nat) (Option.some Jvm.ClassFile.FieldType.byte)).before args0 about1 = true := code_word (m := ⟨8, 1⟩) (meth := k8m1) (c := k8c1) (by decide +kernel) rfl rfl rfl (by decide +kernel)
set_option maxRecDepth 65536 in
theorem w_c8 : (Jvm.Cond.code ({ cls := "com/example/descriptor/descriptor/TaggedFileReaderIsLanguageCodePinLaw", name := "lower", desc := "(C)Z" } : Jvm.MethodName) method_3_code (1 : Nat) (Option.some Jvm.ClassFile.FieldType.boolean)).before args0 about1 = true := code_word (m := ⟨1, 2⟩) (meth := k1m2) (c := k1c2) (by decide +kernel) rfl rfl rfl (by decide +kernel)
set_option maxRecDepth 65536 in
theorem w_c9 : (Jvm.Cond.code ({ cls := "com/example/descriptor/descriptor/TaggedFileReader", name := "isLanguageCode", desc := "(Ljava/lang/String;I)Z" } : Jvm.MethodName) prog_13_method_8_code (2 : Nat) (Option.some Jvm.ClassFile.FieldType.boolean)).before args0 about1 = true := code_word (m := ⟨12, 0⟩) (meth := k12m0) (c := k12c0) (by decide +kernel) rfl rfl rfl (by decide +kernel)
set_option maxRecDepth 65536 in
theorem w_c10 : (Jvm.Cond.code ({ cls := "java/lang/String", name := "length", desc := "()I" } : Jvm.MethodName) jdk_42_method_54_code (1 : Nat) (Option.some Jvm.ClassFile.FieldType.int)).before args0 about1 = true := code_word (m := ⟨7, 2⟩) (meth := k7m2) (c := k7c2) (by decide +kernel) rfl rfl rfl (by decide +kernel)
set_option maxRecDepth 65536 in
theorem w_c11 : (Jvm.Cond.code ({ cls := "java/lang/String", name := "coder", desc := "()B" } : Jvm.MethodName) jdk_42_method_152_code (1 : Nat) (Option.some Jvm.ClassFile.FieldType.byte)).before args0 about1 = true := code_word (m := ⟨7, 5⟩) (meth := k7m5) (c := k7c5) (by decide +kernel) rfl rfl rfl (by decide +kernel)
set_option maxRecDepth 65536 in
theorem w_c12 : (Jvm.Cond.code ({ cls := "java/lang/String", name := "charAt", desc := "(I)C" } : Jvm.MethodName) jdk_42_method_56_code (2 : Nat) (Option.some Jvm.ClassFile.FieldType.char)).before args0 about1 = true := code_word (m := ⟨7, 3⟩) (meth := k7m3) (c := k7c3) (by decide +kernel) rfl rfl rfl (by decide +kernel)
set_option maxRecDepth 65536 in
theorem w_c13 : (Jvm.Cond.code ({ cls := "java/lang/String", name := "isLatin1", desc := "()Z" } : Jvm.MethodName) jdk_42_method_154_code (1 : Nat) (Option.some Jvm.ClassFile.FieldType.boolean)).before args0 about1 = true := code_word (m := ⟨7, 6⟩) (meth := k7m6) (c := k7c6) (by decide +kernel) rfl rfl rfl (by decide +kernel)
set_option maxRecDepth 65536 in
theorem w_c14 : (Jvm.Cond.code ({ cls := "java/lang/StringLatin1", name := "charAt", desc := "([BI)C" } : Jvm.MethodName) jdk_43_method_2_code (2 : Nat) (Option.some Jvm.ClassFile.FieldType.char)).before args0 about1 = true := code_word (m := ⟨13, 1⟩) (meth := k13m1) (c := k13c1) (by decide +kernel) rfl rfl rfl (by decide +kernel)
set_option maxRecDepth 65536 in
theorem w_c15 : (Jvm.Cond.code ({ cls := "java/lang/String", name := "checkIndex", desc := "(II)V" } : Jvm.MethodName) jdk_42_method_155_code (2 : Nat) (Option.none : Option Jvm.ClassFile.FieldType)).before args0 about1 = true := code_word (m := ⟨7, 7⟩) (meth := k7m7) (c := k7c7) (by decide +kernel) rfl rfl rfl (by decide +kernel)
set_option maxRecDepth 65536 in
theorem w_c16 : (Jvm.Cond.code ({ cls := "jdk/internal/util/Preconditions", name := "checkIndex", desc := "(IILjava/util/function/BiFunction;)I" } : Jvm.MethodName) jdk_41_method_11_code (3 : Nat) (Option.some Jvm.ClassFile.FieldType.int)).before args0 about1 = true := code_word (m := ⟨14, 1⟩) (meth := k14m1) (c := k14c1) (by decide +kernel) rfl rfl rfl (by decide +kernel)
set_option maxRecDepth 65536 in
theorem w_c17 : (Jvm.Cond.code ({ cls := "com/example/descriptor/descriptor/TaggedFileReader", name := "isLowerCaseLetter", desc := "(C)Z" } : Jvm.MethodName) prog_13_method_9_code (1 : Nat) (Option.some Jvm.ClassFile.FieldType.boolean)).before args0 about1 = true := code_word (m := ⟨12, 1⟩) (meth := k12m1) (c := k12c1) (by decide +kernel) rfl rfl rfl (by decide +kernel)
def codes1 : List Jvm.Cond := [Jvm.Cond.code x code maxLocals ret, Jvm.Cond.code ({ cls := "com/example/descriptor/descriptor/TaggedFileReaderIsLanguageCodePinLaw", name := "make", desc := "([CI)Ljava/lang/String;" } : Jvm.MethodName) method_4_code (2 : Nat) (Option.some (Jvm.ClassFile.FieldType.object "java/lang/String")), Jvm.Cond.code ({ cls := "java/lang/String", name := "<init>", desc := "([C)V" } : Jvm.MethodName) jdk_42_method_3_code (2 : Nat) (Option.none : Option Jvm.ClassFile.FieldType), Jvm.Cond.code ({ cls := "java/lang/String", name := "<init>", desc := "([CIILjava/lang/Void;)V" } : Jvm.MethodName) jdk_42_method_149_code (6 : Nat) (Option.none : Option Jvm.ClassFile.FieldType), Jvm.Cond.code ({ cls := "java/lang/Object", name := "<init>", desc := "()V" } : Jvm.MethodName) object_method_1_code (1 : Nat) (Option.none : Option Jvm.ClassFile.FieldType), Jvm.Cond.code ({ cls := "java/lang/StringUTF16", name := "compress", desc := "([CII)[B" } : Jvm.MethodName) jdk_52_method_16_code (6 : Nat) (Option.some (Jvm.ClassFile.FieldType.array Jvm.ClassFile.FieldType.byte)), Jvm.Cond.code ({ cls := "java/lang/StringUTF16", name := "compress", desc := "([CI[BII)I" } : Jvm.MethodName) jdk_52_method_21_code (7 : Nat) (Option.some Jvm.ClassFile.FieldType.int), Jvm.Cond.code ({ cls := "java/lang/StringUTF16", name := "coderFromArrayLen", desc := "([BI)B" } : Jvm.MethodName) jdk_52_method_15_code (2 : Nat) (Option.some Jvm.ClassFile.FieldType.byte), Jvm.Cond.code ({ cls := "com/example/descriptor/descriptor/TaggedFileReaderIsLanguageCodePinLaw", name := "lower", desc := "(C)Z" } : Jvm.MethodName) method_3_code (1 : Nat) (Option.some Jvm.ClassFile.FieldType.boolean), Jvm.Cond.code ({ cls := "com/example/descriptor/descriptor/TaggedFileReader", name := "isLanguageCode", desc := "(Ljava/lang/String;I)Z" } : Jvm.MethodName) prog_13_method_8_code (2 : Nat) (Option.some Jvm.ClassFile.FieldType.boolean), Jvm.Cond.code ({ cls := "java/lang/String", name := "length", desc := "()I" } : Jvm.MethodName) jdk_42_method_54_code (1 : Nat) (Option.some Jvm.ClassFile.FieldType.int), Jvm.Cond.code ({ cls := "java/lang/String", name := "coder", desc := "()B" } : Jvm.MethodName) jdk_42_method_152_code (1 : Nat) (Option.some Jvm.ClassFile.FieldType.byte), Jvm.Cond.code ({ cls := "java/lang/String", name := "charAt", desc := "(I)C" } : Jvm.MethodName) jdk_42_method_56_code (2 : Nat) (Option.some Jvm.ClassFile.FieldType.char), Jvm.Cond.code ({ cls := "java/lang/String", name := "isLatin1", desc := "()Z" } : Jvm.MethodName) jdk_42_method_154_code (1 : Nat) (Option.some Jvm.ClassFile.FieldType.boolean), Jvm.Cond.code ({ cls := "java/lang/StringLatin1", name := "charAt", desc := "([BI)C" } : Jvm.MethodName) jdk_43_method_2_code (2 : Nat) (Option.some Jvm.ClassFile.FieldType.char), Jvm.Cond.code ({ cls := "java/lang/String", name := "checkIndex", desc := "(II)V" } : Jvm.MethodName) jdk_42_method_155_code (2 : Nat) (Option.none : Option Jvm.ClassFile.FieldType), Jvm.Cond.code ({ cls := "jdk/internal/util/Preconditions", name := "checkIndex", desc := "(IILjava/util/function/BiFunction;)I" } : Jvm.MethodName) jdk_41_method_11_code (3 : Nat) (Option.some Jvm.ClassFile.FieldType.int), Jvm.Cond.code ({ cls := "com/example/descriptor/descriptor/TaggedFileReader", name := "isLowerCaseLetter", desc := "(C)Z" } : Jvm.MethodName) prog_13_method_9_code (1 : Nat) (Option.some Jvm.ClassFile.FieldType.boolean)]
set_option maxRecDepth 65536 in
theorem codes_eq : words1.filter isCode = codes1 := rfl
theorem w_codes : ∀ c ∈ words1.filter isCode, c.before args0 about1 = true := by
  rw [codes_eq]
  intro c hc
  simp only [codes1, List.mem_cons, List.not_mem_nil, or_false] at hc
  rcases hc with rfl | rfl | rfl | rfl | rfl | rfl | rfl | rfl | rfl | rfl | rfl | rfl | rfl | rfl | rfl | rfl | rfl | rfl
  · exact w_c0
  · exact w_c1
  · exact w_c2
  · exact w_c3
  · exact w_c4
  · exact w_c5
  · exact w_c6
  · exact w_c7
  · exact w_c8
  · exact w_c9
  · exact w_c10
  · exact w_c11
  · exact w_c12
  · exact w_c13
  · exact w_c14
  · exact w_c15
  · exact w_c16
  · exact w_c17
set_option maxRecDepth 65536 in
theorem w_t1 : (words1.take 24).all (fun c => isCode c || c.before args0 about1) = true := by decide +kernel
set_option maxRecDepth 65536 in
theorem w_t2 : ((words1.drop 24).take 24).all (fun c => isCode c || c.before args0 about1) = true := by decide +kernel
set_option maxRecDepth 65536 in
theorem w_t3 : (((words1.drop 24).drop 24).take 24).all (fun c => isCode c || c.before args0 about1) = true := by decide +kernel
set_option maxRecDepth 65536 in
theorem w_t4 : (((words1.drop 24).drop 24).drop 24).all (fun c => isCode c || c.before args0 about1) = true := by decide +kernel
theorem w_tables : (allAtoms (Jvm.Cond.code x code maxLocals ret :: tables_1)).before args0 about1 = true := by
  rw [allAtoms_all]
  show words1.all (fun c => c.before args0 about1) = true
  refine all_split ?_ w_codes
  rw [← List.take_append_drop 24 words1, List.all_append, w_t1, ← List.take_append_drop 24 (words1.drop 24), List.all_append, w_t2, ← List.take_append_drop 24 ((words1.drop 24).drop 24), List.all_append, w_t3, w_t4]
  rfl
set_option maxRecDepth 65536 in
theorem w_rest : rest_1_c.before args0 about1 = true := by decide +kernel
set_option maxRecDepth 65536 in
theorem w_case : (Jvm.Cond.and given_1 narrow_1).before args0 about1 = true := by decide +kernel
set_option maxRecDepth 65536 in
theorem w_consts : constsHeld consts_1 about1 := Jvm.Lit.constsHeldB_iff.mp (by decide +kernel)
theorem w_applies : (headSpec (Jvm.Cond.code x code maxLocals ret :: tables_1) room_1).applies x e0.platform about1 = true :=
  (Spec.applies_iff w_frames).mpr ⟨w_running, w_runnable, w_alone, w_named, w_hears, w_ripe, w_room, w_tables⟩
theorem atStart : AtStart classFile x code maxLocals ret World_1 tables_1 room_1 Calls_1 rest_1 Pre_1 launch0 p0 e0 about1 theMethod args0 below0 :=
  ⟨lists_1, trivial, launch0.admits_env _ _ _, launch0.least_env, fairChoices_fair.cas, fairChoices_fair.clock, w_frames, w_args, w_heap, w_applies, ⟨w_consts, trivial⟩, w_rest, w_case⟩
end start1
theorem witness_1 : WitnessClaimed_1 := ⟨start1.p0, start1.e0, start1.about1, start1.theMethod, start1.args0, start1.below0, start1.atStart⟩
end Jvm.Pilot.@@N@@
