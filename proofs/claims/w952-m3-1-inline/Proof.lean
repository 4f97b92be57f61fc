import JvmDerived
import JvmDerived.Pilot.@@N@@Statement
import JvmDerived.Pilot.@@N@@Code
set_option linter.unusedVariables false
set_option linter.unusedSimpArgs false
set_option maxHeartbeats 40000000
namespace Jvm.Pilot.@@N@@
open Jvm Jvm.ClassFile Sem Op Lib Jvm.Free Jvm.Stand Jvm.LawKit Jvm.RoadKit Bundle Jvm.Pilot.@@N@@.Jvm.D
/-! ## own kit: a small logic of walks -/
/-- the walk's fixed surroundings -/
def Cx (p : Program) (s : State) (m : MethodId) (meth : Method) (c : Code) (Z : State) (own : String) (bytes : ByteArray) (maxL : Nat) (ret : Option FieldType) (nm : String) : Prop :=
  p.tables.exec = Jvm.exec ∧ c.code = bytes ∧ c.maxLocals = maxL ∧ Z.Warmed39 s.vm ∧ s.vm.findClass own = some m.cls ∧ meth.sig.returnType = ret ∧ meth.locks = false ∧ meth.name = nm
/-- from every state that stands at heap h with frame g, having made at most so many cells and slots, the walk comes to a good end -/
def AtW (p : Program) (l : Launch) (e : Env) (R : Room) (s : State) (m : MethodId) (args : Array Value) (below : List Frame) (meth : Method) (c : Code) (n0 : Nat) (Q : Option Value → Heap → Prop) (h : Heap) (cells slots : Nat) (g : JFrame) : Prop :=
  ∀ (T : State) (locs : List Loc) (k n : Nat), Stand p l e R s m args below meth c T locs k n → k ≤ cells → n ≤ slots → T.heap = h → Fr n0 locs →
    ∃ t o, Steps p.tables e below (T.setTop g) t ∧ t.status = .running ∧ Ended t below o ∧ ∃ v L, o = .returned v ∧ (Fr n0 L ∧ Q v t.heap) ∧ FrameEnd s o t L R.cells R.slots
/-- a body's contract: called with 'as' at heap h0 it returns some v at some h with Q v h, and writes nothing below n0 -/
def Ct (ws : List Jvm.Cond) (l : Launch) (Z : State) (n0 : Nat) (y : MethodName) (bytes : ByteArray) (maxL : Nat) (ret : Option FieldType) (rm : Room) (as : Array Value) (h0 : Heap) (Q : Option Value → Heap → Prop) : Prop :=
  MetFree l y (head1 (Jvm.Cond.code y bytes maxL ret :: ws) rm) (fun a U => a = as ∧ Z.Warmed39 U.vm ∧ U.heap = h0) (fun _ _ _ _ _ => True)
    (fun _ U o U' => ∃ v L, o = .returned v ∧ (Fr n0 L ∧ Q v U'.heap) ∧ FrameEnd U o U' L rm.cells rm.slots)
theorem own_leb {a b : Nat} (h : Nat.ble a b = true) : a ≤ b := Nat.le_of_ble_eq_true h
theorem own_ltb {a b : Nat} (h : Nat.ble (a + 1) b = true) : a < b := Nat.le_of_ble_eq_true h
/-- the class is found and is no interface -/
def NI (s : State) (C : String) : Prop := ∃ c k, s.vm.findClass C = some c ∧ s.vm.classes[c]? = some k ∧ k.isInterface = false
theorem NI.of_inst {s : State} {args : Array Value} {C : String} {n : Nat} (w : (Jvm.Cond.instantiable C n).before args s = true) : NI s C := by
  obtain ⟨c, k, hc, hk, -, h, -⟩ := Cond.instantiable_spec w
  exact ⟨c, k, hc, hk, (Bool.or_eq_false_iff.mp h).1⟩
theorem NI.of_sel {s : State} {args : Array Value} {C : String} {y z : MethodName} (w : (Jvm.Cond.selects C y z).before args s = true) : NI s z.cls := by
  obtain ⟨c, r, m, -, -, hn, -, k, hk, hi⟩ := Cond.selects_spec w
  exact ⟨m.cls, k, findClass_of_methodNamed hn, hk, hi⟩
theorem NI.nf {s : State} {y : MethodName} (w : NI s y.cls) : NotFace s y := fun r0 h0 => by
  obtain ⟨c, k, hc, hk, hi⟩ := w
  cases (findClass_of_methodNamed h0).symm.trans hc
  exact ⟨k, hk, hi⟩
section Wk
variable {p : Program} {l : Launch} {e : Env} {R : Room} {s : State} {m : MethodId} {args : Array Value} {below : List Frame} {meth : Method} {c : Code} {n0 : Nat} {Q : Option Value → Heap → Prop} {h : Heap} {cells slots : Nat} {Z : State} {own : String} {bytes : ByteArray} {maxL : Nat} {ret : Option FieldType} {nm : String} {a0 : Array Value} {pc q : Nat} {L L' : Array Slot} {S : List Value}
theorem Ct.intro {ws : List Jvm.Cond} {y : MethodName} {rm : Room} {as : Array Value} (hp : plainFor y = true)
    (k : ∀ p e s m below meth c, Cx p s m meth c Z y.cls bytes maxL ret y.name → AtW p l e rm s m as below meth c n0 Q h 0 0 (entryFrame m as maxL)) : Ct ws l Z n0 y bytes maxL ret rm as h Q := by
  refine MetFree.of_bodySF hp hisR ?_
  intro p e s m args below meth c s₁ Bd hml0 hP hK
  obtain ⟨rfl, hZ, hh⟩ := hP
  have X0 := Stand.of_body Bd
  refine k p e s m below meth c ⟨Bd.exec, Bd.bytes, hml0, hZ, findClass_of_methodNamed Bd.named, Bd.returns, Bd.notSynchronized, (name_of_methodNamed Bd.named Bd.method).1⟩ s₁ [] 0 0 X0 (Nat.le_refl _) (Nat.le_refl _) ?_ (Fr.nil n0)
  rw [← hh, Bd.state]; rfl
theorem AtW.mono {g : JFrame} {cells' slots' : Nat} (K : AtW p l e R s m args below meth c n0 Q h cells' slots' g) (h1 : cells ≤ cells') (h2 : slots ≤ slots') : AtW p l e R s m args below meth c n0 Q h cells slots g :=
  fun T locs k n X hk hn eT N => K T locs k n X (Nat.le_trans hk h1) (Nat.le_trans hn h2) eT N
theorem AtW.go {g g' : JFrame} (K : AtW p l e R s m args below meth c n0 Q h cells slots g') (st : ∀ T, At T m c below → ∀ t, Steps p.tables e below (T.setTop g') t → Steps p.tables e below (T.setTop g) t) : AtW p l e R s m args below meth c n0 Q h cells slots g :=
  fun T locs k n X hk hn eT N => by
    obtain ⟨t, o, r1, r⟩ := K T locs k n X hk hn eT N
    exact ⟨t, o, st T X.here t r1, r⟩
theorem AtW.goX {g g' : JFrame} (K : AtW p l e R s m args below meth c n0 Q h cells slots g') (st : ∀ T locs k n, Stand p l e R s m args below meth c T locs k n → T.heap = h → ∀ t, Steps p.tables e below (T.setTop g') t → Steps p.tables e below (T.setTop g) t) : AtW p l e R s m args below meth c n0 Q h cells slots g :=
  fun T locs k n X hk hn eT N => by
    obtain ⟨t, o, r1, r⟩ := K T locs k n X hk hn eT N
    exact ⟨t, o, st T locs k n X eT t r1, r⟩
theorem AtW.cast {g g' : JFrame} (K : AtW p l e R s m args below meth c n0 Q h cells slots g') (q : g = g') : AtW p l e R s m args below meth c n0 Q h cells slots g := by rw [q]; exact K

theorem w_iload (C : Cx p s m meth c Z own bytes maxL ret nm) {k : Nat} {v : Int32} (hl : L[k]? = some (.val (.int v))) (hd : decode bytes pc = .ok (.iload k, 2)) (hq : pc + 2 = q) (K : AtW p l e R s m args below meth c n0 Q h cells slots (mkF m q L (.int v :: S))) : AtW p l e R s m args below meth c n0 Q h cells slots (mkF m pc L S) := by
  subst hq
  exact K.go fun T hA t st => XS.iload hA C.1 rfl (hb C.2.1 hd) hl st
theorem w_iloadN (C : Cx p s m meth c Z own bytes maxL ret nm) {k : Fin 4} {v : Int32} (hl : L[k.val]? = some (.val (.int v))) (hd : decode bytes pc = .ok (.iload_n k, 1)) (hq : pc + 1 = q) (K : AtW p l e R s m args below meth c n0 Q h cells slots (mkF m q L (.int v :: S))) : AtW p l e R s m args below meth c n0 Q h cells slots (mkF m pc L S) := by
  subst hq
  exact K.go fun T hA t st => XS.iloadN hA C.1 rfl (hb C.2.1 hd) hl st
theorem w_istore (C : Cx p s m meth c Z own bytes maxL ret nm) {k : Nat} {v : Int32} (hl : storeLocals L k (.int v) = some L') (hd : decode bytes pc = .ok (.istore k, 2)) (hq : pc + 2 = q) (K : AtW p l e R s m args below meth c n0 Q h cells slots (mkF m q L' S)) : AtW p l e R s m args below meth c n0 Q h cells slots (mkF m pc L (.int v :: S)) := by
  subst hq
  exact K.go fun T hA t st => XS.istore hA C.1 rfl (hb C.2.1 hd) rfl hl st
theorem w_istoreN (C : Cx p s m meth c Z own bytes maxL ret nm) {k : Fin 4} {v : Int32} (hl : storeLocals L k.val (.int v) = some L') (hd : decode bytes pc = .ok (.istore_n k, 1)) (hq : pc + 1 = q) (K : AtW p l e R s m args below meth c n0 Q h cells slots (mkF m q L' S)) : AtW p l e R s m args below meth c n0 Q h cells slots (mkF m pc L (.int v :: S)) := by
  subst hq
  exact K.go fun T hA t st => XS.istoreN hA C.1 rfl (hb C.2.1 hd) rfl hl st
theorem w_lload (C : Cx p s m meth c Z own bytes maxL ret nm) {k : Nat} {v : Int64} (hl : L[k]? = some (.val (.long v))) (hd : decode bytes pc = .ok (.lload k, 2)) (hq : pc + 2 = q) (K : AtW p l e R s m args below meth c n0 Q h cells slots (mkF m q L (.long v :: S))) : AtW p l e R s m args below meth c n0 Q h cells slots (mkF m pc L S) := by
  subst hq
  exact K.go fun T hA t st => XS.lload hA C.1 rfl (hb C.2.1 hd) hl st
theorem w_lloadN (C : Cx p s m meth c Z own bytes maxL ret nm) {k : Fin 4} {v : Int64} (hl : L[k.val]? = some (.val (.long v))) (hd : decode bytes pc = .ok (.lload_n k, 1)) (hq : pc + 1 = q) (K : AtW p l e R s m args below meth c n0 Q h cells slots (mkF m q L (.long v :: S))) : AtW p l e R s m args below meth c n0 Q h cells slots (mkF m pc L S) := by
  subst hq
  exact K.go fun T hA t st => XS.lloadN hA C.1 rfl (hb C.2.1 hd) hl st
theorem w_lstore (C : Cx p s m meth c Z own bytes maxL ret nm) {k : Nat} {v : Int64} (hl : storeLocals L k (.long v) = some L') (hd : decode bytes pc = .ok (.lstore k, 2)) (hq : pc + 2 = q) (K : AtW p l e R s m args below meth c n0 Q h cells slots (mkF m q L' S)) : AtW p l e R s m args below meth c n0 Q h cells slots (mkF m pc L (.long v :: S)) := by
  subst hq
  exact K.go fun T hA t st => XS.lstore hA C.1 rfl (hb C.2.1 hd) rfl hl st
theorem w_lstoreN (C : Cx p s m meth c Z own bytes maxL ret nm) {k : Fin 4} {v : Int64} (hl : storeLocals L k.val (.long v) = some L') (hd : decode bytes pc = .ok (.lstore_n k, 1)) (hq : pc + 1 = q) (K : AtW p l e R s m args below meth c n0 Q h cells slots (mkF m q L' S)) : AtW p l e R s m args below meth c n0 Q h cells slots (mkF m pc L (.long v :: S)) := by
  subst hq
  exact K.go fun T hA t st => XS.lstoreN hA C.1 rfl (hb C.2.1 hd) rfl hl st
theorem w_aload (C : Cx p s m meth c Z own bytes maxL ret nm) {k : Nat} {v : Value} (hl : L[k]? = some (.val v)) (hv : v.isRef = true) (hd : decode bytes pc = .ok (.aload k, 2)) (hq : pc + 2 = q) (K : AtW p l e R s m args below meth c n0 Q h cells slots (mkF m q L (v :: S))) : AtW p l e R s m args below meth c n0 Q h cells slots (mkF m pc L S) := by
  subst hq
  exact K.go fun T hA t st => XS.aload hA C.1 rfl (hb C.2.1 hd) hl hv st
theorem w_aloadN (C : Cx p s m meth c Z own bytes maxL ret nm) {k : Fin 4} {v : Value} (hl : L[k.val]? = some (.val v)) (hv : v.isRef = true) (hd : decode bytes pc = .ok (.aload_n k, 1)) (hq : pc + 1 = q) (K : AtW p l e R s m args below meth c n0 Q h cells slots (mkF m q L (v :: S))) : AtW p l e R s m args below meth c n0 Q h cells slots (mkF m pc L S) := by
  subst hq
  exact K.go fun T hA t st => XS.aloadN hA C.1 rfl (hb C.2.1 hd) hl hv st
theorem w_astore (C : Cx p s m meth c Z own bytes maxL ret nm) {k : Nat} {v : Value} (hv : v.isRef = true) (hl : storeLocals L k v = some L') (hd : decode bytes pc = .ok (.astore k, 2)) (hq : pc + 2 = q) (K : AtW p l e R s m args below meth c n0 Q h cells slots (mkF m q L' S)) : AtW p l e R s m args below meth c n0 Q h cells slots (mkF m pc L (v :: S)) := by
  subst hq
  exact K.go fun T hA t st => XS.astore hA C.1 rfl (hb C.2.1 hd) rfl hv hl st
theorem w_astoreN (C : Cx p s m meth c Z own bytes maxL ret nm) {k : Fin 4} {v : Value} (hv : v.isRef = true) (hl : storeLocals L k.val v = some L') (hd : decode bytes pc = .ok (.astore_n k, 1)) (hq : pc + 1 = q) (K : AtW p l e R s m args below meth c n0 Q h cells slots (mkF m q L' S)) : AtW p l e R s m args below meth c n0 Q h cells slots (mkF m pc L (v :: S)) := by
  subst hq
  exact K.go fun T hA t st => XS.astoreN hA C.1 rfl (hb C.2.1 hd) rfl hv hl st
theorem w_iconst (C : Cx p s m meth c Z own bytes maxL ret nm) {i : Int} {v : Int32} (hv : Int32.ofInt i = v) (hd : decode bytes pc = .ok (.iconst i, 1)) (hq : pc + 1 = q) (K : AtW p l e R s m args below meth c n0 Q h cells slots (mkF m q L (.int v :: S))) : AtW p l e R s m args below meth c n0 Q h cells slots (mkF m pc L S) := by
  subst hq
  exact K.go fun T hA t st => by subst hv; exact XS.iconst hA C.1 rfl (hb C.2.1 hd) st
theorem w_bipush (C : Cx p s m meth c Z own bytes maxL ret nm) {i : Int} {v : Int32} (hv : (Int8.ofInt i).toInt32 = v) (hd : decode bytes pc = .ok (.bipush i, 2)) (hq : pc + 2 = q) (K : AtW p l e R s m args below meth c n0 Q h cells slots (mkF m q L (.int v :: S))) : AtW p l e R s m args below meth c n0 Q h cells slots (mkF m pc L S) := by
  subst hq
  exact K.go fun T hA t st => by subst hv; exact XS.bipush hA C.1 rfl (hb C.2.1 hd) st
theorem w_sipush (C : Cx p s m meth c Z own bytes maxL ret nm) {i : Int} {v : Int32} (hv : (Int16.ofInt i).toInt32 = v) (hd : decode bytes pc = .ok (.sipush i, 3)) (hq : pc + 3 = q) (K : AtW p l e R s m args below meth c n0 Q h cells slots (mkF m q L (.int v :: S))) : AtW p l e R s m args below meth c n0 Q h cells slots (mkF m pc L S) := by
  subst hq
  exact K.go fun T hA t st => by subst hv; exact XS.sipush hA C.1 rfl (hb C.2.1 hd) st
theorem w_lconst (C : Cx p s m meth c Z own bytes maxL ret nm) {k : Fin 2} {v : Int64} (hv : Int64.ofNat k = v) (hd : decode bytes pc = .ok (.lconst k, 1)) (hq : pc + 1 = q) (K : AtW p l e R s m args below meth c n0 Q h cells slots (mkF m q L (.long v :: S))) : AtW p l e R s m args below meth c n0 Q h cells slots (mkF m pc L S) := by
  subst hq
  exact K.go fun T hA t st => by subst hv; exact XS.lconst hA C.1 rfl (hb C.2.1 hd) st
theorem w_aconst_null (C : Cx p s m meth c Z own bytes maxL ret nm)  (hd : decode bytes pc = .ok (.aconst_null, 1)) (hq : pc + 1 = q) (K : AtW p l e R s m args below meth c n0 Q h cells slots (mkF m q L (.null :: S))) : AtW p l e R s m args below meth c n0 Q h cells slots (mkF m pc L S) := by
  subst hq
  exact K.go fun T hA t st => XS.aconstNull hA C.1 rfl (hb C.2.1 hd) st
theorem w_iadd (C : Cx p s m meth c Z own bytes maxL ret nm) {x y z : Int32} (hz : x + y = z) (hd : decode bytes pc = .ok (.iadd, 1)) (hq : pc + 1 = q) (K : AtW p l e R s m args below meth c n0 Q h cells slots (mkF m q L (.int z :: S))) : AtW p l e R s m args below meth c n0 Q h cells slots (mkF m pc L (.int y :: .int x :: S)) := by
  subst hq
  exact K.go fun T hA t st => by subst hz; exact XS.iadd hA C.1 rfl (hb C.2.1 hd) rfl st
theorem w_isub (C : Cx p s m meth c Z own bytes maxL ret nm) {x y z : Int32} (hz : x - y = z) (hd : decode bytes pc = .ok (.isub, 1)) (hq : pc + 1 = q) (K : AtW p l e R s m args below meth c n0 Q h cells slots (mkF m q L (.int z :: S))) : AtW p l e R s m args below meth c n0 Q h cells slots (mkF m pc L (.int y :: .int x :: S)) := by
  subst hq
  exact K.go fun T hA t st => by subst hz; exact XS.isub hA C.1 rfl (hb C.2.1 hd) rfl st
theorem w_imul (C : Cx p s m meth c Z own bytes maxL ret nm) {x y z : Int32} (hz : x * y = z) (hd : decode bytes pc = .ok (.imul, 1)) (hq : pc + 1 = q) (K : AtW p l e R s m args below meth c n0 Q h cells slots (mkF m q L (.int z :: S))) : AtW p l e R s m args below meth c n0 Q h cells slots (mkF m pc L (.int y :: .int x :: S)) := by
  subst hq
  exact K.go fun T hA t st => by subst hz; exact XS.imul hA C.1 rfl (hb C.2.1 hd) rfl st
theorem w_iand (C : Cx p s m meth c Z own bytes maxL ret nm) {x y z : Int32} (hz : x &&& y = z) (hd : decode bytes pc = .ok (.iand, 1)) (hq : pc + 1 = q) (K : AtW p l e R s m args below meth c n0 Q h cells slots (mkF m q L (.int z :: S))) : AtW p l e R s m args below meth c n0 Q h cells slots (mkF m pc L (.int y :: .int x :: S)) := by
  subst hq
  exact K.go fun T hA t st => by subst hz; exact XS.iand hA C.1 rfl (hb C.2.1 hd) rfl st
theorem w_ior (C : Cx p s m meth c Z own bytes maxL ret nm) {x y z : Int32} (hz : x ||| y = z) (hd : decode bytes pc = .ok (.ior, 1)) (hq : pc + 1 = q) (K : AtW p l e R s m args below meth c n0 Q h cells slots (mkF m q L (.int z :: S))) : AtW p l e R s m args below meth c n0 Q h cells slots (mkF m pc L (.int y :: .int x :: S)) := by
  subst hq
  exact K.go fun T hA t st => by subst hz; exact XS.ior hA C.1 rfl (hb C.2.1 hd) rfl st
theorem w_ixor (C : Cx p s m meth c Z own bytes maxL ret nm) {x y z : Int32} (hz : x ^^^ y = z) (hd : decode bytes pc = .ok (.ixor, 1)) (hq : pc + 1 = q) (K : AtW p l e R s m args below meth c n0 Q h cells slots (mkF m q L (.int z :: S))) : AtW p l e R s m args below meth c n0 Q h cells slots (mkF m pc L (.int y :: .int x :: S)) := by
  subst hq
  exact K.go fun T hA t st => by subst hz; exact XS.ixor hA C.1 rfl (hb C.2.1 hd) rfl st
theorem w_ladd (C : Cx p s m meth c Z own bytes maxL ret nm) {x y z : Int64} (hz : x + y = z) (hd : decode bytes pc = .ok (.ladd, 1)) (hq : pc + 1 = q) (K : AtW p l e R s m args below meth c n0 Q h cells slots (mkF m q L (.long z :: S))) : AtW p l e R s m args below meth c n0 Q h cells slots (mkF m pc L (.long y :: .long x :: S)) := by
  subst hq
  exact K.go fun T hA t st => by subst hz; exact XS.ladd hA C.1 rfl (hb C.2.1 hd) rfl st
theorem w_lsub (C : Cx p s m meth c Z own bytes maxL ret nm) {x y z : Int64} (hz : x - y = z) (hd : decode bytes pc = .ok (.lsub, 1)) (hq : pc + 1 = q) (K : AtW p l e R s m args below meth c n0 Q h cells slots (mkF m q L (.long z :: S))) : AtW p l e R s m args below meth c n0 Q h cells slots (mkF m pc L (.long y :: .long x :: S)) := by
  subst hq
  exact K.go fun T hA t st => by subst hz; exact XS.lsub hA C.1 rfl (hb C.2.1 hd) rfl st
theorem w_lmul (C : Cx p s m meth c Z own bytes maxL ret nm) {x y z : Int64} (hz : x * y = z) (hd : decode bytes pc = .ok (.lmul, 1)) (hq : pc + 1 = q) (K : AtW p l e R s m args below meth c n0 Q h cells slots (mkF m q L (.long z :: S))) : AtW p l e R s m args below meth c n0 Q h cells slots (mkF m pc L (.long y :: .long x :: S)) := by
  subst hq
  exact K.go fun T hA t st => by subst hz; exact XS.lmul hA C.1 rfl (hb C.2.1 hd) rfl st
theorem w_land (C : Cx p s m meth c Z own bytes maxL ret nm) {x y z : Int64} (hz : x &&& y = z) (hd : decode bytes pc = .ok (.land, 1)) (hq : pc + 1 = q) (K : AtW p l e R s m args below meth c n0 Q h cells slots (mkF m q L (.long z :: S))) : AtW p l e R s m args below meth c n0 Q h cells slots (mkF m pc L (.long y :: .long x :: S)) := by
  subst hq
  exact K.go fun T hA t st => by subst hz; exact XS.land hA C.1 rfl (hb C.2.1 hd) rfl st
theorem w_lor (C : Cx p s m meth c Z own bytes maxL ret nm) {x y z : Int64} (hz : x ||| y = z) (hd : decode bytes pc = .ok (.lor, 1)) (hq : pc + 1 = q) (K : AtW p l e R s m args below meth c n0 Q h cells slots (mkF m q L (.long z :: S))) : AtW p l e R s m args below meth c n0 Q h cells slots (mkF m pc L (.long y :: .long x :: S)) := by
  subst hq
  exact K.go fun T hA t st => by subst hz; exact XS.lor hA C.1 rfl (hb C.2.1 hd) rfl st
theorem w_lxor (C : Cx p s m meth c Z own bytes maxL ret nm) {x y z : Int64} (hz : x ^^^ y = z) (hd : decode bytes pc = .ok (.lxor, 1)) (hq : pc + 1 = q) (K : AtW p l e R s m args below meth c n0 Q h cells slots (mkF m q L (.long z :: S))) : AtW p l e R s m args below meth c n0 Q h cells slots (mkF m pc L (.long y :: .long x :: S)) := by
  subst hq
  exact K.go fun T hA t st => by subst hz; exact XS.lxor hA C.1 rfl (hb C.2.1 hd) rfl st
theorem w_ishl (C : Cx p s m meth c Z own bytes maxL ret nm) {x y z : Int32} (hz : x <<< (y &&& 31) = z) (hd : decode bytes pc = .ok (.ishl, 1)) (hq : pc + 1 = q) (K : AtW p l e R s m args below meth c n0 Q h cells slots (mkF m q L (.int z :: S))) : AtW p l e R s m args below meth c n0 Q h cells slots (mkF m pc L (.int y :: .int x :: S)) := by
  subst hq
  exact K.go fun T hA t st => by subst hz; exact XS.ishl hA C.1 rfl (hb C.2.1 hd) rfl st
theorem w_ishr (C : Cx p s m meth c Z own bytes maxL ret nm) {x y z : Int32} (hz : x >>> (y &&& 31) = z) (hd : decode bytes pc = .ok (.ishr, 1)) (hq : pc + 1 = q) (K : AtW p l e R s m args below meth c n0 Q h cells slots (mkF m q L (.int z :: S))) : AtW p l e R s m args below meth c n0 Q h cells slots (mkF m pc L (.int y :: .int x :: S)) := by
  subst hq
  exact K.go fun T hA t st => by subst hz; exact XS.ishr hA C.1 rfl (hb C.2.1 hd) rfl st
theorem w_iushr (C : Cx p s m meth c Z own bytes maxL ret nm) {x y z : Int32} (hz : (x.toUInt32 >>> (y &&& 31).toUInt32).toInt32 = z) (hd : decode bytes pc = .ok (.iushr, 1)) (hq : pc + 1 = q) (K : AtW p l e R s m args below meth c n0 Q h cells slots (mkF m q L (.int z :: S))) : AtW p l e R s m args below meth c n0 Q h cells slots (mkF m pc L (.int y :: .int x :: S)) := by
  subst hq
  exact K.go fun T hA t st => by subst hz; exact XS.iushr hA C.1 rfl (hb C.2.1 hd) rfl st
theorem w_lshl (C : Cx p s m meth c Z own bytes maxL ret nm) {x z : Int64} {y : Int32} (hz : x <<< (y &&& 0x3f).toInt64 = z) (hd : decode bytes pc = .ok (.lshl, 1)) (hq : pc + 1 = q) (K : AtW p l e R s m args below meth c n0 Q h cells slots (mkF m q L (.long z :: S))) : AtW p l e R s m args below meth c n0 Q h cells slots (mkF m pc L (.int y :: .long x :: S)) := by
  subst hq
  exact K.go fun T hA t st => by subst hz; exact XS.lshl hA C.1 rfl (hb C.2.1 hd) rfl st
theorem w_lshr (C : Cx p s m meth c Z own bytes maxL ret nm) {x z : Int64} {y : Int32} (hz : x >>> (y &&& 0x3f).toInt64 = z) (hd : decode bytes pc = .ok (.lshr, 1)) (hq : pc + 1 = q) (K : AtW p l e R s m args below meth c n0 Q h cells slots (mkF m q L (.long z :: S))) : AtW p l e R s m args below meth c n0 Q h cells slots (mkF m pc L (.int y :: .long x :: S)) := by
  subst hq
  exact K.go fun T hA t st => by subst hz; exact XS.lshr hA C.1 rfl (hb C.2.1 hd) rfl st
theorem w_lushr (C : Cx p s m meth c Z own bytes maxL ret nm) {x z : Int64} {y : Int32} (hz : (x.toUInt64 >>> (y &&& 0x3f).toInt64.toUInt64).toInt64 = z) (hd : decode bytes pc = .ok (.lushr, 1)) (hq : pc + 1 = q) (K : AtW p l e R s m args below meth c n0 Q h cells slots (mkF m q L (.long z :: S))) : AtW p l e R s m args below meth c n0 Q h cells slots (mkF m pc L (.int y :: .long x :: S)) := by
  subst hq
  exact K.go fun T hA t st => by subst hz; exact XS.lushr hA C.1 rfl (hb C.2.1 hd) rfl st
theorem w_idiv (C : Cx p s m meth c Z own bytes maxL ret nm) {x y z : Int32} (hy : y ≠ 0) (hz : x / y = z) (hd : decode bytes pc = .ok (.idiv, 1)) (hq : pc + 1 = q) (K : AtW p l e R s m args below meth c n0 Q h cells slots (mkF m q L (.int z :: S))) : AtW p l e R s m args below meth c n0 Q h cells slots (mkF m pc L (.int y :: .int x :: S)) := by
  subst hq
  exact K.go fun T hA t st => by subst hz; exact XS.idiv hA C.1 rfl (hb C.2.1 hd) rfl hy st
theorem w_ldiv (C : Cx p s m meth c Z own bytes maxL ret nm) {x y z : Int64} (hy : y ≠ 0) (hz : x / y = z) (hd : decode bytes pc = .ok (.ldiv, 1)) (hq : pc + 1 = q) (K : AtW p l e R s m args below meth c n0 Q h cells slots (mkF m q L (.long z :: S))) : AtW p l e R s m args below meth c n0 Q h cells slots (mkF m pc L (.long y :: .long x :: S)) := by
  subst hq
  exact K.go fun T hA t st => by subst hz; exact XS.ldiv hA C.1 rfl (hb C.2.1 hd) rfl hy st
theorem w_irem (C : Cx p s m meth c Z own bytes maxL ret nm) {x y z : Int32} (hy : y ≠ 0) (hz : x % y = z) (hd : decode bytes pc = .ok (.irem, 1)) (hq : pc + 1 = q) (K : AtW p l e R s m args below meth c n0 Q h cells slots (mkF m q L (.int z :: S))) : AtW p l e R s m args below meth c n0 Q h cells slots (mkF m pc L (.int y :: .int x :: S)) := by
  subst hq
  exact K.go fun T hA t st => by subst hz; rw [← irem_eq_mod x y] at st; exact XS.irem hA C.1 rfl (hb C.2.1 hd) rfl hy st
theorem w_lrem (C : Cx p s m meth c Z own bytes maxL ret nm) {x y z : Int64} (hy : y ≠ 0) (hz : x % y = z) (hd : decode bytes pc = .ok (.lrem, 1)) (hq : pc + 1 = q) (K : AtW p l e R s m args below meth c n0 Q h cells slots (mkF m q L (.long z :: S))) : AtW p l e R s m args below meth c n0 Q h cells slots (mkF m pc L (.long y :: .long x :: S)) := by
  subst hq
  exact K.go fun T hA t st => by subst hz; rw [← lrem_mod x y] at st; exact XS.lrem hA C.1 rfl (hb C.2.1 hd) rfl hy st
theorem w_ineg (C : Cx p s m meth c Z own bytes maxL ret nm) {x : Int32} {z : Int32} (hz : -x = z) (hd : decode bytes pc = .ok (.ineg, 1)) (hq : pc + 1 = q) (K : AtW p l e R s m args below meth c n0 Q h cells slots (mkF m q L (.int z :: S))) : AtW p l e R s m args below meth c n0 Q h cells slots (mkF m pc L (.int x :: S)) := by
  subst hq
  exact K.go fun T hA t st => by subst hz; exact XS.ineg hA C.1 rfl (hb C.2.1 hd) rfl st
theorem w_lneg (C : Cx p s m meth c Z own bytes maxL ret nm) {x : Int64} {z : Int64} (hz : -x = z) (hd : decode bytes pc = .ok (.lneg, 1)) (hq : pc + 1 = q) (K : AtW p l e R s m args below meth c n0 Q h cells slots (mkF m q L (.long z :: S))) : AtW p l e R s m args below meth c n0 Q h cells slots (mkF m pc L (.long x :: S)) := by
  subst hq
  exact K.go fun T hA t st => by subst hz; exact XS.lneg hA C.1 rfl (hb C.2.1 hd) rfl st
theorem w_i2l (C : Cx p s m meth c Z own bytes maxL ret nm) {x : Int32} {z : Int64} (hz : x.toInt64 = z) (hd : decode bytes pc = .ok (.i2l, 1)) (hq : pc + 1 = q) (K : AtW p l e R s m args below meth c n0 Q h cells slots (mkF m q L (.long z :: S))) : AtW p l e R s m args below meth c n0 Q h cells slots (mkF m pc L (.int x :: S)) := by
  subst hq
  exact K.go fun T hA t st => by subst hz; exact XS.i2l hA C.1 rfl (hb C.2.1 hd) rfl st
theorem w_l2i (C : Cx p s m meth c Z own bytes maxL ret nm) {x : Int64} {z : Int32} (hz : x.toInt32 = z) (hd : decode bytes pc = .ok (.l2i, 1)) (hq : pc + 1 = q) (K : AtW p l e R s m args below meth c n0 Q h cells slots (mkF m q L (.int z :: S))) : AtW p l e R s m args below meth c n0 Q h cells slots (mkF m pc L (.long x :: S)) := by
  subst hq
  exact K.go fun T hA t st => by subst hz; exact XS.l2i hA C.1 rfl (hb C.2.1 hd) rfl st
theorem w_i2b (C : Cx p s m meth c Z own bytes maxL ret nm) {x : Int32} {z : Int32} (hz : x.toInt8.toInt32 = z) (hd : decode bytes pc = .ok (.i2b, 1)) (hq : pc + 1 = q) (K : AtW p l e R s m args below meth c n0 Q h cells slots (mkF m q L (.int z :: S))) : AtW p l e R s m args below meth c n0 Q h cells slots (mkF m pc L (.int x :: S)) := by
  subst hq
  exact K.go fun T hA t st => by subst hz; exact XS.i2b hA C.1 rfl (hb C.2.1 hd) rfl st
theorem w_i2s (C : Cx p s m meth c Z own bytes maxL ret nm) {x : Int32} {z : Int32} (hz : x.toInt16.toInt32 = z) (hd : decode bytes pc = .ok (.i2s, 1)) (hq : pc + 1 = q) (K : AtW p l e R s m args below meth c n0 Q h cells slots (mkF m q L (.int z :: S))) : AtW p l e R s m args below meth c n0 Q h cells slots (mkF m pc L (.int x :: S)) := by
  subst hq
  exact K.go fun T hA t st => by subst hz; exact XS.i2s hA C.1 rfl (hb C.2.1 hd) rfl st
theorem w_i2c (C : Cx p s m meth c Z own bytes maxL ret nm) {x : Int32} {z : Int32} (hz : x.toUInt32.toUInt16.toUInt32.toInt32 = z) (hd : decode bytes pc = .ok (.i2c, 1)) (hq : pc + 1 = q) (K : AtW p l e R s m args below meth c n0 Q h cells slots (mkF m q L (.int z :: S))) : AtW p l e R s m args below meth c n0 Q h cells slots (mkF m pc L (.int x :: S)) := by
  subst hq
  exact K.go fun T hA t st => by subst hz; exact XS.i2c hA C.1 rfl (hb C.2.1 hd) rfl st
theorem w_lcmp (C : Cx p s m meth c Z own bytes maxL ret nm) {x y : Int64} {z : Int32} (hz : lcmpW x y = z) (hd : decode bytes pc = .ok (.lcmp, 1)) (hq : pc + 1 = q) (K : AtW p l e R s m args below meth c n0 Q h cells slots (mkF m q L (.int z :: S))) : AtW p l e R s m args below meth c n0 Q h cells slots (mkF m pc L (.long y :: .long x :: S)) := by
  subst hq
  exact K.go fun T hA t st => by subst hz; exact XS.lcmp hA C.1 rfl (hb C.2.1 hd) rfl st
theorem w_dup (C : Cx p s m meth c Z own bytes maxL ret nm) {x : Value} (hc : x.category = 1) (hd : decode bytes pc = .ok (.dup, 1)) (hq : pc + 1 = q) (K : AtW p l e R s m args below meth c n0 Q h cells slots (mkF m q L (x :: x :: S))) : AtW p l e R s m args below meth c n0 Q h cells slots (mkF m pc L (x :: S)) := by
  subst hq
  exact K.go fun T hA t st => XS.dup hA C.1 rfl (hb C.2.1 hd) rfl hc st
theorem w_pop (C : Cx p s m meth c Z own bytes maxL ret nm) {x : Value} (hc : x.category = 1) (hd : decode bytes pc = .ok (.pop, 1)) (hq : pc + 1 = q) (K : AtW p l e R s m args below meth c n0 Q h cells slots (mkF m q L S)) : AtW p l e R s m args below meth c n0 Q h cells slots (mkF m pc L (x :: S)) := by
  subst hq
  exact K.go fun T hA t st => XS.pop hA C.1 rfl (hb C.2.1 hd) rfl hc st
theorem w_dup_x1 (C : Cx p s m meth c Z own bytes maxL ret nm) {x y : Value} (hc : x.category = 1) (hc' : y.category = 1) (hd : decode bytes pc = .ok (.dup_x1, 1)) (hq : pc + 1 = q) (K : AtW p l e R s m args below meth c n0 Q h cells slots (mkF m q L (x :: y :: x :: S))) : AtW p l e R s m args below meth c n0 Q h cells slots (mkF m pc L (x :: y :: S)) := by
  subst hq
  exact K.go fun T hA t st => XS.dupX1 hA C.1 rfl (hb C.2.1 hd) rfl hc hc' st
theorem w_iinc (C : Cx p s m meth c Z own bytes maxL ret nm) {k : Nat} {cst : Int} {x z : Int32} (hl : L[k]? = some (.val (.int x))) (hz : x + Int32.ofInt cst = z) (hl' : storeLocals L k (.int z) = some L') (hd : decode bytes pc = .ok (.iinc k cst, 3)) (hq : pc + 3 = q) (K : AtW p l e R s m args below meth c n0 Q h cells slots (mkF m q L' S)) : AtW p l e R s m args below meth c n0 Q h cells slots (mkF m pc L S) := by
  subst hq
  exact K.go fun T hA t st => by subst hz; exact XS.iinc hA C.1 rfl (hb C.2.1 hd) hl hl' st
theorem w_goto (C : Cx p s m meth c Z own bytes maxL ret nm) {o : Int} (hd : decode bytes pc = .ok (.goto o, 3)) (ho : 0 ≤ (pc : Int) + o) (hp : ((pc : Int) + o).toNat = q) (K : AtW p l e R s m args below meth c n0 Q h cells slots (mkF m q L S)) : AtW p l e R s m args below meth c n0 Q h cells slots (mkF m pc L S) :=
  K.go fun T hA t st => XS.goto hA C.1 rfl (pc0 := pc) (pc' := q) rfl (hb C.2.1 hd) ho hp st
theorem w_icmp_lt_t (C : Cx p s m meth c Z own bytes maxL ret nm) {o : Int} {x y : Int32} (hd : decode bytes pc = .ok (.if_icmp .lt o, 3)) (ho : 0 ≤ (pc : Int) + o) (hp : ((pc : Int) + o).toNat = q) (hc : x < y) (K : AtW p l e R s m args below meth c n0 Q h cells slots (mkF m q L S)) : AtW p l e R s m args below meth c n0 Q h cells slots (mkF m pc L (.int y :: .int x :: S)) :=
  K.go fun T hA t st => XS.icmpYes hA C.1 rfl (pc0 := pc) (pc' := q) rfl (hb C.2.1 hd) rfl (tlt hc).1 ho hp st
theorem w_icmp_lt_f (C : Cx p s m meth c Z own bytes maxL ret nm) {o : Int} {x y : Int32} (hd : decode bytes pc = .ok (.if_icmp .lt o, 3)) (hq : pc + 3 = q) (hc : ¬ x < y) (K : AtW p l e R s m args below meth c n0 Q h cells slots (mkF m q L S)) : AtW p l e R s m args below meth c n0 Q h cells slots (mkF m pc L (.int y :: .int x :: S)) := by
  subst hq
  exact K.go fun T hA t st => XS.icmpNo hA C.1 rfl (hb C.2.1 hd) rfl (flt hc).1 st
theorem w_if_lt_t (C : Cx p s m meth c Z own bytes maxL ret nm) {o : Int} {x : Int32} (hd : decode bytes pc = .ok (.ifCond .lt o, 3)) (ho : 0 ≤ (pc : Int) + o) (hp : ((pc : Int) + o).toNat = q) (hc : x < 0) (K : AtW p l e R s m args below meth c n0 Q h cells slots (mkF m q L S)) : AtW p l e R s m args below meth c n0 Q h cells slots (mkF m pc L (.int x :: S)) :=
  K.go fun T hA t st => XS.ifYes hA C.1 rfl (pc0 := pc) (pc' := q) rfl (hb C.2.1 hd) rfl ((if0 _ _).trans (tlt hc).1) ho hp st
theorem w_if_lt_f (C : Cx p s m meth c Z own bytes maxL ret nm) {o : Int} {x : Int32} (hd : decode bytes pc = .ok (.ifCond .lt o, 3)) (hq : pc + 3 = q) (hc : ¬ x < 0) (K : AtW p l e R s m args below meth c n0 Q h cells slots (mkF m q L S)) : AtW p l e R s m args below meth c n0 Q h cells slots (mkF m pc L (.int x :: S)) := by
  subst hq
  exact K.go fun T hA t st => XS.ifNo hA C.1 rfl (hb C.2.1 hd) rfl ((if0 _ _).trans (flt hc).1) st
theorem w_icmp_ge_t (C : Cx p s m meth c Z own bytes maxL ret nm) {o : Int} {x y : Int32} (hd : decode bytes pc = .ok (.if_icmp .ge o, 3)) (ho : 0 ≤ (pc : Int) + o) (hp : ((pc : Int) + o).toNat = q) (hc : ¬ x < y) (K : AtW p l e R s m args below meth c n0 Q h cells slots (mkF m q L S)) : AtW p l e R s m args below meth c n0 Q h cells slots (mkF m pc L (.int y :: .int x :: S)) :=
  K.go fun T hA t st => XS.icmpYes hA C.1 rfl (pc0 := pc) (pc' := q) rfl (hb C.2.1 hd) rfl (flt hc).2.1 ho hp st
theorem w_icmp_ge_f (C : Cx p s m meth c Z own bytes maxL ret nm) {o : Int} {x y : Int32} (hd : decode bytes pc = .ok (.if_icmp .ge o, 3)) (hq : pc + 3 = q) (hc : x < y) (K : AtW p l e R s m args below meth c n0 Q h cells slots (mkF m q L S)) : AtW p l e R s m args below meth c n0 Q h cells slots (mkF m pc L (.int y :: .int x :: S)) := by
  subst hq
  exact K.go fun T hA t st => XS.icmpNo hA C.1 rfl (hb C.2.1 hd) rfl (tlt hc).2.1 st
theorem w_if_ge_t (C : Cx p s m meth c Z own bytes maxL ret nm) {o : Int} {x : Int32} (hd : decode bytes pc = .ok (.ifCond .ge o, 3)) (ho : 0 ≤ (pc : Int) + o) (hp : ((pc : Int) + o).toNat = q) (hc : ¬ x < 0) (K : AtW p l e R s m args below meth c n0 Q h cells slots (mkF m q L S)) : AtW p l e R s m args below meth c n0 Q h cells slots (mkF m pc L (.int x :: S)) :=
  K.go fun T hA t st => XS.ifYes hA C.1 rfl (pc0 := pc) (pc' := q) rfl (hb C.2.1 hd) rfl ((if0 _ _).trans (flt hc).2.1) ho hp st
theorem w_if_ge_f (C : Cx p s m meth c Z own bytes maxL ret nm) {o : Int} {x : Int32} (hd : decode bytes pc = .ok (.ifCond .ge o, 3)) (hq : pc + 3 = q) (hc : x < 0) (K : AtW p l e R s m args below meth c n0 Q h cells slots (mkF m q L S)) : AtW p l e R s m args below meth c n0 Q h cells slots (mkF m pc L (.int x :: S)) := by
  subst hq
  exact K.go fun T hA t st => XS.ifNo hA C.1 rfl (hb C.2.1 hd) rfl ((if0 _ _).trans (tlt hc).2.1) st
theorem w_icmp_gt_t (C : Cx p s m meth c Z own bytes maxL ret nm) {o : Int} {x y : Int32} (hd : decode bytes pc = .ok (.if_icmp .gt o, 3)) (ho : 0 ≤ (pc : Int) + o) (hp : ((pc : Int) + o).toNat = q) (hc : y < x) (K : AtW p l e R s m args below meth c n0 Q h cells slots (mkF m q L S)) : AtW p l e R s m args below meth c n0 Q h cells slots (mkF m pc L (.int y :: .int x :: S)) :=
  K.go fun T hA t st => XS.icmpYes hA C.1 rfl (pc0 := pc) (pc' := q) rfl (hb C.2.1 hd) rfl (tlt hc).2.2.1 ho hp st
theorem w_icmp_gt_f (C : Cx p s m meth c Z own bytes maxL ret nm) {o : Int} {x y : Int32} (hd : decode bytes pc = .ok (.if_icmp .gt o, 3)) (hq : pc + 3 = q) (hc : ¬ y < x) (K : AtW p l e R s m args below meth c n0 Q h cells slots (mkF m q L S)) : AtW p l e R s m args below meth c n0 Q h cells slots (mkF m pc L (.int y :: .int x :: S)) := by
  subst hq
  exact K.go fun T hA t st => XS.icmpNo hA C.1 rfl (hb C.2.1 hd) rfl (flt hc).2.2.1 st
theorem w_if_gt_t (C : Cx p s m meth c Z own bytes maxL ret nm) {o : Int} {x : Int32} (hd : decode bytes pc = .ok (.ifCond .gt o, 3)) (ho : 0 ≤ (pc : Int) + o) (hp : ((pc : Int) + o).toNat = q) (hc : 0 < x) (K : AtW p l e R s m args below meth c n0 Q h cells slots (mkF m q L S)) : AtW p l e R s m args below meth c n0 Q h cells slots (mkF m pc L (.int x :: S)) :=
  K.go fun T hA t st => XS.ifYes hA C.1 rfl (pc0 := pc) (pc' := q) rfl (hb C.2.1 hd) rfl ((if0 _ _).trans (tlt hc).2.2.1) ho hp st
theorem w_if_gt_f (C : Cx p s m meth c Z own bytes maxL ret nm) {o : Int} {x : Int32} (hd : decode bytes pc = .ok (.ifCond .gt o, 3)) (hq : pc + 3 = q) (hc : ¬ 0 < x) (K : AtW p l e R s m args below meth c n0 Q h cells slots (mkF m q L S)) : AtW p l e R s m args below meth c n0 Q h cells slots (mkF m pc L (.int x :: S)) := by
  subst hq
  exact K.go fun T hA t st => XS.ifNo hA C.1 rfl (hb C.2.1 hd) rfl ((if0 _ _).trans (flt hc).2.2.1) st
theorem w_icmp_le_t (C : Cx p s m meth c Z own bytes maxL ret nm) {o : Int} {x y : Int32} (hd : decode bytes pc = .ok (.if_icmp .le o, 3)) (ho : 0 ≤ (pc : Int) + o) (hp : ((pc : Int) + o).toNat = q) (hc : ¬ y < x) (K : AtW p l e R s m args below meth c n0 Q h cells slots (mkF m q L S)) : AtW p l e R s m args below meth c n0 Q h cells slots (mkF m pc L (.int y :: .int x :: S)) :=
  K.go fun T hA t st => XS.icmpYes hA C.1 rfl (pc0 := pc) (pc' := q) rfl (hb C.2.1 hd) rfl (flt hc).2.2.2 ho hp st
theorem w_icmp_le_f (C : Cx p s m meth c Z own bytes maxL ret nm) {o : Int} {x y : Int32} (hd : decode bytes pc = .ok (.if_icmp .le o, 3)) (hq : pc + 3 = q) (hc : y < x) (K : AtW p l e R s m args below meth c n0 Q h cells slots (mkF m q L S)) : AtW p l e R s m args below meth c n0 Q h cells slots (mkF m pc L (.int y :: .int x :: S)) := by
  subst hq
  exact K.go fun T hA t st => XS.icmpNo hA C.1 rfl (hb C.2.1 hd) rfl (tlt hc).2.2.2 st
theorem w_if_le_t (C : Cx p s m meth c Z own bytes maxL ret nm) {o : Int} {x : Int32} (hd : decode bytes pc = .ok (.ifCond .le o, 3)) (ho : 0 ≤ (pc : Int) + o) (hp : ((pc : Int) + o).toNat = q) (hc : ¬ 0 < x) (K : AtW p l e R s m args below meth c n0 Q h cells slots (mkF m q L S)) : AtW p l e R s m args below meth c n0 Q h cells slots (mkF m pc L (.int x :: S)) :=
  K.go fun T hA t st => XS.ifYes hA C.1 rfl (pc0 := pc) (pc' := q) rfl (hb C.2.1 hd) rfl ((if0 _ _).trans (flt hc).2.2.2) ho hp st
theorem w_if_le_f (C : Cx p s m meth c Z own bytes maxL ret nm) {o : Int} {x : Int32} (hd : decode bytes pc = .ok (.ifCond .le o, 3)) (hq : pc + 3 = q) (hc : 0 < x) (K : AtW p l e R s m args below meth c n0 Q h cells slots (mkF m q L S)) : AtW p l e R s m args below meth c n0 Q h cells slots (mkF m pc L (.int x :: S)) := by
  subst hq
  exact K.go fun T hA t st => XS.ifNo hA C.1 rfl (hb C.2.1 hd) rfl ((if0 _ _).trans (tlt hc).2.2.2) st
theorem w_icmp_eq_t (C : Cx p s m meth c Z own bytes maxL ret nm) {o : Int} {x y : Int32} (hd : decode bytes pc = .ok (.if_icmp .eq o, 3)) (ho : 0 ≤ (pc : Int) + o) (hp : ((pc : Int) + o).toNat = q) (hc : x = y) (K : AtW p l e R s m args below meth c n0 Q h cells slots (mkF m q L S)) : AtW p l e R s m args below meth c n0 Q h cells slots (mkF m pc L (.int y :: .int x :: S)) :=
  K.go fun T hA t st => XS.icmpYes hA C.1 rfl (pc0 := pc) (pc' := q) rfl (hb C.2.1 hd) rfl (teq hc).1 ho hp st
theorem w_icmp_eq_f (C : Cx p s m meth c Z own bytes maxL ret nm) {o : Int} {x y : Int32} (hd : decode bytes pc = .ok (.if_icmp .eq o, 3)) (hq : pc + 3 = q) (hc : ¬ x = y) (K : AtW p l e R s m args below meth c n0 Q h cells slots (mkF m q L S)) : AtW p l e R s m args below meth c n0 Q h cells slots (mkF m pc L (.int y :: .int x :: S)) := by
  subst hq
  exact K.go fun T hA t st => XS.icmpNo hA C.1 rfl (hb C.2.1 hd) rfl (feq hc).1 st
theorem w_if_eq_t (C : Cx p s m meth c Z own bytes maxL ret nm) {o : Int} {x : Int32} (hd : decode bytes pc = .ok (.ifCond .eq o, 3)) (ho : 0 ≤ (pc : Int) + o) (hp : ((pc : Int) + o).toNat = q) (hc : x = 0) (K : AtW p l e R s m args below meth c n0 Q h cells slots (mkF m q L S)) : AtW p l e R s m args below meth c n0 Q h cells slots (mkF m pc L (.int x :: S)) :=
  K.go fun T hA t st => XS.ifYes hA C.1 rfl (pc0 := pc) (pc' := q) rfl (hb C.2.1 hd) rfl ((if0 _ _).trans (teq hc).1) ho hp st
theorem w_if_eq_f (C : Cx p s m meth c Z own bytes maxL ret nm) {o : Int} {x : Int32} (hd : decode bytes pc = .ok (.ifCond .eq o, 3)) (hq : pc + 3 = q) (hc : ¬ x = 0) (K : AtW p l e R s m args below meth c n0 Q h cells slots (mkF m q L S)) : AtW p l e R s m args below meth c n0 Q h cells slots (mkF m pc L (.int x :: S)) := by
  subst hq
  exact K.go fun T hA t st => XS.ifNo hA C.1 rfl (hb C.2.1 hd) rfl ((if0 _ _).trans (feq hc).1) st
theorem w_icmp_ne_t (C : Cx p s m meth c Z own bytes maxL ret nm) {o : Int} {x y : Int32} (hd : decode bytes pc = .ok (.if_icmp .ne o, 3)) (ho : 0 ≤ (pc : Int) + o) (hp : ((pc : Int) + o).toNat = q) (hc : ¬ x = y) (K : AtW p l e R s m args below meth c n0 Q h cells slots (mkF m q L S)) : AtW p l e R s m args below meth c n0 Q h cells slots (mkF m pc L (.int y :: .int x :: S)) :=
  K.go fun T hA t st => XS.icmpYes hA C.1 rfl (pc0 := pc) (pc' := q) rfl (hb C.2.1 hd) rfl (feq hc).2 ho hp st
theorem w_icmp_ne_f (C : Cx p s m meth c Z own bytes maxL ret nm) {o : Int} {x y : Int32} (hd : decode bytes pc = .ok (.if_icmp .ne o, 3)) (hq : pc + 3 = q) (hc : x = y) (K : AtW p l e R s m args below meth c n0 Q h cells slots (mkF m q L S)) : AtW p l e R s m args below meth c n0 Q h cells slots (mkF m pc L (.int y :: .int x :: S)) := by
  subst hq
  exact K.go fun T hA t st => XS.icmpNo hA C.1 rfl (hb C.2.1 hd) rfl (teq hc).2 st
theorem w_if_ne_t (C : Cx p s m meth c Z own bytes maxL ret nm) {o : Int} {x : Int32} (hd : decode bytes pc = .ok (.ifCond .ne o, 3)) (ho : 0 ≤ (pc : Int) + o) (hp : ((pc : Int) + o).toNat = q) (hc : ¬ x = 0) (K : AtW p l e R s m args below meth c n0 Q h cells slots (mkF m q L S)) : AtW p l e R s m args below meth c n0 Q h cells slots (mkF m pc L (.int x :: S)) :=
  K.go fun T hA t st => XS.ifYes hA C.1 rfl (pc0 := pc) (pc' := q) rfl (hb C.2.1 hd) rfl ((if0 _ _).trans (feq hc).2) ho hp st
theorem w_if_ne_f (C : Cx p s m meth c Z own bytes maxL ret nm) {o : Int} {x : Int32} (hd : decode bytes pc = .ok (.ifCond .ne o, 3)) (hq : pc + 3 = q) (hc : x = 0) (K : AtW p l e R s m args below meth c n0 Q h cells slots (mkF m q L S)) : AtW p l e R s m args below meth c n0 Q h cells slots (mkF m pc L (.int x :: S)) := by
  subst hq
  exact K.go fun T hA t st => XS.ifNo hA C.1 rfl (hb C.2.1 hd) rfl ((if0 _ _).trans (teq hc).2) st
theorem w_ifnull_t (C : Cx p s m meth c Z own bytes maxL ret nm) {o : Int} (hd : decode bytes pc = .ok (.ifnull o, 3)) (ho : 0 ≤ (pc : Int) + o) (hp : ((pc : Int) + o).toNat = q) (K : AtW p l e R s m args below meth c n0 Q h cells slots (mkF m q L S)) : AtW p l e R s m args below meth c n0 Q h cells slots (mkF m pc L (.null :: S)) :=
  K.go fun T hA t st => XS.ifnullYes hA C.1 rfl (pc0 := pc) (pc' := q) rfl (hb C.2.1 hd) rfl ho hp st
theorem w_ifnull_f (C : Cx p s m meth c Z own bytes maxL ret nm) {o : Int} {b : Addr} (hd : decode bytes pc = .ok (.ifnull o, 3)) (hq : pc + 3 = q) (K : AtW p l e R s m args below meth c n0 Q h cells slots (mkF m q L S)) : AtW p l e R s m args below meth c n0 Q h cells slots (mkF m pc L ((.ref b) :: S)) := by
  subst hq
  exact K.go fun T hA t st => XS.ifnullNo hA C.1 rfl (hb C.2.1 hd) rfl st
theorem w_ifnonnull_t (C : Cx p s m meth c Z own bytes maxL ret nm) {o : Int} {b : Addr} (hd : decode bytes pc = .ok (.ifnonnull o, 3)) (ho : 0 ≤ (pc : Int) + o) (hp : ((pc : Int) + o).toNat = q) (K : AtW p l e R s m args below meth c n0 Q h cells slots (mkF m q L S)) : AtW p l e R s m args below meth c n0 Q h cells slots (mkF m pc L ((.ref b) :: S)) :=
  K.go fun T hA t st => XS.ifnonnullYes hA C.1 rfl (pc0 := pc) (pc' := q) rfl (hb C.2.1 hd) rfl ho hp st
theorem w_ifnonnull_f (C : Cx p s m meth c Z own bytes maxL ret nm) {o : Int} (hd : decode bytes pc = .ok (.ifnonnull o, 3)) (hq : pc + 3 = q) (K : AtW p l e R s m args below meth c n0 Q h cells slots (mkF m q L S)) : AtW p l e R s m args below meth c n0 Q h cells slots (mkF m pc L (.null :: S)) := by
  subst hq
  exact K.go fun T hA t st => XS.ifnonnullNo hA C.1 rfl (hb C.2.1 hd) rfl st
theorem w_acmp_t (C : Cx p s m meth c Z own bytes maxL ret nm) {cd : ACond} {o : Int} {x y : Value} (hd : decode bytes pc = .ok (.if_acmp cd o, 3)) (h1 : x.isRef = true) (h2 : y.isRef = true) {same : Bool} (hs : decide (x = y) = same) (hcd : acV cd same = true) (ho : 0 ≤ (pc : Int) + o) (hp : ((pc : Int) + o).toNat = q) (K : AtW p l e R s m args below meth c n0 Q h cells slots (mkF m q L S)) : AtW p l e R s m args below meth c n0 Q h cells slots (mkF m pc L (y :: x :: S)) :=
  K.goX fun T locs k n X eT t st => Jvm.RoadKit.acmp (g := mkF m pc L (y :: x :: S)) X C.1 rfl h1 h2 (pc0 := pc) (pc' := q) (same := same) rfl (hb C.2.1 hd) rfl hs ho (by rw [if_pos hcd]; exact hp.symm) st
theorem w_acmp_f (C : Cx p s m meth c Z own bytes maxL ret nm) {cd : ACond} {o : Int} {x y : Value} (hd : decode bytes pc = .ok (.if_acmp cd o, 3)) (h1 : x.isRef = true) (h2 : y.isRef = true) {same : Bool} (hs : decide (x = y) = same) (hcd : acV cd same = false) (ho : 0 ≤ (pc : Int) + o) (hq : pc + 3 = q) (K : AtW p l e R s m args below meth c n0 Q h cells slots (mkF m q L S)) : AtW p l e R s m args below meth c n0 Q h cells slots (mkF m pc L (y :: x :: S)) :=
  K.goX fun T locs k n X eT t st => Jvm.RoadKit.acmp (g := mkF m pc L (y :: x :: S)) X C.1 rfl h1 h2 (pc0 := pc) (pc' := q) (same := same) rfl (hb C.2.1 hd) rfl hs ho (by rw [if_neg (by rw [hcd]; exact Bool.false_ne_true)]; exact hq.symm) st
theorem w_ldcI (C : Cx p s m meth c Z own bytes maxL ret nm) {i : Nat} {v : Int32} (w : (Jvm.Cond.constant own i v).before a0 Z = true) (hd : decode bytes pc = .ok (.ldc i, 2)) (hq : pc + 2 = q) (K : AtW p l e R s m args below meth c n0 Q h cells slots (mkF m q L (.int v :: S))) : AtW p l e R s m args below meth c n0 Q h cells slots (mkF m pc L S) := by
  subst hq
  exact K.goX fun T locs k n X eT t st => X.ldcInt C.1 C.2.2.2.2.1 (mvT C.2.2.2.1 w) (g := mkF m pc L S) rfl (hb C.2.1 hd) t st
theorem w_ldcwI (C : Cx p s m meth c Z own bytes maxL ret nm) {i : Nat} {v : Int32} (w : (Jvm.Cond.constant own i v).before a0 Z = true) (hd : decode bytes pc = .ok (.ldc_w i, 3)) (hq : pc + 3 = q) (K : AtW p l e R s m args below meth c n0 Q h cells slots (mkF m q L (.int v :: S))) : AtW p l e R s m args below meth c n0 Q h cells slots (mkF m pc L S) := by
  subst hq
  exact K.goX fun T locs k n X eT t st => X.ldcwInt C.1 C.2.2.2.2.1 (mvT C.2.2.2.1 w) (g := mkF m pc L S) rfl (hb C.2.1 hd) t st
theorem w_ldc2J (C : Cx p s m meth c Z own bytes maxL ret nm) {i : Nat} {v : Int64} (w : (Jvm.Cond.constantLong own i v).before a0 Z = true) (hd : decode bytes pc = .ok (.ldc2_w i, 3)) (hq : pc + 3 = q) (K : AtW p l e R s m args below meth c n0 Q h cells slots (mkF m q L (.long v :: S))) : AtW p l e R s m args below meth c n0 Q h cells slots (mkF m pc L S) := by
  subst hq
  exact K.goX fun T locs k n X eT t st => X.ldc2Long C.1 C.2.2.2.2.1 (mvT C.2.2.2.1 w) (g := mkF m pc L S) rfl (hb C.2.1 hd) t st

theorem w_getF (C : Cx p s m meth c Z own bytes maxL ret nm) {R0 O n d host : String} {i : Nat} {a : Addr} {v : Value} (w : (Jvm.Cond.fieldLink own i R0 n d).before a0 Z = true ∨ (Jvm.Cond.fieldLinkNest own i R0 n d host).before a0 Z = true) (via : Via Z R0 O n d) (F : Fld Z h a O n d v) (hd : decode bytes pc = .ok (.getfield i, 3)) (hq : pc + 3 = q) (K : AtW p l e R s m args below meth c n0 Q h cells slots (mkF m q L (v :: S))) : AtW p l e R s m args below meth c n0 Q h cells slots (mkF m pc L (.ref a :: S)) := by
  subst hq
  intro T locs k n X hk hn eT N
  obtain ⟨T', X', e', st⟩ := getF X C.1 C.2.2.2.1 (host := host) C.2.2.2.2.1 w via eT F (g := mkF m pc L (.ref a :: S)) rfl rfl (hb C.2.1 hd)
  obtain ⟨t, o, r1, r⟩ := K T' locs k n X' hk hn e' N
  exact ⟨t, o, st _ r1, r⟩
theorem w_getS (C : Cx p s m meth c Z own bytes maxL ret nm) {R0 O n d host : String} {i : Nat} {v : Value} (w : (Jvm.Cond.fieldLink own i R0 n d).before a0 Z = true ∨ (Jvm.Cond.fieldLinkNest own i R0 n d host).before a0 Z = true) (via : Via Z R0 O n d) (F : Sta Z h O n d v) (hd : decode bytes pc = .ok (.getstatic i, 3)) (hq : pc + 3 = q) (K : AtW p l e R s m args below meth c n0 Q h cells slots (mkF m q L (v :: S))) : AtW p l e R s m args below meth c n0 Q h cells slots (mkF m pc L S) := by
  subst hq
  intro T locs k n X hk hn eT N
  obtain ⟨T', X', e', st⟩ := getS2 X C.1 C.2.2.2.1 (host := host) C.2.2.2.2.1 w via eT F (g := mkF m pc L S) rfl (hb C.2.1 hd)
  obtain ⟨t, o, r1, r⟩ := K T' locs k n X' hk hn e' N
  exact ⟨t, o, st _ r1, r⟩
theorem w_cast (C : Cx p s m meth c Z own bytes maxL ret nm) {K : String} {i : Nat} {a : Addr} (w : (Jvm.Cond.classLink own i K).before a0 Z = true) (F : Ins Z h a K true) (hd : decode bytes pc = .ok (.checkcast i, 3)) (hq : pc + 3 = q) (K : AtW p l e R s m args below meth c n0 Q h cells slots (mkF m q L (.ref a :: S))) : AtW p l e R s m args below meth c n0 Q h cells slots (mkF m pc L (.ref a :: S)) := by
  subst hq
  intro T locs k n X hk hn eT N
  obtain ⟨T', X', e', st⟩ := castY X C.1 C.2.2.2.1 C.2.2.2.2.1 w eT F (g := mkF m pc L (.ref a :: S)) rfl rfl (hb C.2.1 hd)
  obtain ⟨t, o, r1, r⟩ := K T' locs k n X' hk hn e' N
  exact ⟨t, o, st _ r1, r⟩
theorem w_inst (C : Cx p s m meth c Z own bytes maxL ret nm) {K : String} {i : Nat} {a : Addr} (w : (Jvm.Cond.classLink own i K).before a0 Z = true) (F : Ins Z h a K true) (hd : decode bytes pc = .ok (.instanceof i, 3)) (hq : pc + 3 = q) (K : AtW p l e R s m args below meth c n0 Q h cells slots (mkF m q L (.int 1 :: S))) : AtW p l e R s m args below meth c n0 Q h cells slots (mkF m pc L (.ref a :: S)) := by
  subst hq
  intro T locs k n X hk hn eT N
  obtain ⟨T', X', e', st⟩ := instY X C.1 C.2.2.2.1 C.2.2.2.2.1 w eT F (g := mkF m pc L (.ref a :: S)) rfl rfl (hb C.2.1 hd)
  obtain ⟨t, o, r1, r⟩ := K T' locs k n X' hk hn e' N
  exact ⟨t, o, st _ r1, r⟩
theorem w_initO (C : Cx p s m meth c Z own bytes maxL ret nm) {i : Nat} {a : Addr} (w1 : (Jvm.Cond.methodLink own i Lib.objectInit).before a0 Z = true) (w2 : (Jvm.Cond.instanceMethod Lib.objectInit).before a0 Z = true) (w3 : (Jvm.Cond.code Lib.objectInit object_method_1_code 1 none).before a0 Z = true) (hL : L.size = maxL) (hf : 1 ≤ R.frames) {W : Nat} (hW : (S.map fun v => v.category).sum ≤ W) (hlo : W + 12 ≤ R.locals) (hd : decode bytes pc = .ok (.invokespecial i, 3)) (hq : pc + 3 = q) (K : AtW p l e R s m args below meth c n0 Q h cells slots (mkF m q L S)) : AtW p l e R s m args below meth c n0 Q h cells slots (mkF m pc L (.ref a :: S)) := by
  subst hq
  intro T locs k n X hk hn eT N
  obtain ⟨T', X', e', st⟩ := initO X C.1 C.2.2.2.1 C.2.2.2.2.1 w1 w2 w3 eT (g := mkF m pc L (.ref a :: S)) rfl (hL.trans C.2.2.1.symm) rfl (hb C.2.1 hd) hf (W := W) (by show 2 * 0 + _ ≤ _; omega) hlo
  obtain ⟨t, o, r1, r⟩ := K T' locs k n X' hk hn e' N
  exact ⟨t, o, st _ r1, r⟩
theorem w_putF (C : Cx p s m meth c Z own bytes maxL ret nm) {R0 O n d host Cl : String} {i kk : Nat} {ty : FieldType} {a : Addr} {v v' old : Value} (w : (Jvm.Cond.fieldLink own i R0 n d).before a0 Z = true) (via : Via Z R0 O n d) (F : Fld Z h a O n d old) (E : Exa Z h a Cl)
    (hL : (Jvm.Cond.lays Cl O n d).before a0 Z = true ∨ ((Jvm.Cond.laysFinal Cl O n d).before a0 Z = true ∧ own = O ∧ nm = "<init>")) (wi : (Jvm.Cond.instantiable Cl kk).before a0 Z = true) (hty : parseFieldDescriptor d = some ty) (hn : narrow ty v = v') (hf : fits ty v' = true) (hge : n0 ≤ a)
    (hd : decode bytes pc = .ok (.putfield i, 3)) (hq : pc + 3 = q) (K : ∀ h', Wr h h' a (Jvm.RoadKit.slotOf Z O n d) v' → AtW p l e R s m args below meth c n0 Q h' cells slots (mkF m q L S)) : AtW p l e R s m args below meth c n0 Q h cells slots (mkF m pc L (v :: .ref a :: S)) := by
  subst hq
  intro T locs k n' X hk hn' eT N
  have hL' : (Jvm.Cond.lays Cl O n d).before a0 Z = true ∨ ((Jvm.Cond.laysFinal Cl O n d).before a0 Z = true ∧ own = O ∧ meth.name = "<init>") := hL.imp id fun x => ⟨x.1, x.2.1, C.2.2.2.2.2.2.2.trans x.2.2⟩
  obtain ⟨T', h', X', e', W, st⟩ := putFN X C.1 C.2.2.2.1 C.2.2.2.2.1 w via eT F E hL' wi hty hn hf (g := mkF m pc L (v :: .ref a :: S)) rfl rfl (hb C.2.1 hd)
  obtain ⟨t, o, r1, r⟩ := K h' W T' _ k n' X' hk hn' e' (Fr.snoc X' N hge)
  exact ⟨t, o, st _ r1, r⟩
theorem w_new (C : Cx p s m meth c Z own bytes maxL ret nm) {Cl : String} {i n : Nat} (w : (Jvm.Cond.classLink own i Cl).before a0 Z = true) (wi : (Jvm.Cond.instantiable Cl n).before a0 Z = true) (wz : (Jvm.Cond.initialized Cl).before a0 Z = true) {cells' slots' : Nat} (hc1 : cells + 1 = cells') (hs1 : slots + n = slots') (hc : cells' ≤ R.cells) (hl : slots' ≤ R.slots)
    (hd : decode bytes pc = .ok (.new i, 3)) (hq : pc + 3 = q) (K : ∀ h' a, a = h.size → Ext h h' → Exa Z h' a Cl → (∀ {O nm d : String} {ty : FieldType}, RoadKit.Laid Z a0 Cl O nm d → parseFieldDescriptor d = some ty → Fld Z h' a O nm d (defaultValue ty)) → AtW p l e R s m args below meth c n0 Q h' cells' slots' (mkF m q L (.ref a :: S))) : AtW p l e R s m args below meth c n0 Q h cells slots (mkF m pc L S) := by
  subst hq hc1 hs1
  intro T locs k n' X hk hn' eT N
  obtain ⟨T', h', X', e', E, A, D, -, st⟩ := newO X C.1 C.2.2.2.1 C.2.2.2.2.1 w wi wz eT (g := mkF m pc L S) rfl (hb C.2.1 hd) (by omega) (by omega)
  obtain ⟨t, o, r1, r⟩ := K h' h.size rfl E A D T' _ (k + 1) (n' + n) X' (by omega) (by omega) e' N
  exact ⟨t, o, st _ r1, r⟩
/-- an array that holds just vs -/
def Ar (Z : State) (h : Heap) (a : Addr) (ty : FieldType) (vs : List Value) : Prop := vs.length < 2 ^ 31 ∧ ∃ k, Arv Z h a k ty (Int32.ofNat vs.length) vs (defaultValue ty)
theorem ofNat_neg {n : Nat} (h : n < 2 ^ 31) : ¬ Int32.ofNat n < 0 := by
  intro q
  have := Int32.lt_iff_toInt_lt.mp q
  rw [Int32.toInt_ofNat_small h] at this
  simp at this
  omega
theorem ofNat_nat {n : Nat} (h : n < 2 ^ 31) : (Int32.ofNat n).toNatClampNeg = n := by
  simp only [Int32.toNatClampNeg, Int32.toInt_ofNat_small h]; rfl
theorem nat_of_nonneg {x : Int32} (h : ¬ x < 0) : Int32.ofNat x.toNatClampNeg = x ∧ x.toNatClampNeg < 2 ^ 31 := by
  obtain ⟨h1, h2⟩ := back32 h
  exact ⟨h1, h2⟩
theorem Ar.keep {a : Addr} {ty : FieldType} {vs : List Value} {h' : Heap} {ws : List Addr} (F : Ar Z h a ty vs) (K : Keep h h' ws) (q : a ∉ ws) : Ar Z h' a ty vs := ⟨F.1, F.2.imp fun k V => V.keep K q⟩
theorem Ar.ext {a : Addr} {ty : FieldType} {vs : List Value} {h' : Heap} (F : Ar Z h a ty vs) (E : Ext h h') : Ar Z h' a ty vs := ⟨F.1, F.2.imp fun k V => V.ext E⟩
theorem Ar.other {a b : Addr} {ty : FieldType} {vs : List Value} {h' : Heap} {sl : Nat} {v : Value} (F : Ar Z h b ty vs) (W : Wr h h' a sl v) (q : b ≠ a) : Ar Z h' b ty vs := ⟨F.1, F.2.imp fun k V => V.other W q⟩
theorem Ar.lt {a : Addr} {ty : FieldType} {vs : List Value} (F : Ar Z h a ty vs) : a < h.size := F.2.elim fun k V => V.lt
theorem Ar.eq {a : Addr} {ty : FieldType} {vs vs' : List Value} (F : Ar Z h a ty vs) (q : vs = vs') : Ar Z h a ty vs' := q ▸ F
theorem Keep.of_ext {h' : Heap} (E : Ext h h') : Keep h h' [] := (Keep.refl h []).ext E
theorem Keep.to_ext {h' : Heap} (K : Keep h h' []) : Ext h h' := ⟨K.1, fun a c q => K.2.1 a c q (by simp)⟩
theorem w_newArr (C : Cx p s m meth c Z own bytes maxL ret nm) {aty : ArrayType} {ty : FieldType} {n : Int32} (w : (Jvm.Cond.arrayClass ty).before a0 Z = true) (hty : newarray.typeOf aty = ty) (hn : ¬ n < 0) {cap : Nat} (hcap : n.toNatClampNeg ≤ cap) (hb' : cap * 8 ≤ 536870912) {cells' slots' : Nat} (hc1 : cells + 1 = cells') (hs1 : slots + cap = slots') (hc : cells' ≤ R.cells) (hl : slots' ≤ R.slots)
    (hd : decode bytes pc = .ok (.newarray aty, 2)) (hq : pc + 2 = q) (K : ∀ h' a, a = h.size → Ext h h' → Ar Z h' a ty (List.replicate n.toNatClampNeg (defaultValue ty)) → AtW p l e R s m args below meth c n0 Q h' cells' slots' (mkF m q L (.ref a :: S))) : AtW p l e R s m args below meth c n0 Q h cells slots (mkF m pc L (.int n :: S)) := by
  subst hq hc1 hs1 hty
  intro T locs k n' X hk hn' eT N
  obtain ⟨T', h', cA, X', e', E, A, st⟩ := newP X C.1 C.2.2.2.1 w eT (g := mkF m pc L (.int n :: S)) rfl (hb C.2.1 hd) rfl hn hcap hb' (by omega) (by omega)
  have q := nat_of_nonneg hn
  have V := (Arv.new A hn).pad (pad_rep [] (defaultValue (newarray.typeOf aty)) n.toNatClampNeg)
  obtain ⟨t, o, r1, r⟩ := K h' h.size rfl E ⟨by simpa using q.2, cA, by simpa [q.1] using V⟩ T' _ (k + 1) (n' + cap) X' (by omega) (by omega) e' N
  exact ⟨t, o, st _ r1, r⟩
theorem w_len (C : Cx p s m meth c Z own bytes maxL ret nm) {a : Addr} {ty : FieldType} {vs : List Value} {z : Int32} (A : Ar Z h a ty vs) (hz : Int32.ofNat vs.length = z) (hd : decode bytes pc = .ok (.arraylength, 1)) (hq : pc + 1 = q) (K : AtW p l e R s m args below meth c n0 Q h cells slots (mkF m q L (.int z :: S))) : AtW p l e R s m args below meth c n0 Q h cells slots (mkF m pc L (.ref a :: S)) := by
  subst hq hz
  obtain ⟨hlt, k, cl, Ar, -, hS, hM, -, -⟩ := A
  refine K.goX fun T locs k n X eT t st => X.arraylength C.1 (by rw [eT]; exact Ar.1) (State.isArrayOf_alike C.2.2.2.1.alike Ar.2.1) (g := mkF m pc L (.ref a :: S)) rfl rfl (hb C.2.1 hd) t ?_
  rw [len_of hS hM]; exact st

theorem w_iaload (C : Cx p s m meth c Z own bytes maxL ret nm) {a : Addr} {vs : List Value} {j : Int32} {i : Nat} {v : Value} (A : Ar Z h a .int vs) (hj : j = Int32.ofNat i) (hv : vs[i]? = some v) (hd : decode bytes pc = .ok (.iaload, 1)) (hq : pc + 1 = q) (K : AtW p l e R s m args below meth c n0 Q h cells slots (mkF m q L (v :: S))) : AtW p l e R s m args below meth c n0 Q h cells slots (mkF m pc L (.int j :: .ref a :: S)) := by
  subst hq hj
  obtain ⟨hlt, k, cl, Ar, -, hS, hM, H, -⟩ := A
  obtain ⟨hi, hg⟩ := List.getElem?_eq_some_iff.mp hv
  have e1 := ofNat_nat (n := i) (by omega)
  have e2 := ofNat_nat hlt
  have hin : ¬ (Int32.ofNat i < 0 ∨ cl.slots.size ≤ (Int32.ofNat i).toNatClampNeg) := by
    rw [e1, hS, e2]; exact fun q => q.elim (ofNat_neg (by omega)) (by omega)
  refine K.goX fun T locs k n X eT t st => X.iaload C.1 (j := Int32.ofNat i) (v := v) (by rw [eT]; exact Ar.1) (State.isArrayOf_alike C.2.2.2.1.alike Ar.2.1) Ar.2.2 hin (by rw [e1, H i (by rw [hS, e2]; exact hi)]; simp [List.getD, hv]) (g := mkF m pc L (.int (Int32.ofNat i) :: .ref a :: S)) rfl rfl (hb C.2.1 hd) t st
theorem w_caload (C : Cx p s m meth c Z own bytes maxL ret nm) {a : Addr} {vs : List Value} {j : Int32} {i : Nat} {v : Value} (A : Ar Z h a .char vs) (hj : j = Int32.ofNat i) (hv : vs[i]? = some v) (hd : decode bytes pc = .ok (.caload, 1)) (hq : pc + 1 = q) (K : AtW p l e R s m args below meth c n0 Q h cells slots (mkF m q L (v :: S))) : AtW p l e R s m args below meth c n0 Q h cells slots (mkF m pc L (.int j :: .ref a :: S)) := by
  subst hq hj
  obtain ⟨hlt, k, cl, Ar, -, hS, hM, H, -⟩ := A
  obtain ⟨hi, hg⟩ := List.getElem?_eq_some_iff.mp hv
  have e1 := ofNat_nat (n := i) (by omega)
  have e2 := ofNat_nat hlt
  have hin : ¬ (Int32.ofNat i < 0 ∨ cl.slots.size ≤ (Int32.ofNat i).toNatClampNeg) := by
    rw [e1, hS, e2]; exact fun q => q.elim (ofNat_neg (by omega)) (by omega)
  refine K.goX fun T locs k n X eT t st => X.caload C.1 (j := Int32.ofNat i) (v := v) (by rw [eT]; exact Ar.1) (State.isArrayOf_alike C.2.2.2.1.alike Ar.2.1) Ar.2.2 hin (by rw [e1, H i (by rw [hS, e2]; exact hi)]; simp [List.getD, hv]) (g := mkF m pc L (.int (Int32.ofNat i) :: .ref a :: S)) rfl rfl (hb C.2.1 hd) t st
theorem w_baload (C : Cx p s m meth c Z own bytes maxL ret nm) {a : Addr} {vs : List Value} {j : Int32} {i : Nat} {v : Value} (A : Ar Z h a .byte vs) (hj : j = Int32.ofNat i) (hv : vs[i]? = some v) (hd : decode bytes pc = .ok (.baload, 1)) (hq : pc + 1 = q) (K : AtW p l e R s m args below meth c n0 Q h cells slots (mkF m q L (v :: S))) : AtW p l e R s m args below meth c n0 Q h cells slots (mkF m pc L (.int j :: .ref a :: S)) := by
  subst hq hj
  obtain ⟨hlt, k, cl, Ar, -, hS, hM, H, -⟩ := A
  obtain ⟨hi, hg⟩ := List.getElem?_eq_some_iff.mp hv
  have e1 := ofNat_nat (n := i) (by omega)
  have e2 := ofNat_nat hlt
  have hin : ¬ (Int32.ofNat i < 0 ∨ cl.slots.size ≤ (Int32.ofNat i).toNatClampNeg) := by
    rw [e1, hS, e2]; exact fun q => q.elim (ofNat_neg (by omega)) (by omega)
  refine K.goX fun T locs k n X eT t st => X.baloadBytes C.1 (j := Int32.ofNat i) (v := v) (by rw [eT]; exact Ar.1) (State.isArrayOf_alike C.2.2.2.1.alike Ar.2.1) Ar.2.2 hin (by rw [e1, H i (by rw [hS, e2]; exact hi)]; simp [List.getD, hv]) (g := mkF m pc L (.int (Int32.ofNat i) :: .ref a :: S)) rfl rfl (hb C.2.1 hd) t st
theorem w_laload (C : Cx p s m meth c Z own bytes maxL ret nm) {a : Addr} {vs : List Value} {j : Int32} {i : Nat} {v : Value} (A : Ar Z h a .long vs) (hj : j = Int32.ofNat i) (hv : vs[i]? = some v) (hd : decode bytes pc = .ok (.laload, 1)) (hq : pc + 1 = q) (K : AtW p l e R s m args below meth c n0 Q h cells slots (mkF m q L (v :: S))) : AtW p l e R s m args below meth c n0 Q h cells slots (mkF m pc L (.int j :: .ref a :: S)) := by
  subst hq hj
  obtain ⟨hlt, k, cl, Ar, -, hS, hM, H, -⟩ := A
  obtain ⟨hi, hg⟩ := List.getElem?_eq_some_iff.mp hv
  have e1 := ofNat_nat (n := i) (by omega)
  have e2 := ofNat_nat hlt
  have hin : ¬ (Int32.ofNat i < 0 ∨ cl.slots.size ≤ (Int32.ofNat i).toNatClampNeg) := by
    rw [e1, hS, e2]; exact fun q => q.elim (ofNat_neg (by omega)) (by omega)
  refine K.goX fun T locs k n X eT t st => X.laload C.1 (j := Int32.ofNat i) (v := v) (by rw [eT]; exact Ar.1) (State.isArrayOf_alike C.2.2.2.1.alike Ar.2.1) Ar.2.2 hin (by rw [e1, H i (by rw [hS, e2]; exact hi)]; simp [List.getD, hv]) (g := mkF m pc L (.int (Int32.ofNat i) :: .ref a :: S)) rfl rfl (hb C.2.1 hd) t st
theorem w_aaload (C : Cx p s m meth c Z own bytes maxL ret nm) {a : Addr} {ty : FieldType} {vs : List Value} {j : Int32} {i : Nat} {v : Value} (A : Ar Z h a ty vs) (hj : j = Int32.ofNat i) (hv : vs[i]? = some v) (hr : ty.isReference = true) (hd : decode bytes pc = .ok (.aaload, 1)) (hq : pc + 1 = q) (K : AtW p l e R s m args below meth c n0 Q h cells slots (mkF m q L (v :: S))) : AtW p l e R s m args below meth c n0 Q h cells slots (mkF m pc L (.int j :: .ref a :: S)) := by
  subst hq hj
  obtain ⟨hlt, k, cl, Ar, -, hS, hM, H, -⟩ := A
  obtain ⟨hi, hg⟩ := List.getElem?_eq_some_iff.mp hv
  have e1 := ofNat_nat (n := i) (by omega)
  have e2 := ofNat_nat hlt
  have hin : ¬ (Int32.ofNat i < 0 ∨ cl.slots.size ≤ (Int32.ofNat i).toNatClampNeg) := by
    rw [e1, hS, e2]; exact fun q => q.elim (ofNat_neg (by omega)) (by omega)
  refine K.goX fun T locs k n X eT t st => X.aaload C.1 (j := Int32.ofNat i) (v := v) (by rw [eT]; exact Ar.1) (State.isArrayOf_alike C.2.2.2.1.alike Ar.2.1) hr Ar.2.2 hin (by rw [e1, H i (by rw [hS, e2]; exact hi)]; simp [List.getD, hv]) (g := mkF m pc L (.int (Int32.ofNat i) :: .ref a :: S)) rfl rfl (hb C.2.1 hd) t st
theorem w_iastore (C : Cx p s m meth c Z own bytes maxL ret nm) {a : Addr} {vs : List Value} {j : Int32} {i : Nat} {x : Int32} (A : Ar Z h a .int vs) (hj : j = Int32.ofNat i) (hi : i < vs.length) (hge : n0 ≤ a) (hd : decode bytes pc = .ok (.iastore, 1)) (hq : pc + 1 = q)
    (K : ∀ h', Wr h h' a i (.int x) → Ar Z h' a .int (vs.set i (.int x)) → AtW p l e R s m args below meth c n0 Q h' cells slots (mkF m q L S)) : AtW p l e R s m args below meth c n0 Q h cells slots (mkF m pc L (.int x :: .int j :: .ref a :: S)) := by
  subst hq hj
  intro T locs k n' X hk hn' eT N
  obtain ⟨hlt, k', cl, Ar, q1, hS, hM, H, G⟩ := A
  have e1 := ofNat_nat (n := i) (by omega)
  have e2 := ofNat_nat hlt
  have hin : ¬ (Int32.ofNat i < 0 ∨ cl.slots.size ≤ (Int32.ofNat i).toNatClampNeg) := by
    rw [e1, hS, e2]; exact fun q => q.elim (ofNat_neg (by omega)) (by omega)
  obtain ⟨T', h', X', e', W, st⟩ := stI X C.1 C.2.2.2.1 eT Ar (j := Int32.ofNat i) (x := x) hin (g := mkF m pc L (.int x :: .int (Int32.ofNat i) :: .ref a :: S)) rfl rfl (hb C.2.1 hd)
  have V := Arv.set Ar q1 hS hM H G (rfl) W i e1 hi
  obtain ⟨t, o, r1, r⟩ := K h' (by rw [e1] at W; exact W) ⟨by simpa using hlt, k', by rw [List.length_set]; exact V⟩ T' _ k n' X' hk hn' e' (Fr.snoc X' N hge)
  exact ⟨t, o, st _ r1, r⟩
theorem w_castore (C : Cx p s m meth c Z own bytes maxL ret nm) {a : Addr} {vs : List Value} {j : Int32} {i : Nat} {x : Int32} {z : Int32} (hz : nar .char x = z) (A : Ar Z h a .char vs) (hj : j = Int32.ofNat i) (hi : i < vs.length) (hge : n0 ≤ a) (hd : decode bytes pc = .ok (.castore, 1)) (hq : pc + 1 = q)
    (K : ∀ h', Wr h h' a i (.int z) → Ar Z h' a .char (vs.set i (.int z)) → AtW p l e R s m args below meth c n0 Q h' cells slots (mkF m q L S)) : AtW p l e R s m args below meth c n0 Q h cells slots (mkF m pc L (.int x :: .int j :: .ref a :: S)) := by
  subst hq hj hz
  intro T locs k n' X hk hn' eT N
  obtain ⟨hlt, k', cl, Ar, q1, hS, hM, H, G⟩ := A
  have e1 := ofNat_nat (n := i) (by omega)
  have e2 := ofNat_nat hlt
  have hin : ¬ (Int32.ofNat i < 0 ∨ cl.slots.size ≤ (Int32.ofNat i).toNatClampNeg) := by
    rw [e1, hS, e2]; exact fun q => q.elim (ofNat_neg (by omega)) (by omega)
  obtain ⟨T', h', X', e', W, st⟩ := stC X C.1 C.2.2.2.1 eT Ar (j := Int32.ofNat i) (x := x) hin (g := mkF m pc L (.int x :: .int (Int32.ofNat i) :: .ref a :: S)) rfl rfl (hb C.2.1 hd)
  have V := Arv.set Ar q1 hS hM H G (fits_nar_char _) W i e1 hi
  obtain ⟨t, o, r1, r⟩ := K h' (by rw [e1] at W; exact W) ⟨by simpa using hlt, k', by rw [List.length_set]; exact V⟩ T' _ k n' X' hk hn' e' (Fr.snoc X' N hge)
  exact ⟨t, o, st _ r1, r⟩
theorem w_bastore (C : Cx p s m meth c Z own bytes maxL ret nm) {a : Addr} {vs : List Value} {j : Int32} {i : Nat} {x : Int32} {z : Int32} (hz : nar .byte x = z) (A : Ar Z h a .byte vs) (hj : j = Int32.ofNat i) (hi : i < vs.length) (hge : n0 ≤ a) (hd : decode bytes pc = .ok (.bastore, 1)) (hq : pc + 1 = q)
    (K : ∀ h', Wr h h' a i (.int z) → Ar Z h' a .byte (vs.set i (.int z)) → AtW p l e R s m args below meth c n0 Q h' cells slots (mkF m q L S)) : AtW p l e R s m args below meth c n0 Q h cells slots (mkF m pc L (.int x :: .int j :: .ref a :: S)) := by
  subst hq hj hz
  intro T locs k n' X hk hn' eT N
  obtain ⟨hlt, k', cl, Ar, q1, hS, hM, H, G⟩ := A
  have e1 := ofNat_nat (n := i) (by omega)
  have e2 := ofNat_nat hlt
  have hin : ¬ (Int32.ofNat i < 0 ∨ cl.slots.size ≤ (Int32.ofNat i).toNatClampNeg) := by
    rw [e1, hS, e2]; exact fun q => q.elim (ofNat_neg (by omega)) (by omega)
  obtain ⟨T', h', X', e', W, st⟩ := stB X C.1 C.2.2.2.1 eT Ar (j := Int32.ofNat i) (x := x) hin (g := mkF m pc L (.int x :: .int (Int32.ofNat i) :: .ref a :: S)) rfl rfl (hb C.2.1 hd)
  have V := Arv.set Ar q1 hS hM H G (fits_nar_byte _) W i e1 hi
  obtain ⟨t, o, r1, r⟩ := K h' (by rw [e1] at W; exact W) ⟨by simpa using hlt, k', by rw [List.length_set]; exact V⟩ T' _ k n' X' hk hn' e' (Fr.snoc X' N hge)
  exact ⟨t, o, st _ r1, r⟩
theorem w_lastore (C : Cx p s m meth c Z own bytes maxL ret nm) {a : Addr} {vs : List Value} {j : Int32} {i : Nat} {x : Int64} (A : Ar Z h a .long vs) (hj : j = Int32.ofNat i) (hi : i < vs.length) (hge : n0 ≤ a) (hd : decode bytes pc = .ok (.lastore, 1)) (hq : pc + 1 = q)
    (K : ∀ h', Wr h h' a i (.long x) → Ar Z h' a .long (vs.set i (.long x)) → AtW p l e R s m args below meth c n0 Q h' cells slots (mkF m q L S)) : AtW p l e R s m args below meth c n0 Q h cells slots (mkF m pc L (.long x :: .int j :: .ref a :: S)) := by
  subst hq hj
  intro T locs k n' X hk hn' eT N
  obtain ⟨hlt, k', cl, Ar, q1, hS, hM, H, G⟩ := A
  have e1 := ofNat_nat (n := i) (by omega)
  have e2 := ofNat_nat hlt
  have hin : ¬ (Int32.ofNat i < 0 ∨ cl.slots.size ≤ (Int32.ofNat i).toNatClampNeg) := by
    rw [e1, hS, e2]; exact fun q => q.elim (ofNat_neg (by omega)) (by omega)
  obtain ⟨T', h', X', e', W, st⟩ := stJ X C.1 C.2.2.2.1 eT Ar (j := Int32.ofNat i) (x := x) hin (g := mkF m pc L (.long x :: .int (Int32.ofNat i) :: .ref a :: S)) rfl rfl (hb C.2.1 hd)
  have V := Arv.set Ar q1 hS hM H G (rfl) W i e1 hi
  obtain ⟨t, o, r1, r⟩ := K h' (by rw [e1] at W; exact W) ⟨by simpa using hlt, k', by rw [List.length_set]; exact V⟩ T' _ k n' X' hk hn' e' (Fr.snoc X' N hge)
  exact ⟨t, o, st _ r1, r⟩
theorem w_retZ (C : Cx p s m meth c Z own bytes maxL ret nm) {t : FieldType} {x z : Int32} (hret : ret = some t) (ht : t = .boolean ∨ t = .byte ∨ t = .char ∨ t = .short) (hz : nar t x = z) (hd : decode bytes pc = .ok (.ireturn, 1)) (hc : cells ≤ R.cells) (hs : slots ≤ R.slots) (hQ : Q (some (.int z)) h) : AtW p l e R s m args below meth c n0 Q h cells slots (mkF m pc L (.int x :: S)) := by
  subst hz
  intro T locs k n X hk hn eT N
  obtain ⟨fs, hr, hrun, hended, hW, hsame⟩ := X.leave (v := some (.int (nar t x))) (fun h => by rw [C.2.2.2.2.2.1, hret] at h; cases h) C.2.2.2.2.2.2.1
  refine ⟨_, _, retN X C.1 (t := t) (C.2.2.2.2.2.1.trans hret) ht (hb C.2.1 hd) hr, hrun, hended, _, _, rfl, ⟨N, ?_⟩, ⟨_, rfl⟩, hW, hsame.mono (Nat.le_trans hk hc) (Nat.le_trans hn hs)⟩
  show Q _ T.heap
  rw [eT]; exact hQ
theorem w_ret (C : Cx p s m meth c Z own bytes maxL ret nm) {t : FieldType} {v : Value} {i : Instr} (hret : ret = some t) (hn' : narrow t v = v)
    (hi : (i = .ireturn ∧ (t = .int ∨ t = .boolean ∨ t = .byte ∨ t = .char ∨ t = .short) ∧ ∃ z, v = .int z) ∨ (i = .lreturn ∧ t = .long ∧ ∃ z, v = .long z) ∨ (i = .dreturn ∧ t = .double ∧ ∃ z, v = .double z) ∨ (i = .freturn ∧ t = .float ∧ ∃ z, v = .float z) ∨ (i = .areturn ∧ t.isReference = true ∧ v.isRef = true))
    (hd : decode bytes pc = .ok (i, 1)) (hc : cells ≤ R.cells) (hs : slots ≤ R.slots) (hQ : Q (some v) h) : AtW p l e R s m args below meth c n0 Q h cells slots (mkF m pc L (v :: S)) := by
  intro T locs k n X hk hn eT N
  obtain ⟨fs, hr, hrun, hended, hW, hsame⟩ := X.leave (v := some v) (fun h => by rw [C.2.2.2.2.2.1, hret] at h; cases h) C.2.2.2.2.2.2.1
  refine ⟨_, _, retOut X C.1 (t := t) (C.2.2.2.2.2.1.trans hret) hn' hi (hb C.2.1 hd) hr, hrun, hended, _, _, rfl, ⟨N, ?_⟩, ⟨_, rfl⟩, hW, hsame.mono (Nat.le_trans hk hc) (Nat.le_trans hn hs)⟩
  show Q _ T.heap
  rw [eT]; exact hQ
theorem w_retI (C : Cx p s m meth c Z own bytes maxL ret nm) {x : Int32} (hret : ret = some .int) (hd : decode bytes pc = .ok (.ireturn, 1)) (hc : cells ≤ R.cells) (hs : slots ≤ R.slots) (hQ : Q (some (.int x)) h) : AtW p l e R s m args below meth c n0 Q h cells slots (mkF m pc L (.int x :: S)) :=
  w_ret C hret rfl (Or.inl ⟨rfl, Or.inl rfl, _, rfl⟩) hd hc hs hQ
theorem w_retJ (C : Cx p s m meth c Z own bytes maxL ret nm) {x : Int64} (hret : ret = some .long) (hd : decode bytes pc = .ok (.lreturn, 1)) (hc : cells ≤ R.cells) (hs : slots ≤ R.slots) (hQ : Q (some (.long x)) h) : AtW p l e R s m args below meth c n0 Q h cells slots (mkF m pc L (.long x :: S)) :=
  w_ret C hret rfl (Or.inr (Or.inl ⟨rfl, rfl, _, rfl⟩)) hd hc hs hQ
theorem w_retA (C : Cx p s m meth c Z own bytes maxL ret nm) {t : FieldType} {v : Value} (hret : ret = some t) (ht : t.isReference = true) (hv : v.isRef = true) (hd : decode bytes pc = .ok (.areturn, 1)) (hc : cells ≤ R.cells) (hs : slots ≤ R.slots) (hQ : Q (some v) h) : AtW p l e R s m args below meth c n0 Q h cells slots (mkF m pc L (v :: S)) :=
  w_ret C hret (by rcases ref_cases hv with rfl | ⟨a, rfl⟩ <;> cases t <;> first | rfl | cases ht) (Or.inr (Or.inr (Or.inr (Or.inr ⟨rfl, ht, hv⟩)))) hd hc hs hQ
theorem w_retV (C : Cx p s m meth c Z own bytes maxL ret nm) (hret : ret = none) (hd : decode bytes pc = .ok (.return_, 1)) (hc : cells ≤ R.cells) (hs : slots ≤ R.slots) (hQ : Q none h) : AtW p l e R s m args below meth c n0 Q h cells slots (mkF m pc L []) := by
  intro T locs k n X hk hn eT N
  obtain ⟨fs, hr, hrun, hended, hW, hsame⟩ := X.leave (v := none) (fun _ => rfl) C.2.2.2.2.2.2.1
  refine ⟨_, _, X.returnOut C.1 (C.2.2.2.2.2.1.trans hret) (hb C.2.1 hd) hr, hrun, hended, _, _, rfl, ⟨N, ?_⟩, ⟨_, rfl⟩, hW, hsame.mono (Nat.le_trans hk hc) (Nat.le_trans hn hs)⟩
  show Q _ T.heap
  rw [eT]; exact hQ

theorem w_callS (C : Cx p s m meth c Z own bytes maxL ret nm) {y : MethodName} {i : Nat} {argsL : List Value} {bytesY : ByteArray} {maxY : Nat} {retY : Option FieldType} {rm : Room} {Qy : Option Value → Heap → Prop} (w1 : (Jvm.Cond.methodLink own i y).before a0 Z = true) (w2 : (Jvm.Cond.static y).before a0 Z = true) (wz : (Jvm.Cond.initialized y.cls).before a0 Z = true) (wc : (Jvm.Cond.code y bytesY maxY retY).before a0 Z = true)
    (hy : y.cls ≠ "java/lang/invoke/MethodHandle" ∧ y.cls ≠ "java/lang/invoke/VarHandle") (ct : Ct [] l Z n0 y bytesY maxY retY rm argsL.toArray h Qy) {S' : List Value} (hS : S' = argsL.reverse ++ S) (hlen : ∀ sig, parseMethodDescriptor y.desc = some sig → argsL.length = sig.parameters.length) (hL : L.size = maxL) (hf : rm.frames + 1 ≤ R.frames) {W : Nat} (hW : (S.map fun v => v.category).sum ≤ W) (hlo : W + (maxY + 11) + rm.locals ≤ R.locals) {cells' slots' : Nat} (hc1 : cells + rm.cells = cells') (hs1 : slots + rm.slots = slots') (hc : cells' ≤ R.cells) (hl : slots' ≤ R.slots)
    (hd : decode bytes pc = .ok (.invokestatic i, 3)) (hq : pc + 3 = q) (K : ∀ v h', Qy v h' → AtW p l e R s m args below meth c n0 Q h' cells' slots' (mkF m q L (v.toList ++ S))) : AtW p l e R s m args below meth c n0 Q h cells slots (mkF m pc L S') := by
  subst hq hc1 hs1
  intro T locs k n' X hk hn' eT N
  obtain ⟨v, _, ⟨T', L', k', n''⟩, -, X', ⟨Lc, hQ, hl', hc', hs'⟩, st⟩ := Jvm.LawKit.callS X C.1 (y := y) C.2.2.2.2.1 (mvT C.2.2.2.1 w1) (mvT C.2.2.2.1 w2) (mvT C.2.2.2.1 wz) (mvT C.2.2.2.1 wc) hy (backOf (W := W) (Q := fun v h L => Fr n0 L ∧ Qy v h) ct C.2.2.2.1 wc wz hf hlo) (g := mkF m pc L S') rfl (hL.trans C.2.2.1.symm) (argsL := argsL) (rest := S) hlen hS (by show 2 * 0 + _ ≤ _; omega) (hb C.2.1 hd) (fun _ _ => ⟨rfl, eT, (by show k + _ ≤ _; omega), (by show n' + _ ≤ _; omega)⟩)
  dsimp only [Pt.U, Pt.locs, Pt.cells, Pt.slots] at X' hl' hc' hs' st hQ
  subst hl' hc' hs'
  obtain ⟨t, o, r1, r⟩ := K v T'.heap hQ.2 T' _ _ _ X' (by omega) (by omega) rfl (Fr.app N hQ.1)
  exact ⟨t, o, st _ r1, r⟩
theorem w_callI (C : Cx p s m meth c Z own bytes maxL ret nm) {y : MethodName} {i : Nat} {a : Addr} {argsL : List Value} {bytesY : ByteArray} {maxY : Nat} {rm : Room} {Qy : Option Value → Heap → Prop} (hnm : y.name = "<init>") (w1 : (Jvm.Cond.methodLink own i y).before a0 Z = true) (w2 : (Jvm.Cond.instanceMethod y).before a0 Z = true) (wz : (Jvm.Cond.initialized y.cls).before a0 Z = true) (wc : (Jvm.Cond.code y bytesY maxY none).before a0 Z = true)
    (hy : y.cls ≠ "java/lang/invoke/MethodHandle" ∧ y.cls ≠ "java/lang/invoke/VarHandle") (ct : Ct [] l Z n0 y bytesY maxY none rm (.ref a :: argsL).toArray h Qy) {S' : List Value} (hS : S' = argsL.reverse ++ .ref a :: S) (hlen : ∀ sig, parseMethodDescriptor y.desc = some sig → argsL.length = sig.parameters.length) (hL : L.size = maxL) (hf : rm.frames + 1 ≤ R.frames) {W : Nat} (hW : (S.map fun v => v.category).sum ≤ W) (hlo : W + (maxY + 11) + rm.locals ≤ R.locals) {cells' slots' : Nat} (hc1 : cells + rm.cells = cells') (hs1 : slots + rm.slots = slots') (hc : cells' ≤ R.cells) (hl : slots' ≤ R.slots)
    (hd : decode bytes pc = .ok (.invokespecial i, 3)) (hq : pc + 3 = q) (K : ∀ v h', Qy v h' → AtW p l e R s m args below meth c n0 Q h' cells' slots' (mkF m q L (v.toList ++ S))) : AtW p l e R s m args below meth c n0 Q h cells slots (mkF m pc L S') := by
  subst hq hc1 hs1
  intro T locs k n' X hk hn' eT N
  obtain ⟨v, _, ⟨T', L', k', n''⟩, -, X', ⟨Lc, hQ, hl', hc', hs'⟩, st⟩ := X.specialBack C.1 (y := y) hnm C.2.2.2.2.1 (mvT C.2.2.2.1 w1) (mvT C.2.2.2.1 w2) (mvT C.2.2.2.1 wc) hy (backOf (W := W) (Q := fun v h L => Fr n0 L ∧ Qy v h) ct C.2.2.2.1 wc wz hf hlo) (g := mkF m pc L S') rfl (hL.trans C.2.2.1.symm) (Steps.refl _) (a := a) (argsL := argsL) (rest := S) hlen hS (by show 2 * 0 + _ ≤ _; omega) (hb C.2.1 hd) (fun _ _ => ⟨rfl, eT, (by show k + _ ≤ _; omega), (by show n' + _ ≤ _; omega)⟩)
  dsimp only [Pt.U, Pt.locs, Pt.cells, Pt.slots] at X' hl' hc' hs' st hQ
  subst hl' hc' hs'
  obtain ⟨t, o, r1, r⟩ := K v T'.heap hQ.2 T' _ _ _ X' (by omega) (by omega) rfl (Fr.app N hQ.1)
  exact ⟨t, o, st.trans r1, r⟩
theorem w_callV (C : Cx p s m meth c Z own bytes maxL ret nm) {y z : MethodName} {Cl : String} {i : Nat} {a : Addr} {argsL : List Value} {bytesY : ByteArray} {maxY : Nat} {retY : Option FieldType} {rm : Room} {Qy : Option Value → Heap → Prop} (E : Exa Z h a Cl) (w1 : (Jvm.Cond.methodLink own i y).before a0 Z = true) (w2 : (Jvm.Cond.declares y).before a0 Z = true) (hnf : NotFace s y) (w3 : (Jvm.Cond.selects Cl y z).before a0 Z = true) (w4 : (Jvm.Cond.instanceMethod z).before a0 Z = true) (wz : (Jvm.Cond.initialized z.cls).before a0 Z = true) (wc : (Jvm.Cond.code z bytesY maxY retY).before a0 Z = true)
    (hy : y.cls ≠ "java/lang/invoke/MethodHandle" ∧ y.cls ≠ "java/lang/invoke/VarHandle") (ct : Ct [] l Z n0 z bytesY maxY retY rm (.ref a :: argsL).toArray h Qy) {S' : List Value} (hS : S' = argsL.reverse ++ .ref a :: S) (hlen : ∀ sig, parseMethodDescriptor y.desc = some sig → argsL.length = sig.parameters.length) (hL : L.size = maxL) (hf : rm.frames + 1 ≤ R.frames) {W : Nat} (hW : (S.map fun v => v.category).sum ≤ W) (hlo : W + (maxY + 11) + rm.locals ≤ R.locals) {cells' slots' : Nat} (hc1 : cells + rm.cells = cells') (hs1 : slots + rm.slots = slots') (hc : cells' ≤ R.cells) (hl : slots' ≤ R.slots)
    (hd : decode bytes pc = .ok (.invokevirtual i, 3)) (hq : pc + 3 = q) (K : ∀ v h', Qy v h' → AtW p l e R s m args below meth c n0 Q h' cells' slots' (mkF m q L (v.toList ++ S))) : AtW p l e R s m args below meth c n0 Q h cells slots (mkF m pc L S') := by
  subst hq hc1 hs1
  intro T locs k n' X hk hn' eT N
  obtain ⟨cB, kB, q1, q2, q3⟩ := isOf C.2.2.2.1 eT E
  obtain ⟨v, _, ⟨T', L', k', n''⟩, -, X', ⟨Lc, hQ, hl', hc', hs'⟩, st⟩ := X.virtualBack C.1 (y := y) (z := z) C.2.2.2.2.1 (mvT C.2.2.2.1 w1) (mvT C.2.2.2.1 w2) hnf (mvT C.2.2.2.1 w3) (mvT C.2.2.2.1 w4) hy (backOf (W := W) (Q := fun v h L => Fr n0 L ∧ Qy v h) ct C.2.2.2.1 wc wz hf hlo) q1 q3 (g := mkF m pc L S') rfl (hL.trans C.2.2.1.symm) (Steps.refl _) (argsL := argsL) (rest := S) hlen hS (by show 2 * 0 + _ ≤ _; omega) (hb C.2.1 hd) (fun _ _ => ⟨rfl, eT, (by show k + _ ≤ _; omega), (by show n' + _ ≤ _; omega)⟩)
  dsimp only [Pt.U, Pt.locs, Pt.cells, Pt.slots] at X' hl' hc' hs' st hQ
  subst hl' hc' hs'
  obtain ⟨t, o, r1, r⟩ := K v T'.heap hQ.2 T' _ _ _ X' (by omega) (by omega) rfl (Fr.app N hQ.1)
  exact ⟨t, o, st.trans r1, r⟩
theorem w_nf (C : Cx p s m meth c Z own bytes maxL ret nm) {y : MethodName} {Cl : String} (w3 : (Jvm.Cond.selects Cl y y).before a0 Z = true) : NotFace s y := notFace_of_selects (args := #[]) (mvT C.2.2.2.1 w3)
theorem w_callP (C : Cx p s m meth c Z own bytes maxL ret nm) {y : MethodName} {Cl : String} {i : Nat} {a : Addr} {argsL : List Value} {bytesY : ByteArray} {maxY : Nat} {retY : Option FieldType} {rm : Room} {Qy : Option Value → Heap → Prop} (E : Exa Z h a Cl) (w1 : (Jvm.Cond.methodLink own i y).before a0 Z = true) (w4 : (Jvm.Cond.instanceMethod y).before a0 Z = true) (hni : NI s y.cls) (w5 : (Jvm.Cond.privateMethod y).before a0 Z = true) (wz : (Jvm.Cond.initialized y.cls).before a0 Z = true) (wc : (Jvm.Cond.code y bytesY maxY retY).before a0 Z = true)
    (hy : y.cls ≠ "java/lang/invoke/MethodHandle" ∧ y.cls ≠ "java/lang/invoke/VarHandle") (ct : Ct [] l Z n0 y bytesY maxY retY rm (.ref a :: argsL).toArray h Qy) {S' : List Value} (hS : S' = argsL.reverse ++ .ref a :: S) (hlen : ∀ sig, parseMethodDescriptor y.desc = some sig → argsL.length = sig.parameters.length) (hL : L.size = maxL) (hf : rm.frames + 1 ≤ R.frames) {W : Nat} (hW : (S.map fun v => v.category).sum ≤ W) (hlo : W + (maxY + 11) + rm.locals ≤ R.locals) {cells' slots' : Nat} (hc1 : cells + rm.cells = cells') (hs1 : slots + rm.slots = slots') (hc : cells' ≤ R.cells) (hl : slots' ≤ R.slots)
    (hd : decode bytes pc = .ok (.invokevirtual i, 3)) (hq : pc + 3 = q) (K : ∀ v h', Qy v h' → AtW p l e R s m args below meth c n0 Q h' cells' slots' (mkF m q L (v.toList ++ S))) : AtW p l e R s m args below meth c n0 Q h cells slots (mkF m pc L S') := by
  subst hq hc1 hs1
  intro T locs k n' X hk hn' eT N
  obtain ⟨cq, q1, q2⟩ := E.cell
  obtain ⟨cN, kN, n1, n2, n3⟩ := hni
  have hpv := Cond.privateMethod_at (mvP C.2.2.2.1 w5 (args := #[]))
  obtain ⟨v, _, ⟨T', L', k', n''⟩, -, X', ⟨Lc, hQ, hl', hc', hs'⟩, st⟩ := X.privateBack C.1 (y := y) C.2.2.2.2.1 (mvT C.2.2.2.1 w1) (mvT C.2.2.2.1 w4) (selects_self_of_private n1 n2 n3 hpv (mvT C.2.2.2.1 w4) hy) hpv (mvT C.2.2.2.1 wc) hy (backOf (W := W) (Q := fun v h L => Fr n0 L ∧ Qy v h) ct C.2.2.2.1 wc wz hf hlo) (g := mkF m pc L S') rfl (hL.trans C.2.2.1.symm) (Steps.refl _) (a := a) (by rw [eT]; exact q1) q2 (argsL := argsL) (rest := S) hlen hS (by show 2 * 0 + _ ≤ _; omega) (hb C.2.1 hd) (fun _ _ => ⟨rfl, eT, (by show k + _ ≤ _; omega), (by show n' + _ ≤ _; omega)⟩)
  dsimp only [Pt.U, Pt.locs, Pt.cells, Pt.slots] at X' hl' hc' hs' st hQ
  subst hl' hc' hs'
  obtain ⟨t, o, r1, r⟩ := K v T'.heap hQ.2 T' _ _ _ X' (by omega) (by omega) rfl (Fr.app N hQ.1)
  exact ⟨t, o, st.trans r1, r⟩
theorem w_callB (C : Cx p s m meth c Z own bytes maxL ret nm) {y : MethodName} {i : Nat} {a : Addr} {argsL : List Value} {bytesY : ByteArray} {maxY : Nat} {W : Nat} {dc ds : Nat} {P : Pt → Array Value → Prop} {Qy : Option Value → Heap → List Loc → Prop} (hnm : y.name = "<init>") (w1 : (Jvm.Cond.methodLink own i y).before a0 Z = true) (w2 : (Jvm.Cond.instanceMethod y).before a0 Z = true) (wc : (Jvm.Cond.code y bytesY maxY none).before a0 Z = true)
    (hy : y.cls ≠ "java/lang/invoke/MethodHandle" ∧ y.cls ≠ "java/lang/invoke/VarHandle") (bk : Back l R p e below s args y 3 W (fun A a' => a' = (Value.ref a :: argsL).toArray ∧ A.U.heap = h ∧ A.cells + dc ≤ R.cells ∧ A.slots + ds ≤ R.slots) (fun A _ v B => ∃ L, Qy v B.U.heap L ∧ B.locs = A.locs ++ L ∧ B.cells = A.cells + dc ∧ B.slots = A.slots + ds))
    {S' : List Value} (hS : S' = argsL.reverse ++ .ref a :: S) (hlen : ∀ sig, parseMethodDescriptor y.desc = some sig → argsL.length = sig.parameters.length) (hL : L.size = maxL) (hW : (S.map fun v => v.category).sum ≤ W) {cells' slots' : Nat} (hc1 : cells + dc = cells') (hs1 : slots + ds = slots') (hc : cells' ≤ R.cells) (hl : slots' ≤ R.slots)
    (hd : decode bytes pc = .ok (.invokespecial i, 3)) (hq : pc + 3 = q) (K : ∀ v h' Lc, Qy v h' Lc → Fr n0 Lc ∧ AtW p l e R s m args below meth c n0 Q h' cells' slots' (mkF m q L (v.toList ++ S))) : AtW p l e R s m args below meth c n0 Q h cells slots (mkF m pc L S') := by
  subst hq hc1 hs1
  intro T locs k n' X hk hn' eT N
  obtain ⟨v, _, ⟨T', L', k', n''⟩, -, X', ⟨Lc, hQ, hl', hc', hs'⟩, st⟩ := X.specialBack C.1 (y := y) hnm C.2.2.2.2.1 (mvT C.2.2.2.1 w1) (mvT C.2.2.2.1 w2) (mvT C.2.2.2.1 wc) hy bk (g := mkF m pc L S') rfl (hL.trans C.2.2.1.symm) (Steps.refl _) (a := a) (argsL := argsL) (rest := S) hlen hS (by show 2 * 0 + _ ≤ _; omega) (hb C.2.1 hd) (fun _ _ => ⟨rfl, eT, (by show k + _ ≤ _; omega), (by show n' + _ ≤ _; omega)⟩)
  dsimp only [Pt.U, Pt.locs, Pt.cells, Pt.slots] at X' hl' hc' hs' st hQ
  subst hl' hc' hs'
  obtain ⟨N2, K2⟩ := K v T'.heap Lc hQ
  obtain ⟨t, o, r1, r⟩ := K2 T' _ _ _ X' (by omega) (by omega) rfl (Fr.app N N2)
  exact ⟨t, o, st.trans r1, r⟩

end Wk
-- CUT
theorem own_lt {x y : Int32} : x < y ↔ x.toInt < y.toInt := Int32.lt_iff_toInt_lt
theorem own_eq {x y : Int32} : x = y ↔ x.toInt = y.toInt := Int32.toInt_inj.symm
theorem own_nat {n : Nat} (h : n < 2 ^ 31) : (Int32.ofNat n).toInt = n := Int32.toInt_ofNat_small h
theorem own_nlt {i n : Nat} (hi : i < 2 ^ 31) (hn : n < 2 ^ 31) : Int32.ofNat i < Int32.ofNat n ↔ i < n := by rw [own_lt, own_nat hi, own_nat hn]; omega
theorem own_neq {i n : Nat} (hi : i < 2 ^ 31) (hn : n < 2 ^ 31) : Int32.ofNat i = Int32.ofNat n ↔ i = n := by rw [own_eq, own_nat hi, own_nat hn]; omega
theorem own_one (i : Nat) : Int32.ofNat i + (1 : Int32) = Int32.ofNat (i + 1) := (Int32.ofNat_add i 1).symm
theorem own_shr0 (x : Int32) : x >>> ((0 : Int32) &&& 31) = x := by
  rw [own_eq, c_ishr x 0 0 (by decide)]; simp
theorem own_b8 {P : Int32 → Prop} (h : ∀ k : Fin 256, P (Int32.ofNat k.val)) {x : Int32} (h0 : ¬ x < 0) (h1 : ¬ 255 < x) : P x := by
  rw [own_lt] at h0 h1
  have e0 : (0 : Int32).toInt = 0 := rfl
  have e1 : (255 : Int32).toInt = 255 := rfl
  obtain ⟨k, hk⟩ : ∃ k : Nat, x.toInt = k := ⟨x.toInt.toNat, by omega⟩
  have hx : x = Int32.ofNat k := own_eq.mpr (by rw [hk, own_nat (by omega)])
  rw [hx]
  exact h ⟨k, by omega⟩
theorem own_lo8 {x : Int32} (h0 : ¬ x < 0) (h1 : ¬ 255 < x) : (x.toInt8.toInt32 &&& 255).toUInt32.toUInt16.toUInt32.toInt32 = x := own_b8 (P := fun x => (x.toInt8.toInt32 &&& 255).toUInt32.toUInt16.toUInt32.toInt32 = x) (by decide +kernel) h0 h1
theorem own_nar {x : Int32} (h0 : ¬ x < 0) (h1 : ¬ 255 < x) : nar .char x = x := own_b8 (P := fun x => nar .char x = x) (by decide +kernel) h0 h1
theorem own_nar8 (x : Int32) : nar .byte x.toInt8.toInt32 = x.toInt8.toInt32 := by show x.toInt8.toInt32.toInt8.toInt32 = x.toInt8.toInt32; simp
/-- chars as a Latin-1 String's bytes -/
def own_bs (cs : List Int32) : List Value := cs.map fun c => .int c.toInt8.toInt32
theorem own_bs_len (cs : List Int32) : (own_bs cs).length = cs.length := by simp [own_bs]
theorem own_bs_get {cs : List Int32} {i : Nat} {c : Int32} (h : cs[i]? = some c) : (own_bs cs)[i]? = some (.int c.toInt8.toInt32) := by simp [own_bs, h]
/-- each is a Latin-1 char -/
def L1 (cs : List Int32) : Prop := ∀ c ∈ cs, ¬ c < 0 ∧ ¬ 255 < c
theorem L1.get {cs : List Int32} (h : L1 cs) {i : Nat} {c : Int32} (q : cs[i]? = some c) : ¬ c < 0 ∧ ¬ 255 < c := h c (List.mem_of_getElem? q)
/-- a String of Latin-1 chars -/
def Str (Z : State) (h : Heap) (a : Addr) (cs : List Int32) : Prop := Exa Z h a "java/lang/String" ∧ L1 cs ∧ ∃ t, Fld Z h a "java/lang/String" "coder" "B" (.int 0) ∧ Fld Z h a "java/lang/String" "value" "[B" (.ref t) ∧ Ar Z h t .byte (own_bs cs)
section K0
variable {Z : State} {h h' : Heap} {a : Addr} {n0 : Nat}
theorem Str_k0 {cs : List Int32} (F : Str Z h a cs) (K : Keep h h' []) : Str Z h' a cs := by
  obtain ⟨E, L, t, f1, f2, A⟩ := F
  exact ⟨E.keep K, L, t, f1.keep K nin0, f2.keep K nin0, A.keep K nin0⟩
theorem Ar_k0 {ty : FieldType} {vs : List Value} (F : Ar Z h a ty vs) (K : Keep h h' []) : Ar Z h' a ty vs := F.keep K nin0
theorem Fld_k0 {C n d : String} {v : Value} (F : Fld Z h a C n d v) (K : Keep h h' []) : Fld Z h' a C n d v := F.keep K nin0
theorem Exa_k0 {C : String} (F : Exa Z h a C) (K : Keep h h' []) : Exa Z h' a C := F.keep K
theorem Old_k0 (O : Old Z n0 h) (K : Keep h h' []) : Old Z n0 h' := O.keep K all0
theorem Old_le (O : Old Z n0 h) : n0 ≤ h.size := by rw [← O.1]; exact O.2.1
theorem Str.lt {cs : List Int32} (F : Str Z h a cs) : a < h.size := F.1.lt
theorem Str.len {cs : List Int32} (F : Str Z h a cs) : cs.length < 2 ^ 31 := by
  obtain ⟨-, -, t, -, -, A⟩ := F
  have := A.1; rw [own_bs_len] at this; exact this
end K0
theorem own_L1c {c : Int32} {cs : List Int32} (h : ¬ c < 0 ∧ ¬ 255 < c) (r : L1 cs) : L1 (c :: cs) := fun x hx => by
  rcases List.mem_cons.mp hx with rfl | hx
  · exact h
  · exact r x hx
theorem own_255 (x : Int32) : ¬ (x &&& 255) < 0 ∧ ¬ 255 < (x &&& 255) := by
  have h := c_mask x 255 8 (by decide) (by decide)
  rw [own_lt, own_lt, h]
  constructor <;> (have e0 : (0 : Int32).toInt = 0 := rfl; have e1 : (255 : Int32).toInt = 255 := rfl; omega)
theorem own_i2c {x : Int32} (h : ¬ x < 0 ∧ ¬ 255 < x) : x.toUInt32.toUInt16.toUInt32.toInt32 = x := own_nar h.1 h.2
theorem own_maskN (x m : Int32) (k : Nat) (hk : k ≤ 30) (hm : m.toBitVec.toNat = 2 ^ k - 1) : ∃ j : Nat, j < 2 ^ k ∧ x &&& m = Int32.ofNat j := by
  have h := c_mask x m k (by omega) hm
  have hp : (2 ^ k : Nat) ≤ 2 ^ 30 := Nat.pow_le_pow_right (by decide) hk
  have h0 : (0 : Int) < ((2 ^ k : Nat) : Int) := by have := Nat.two_pow_pos k; omega
  have h1 : 0 ≤ x.toInt % ((2 ^ k : Nat) : Int) := Int.emod_nonneg _ (by omega)
  have h2 : x.toInt % ((2 ^ k : Nat) : Int) < ((2 ^ k : Nat) : Int) := Int.emod_lt_of_pos _ h0
  refine ⟨(x &&& m).toInt.toNat, by rw [h]; omega, ?_⟩
  rw [own_eq, own_nat (by rw [h]; omega), h]
  omega
theorem own_and3 (x : Int32) : x &&& 3 = 0 ∨ x &&& 3 = 1 ∨ x &&& 3 = 2 ∨ x &&& 3 = 3 := by
  have h := c_mask x 3 2 (by decide) (by decide)
  have h2 : 0 ≤ (x &&& 3).toInt ∧ (x &&& 3).toInt < 4 := by rw [h]; constructor <;> omega
  simp only [own_eq]
  show _ = 0 ∨ _ = 1 ∨ _ = 2 ∨ _ = 3
  omega

-- CUT
/-! ## the same for walks that may load String constants -/
/-- from every state that stands (over the tables vm0 so far) at heap h with frame g; mk: every booked constant lies below it; sf: addresses that no booked constant has -/
def AtS (p : Program) (l : Launch) (e : Env) (R : Room) (s : State) (m : MethodId) (args : Array Value) (below : List Frame) (meth : Method) (c : Code) (Z : State) (EL : List (String × Nat)) (own : String) (n0 : Nat) (Q : Option Value → Heap → Prop) (mk : Nat) (sf : List Addr) (h : Heap) (cells slots : Nat) (g : JFrame) : Prop :=
  ∀ (T : State) (locs : List Loc) (k n : Nat) (vm0 : Vm) (k0 : Nat), Stand p l e R (s.setVm vm0) m args below meth c T locs k n → k ≤ cells → n ≤ slots → T.heap = h → Fr n0 locs →
    Z.Warmed39 vm0 → vm0.findClass own = some m.cls → s.Since vm0 k0 → k0 ≤ h.size → CHr Z EL s.vm s.heap vm0 h → (∀ y, Bk Z EL vm0 h y → y < mk) → (∀ x ∈ sf, x < h.size ∧ Safe Z EL vm0 h x) →
    ∃ t o, Steps p.tables e below (T.setTop g) t ∧ t.status = .running ∧ Ended t below o ∧ ∃ v L, o = .returned v ∧ (Fr n0 L ∧ Q v t.heap) ∧ CHr Z EL s.vm s.heap t.vm t.heap ∧ ReturnedEndW s o t L R.cells R.slots
def Cs (ws : List Jvm.Cond) (l : Launch) (Z : State) (EL : List (String × Nat)) (n0 : Nat) (y : MethodName) (bytes : ByteArray) (maxL : Nat) (ret : Option FieldType) (rm : Room) (as : Array Value) (h0 : Heap) (Q : Option Value → Heap → Prop) : Prop :=
  MetFree l y (head1 (Jvm.Cond.code y bytes maxL ret :: ws) rm) (fun a U => a = as ∧ Z.Warmed39 U.vm ∧ U.heap = h0 ∧ CHv Z EL U.vm h0) (fun _ _ _ _ _ => True)
    (fun _ U o U' => ∃ v L, o = .returned v ∧ (Fr n0 L ∧ Q v U'.heap) ∧ CHr Z EL U.vm U.heap U'.vm U'.heap ∧ ReturnedEndW U o U' L rm.cells rm.slots)
section WkS
variable {p : Program} {l : Launch} {e : Env} {R : Room} {s : State} {m : MethodId} {args : Array Value} {below : List Frame} {meth : Method} {c : Code} {n0 : Nat} {Q : Option Value → Heap → Prop} {h : Heap} {cells slots : Nat} {Z : State} {own : String} {bytes : ByteArray} {maxL : Nat} {ret : Option FieldType} {nm : String} {a0 : Array Value} {pc q : Nat} {L L' : Array Slot} {S : List Value} {EL : List (String × Nat)} {mk : Nat} {sf : List Addr}
theorem bk_lt {vm : Vm} {y : Addr} (B : Bk Z EL vm h y) : y < h.size := by
  obtain ⟨cell, hc⟩ := B.there
  exact (Array.getElem?_eq_some_iff.mp hc).1
theorem Cs.intro {ws : List Jvm.Cond} {y : MethodName} {rm : Room} {as : Array Value} (hp : plainFor y = true)
    (k : ∀ p e s m below meth c, Cx p s m meth c Z y.cls bytes maxL ret y.name → AtS p l e rm s m as below meth c Z EL y.cls n0 Q h.size [] h 0 0 (entryFrame m as maxL)) : Cs ws l Z EL n0 y bytes maxL ret rm as h Q := by
  refine MetFree.of_bodySF hp hisR ?_
  intro p e s m args below meth c s₁ Bd hml0 hP hK
  obtain ⟨rfl, hZ, hh, hC⟩ := hP
  have X0 := Stand.of_body Bd
  have hown := findClass_of_methodNamed Bd.named
  refine k p e s m below meth c ⟨Bd.exec, Bd.bytes, hml0, hZ, hown, Bd.returns, Bd.notSynchronized, (name_of_methodNamed Bd.named Bd.method).1⟩ s₁ [] 0 0 s.vm s.heap.size X0 (Nat.le_refl _) (Nat.le_refl _) ?_ (Fr.nil n0) hZ hown ?_ ?_ ?_ ?_ ?_
  · rw [← hh, Bd.state]; rfl
  · exact ⟨State.Warmed39.refl s, fun j q hj hq => absurd (Array.getElem?_eq_some_iff.mp hq).1 (Nat.not_lt.mpr hj)⟩
  · rw [hh]; exact Nat.le_refl _
  · subst hh; exact CHr.refl hC
  · intro y hy; exact bk_lt hy
  · intro x hx; exact absurd hx (List.not_mem_nil)
theorem AtS.mono {g : JFrame} {cells' slots' : Nat} (K : AtS p l e R s m args below meth c Z EL own n0 Q mk sf h cells' slots' g) (h1 : cells ≤ cells') (h2 : slots ≤ slots') : AtS p l e R s m args below meth c Z EL own n0 Q mk sf h cells slots g :=
  fun T locs k n vm0 k0 X hk hn => K T locs k n vm0 k0 X (Nat.le_trans hk h1) (Nat.le_trans hn h2)
theorem AtS.weak {g : JFrame} {mk' : Nat} {sf' : List Addr} (K : AtS p l e R s m args below meth c Z EL own n0 Q mk' sf' h cells slots g) (h1 : mk ≤ mk') (h2 : ∀ x ∈ sf', x ∈ sf) : AtS p l e R s m args below meth c Z EL own n0 Q mk sf h cells slots g :=
  fun T locs k n vm0 k0 X hk hn eT N hZ hown hS hk0 hC hB hF => K T locs k n vm0 k0 X hk hn eT N hZ hown hS hk0 hC (fun y hy => Nat.lt_of_lt_of_le (hB y hy) h1) (fun x hx => hF x (h2 x hx))
/-- every booked constant lies below the heap's size -/
theorem AtS.mark {g : JFrame} (K : AtS p l e R s m args below meth c Z EL own n0 Q h.size sf h cells slots g) : AtS p l e R s m args below meth c Z EL own n0 Q mk sf h cells slots g :=
  fun T locs k n vm0 k0 X hk hn eT N hZ hown hS hk0 hC hB hF => K T locs k n vm0 k0 X hk hn eT N hZ hown hS hk0 hC (fun y hy => bk_lt hy) hF
theorem AtS.add {g : JFrame} {x : Addr} (h1 : mk ≤ x) (h2 : x < h.size) (K : AtS p l e R s m args below meth c Z EL own n0 Q mk (x :: sf) h cells slots g) : AtS p l e R s m args below meth c Z EL own n0 Q mk sf h cells slots g :=
  fun T locs k n vm0 k0 X hk hn eT N hZ hown hS hk0 hC hB hF => K T locs k n vm0 k0 X hk hn eT N hZ hown hS hk0 hC hB (fun y hy => by
    rcases List.mem_cons.mp hy with rfl | hy
    · exact ⟨h2, fun b => Nat.not_lt.mpr h1 (hB _ b)⟩
    · exact hF y hy)
theorem AtS.go {g g' : JFrame} (K : AtS p l e R s m args below meth c Z EL own n0 Q mk sf h cells slots g') (st : ∀ T, At T m c below → ∀ t, Steps p.tables e below (T.setTop g') t → Steps p.tables e below (T.setTop g) t) : AtS p l e R s m args below meth c Z EL own n0 Q mk sf h cells slots g :=
  fun T locs k n vm0 k0 X hk hn eT N hZ hown hS hk0 hC hB hF => by
    obtain ⟨t, o, r1, r⟩ := K T locs k n vm0 k0 X hk hn eT N hZ hown hS hk0 hC hB hF
    exact ⟨t, o, st T X.here t r1, r⟩
theorem AtS.goX {g g' : JFrame} (K : AtS p l e R s m args below meth c Z EL own n0 Q mk sf h cells slots g') (st : ∀ T locs k n vm0, Stand p l e R (s.setVm vm0) m args below meth c T locs k n → T.heap = h → Z.Warmed39 vm0 → vm0.findClass own = some m.cls → ∀ t, Steps p.tables e below (T.setTop g') t → Steps p.tables e below (T.setTop g) t) : AtS p l e R s m args below meth c Z EL own n0 Q mk sf h cells slots g :=
  fun T locs k n vm0 k0 X hk hn eT N hZ hown hS hk0 hC hB hF => by
    obtain ⟨t, o, r1, r⟩ := K T locs k n vm0 k0 X hk hn eT N hZ hown hS hk0 hC hB hF
    exact ⟨t, o, st T locs k n vm0 X eT hZ hown t r1, r⟩
theorem AtS.cast {g g' : JFrame} (K : AtS p l e R s m args below meth c Z EL own n0 Q mk sf h cells slots g') (q : g = g') : AtS p l e R s m args below meth c Z EL own n0 Q mk sf h cells slots g := by rw [q]; exact K

theorem s_iload (C : Cx p s m meth c Z own bytes maxL ret nm) {k : Nat} {v : Int32} (hl : L[k]? = some (.val (.int v))) (hd : decode bytes pc = .ok (.iload k, 2)) (hq : pc + 2 = q) (K : AtS p l e R s m args below meth c Z EL own n0 Q mk sf h cells slots (mkF m q L (.int v :: S))) : AtS p l e R s m args below meth c Z EL own n0 Q mk sf h cells slots (mkF m pc L S) := by
  subst hq
  exact K.go fun T hA t st => XS.iload hA C.1 rfl (hb C.2.1 hd) hl st
theorem s_iloadN (C : Cx p s m meth c Z own bytes maxL ret nm) {k : Fin 4} {v : Int32} (hl : L[k.val]? = some (.val (.int v))) (hd : decode bytes pc = .ok (.iload_n k, 1)) (hq : pc + 1 = q) (K : AtS p l e R s m args below meth c Z EL own n0 Q mk sf h cells slots (mkF m q L (.int v :: S))) : AtS p l e R s m args below meth c Z EL own n0 Q mk sf h cells slots (mkF m pc L S) := by
  subst hq
  exact K.go fun T hA t st => XS.iloadN hA C.1 rfl (hb C.2.1 hd) hl st
theorem s_istore (C : Cx p s m meth c Z own bytes maxL ret nm) {k : Nat} {v : Int32} (hl : storeLocals L k (.int v) = some L') (hd : decode bytes pc = .ok (.istore k, 2)) (hq : pc + 2 = q) (K : AtS p l e R s m args below meth c Z EL own n0 Q mk sf h cells slots (mkF m q L' S)) : AtS p l e R s m args below meth c Z EL own n0 Q mk sf h cells slots (mkF m pc L (.int v :: S)) := by
  subst hq
  exact K.go fun T hA t st => XS.istore hA C.1 rfl (hb C.2.1 hd) rfl hl st
theorem s_istoreN (C : Cx p s m meth c Z own bytes maxL ret nm) {k : Fin 4} {v : Int32} (hl : storeLocals L k.val (.int v) = some L') (hd : decode bytes pc = .ok (.istore_n k, 1)) (hq : pc + 1 = q) (K : AtS p l e R s m args below meth c Z EL own n0 Q mk sf h cells slots (mkF m q L' S)) : AtS p l e R s m args below meth c Z EL own n0 Q mk sf h cells slots (mkF m pc L (.int v :: S)) := by
  subst hq
  exact K.go fun T hA t st => XS.istoreN hA C.1 rfl (hb C.2.1 hd) rfl hl st
theorem s_lload (C : Cx p s m meth c Z own bytes maxL ret nm) {k : Nat} {v : Int64} (hl : L[k]? = some (.val (.long v))) (hd : decode bytes pc = .ok (.lload k, 2)) (hq : pc + 2 = q) (K : AtS p l e R s m args below meth c Z EL own n0 Q mk sf h cells slots (mkF m q L (.long v :: S))) : AtS p l e R s m args below meth c Z EL own n0 Q mk sf h cells slots (mkF m pc L S) := by
  subst hq
  exact K.go fun T hA t st => XS.lload hA C.1 rfl (hb C.2.1 hd) hl st
theorem s_lloadN (C : Cx p s m meth c Z own bytes maxL ret nm) {k : Fin 4} {v : Int64} (hl : L[k.val]? = some (.val (.long v))) (hd : decode bytes pc = .ok (.lload_n k, 1)) (hq : pc + 1 = q) (K : AtS p l e R s m args below meth c Z EL own n0 Q mk sf h cells slots (mkF m q L (.long v :: S))) : AtS p l e R s m args below meth c Z EL own n0 Q mk sf h cells slots (mkF m pc L S) := by
  subst hq
  exact K.go fun T hA t st => XS.lloadN hA C.1 rfl (hb C.2.1 hd) hl st
theorem s_lstore (C : Cx p s m meth c Z own bytes maxL ret nm) {k : Nat} {v : Int64} (hl : storeLocals L k (.long v) = some L') (hd : decode bytes pc = .ok (.lstore k, 2)) (hq : pc + 2 = q) (K : AtS p l e R s m args below meth c Z EL own n0 Q mk sf h cells slots (mkF m q L' S)) : AtS p l e R s m args below meth c Z EL own n0 Q mk sf h cells slots (mkF m pc L (.long v :: S)) := by
  subst hq
  exact K.go fun T hA t st => XS.lstore hA C.1 rfl (hb C.2.1 hd) rfl hl st
theorem s_lstoreN (C : Cx p s m meth c Z own bytes maxL ret nm) {k : Fin 4} {v : Int64} (hl : storeLocals L k.val (.long v) = some L') (hd : decode bytes pc = .ok (.lstore_n k, 1)) (hq : pc + 1 = q) (K : AtS p l e R s m args below meth c Z EL own n0 Q mk sf h cells slots (mkF m q L' S)) : AtS p l e R s m args below meth c Z EL own n0 Q mk sf h cells slots (mkF m pc L (.long v :: S)) := by
  subst hq
  exact K.go fun T hA t st => XS.lstoreN hA C.1 rfl (hb C.2.1 hd) rfl hl st
theorem s_aload (C : Cx p s m meth c Z own bytes maxL ret nm) {k : Nat} {v : Value} (hl : L[k]? = some (.val v)) (hv : v.isRef = true) (hd : decode bytes pc = .ok (.aload k, 2)) (hq : pc + 2 = q) (K : AtS p l e R s m args below meth c Z EL own n0 Q mk sf h cells slots (mkF m q L (v :: S))) : AtS p l e R s m args below meth c Z EL own n0 Q mk sf h cells slots (mkF m pc L S) := by
  subst hq
  exact K.go fun T hA t st => XS.aload hA C.1 rfl (hb C.2.1 hd) hl hv st
theorem s_aloadN (C : Cx p s m meth c Z own bytes maxL ret nm) {k : Fin 4} {v : Value} (hl : L[k.val]? = some (.val v)) (hv : v.isRef = true) (hd : decode bytes pc = .ok (.aload_n k, 1)) (hq : pc + 1 = q) (K : AtS p l e R s m args below meth c Z EL own n0 Q mk sf h cells slots (mkF m q L (v :: S))) : AtS p l e R s m args below meth c Z EL own n0 Q mk sf h cells slots (mkF m pc L S) := by
  subst hq
  exact K.go fun T hA t st => XS.aloadN hA C.1 rfl (hb C.2.1 hd) hl hv st
theorem s_astore (C : Cx p s m meth c Z own bytes maxL ret nm) {k : Nat} {v : Value} (hv : v.isRef = true) (hl : storeLocals L k v = some L') (hd : decode bytes pc = .ok (.astore k, 2)) (hq : pc + 2 = q) (K : AtS p l e R s m args below meth c Z EL own n0 Q mk sf h cells slots (mkF m q L' S)) : AtS p l e R s m args below meth c Z EL own n0 Q mk sf h cells slots (mkF m pc L (v :: S)) := by
  subst hq
  exact K.go fun T hA t st => XS.astore hA C.1 rfl (hb C.2.1 hd) rfl hv hl st
theorem s_astoreN (C : Cx p s m meth c Z own bytes maxL ret nm) {k : Fin 4} {v : Value} (hv : v.isRef = true) (hl : storeLocals L k.val v = some L') (hd : decode bytes pc = .ok (.astore_n k, 1)) (hq : pc + 1 = q) (K : AtS p l e R s m args below meth c Z EL own n0 Q mk sf h cells slots (mkF m q L' S)) : AtS p l e R s m args below meth c Z EL own n0 Q mk sf h cells slots (mkF m pc L (v :: S)) := by
  subst hq
  exact K.go fun T hA t st => XS.astoreN hA C.1 rfl (hb C.2.1 hd) rfl hv hl st
theorem s_iconst (C : Cx p s m meth c Z own bytes maxL ret nm) {i : Int} {v : Int32} (hv : Int32.ofInt i = v) (hd : decode bytes pc = .ok (.iconst i, 1)) (hq : pc + 1 = q) (K : AtS p l e R s m args below meth c Z EL own n0 Q mk sf h cells slots (mkF m q L (.int v :: S))) : AtS p l e R s m args below meth c Z EL own n0 Q mk sf h cells slots (mkF m pc L S) := by
  subst hq
  exact K.go fun T hA t st => by subst hv; exact XS.iconst hA C.1 rfl (hb C.2.1 hd) st
theorem s_bipush (C : Cx p s m meth c Z own bytes maxL ret nm) {i : Int} {v : Int32} (hv : (Int8.ofInt i).toInt32 = v) (hd : decode bytes pc = .ok (.bipush i, 2)) (hq : pc + 2 = q) (K : AtS p l e R s m args below meth c Z EL own n0 Q mk sf h cells slots (mkF m q L (.int v :: S))) : AtS p l e R s m args below meth c Z EL own n0 Q mk sf h cells slots (mkF m pc L S) := by
  subst hq
  exact K.go fun T hA t st => by subst hv; exact XS.bipush hA C.1 rfl (hb C.2.1 hd) st
theorem s_sipush (C : Cx p s m meth c Z own bytes maxL ret nm) {i : Int} {v : Int32} (hv : (Int16.ofInt i).toInt32 = v) (hd : decode bytes pc = .ok (.sipush i, 3)) (hq : pc + 3 = q) (K : AtS p l e R s m args below meth c Z EL own n0 Q mk sf h cells slots (mkF m q L (.int v :: S))) : AtS p l e R s m args below meth c Z EL own n0 Q mk sf h cells slots (mkF m pc L S) := by
  subst hq
  exact K.go fun T hA t st => by subst hv; exact XS.sipush hA C.1 rfl (hb C.2.1 hd) st
theorem s_lconst (C : Cx p s m meth c Z own bytes maxL ret nm) {k : Fin 2} {v : Int64} (hv : Int64.ofNat k = v) (hd : decode bytes pc = .ok (.lconst k, 1)) (hq : pc + 1 = q) (K : AtS p l e R s m args below meth c Z EL own n0 Q mk sf h cells slots (mkF m q L (.long v :: S))) : AtS p l e R s m args below meth c Z EL own n0 Q mk sf h cells slots (mkF m pc L S) := by
  subst hq
  exact K.go fun T hA t st => by subst hv; exact XS.lconst hA C.1 rfl (hb C.2.1 hd) st
theorem s_aconst_null (C : Cx p s m meth c Z own bytes maxL ret nm)  (hd : decode bytes pc = .ok (.aconst_null, 1)) (hq : pc + 1 = q) (K : AtS p l e R s m args below meth c Z EL own n0 Q mk sf h cells slots (mkF m q L (.null :: S))) : AtS p l e R s m args below meth c Z EL own n0 Q mk sf h cells slots (mkF m pc L S) := by
  subst hq
  exact K.go fun T hA t st => XS.aconstNull hA C.1 rfl (hb C.2.1 hd) st
theorem s_iadd (C : Cx p s m meth c Z own bytes maxL ret nm) {x y z : Int32} (hz : x + y = z) (hd : decode bytes pc = .ok (.iadd, 1)) (hq : pc + 1 = q) (K : AtS p l e R s m args below meth c Z EL own n0 Q mk sf h cells slots (mkF m q L (.int z :: S))) : AtS p l e R s m args below meth c Z EL own n0 Q mk sf h cells slots (mkF m pc L (.int y :: .int x :: S)) := by
  subst hq
  exact K.go fun T hA t st => by subst hz; exact XS.iadd hA C.1 rfl (hb C.2.1 hd) rfl st
theorem s_isub (C : Cx p s m meth c Z own bytes maxL ret nm) {x y z : Int32} (hz : x - y = z) (hd : decode bytes pc = .ok (.isub, 1)) (hq : pc + 1 = q) (K : AtS p l e R s m args below meth c Z EL own n0 Q mk sf h cells slots (mkF m q L (.int z :: S))) : AtS p l e R s m args below meth c Z EL own n0 Q mk sf h cells slots (mkF m pc L (.int y :: .int x :: S)) := by
  subst hq
  exact K.go fun T hA t st => by subst hz; exact XS.isub hA C.1 rfl (hb C.2.1 hd) rfl st
theorem s_imul (C : Cx p s m meth c Z own bytes maxL ret nm) {x y z : Int32} (hz : x * y = z) (hd : decode bytes pc = .ok (.imul, 1)) (hq : pc + 1 = q) (K : AtS p l e R s m args below meth c Z EL own n0 Q mk sf h cells slots (mkF m q L (.int z :: S))) : AtS p l e R s m args below meth c Z EL own n0 Q mk sf h cells slots (mkF m pc L (.int y :: .int x :: S)) := by
  subst hq
  exact K.go fun T hA t st => by subst hz; exact XS.imul hA C.1 rfl (hb C.2.1 hd) rfl st
theorem s_iand (C : Cx p s m meth c Z own bytes maxL ret nm) {x y z : Int32} (hz : x &&& y = z) (hd : decode bytes pc = .ok (.iand, 1)) (hq : pc + 1 = q) (K : AtS p l e R s m args below meth c Z EL own n0 Q mk sf h cells slots (mkF m q L (.int z :: S))) : AtS p l e R s m args below meth c Z EL own n0 Q mk sf h cells slots (mkF m pc L (.int y :: .int x :: S)) := by
  subst hq
  exact K.go fun T hA t st => by subst hz; exact XS.iand hA C.1 rfl (hb C.2.1 hd) rfl st
theorem s_ior (C : Cx p s m meth c Z own bytes maxL ret nm) {x y z : Int32} (hz : x ||| y = z) (hd : decode bytes pc = .ok (.ior, 1)) (hq : pc + 1 = q) (K : AtS p l e R s m args below meth c Z EL own n0 Q mk sf h cells slots (mkF m q L (.int z :: S))) : AtS p l e R s m args below meth c Z EL own n0 Q mk sf h cells slots (mkF m pc L (.int y :: .int x :: S)) := by
  subst hq
  exact K.go fun T hA t st => by subst hz; exact XS.ior hA C.1 rfl (hb C.2.1 hd) rfl st
theorem s_ixor (C : Cx p s m meth c Z own bytes maxL ret nm) {x y z : Int32} (hz : x ^^^ y = z) (hd : decode bytes pc = .ok (.ixor, 1)) (hq : pc + 1 = q) (K : AtS p l e R s m args below meth c Z EL own n0 Q mk sf h cells slots (mkF m q L (.int z :: S))) : AtS p l e R s m args below meth c Z EL own n0 Q mk sf h cells slots (mkF m pc L (.int y :: .int x :: S)) := by
  subst hq
  exact K.go fun T hA t st => by subst hz; exact XS.ixor hA C.1 rfl (hb C.2.1 hd) rfl st
theorem s_ladd (C : Cx p s m meth c Z own bytes maxL ret nm) {x y z : Int64} (hz : x + y = z) (hd : decode bytes pc = .ok (.ladd, 1)) (hq : pc + 1 = q) (K : AtS p l e R s m args below meth c Z EL own n0 Q mk sf h cells slots (mkF m q L (.long z :: S))) : AtS p l e R s m args below meth c Z EL own n0 Q mk sf h cells slots (mkF m pc L (.long y :: .long x :: S)) := by
  subst hq
  exact K.go fun T hA t st => by subst hz; exact XS.ladd hA C.1 rfl (hb C.2.1 hd) rfl st
theorem s_lsub (C : Cx p s m meth c Z own bytes maxL ret nm) {x y z : Int64} (hz : x - y = z) (hd : decode bytes pc = .ok (.lsub, 1)) (hq : pc + 1 = q) (K : AtS p l e R s m args below meth c Z EL own n0 Q mk sf h cells slots (mkF m q L (.long z :: S))) : AtS p l e R s m args below meth c Z EL own n0 Q mk sf h cells slots (mkF m pc L (.long y :: .long x :: S)) := by
  subst hq
  exact K.go fun T hA t st => by subst hz; exact XS.lsub hA C.1 rfl (hb C.2.1 hd) rfl st
theorem s_lmul (C : Cx p s m meth c Z own bytes maxL ret nm) {x y z : Int64} (hz : x * y = z) (hd : decode bytes pc = .ok (.lmul, 1)) (hq : pc + 1 = q) (K : AtS p l e R s m args below meth c Z EL own n0 Q mk sf h cells slots (mkF m q L (.long z :: S))) : AtS p l e R s m args below meth c Z EL own n0 Q mk sf h cells slots (mkF m pc L (.long y :: .long x :: S)) := by
  subst hq
  exact K.go fun T hA t st => by subst hz; exact XS.lmul hA C.1 rfl (hb C.2.1 hd) rfl st
theorem s_land (C : Cx p s m meth c Z own bytes maxL ret nm) {x y z : Int64} (hz : x &&& y = z) (hd : decode bytes pc = .ok (.land, 1)) (hq : pc + 1 = q) (K : AtS p l e R s m args below meth c Z EL own n0 Q mk sf h cells slots (mkF m q L (.long z :: S))) : AtS p l e R s m args below meth c Z EL own n0 Q mk sf h cells slots (mkF m pc L (.long y :: .long x :: S)) := by
  subst hq
  exact K.go fun T hA t st => by subst hz; exact XS.land hA C.1 rfl (hb C.2.1 hd) rfl st
theorem s_lor (C : Cx p s m meth c Z own bytes maxL ret nm) {x y z : Int64} (hz : x ||| y = z) (hd : decode bytes pc = .ok (.lor, 1)) (hq : pc + 1 = q) (K : AtS p l e R s m args below meth c Z EL own n0 Q mk sf h cells slots (mkF m q L (.long z :: S))) : AtS p l e R s m args below meth c Z EL own n0 Q mk sf h cells slots (mkF m pc L (.long y :: .long x :: S)) := by
  subst hq
  exact K.go fun T hA t st => by subst hz; exact XS.lor hA C.1 rfl (hb C.2.1 hd) rfl st
theorem s_lxor (C : Cx p s m meth c Z own bytes maxL ret nm) {x y z : Int64} (hz : x ^^^ y = z) (hd : decode bytes pc = .ok (.lxor, 1)) (hq : pc + 1 = q) (K : AtS p l e R s m args below meth c Z EL own n0 Q mk sf h cells slots (mkF m q L (.long z :: S))) : AtS p l e R s m args below meth c Z EL own n0 Q mk sf h cells slots (mkF m pc L (.long y :: .long x :: S)) := by
  subst hq
  exact K.go fun T hA t st => by subst hz; exact XS.lxor hA C.1 rfl (hb C.2.1 hd) rfl st
theorem s_ishl (C : Cx p s m meth c Z own bytes maxL ret nm) {x y z : Int32} (hz : x <<< (y &&& 31) = z) (hd : decode bytes pc = .ok (.ishl, 1)) (hq : pc + 1 = q) (K : AtS p l e R s m args below meth c Z EL own n0 Q mk sf h cells slots (mkF m q L (.int z :: S))) : AtS p l e R s m args below meth c Z EL own n0 Q mk sf h cells slots (mkF m pc L (.int y :: .int x :: S)) := by
  subst hq
  exact K.go fun T hA t st => by subst hz; exact XS.ishl hA C.1 rfl (hb C.2.1 hd) rfl st
theorem s_ishr (C : Cx p s m meth c Z own bytes maxL ret nm) {x y z : Int32} (hz : x >>> (y &&& 31) = z) (hd : decode bytes pc = .ok (.ishr, 1)) (hq : pc + 1 = q) (K : AtS p l e R s m args below meth c Z EL own n0 Q mk sf h cells slots (mkF m q L (.int z :: S))) : AtS p l e R s m args below meth c Z EL own n0 Q mk sf h cells slots (mkF m pc L (.int y :: .int x :: S)) := by
  subst hq
  exact K.go fun T hA t st => by subst hz; exact XS.ishr hA C.1 rfl (hb C.2.1 hd) rfl st
theorem s_iushr (C : Cx p s m meth c Z own bytes maxL ret nm) {x y z : Int32} (hz : (x.toUInt32 >>> (y &&& 31).toUInt32).toInt32 = z) (hd : decode bytes pc = .ok (.iushr, 1)) (hq : pc + 1 = q) (K : AtS p l e R s m args below meth c Z EL own n0 Q mk sf h cells slots (mkF m q L (.int z :: S))) : AtS p l e R s m args below meth c Z EL own n0 Q mk sf h cells slots (mkF m pc L (.int y :: .int x :: S)) := by
  subst hq
  exact K.go fun T hA t st => by subst hz; exact XS.iushr hA C.1 rfl (hb C.2.1 hd) rfl st
theorem s_lshl (C : Cx p s m meth c Z own bytes maxL ret nm) {x z : Int64} {y : Int32} (hz : x <<< (y &&& 0x3f).toInt64 = z) (hd : decode bytes pc = .ok (.lshl, 1)) (hq : pc + 1 = q) (K : AtS p l e R s m args below meth c Z EL own n0 Q mk sf h cells slots (mkF m q L (.long z :: S))) : AtS p l e R s m args below meth c Z EL own n0 Q mk sf h cells slots (mkF m pc L (.int y :: .long x :: S)) := by
  subst hq
  exact K.go fun T hA t st => by subst hz; exact XS.lshl hA C.1 rfl (hb C.2.1 hd) rfl st
theorem s_lshr (C : Cx p s m meth c Z own bytes maxL ret nm) {x z : Int64} {y : Int32} (hz : x >>> (y &&& 0x3f).toInt64 = z) (hd : decode bytes pc = .ok (.lshr, 1)) (hq : pc + 1 = q) (K : AtS p l e R s m args below meth c Z EL own n0 Q mk sf h cells slots (mkF m q L (.long z :: S))) : AtS p l e R s m args below meth c Z EL own n0 Q mk sf h cells slots (mkF m pc L (.int y :: .long x :: S)) := by
  subst hq
  exact K.go fun T hA t st => by subst hz; exact XS.lshr hA C.1 rfl (hb C.2.1 hd) rfl st
theorem s_lushr (C : Cx p s m meth c Z own bytes maxL ret nm) {x z : Int64} {y : Int32} (hz : (x.toUInt64 >>> (y &&& 0x3f).toInt64.toUInt64).toInt64 = z) (hd : decode bytes pc = .ok (.lushr, 1)) (hq : pc + 1 = q) (K : AtS p l e R s m args below meth c Z EL own n0 Q mk sf h cells slots (mkF m q L (.long z :: S))) : AtS p l e R s m args below meth c Z EL own n0 Q mk sf h cells slots (mkF m pc L (.int y :: .long x :: S)) := by
  subst hq
  exact K.go fun T hA t st => by subst hz; exact XS.lushr hA C.1 rfl (hb C.2.1 hd) rfl st
theorem s_idiv (C : Cx p s m meth c Z own bytes maxL ret nm) {x y z : Int32} (hy : y ≠ 0) (hz : x / y = z) (hd : decode bytes pc = .ok (.idiv, 1)) (hq : pc + 1 = q) (K : AtS p l e R s m args below meth c Z EL own n0 Q mk sf h cells slots (mkF m q L (.int z :: S))) : AtS p l e R s m args below meth c Z EL own n0 Q mk sf h cells slots (mkF m pc L (.int y :: .int x :: S)) := by
  subst hq
  exact K.go fun T hA t st => by subst hz; exact XS.idiv hA C.1 rfl (hb C.2.1 hd) rfl hy st
theorem s_ldiv (C : Cx p s m meth c Z own bytes maxL ret nm) {x y z : Int64} (hy : y ≠ 0) (hz : x / y = z) (hd : decode bytes pc = .ok (.ldiv, 1)) (hq : pc + 1 = q) (K : AtS p l e R s m args below meth c Z EL own n0 Q mk sf h cells slots (mkF m q L (.long z :: S))) : AtS p l e R s m args below meth c Z EL own n0 Q mk sf h cells slots (mkF m pc L (.long y :: .long x :: S)) := by
  subst hq
  exact K.go fun T hA t st => by subst hz; exact XS.ldiv hA C.1 rfl (hb C.2.1 hd) rfl hy st
theorem s_irem (C : Cx p s m meth c Z own bytes maxL ret nm) {x y z : Int32} (hy : y ≠ 0) (hz : x % y = z) (hd : decode bytes pc = .ok (.irem, 1)) (hq : pc + 1 = q) (K : AtS p l e R s m args below meth c Z EL own n0 Q mk sf h cells slots (mkF m q L (.int z :: S))) : AtS p l e R s m args below meth c Z EL own n0 Q mk sf h cells slots (mkF m pc L (.int y :: .int x :: S)) := by
  subst hq
  exact K.go fun T hA t st => by subst hz; rw [← irem_eq_mod x y] at st; exact XS.irem hA C.1 rfl (hb C.2.1 hd) rfl hy st
theorem s_lrem (C : Cx p s m meth c Z own bytes maxL ret nm) {x y z : Int64} (hy : y ≠ 0) (hz : x % y = z) (hd : decode bytes pc = .ok (.lrem, 1)) (hq : pc + 1 = q) (K : AtS p l e R s m args below meth c Z EL own n0 Q mk sf h cells slots (mkF m q L (.long z :: S))) : AtS p l e R s m args below meth c Z EL own n0 Q mk sf h cells slots (mkF m pc L (.long y :: .long x :: S)) := by
  subst hq
  exact K.go fun T hA t st => by subst hz; rw [← lrem_mod x y] at st; exact XS.lrem hA C.1 rfl (hb C.2.1 hd) rfl hy st
theorem s_ineg (C : Cx p s m meth c Z own bytes maxL ret nm) {x : Int32} {z : Int32} (hz : -x = z) (hd : decode bytes pc = .ok (.ineg, 1)) (hq : pc + 1 = q) (K : AtS p l e R s m args below meth c Z EL own n0 Q mk sf h cells slots (mkF m q L (.int z :: S))) : AtS p l e R s m args below meth c Z EL own n0 Q mk sf h cells slots (mkF m pc L (.int x :: S)) := by
  subst hq
  exact K.go fun T hA t st => by subst hz; exact XS.ineg hA C.1 rfl (hb C.2.1 hd) rfl st
theorem s_lneg (C : Cx p s m meth c Z own bytes maxL ret nm) {x : Int64} {z : Int64} (hz : -x = z) (hd : decode bytes pc = .ok (.lneg, 1)) (hq : pc + 1 = q) (K : AtS p l e R s m args below meth c Z EL own n0 Q mk sf h cells slots (mkF m q L (.long z :: S))) : AtS p l e R s m args below meth c Z EL own n0 Q mk sf h cells slots (mkF m pc L (.long x :: S)) := by
  subst hq
  exact K.go fun T hA t st => by subst hz; exact XS.lneg hA C.1 rfl (hb C.2.1 hd) rfl st
theorem s_i2l (C : Cx p s m meth c Z own bytes maxL ret nm) {x : Int32} {z : Int64} (hz : x.toInt64 = z) (hd : decode bytes pc = .ok (.i2l, 1)) (hq : pc + 1 = q) (K : AtS p l e R s m args below meth c Z EL own n0 Q mk sf h cells slots (mkF m q L (.long z :: S))) : AtS p l e R s m args below meth c Z EL own n0 Q mk sf h cells slots (mkF m pc L (.int x :: S)) := by
  subst hq
  exact K.go fun T hA t st => by subst hz; exact XS.i2l hA C.1 rfl (hb C.2.1 hd) rfl st
theorem s_l2i (C : Cx p s m meth c Z own bytes maxL ret nm) {x : Int64} {z : Int32} (hz : x.toInt32 = z) (hd : decode bytes pc = .ok (.l2i, 1)) (hq : pc + 1 = q) (K : AtS p l e R s m args below meth c Z EL own n0 Q mk sf h cells slots (mkF m q L (.int z :: S))) : AtS p l e R s m args below meth c Z EL own n0 Q mk sf h cells slots (mkF m pc L (.long x :: S)) := by
  subst hq
  exact K.go fun T hA t st => by subst hz; exact XS.l2i hA C.1 rfl (hb C.2.1 hd) rfl st
theorem s_i2b (C : Cx p s m meth c Z own bytes maxL ret nm) {x : Int32} {z : Int32} (hz : x.toInt8.toInt32 = z) (hd : decode bytes pc = .ok (.i2b, 1)) (hq : pc + 1 = q) (K : AtS p l e R s m args below meth c Z EL own n0 Q mk sf h cells slots (mkF m q L (.int z :: S))) : AtS p l e R s m args below meth c Z EL own n0 Q mk sf h cells slots (mkF m pc L (.int x :: S)) := by
  subst hq
  exact K.go fun T hA t st => by subst hz; exact XS.i2b hA C.1 rfl (hb C.2.1 hd) rfl st
theorem s_i2s (C : Cx p s m meth c Z own bytes maxL ret nm) {x : Int32} {z : Int32} (hz : x.toInt16.toInt32 = z) (hd : decode bytes pc = .ok (.i2s, 1)) (hq : pc + 1 = q) (K : AtS p l e R s m args below meth c Z EL own n0 Q mk sf h cells slots (mkF m q L (.int z :: S))) : AtS p l e R s m args below meth c Z EL own n0 Q mk sf h cells slots (mkF m pc L (.int x :: S)) := by
  subst hq
  exact K.go fun T hA t st => by subst hz; exact XS.i2s hA C.1 rfl (hb C.2.1 hd) rfl st
theorem s_i2c (C : Cx p s m meth c Z own bytes maxL ret nm) {x : Int32} {z : Int32} (hz : x.toUInt32.toUInt16.toUInt32.toInt32 = z) (hd : decode bytes pc = .ok (.i2c, 1)) (hq : pc + 1 = q) (K : AtS p l e R s m args below meth c Z EL own n0 Q mk sf h cells slots (mkF m q L (.int z :: S))) : AtS p l e R s m args below meth c Z EL own n0 Q mk sf h cells slots (mkF m pc L (.int x :: S)) := by
  subst hq
  exact K.go fun T hA t st => by subst hz; exact XS.i2c hA C.1 rfl (hb C.2.1 hd) rfl st
theorem s_lcmp (C : Cx p s m meth c Z own bytes maxL ret nm) {x y : Int64} {z : Int32} (hz : lcmpW x y = z) (hd : decode bytes pc = .ok (.lcmp, 1)) (hq : pc + 1 = q) (K : AtS p l e R s m args below meth c Z EL own n0 Q mk sf h cells slots (mkF m q L (.int z :: S))) : AtS p l e R s m args below meth c Z EL own n0 Q mk sf h cells slots (mkF m pc L (.long y :: .long x :: S)) := by
  subst hq
  exact K.go fun T hA t st => by subst hz; exact XS.lcmp hA C.1 rfl (hb C.2.1 hd) rfl st
theorem s_dup (C : Cx p s m meth c Z own bytes maxL ret nm) {x : Value} (hc : x.category = 1) (hd : decode bytes pc = .ok (.dup, 1)) (hq : pc + 1 = q) (K : AtS p l e R s m args below meth c Z EL own n0 Q mk sf h cells slots (mkF m q L (x :: x :: S))) : AtS p l e R s m args below meth c Z EL own n0 Q mk sf h cells slots (mkF m pc L (x :: S)) := by
  subst hq
  exact K.go fun T hA t st => XS.dup hA C.1 rfl (hb C.2.1 hd) rfl hc st
theorem s_pop (C : Cx p s m meth c Z own bytes maxL ret nm) {x : Value} (hc : x.category = 1) (hd : decode bytes pc = .ok (.pop, 1)) (hq : pc + 1 = q) (K : AtS p l e R s m args below meth c Z EL own n0 Q mk sf h cells slots (mkF m q L S)) : AtS p l e R s m args below meth c Z EL own n0 Q mk sf h cells slots (mkF m pc L (x :: S)) := by
  subst hq
  exact K.go fun T hA t st => XS.pop hA C.1 rfl (hb C.2.1 hd) rfl hc st
theorem s_dup_x1 (C : Cx p s m meth c Z own bytes maxL ret nm) {x y : Value} (hc : x.category = 1) (hc' : y.category = 1) (hd : decode bytes pc = .ok (.dup_x1, 1)) (hq : pc + 1 = q) (K : AtS p l e R s m args below meth c Z EL own n0 Q mk sf h cells slots (mkF m q L (x :: y :: x :: S))) : AtS p l e R s m args below meth c Z EL own n0 Q mk sf h cells slots (mkF m pc L (x :: y :: S)) := by
  subst hq
  exact K.go fun T hA t st => XS.dupX1 hA C.1 rfl (hb C.2.1 hd) rfl hc hc' st
theorem s_iinc (C : Cx p s m meth c Z own bytes maxL ret nm) {k : Nat} {cst : Int} {x z : Int32} (hl : L[k]? = some (.val (.int x))) (hz : x + Int32.ofInt cst = z) (hl' : storeLocals L k (.int z) = some L') (hd : decode bytes pc = .ok (.iinc k cst, 3)) (hq : pc + 3 = q) (K : AtS p l e R s m args below meth c Z EL own n0 Q mk sf h cells slots (mkF m q L' S)) : AtS p l e R s m args below meth c Z EL own n0 Q mk sf h cells slots (mkF m pc L S) := by
  subst hq
  exact K.go fun T hA t st => by subst hz; exact XS.iinc hA C.1 rfl (hb C.2.1 hd) hl hl' st
theorem s_goto (C : Cx p s m meth c Z own bytes maxL ret nm) {o : Int} (hd : decode bytes pc = .ok (.goto o, 3)) (ho : 0 ≤ (pc : Int) + o) (hp : ((pc : Int) + o).toNat = q) (K : AtS p l e R s m args below meth c Z EL own n0 Q mk sf h cells slots (mkF m q L S)) : AtS p l e R s m args below meth c Z EL own n0 Q mk sf h cells slots (mkF m pc L S) :=
  K.go fun T hA t st => XS.goto hA C.1 rfl (pc0 := pc) (pc' := q) rfl (hb C.2.1 hd) ho hp st
theorem s_icmp_lt_t (C : Cx p s m meth c Z own bytes maxL ret nm) {o : Int} {x y : Int32} (hd : decode bytes pc = .ok (.if_icmp .lt o, 3)) (ho : 0 ≤ (pc : Int) + o) (hp : ((pc : Int) + o).toNat = q) (hc : x < y) (K : AtS p l e R s m args below meth c Z EL own n0 Q mk sf h cells slots (mkF m q L S)) : AtS p l e R s m args below meth c Z EL own n0 Q mk sf h cells slots (mkF m pc L (.int y :: .int x :: S)) :=
  K.go fun T hA t st => XS.icmpYes hA C.1 rfl (pc0 := pc) (pc' := q) rfl (hb C.2.1 hd) rfl (tlt hc).1 ho hp st
theorem s_icmp_lt_f (C : Cx p s m meth c Z own bytes maxL ret nm) {o : Int} {x y : Int32} (hd : decode bytes pc = .ok (.if_icmp .lt o, 3)) (hq : pc + 3 = q) (hc : ¬ x < y) (K : AtS p l e R s m args below meth c Z EL own n0 Q mk sf h cells slots (mkF m q L S)) : AtS p l e R s m args below meth c Z EL own n0 Q mk sf h cells slots (mkF m pc L (.int y :: .int x :: S)) := by
  subst hq
  exact K.go fun T hA t st => XS.icmpNo hA C.1 rfl (hb C.2.1 hd) rfl (flt hc).1 st
theorem s_if_lt_t (C : Cx p s m meth c Z own bytes maxL ret nm) {o : Int} {x : Int32} (hd : decode bytes pc = .ok (.ifCond .lt o, 3)) (ho : 0 ≤ (pc : Int) + o) (hp : ((pc : Int) + o).toNat = q) (hc : x < 0) (K : AtS p l e R s m args below meth c Z EL own n0 Q mk sf h cells slots (mkF m q L S)) : AtS p l e R s m args below meth c Z EL own n0 Q mk sf h cells slots (mkF m pc L (.int x :: S)) :=
  K.go fun T hA t st => XS.ifYes hA C.1 rfl (pc0 := pc) (pc' := q) rfl (hb C.2.1 hd) rfl ((if0 _ _).trans (tlt hc).1) ho hp st
theorem s_if_lt_f (C : Cx p s m meth c Z own bytes maxL ret nm) {o : Int} {x : Int32} (hd : decode bytes pc = .ok (.ifCond .lt o, 3)) (hq : pc + 3 = q) (hc : ¬ x < 0) (K : AtS p l e R s m args below meth c Z EL own n0 Q mk sf h cells slots (mkF m q L S)) : AtS p l e R s m args below meth c Z EL own n0 Q mk sf h cells slots (mkF m pc L (.int x :: S)) := by
  subst hq
  exact K.go fun T hA t st => XS.ifNo hA C.1 rfl (hb C.2.1 hd) rfl ((if0 _ _).trans (flt hc).1) st
theorem s_icmp_ge_t (C : Cx p s m meth c Z own bytes maxL ret nm) {o : Int} {x y : Int32} (hd : decode bytes pc = .ok (.if_icmp .ge o, 3)) (ho : 0 ≤ (pc : Int) + o) (hp : ((pc : Int) + o).toNat = q) (hc : ¬ x < y) (K : AtS p l e R s m args below meth c Z EL own n0 Q mk sf h cells slots (mkF m q L S)) : AtS p l e R s m args below meth c Z EL own n0 Q mk sf h cells slots (mkF m pc L (.int y :: .int x :: S)) :=
  K.go fun T hA t st => XS.icmpYes hA C.1 rfl (pc0 := pc) (pc' := q) rfl (hb C.2.1 hd) rfl (flt hc).2.1 ho hp st
theorem s_icmp_ge_f (C : Cx p s m meth c Z own bytes maxL ret nm) {o : Int} {x y : Int32} (hd : decode bytes pc = .ok (.if_icmp .ge o, 3)) (hq : pc + 3 = q) (hc : x < y) (K : AtS p l e R s m args below meth c Z EL own n0 Q mk sf h cells slots (mkF m q L S)) : AtS p l e R s m args below meth c Z EL own n0 Q mk sf h cells slots (mkF m pc L (.int y :: .int x :: S)) := by
  subst hq
  exact K.go fun T hA t st => XS.icmpNo hA C.1 rfl (hb C.2.1 hd) rfl (tlt hc).2.1 st
theorem s_if_ge_t (C : Cx p s m meth c Z own bytes maxL ret nm) {o : Int} {x : Int32} (hd : decode bytes pc = .ok (.ifCond .ge o, 3)) (ho : 0 ≤ (pc : Int) + o) (hp : ((pc : Int) + o).toNat = q) (hc : ¬ x < 0) (K : AtS p l e R s m args below meth c Z EL own n0 Q mk sf h cells slots (mkF m q L S)) : AtS p l e R s m args below meth c Z EL own n0 Q mk sf h cells slots (mkF m pc L (.int x :: S)) :=
  K.go fun T hA t st => XS.ifYes hA C.1 rfl (pc0 := pc) (pc' := q) rfl (hb C.2.1 hd) rfl ((if0 _ _).trans (flt hc).2.1) ho hp st
theorem s_if_ge_f (C : Cx p s m meth c Z own bytes maxL ret nm) {o : Int} {x : Int32} (hd : decode bytes pc = .ok (.ifCond .ge o, 3)) (hq : pc + 3 = q) (hc : x < 0) (K : AtS p l e R s m args below meth c Z EL own n0 Q mk sf h cells slots (mkF m q L S)) : AtS p l e R s m args below meth c Z EL own n0 Q mk sf h cells slots (mkF m pc L (.int x :: S)) := by
  subst hq
  exact K.go fun T hA t st => XS.ifNo hA C.1 rfl (hb C.2.1 hd) rfl ((if0 _ _).trans (tlt hc).2.1) st
theorem s_icmp_gt_t (C : Cx p s m meth c Z own bytes maxL ret nm) {o : Int} {x y : Int32} (hd : decode bytes pc = .ok (.if_icmp .gt o, 3)) (ho : 0 ≤ (pc : Int) + o) (hp : ((pc : Int) + o).toNat = q) (hc : y < x) (K : AtS p l e R s m args below meth c Z EL own n0 Q mk sf h cells slots (mkF m q L S)) : AtS p l e R s m args below meth c Z EL own n0 Q mk sf h cells slots (mkF m pc L (.int y :: .int x :: S)) :=
  K.go fun T hA t st => XS.icmpYes hA C.1 rfl (pc0 := pc) (pc' := q) rfl (hb C.2.1 hd) rfl (tlt hc).2.2.1 ho hp st
theorem s_icmp_gt_f (C : Cx p s m meth c Z own bytes maxL ret nm) {o : Int} {x y : Int32} (hd : decode bytes pc = .ok (.if_icmp .gt o, 3)) (hq : pc + 3 = q) (hc : ¬ y < x) (K : AtS p l e R s m args below meth c Z EL own n0 Q mk sf h cells slots (mkF m q L S)) : AtS p l e R s m args below meth c Z EL own n0 Q mk sf h cells slots (mkF m pc L (.int y :: .int x :: S)) := by
  subst hq
  exact K.go fun T hA t st => XS.icmpNo hA C.1 rfl (hb C.2.1 hd) rfl (flt hc).2.2.1 st
theorem s_if_gt_t (C : Cx p s m meth c Z own bytes maxL ret nm) {o : Int} {x : Int32} (hd : decode bytes pc = .ok (.ifCond .gt o, 3)) (ho : 0 ≤ (pc : Int) + o) (hp : ((pc : Int) + o).toNat = q) (hc : 0 < x) (K : AtS p l e R s m args below meth c Z EL own n0 Q mk sf h cells slots (mkF m q L S)) : AtS p l e R s m args below meth c Z EL own n0 Q mk sf h cells slots (mkF m pc L (.int x :: S)) :=
  K.go fun T hA t st => XS.ifYes hA C.1 rfl (pc0 := pc) (pc' := q) rfl (hb C.2.1 hd) rfl ((if0 _ _).trans (tlt hc).2.2.1) ho hp st
theorem s_if_gt_f (C : Cx p s m meth c Z own bytes maxL ret nm) {o : Int} {x : Int32} (hd : decode bytes pc = .ok (.ifCond .gt o, 3)) (hq : pc + 3 = q) (hc : ¬ 0 < x) (K : AtS p l e R s m args below meth c Z EL own n0 Q mk sf h cells slots (mkF m q L S)) : AtS p l e R s m args below meth c Z EL own n0 Q mk sf h cells slots (mkF m pc L (.int x :: S)) := by
  subst hq
  exact K.go fun T hA t st => XS.ifNo hA C.1 rfl (hb C.2.1 hd) rfl ((if0 _ _).trans (flt hc).2.2.1) st
theorem s_icmp_le_t (C : Cx p s m meth c Z own bytes maxL ret nm) {o : Int} {x y : Int32} (hd : decode bytes pc = .ok (.if_icmp .le o, 3)) (ho : 0 ≤ (pc : Int) + o) (hp : ((pc : Int) + o).toNat = q) (hc : ¬ y < x) (K : AtS p l e R s m args below meth c Z EL own n0 Q mk sf h cells slots (mkF m q L S)) : AtS p l e R s m args below meth c Z EL own n0 Q mk sf h cells slots (mkF m pc L (.int y :: .int x :: S)) :=
  K.go fun T hA t st => XS.icmpYes hA C.1 rfl (pc0 := pc) (pc' := q) rfl (hb C.2.1 hd) rfl (flt hc).2.2.2 ho hp st
theorem s_icmp_le_f (C : Cx p s m meth c Z own bytes maxL ret nm) {o : Int} {x y : Int32} (hd : decode bytes pc = .ok (.if_icmp .le o, 3)) (hq : pc + 3 = q) (hc : y < x) (K : AtS p l e R s m args below meth c Z EL own n0 Q mk sf h cells slots (mkF m q L S)) : AtS p l e R s m args below meth c Z EL own n0 Q mk sf h cells slots (mkF m pc L (.int y :: .int x :: S)) := by
  subst hq
  exact K.go fun T hA t st => XS.icmpNo hA C.1 rfl (hb C.2.1 hd) rfl (tlt hc).2.2.2 st
theorem s_if_le_t (C : Cx p s m meth c Z own bytes maxL ret nm) {o : Int} {x : Int32} (hd : decode bytes pc = .ok (.ifCond .le o, 3)) (ho : 0 ≤ (pc : Int) + o) (hp : ((pc : Int) + o).toNat = q) (hc : ¬ 0 < x) (K : AtS p l e R s m args below meth c Z EL own n0 Q mk sf h cells slots (mkF m q L S)) : AtS p l e R s m args below meth c Z EL own n0 Q mk sf h cells slots (mkF m pc L (.int x :: S)) :=
  K.go fun T hA t st => XS.ifYes hA C.1 rfl (pc0 := pc) (pc' := q) rfl (hb C.2.1 hd) rfl ((if0 _ _).trans (flt hc).2.2.2) ho hp st
theorem s_if_le_f (C : Cx p s m meth c Z own bytes maxL ret nm) {o : Int} {x : Int32} (hd : decode bytes pc = .ok (.ifCond .le o, 3)) (hq : pc + 3 = q) (hc : 0 < x) (K : AtS p l e R s m args below meth c Z EL own n0 Q mk sf h cells slots (mkF m q L S)) : AtS p l e R s m args below meth c Z EL own n0 Q mk sf h cells slots (mkF m pc L (.int x :: S)) := by
  subst hq
  exact K.go fun T hA t st => XS.ifNo hA C.1 rfl (hb C.2.1 hd) rfl ((if0 _ _).trans (tlt hc).2.2.2) st
theorem s_icmp_eq_t (C : Cx p s m meth c Z own bytes maxL ret nm) {o : Int} {x y : Int32} (hd : decode bytes pc = .ok (.if_icmp .eq o, 3)) (ho : 0 ≤ (pc : Int) + o) (hp : ((pc : Int) + o).toNat = q) (hc : x = y) (K : AtS p l e R s m args below meth c Z EL own n0 Q mk sf h cells slots (mkF m q L S)) : AtS p l e R s m args below meth c Z EL own n0 Q mk sf h cells slots (mkF m pc L (.int y :: .int x :: S)) :=
  K.go fun T hA t st => XS.icmpYes hA C.1 rfl (pc0 := pc) (pc' := q) rfl (hb C.2.1 hd) rfl (teq hc).1 ho hp st
theorem s_icmp_eq_f (C : Cx p s m meth c Z own bytes maxL ret nm) {o : Int} {x y : Int32} (hd : decode bytes pc = .ok (.if_icmp .eq o, 3)) (hq : pc + 3 = q) (hc : ¬ x = y) (K : AtS p l e R s m args below meth c Z EL own n0 Q mk sf h cells slots (mkF m q L S)) : AtS p l e R s m args below meth c Z EL own n0 Q mk sf h cells slots (mkF m pc L (.int y :: .int x :: S)) := by
  subst hq
  exact K.go fun T hA t st => XS.icmpNo hA C.1 rfl (hb C.2.1 hd) rfl (feq hc).1 st
theorem s_if_eq_t (C : Cx p s m meth c Z own bytes maxL ret nm) {o : Int} {x : Int32} (hd : decode bytes pc = .ok (.ifCond .eq o, 3)) (ho : 0 ≤ (pc : Int) + o) (hp : ((pc : Int) + o).toNat = q) (hc : x = 0) (K : AtS p l e R s m args below meth c Z EL own n0 Q mk sf h cells slots (mkF m q L S)) : AtS p l e R s m args below meth c Z EL own n0 Q mk sf h cells slots (mkF m pc L (.int x :: S)) :=
  K.go fun T hA t st => XS.ifYes hA C.1 rfl (pc0 := pc) (pc' := q) rfl (hb C.2.1 hd) rfl ((if0 _ _).trans (teq hc).1) ho hp st
theorem s_if_eq_f (C : Cx p s m meth c Z own bytes maxL ret nm) {o : Int} {x : Int32} (hd : decode bytes pc = .ok (.ifCond .eq o, 3)) (hq : pc + 3 = q) (hc : ¬ x = 0) (K : AtS p l e R s m args below meth c Z EL own n0 Q mk sf h cells slots (mkF m q L S)) : AtS p l e R s m args below meth c Z EL own n0 Q mk sf h cells slots (mkF m pc L (.int x :: S)) := by
  subst hq
  exact K.go fun T hA t st => XS.ifNo hA C.1 rfl (hb C.2.1 hd) rfl ((if0 _ _).trans (feq hc).1) st
theorem s_icmp_ne_t (C : Cx p s m meth c Z own bytes maxL ret nm) {o : Int} {x y : Int32} (hd : decode bytes pc = .ok (.if_icmp .ne o, 3)) (ho : 0 ≤ (pc : Int) + o) (hp : ((pc : Int) + o).toNat = q) (hc : ¬ x = y) (K : AtS p l e R s m args below meth c Z EL own n0 Q mk sf h cells slots (mkF m q L S)) : AtS p l e R s m args below meth c Z EL own n0 Q mk sf h cells slots (mkF m pc L (.int y :: .int x :: S)) :=
  K.go fun T hA t st => XS.icmpYes hA C.1 rfl (pc0 := pc) (pc' := q) rfl (hb C.2.1 hd) rfl (feq hc).2 ho hp st
theorem s_icmp_ne_f (C : Cx p s m meth c Z own bytes maxL ret nm) {o : Int} {x y : Int32} (hd : decode bytes pc = .ok (.if_icmp .ne o, 3)) (hq : pc + 3 = q) (hc : x = y) (K : AtS p l e R s m args below meth c Z EL own n0 Q mk sf h cells slots (mkF m q L S)) : AtS p l e R s m args below meth c Z EL own n0 Q mk sf h cells slots (mkF m pc L (.int y :: .int x :: S)) := by
  subst hq
  exact K.go fun T hA t st => XS.icmpNo hA C.1 rfl (hb C.2.1 hd) rfl (teq hc).2 st
theorem s_if_ne_t (C : Cx p s m meth c Z own bytes maxL ret nm) {o : Int} {x : Int32} (hd : decode bytes pc = .ok (.ifCond .ne o, 3)) (ho : 0 ≤ (pc : Int) + o) (hp : ((pc : Int) + o).toNat = q) (hc : ¬ x = 0) (K : AtS p l e R s m args below meth c Z EL own n0 Q mk sf h cells slots (mkF m q L S)) : AtS p l e R s m args below meth c Z EL own n0 Q mk sf h cells slots (mkF m pc L (.int x :: S)) :=
  K.go fun T hA t st => XS.ifYes hA C.1 rfl (pc0 := pc) (pc' := q) rfl (hb C.2.1 hd) rfl ((if0 _ _).trans (feq hc).2) ho hp st
theorem s_if_ne_f (C : Cx p s m meth c Z own bytes maxL ret nm) {o : Int} {x : Int32} (hd : decode bytes pc = .ok (.ifCond .ne o, 3)) (hq : pc + 3 = q) (hc : x = 0) (K : AtS p l e R s m args below meth c Z EL own n0 Q mk sf h cells slots (mkF m q L S)) : AtS p l e R s m args below meth c Z EL own n0 Q mk sf h cells slots (mkF m pc L (.int x :: S)) := by
  subst hq
  exact K.go fun T hA t st => XS.ifNo hA C.1 rfl (hb C.2.1 hd) rfl ((if0 _ _).trans (teq hc).2) st
theorem s_ifnull_t (C : Cx p s m meth c Z own bytes maxL ret nm) {o : Int} (hd : decode bytes pc = .ok (.ifnull o, 3)) (ho : 0 ≤ (pc : Int) + o) (hp : ((pc : Int) + o).toNat = q) (K : AtS p l e R s m args below meth c Z EL own n0 Q mk sf h cells slots (mkF m q L S)) : AtS p l e R s m args below meth c Z EL own n0 Q mk sf h cells slots (mkF m pc L (.null :: S)) :=
  K.go fun T hA t st => XS.ifnullYes hA C.1 rfl (pc0 := pc) (pc' := q) rfl (hb C.2.1 hd) rfl ho hp st
theorem s_ifnull_f (C : Cx p s m meth c Z own bytes maxL ret nm) {o : Int} {b : Addr} (hd : decode bytes pc = .ok (.ifnull o, 3)) (hq : pc + 3 = q) (K : AtS p l e R s m args below meth c Z EL own n0 Q mk sf h cells slots (mkF m q L S)) : AtS p l e R s m args below meth c Z EL own n0 Q mk sf h cells slots (mkF m pc L ((.ref b) :: S)) := by
  subst hq
  exact K.go fun T hA t st => XS.ifnullNo hA C.1 rfl (hb C.2.1 hd) rfl st
theorem s_ifnonnull_t (C : Cx p s m meth c Z own bytes maxL ret nm) {o : Int} {b : Addr} (hd : decode bytes pc = .ok (.ifnonnull o, 3)) (ho : 0 ≤ (pc : Int) + o) (hp : ((pc : Int) + o).toNat = q) (K : AtS p l e R s m args below meth c Z EL own n0 Q mk sf h cells slots (mkF m q L S)) : AtS p l e R s m args below meth c Z EL own n0 Q mk sf h cells slots (mkF m pc L ((.ref b) :: S)) :=
  K.go fun T hA t st => XS.ifnonnullYes hA C.1 rfl (pc0 := pc) (pc' := q) rfl (hb C.2.1 hd) rfl ho hp st
theorem s_ifnonnull_f (C : Cx p s m meth c Z own bytes maxL ret nm) {o : Int} (hd : decode bytes pc = .ok (.ifnonnull o, 3)) (hq : pc + 3 = q) (K : AtS p l e R s m args below meth c Z EL own n0 Q mk sf h cells slots (mkF m q L S)) : AtS p l e R s m args below meth c Z EL own n0 Q mk sf h cells slots (mkF m pc L (.null :: S)) := by
  subst hq
  exact K.go fun T hA t st => XS.ifnonnullNo hA C.1 rfl (hb C.2.1 hd) rfl st
theorem s_acmp_t (C : Cx p s m meth c Z own bytes maxL ret nm) {cd : ACond} {o : Int} {x y : Value} (hd : decode bytes pc = .ok (.if_acmp cd o, 3)) (h1 : x.isRef = true) (h2 : y.isRef = true) {same : Bool} (hs : decide (x = y) = same) (hcd : acV cd same = true) (ho : 0 ≤ (pc : Int) + o) (hp : ((pc : Int) + o).toNat = q) (K : AtS p l e R s m args below meth c Z EL own n0 Q mk sf h cells slots (mkF m q L S)) : AtS p l e R s m args below meth c Z EL own n0 Q mk sf h cells slots (mkF m pc L (y :: x :: S)) :=
  K.goX fun T locs k n vm0 X eT hZ hown t st => Jvm.RoadKit.acmp (g := mkF m pc L (y :: x :: S)) X C.1 rfl h1 h2 (pc0 := pc) (pc' := q) (same := same) rfl (hb C.2.1 hd) rfl hs ho (by rw [if_pos hcd]; exact hp.symm) st
theorem s_acmp_f (C : Cx p s m meth c Z own bytes maxL ret nm) {cd : ACond} {o : Int} {x y : Value} (hd : decode bytes pc = .ok (.if_acmp cd o, 3)) (h1 : x.isRef = true) (h2 : y.isRef = true) {same : Bool} (hs : decide (x = y) = same) (hcd : acV cd same = false) (ho : 0 ≤ (pc : Int) + o) (hq : pc + 3 = q) (K : AtS p l e R s m args below meth c Z EL own n0 Q mk sf h cells slots (mkF m q L S)) : AtS p l e R s m args below meth c Z EL own n0 Q mk sf h cells slots (mkF m pc L (y :: x :: S)) :=
  K.goX fun T locs k n vm0 X eT hZ hown t st => Jvm.RoadKit.acmp (g := mkF m pc L (y :: x :: S)) X C.1 rfl h1 h2 (pc0 := pc) (pc' := q) (same := same) rfl (hb C.2.1 hd) rfl hs ho (by rw [if_neg (by rw [hcd]; exact Bool.false_ne_true)]; exact hq.symm) st
theorem s_ldcI (C : Cx p s m meth c Z own bytes maxL ret nm) {i : Nat} {v : Int32} (w : (Jvm.Cond.constant own i v).before a0 Z = true) (hd : decode bytes pc = .ok (.ldc i, 2)) (hq : pc + 2 = q) (K : AtS p l e R s m args below meth c Z EL own n0 Q mk sf h cells slots (mkF m q L (.int v :: S))) : AtS p l e R s m args below meth c Z EL own n0 Q mk sf h cells slots (mkF m pc L S) := by
  subst hq
  exact K.goX fun T locs k n vm0 X eT hZ hown t st => X.ldcInt C.1 hown (mvT (s := s.setVm vm0) hZ w) (g := mkF m pc L S) rfl (hb C.2.1 hd) t st
theorem s_ldcwI (C : Cx p s m meth c Z own bytes maxL ret nm) {i : Nat} {v : Int32} (w : (Jvm.Cond.constant own i v).before a0 Z = true) (hd : decode bytes pc = .ok (.ldc_w i, 3)) (hq : pc + 3 = q) (K : AtS p l e R s m args below meth c Z EL own n0 Q mk sf h cells slots (mkF m q L (.int v :: S))) : AtS p l e R s m args below meth c Z EL own n0 Q mk sf h cells slots (mkF m pc L S) := by
  subst hq
  exact K.goX fun T locs k n vm0 X eT hZ hown t st => X.ldcwInt C.1 hown (mvT (s := s.setVm vm0) hZ w) (g := mkF m pc L S) rfl (hb C.2.1 hd) t st
theorem s_ldc2J (C : Cx p s m meth c Z own bytes maxL ret nm) {i : Nat} {v : Int64} (w : (Jvm.Cond.constantLong own i v).before a0 Z = true) (hd : decode bytes pc = .ok (.ldc2_w i, 3)) (hq : pc + 3 = q) (K : AtS p l e R s m args below meth c Z EL own n0 Q mk sf h cells slots (mkF m q L (.long v :: S))) : AtS p l e R s m args below meth c Z EL own n0 Q mk sf h cells slots (mkF m pc L S) := by
  subst hq
  exact K.goX fun T locs k n vm0 X eT hZ hown t st => X.ldc2Long C.1 hown (mvT (s := s.setVm vm0) hZ w) (g := mkF m pc L S) rfl (hb C.2.1 hd) t st

theorem s_getF (C : Cx p s m meth c Z own bytes maxL ret nm) {R0 O n d host : String} {i : Nat} {a : Addr} {v : Value} (w : (Jvm.Cond.fieldLink own i R0 n d).before a0 Z = true ∨ (Jvm.Cond.fieldLinkNest own i R0 n d host).before a0 Z = true) (via : Via Z R0 O n d) (F : Fld Z h a O n d v) (hd : decode bytes pc = .ok (.getfield i, 3)) (hq : pc + 3 = q) (K : AtS p l e R s m args below meth c Z EL own n0 Q mk sf h cells slots (mkF m q L (v :: S))) : AtS p l e R s m args below meth c Z EL own n0 Q mk sf h cells slots (mkF m pc L (.ref a :: S)) := by
  subst hq
  intro T locs k n vm0 k0 X hk hn eT N hZ hown hS hk0 hC hB hF
  obtain ⟨T', X', e', st⟩ := getF X C.1 (show Z.Warmed39 (s.setVm vm0).vm from hZ) (host := host) hown w via eT F (g := mkF m pc L (.ref a :: S)) rfl rfl (hb C.2.1 hd)
  obtain ⟨t, o, r1, r⟩ := K T' locs k n vm0 k0 X' hk hn e' N hZ hown hS hk0 hC hB hF
  exact ⟨t, o, st _ r1, r⟩
theorem s_getS (C : Cx p s m meth c Z own bytes maxL ret nm) {R0 O n d host : String} {i : Nat} {v : Value} (w : (Jvm.Cond.fieldLink own i R0 n d).before a0 Z = true ∨ (Jvm.Cond.fieldLinkNest own i R0 n d host).before a0 Z = true) (via : Via Z R0 O n d) (F : Sta Z h O n d v) (hd : decode bytes pc = .ok (.getstatic i, 3)) (hq : pc + 3 = q) (K : AtS p l e R s m args below meth c Z EL own n0 Q mk sf h cells slots (mkF m q L (v :: S))) : AtS p l e R s m args below meth c Z EL own n0 Q mk sf h cells slots (mkF m pc L S) := by
  subst hq
  intro T locs k n vm0 k0 X hk hn eT N hZ hown hS hk0 hC hB hF
  obtain ⟨T', X', e', st⟩ := getS2 X C.1 (show Z.Warmed39 (s.setVm vm0).vm from hZ) (host := host) hown w via eT F (g := mkF m pc L S) rfl (hb C.2.1 hd)
  obtain ⟨t, o, r1, r⟩ := K T' locs k n vm0 k0 X' hk hn e' N hZ hown hS hk0 hC hB hF
  exact ⟨t, o, st _ r1, r⟩
theorem s_cast (C : Cx p s m meth c Z own bytes maxL ret nm) {K : String} {i : Nat} {a : Addr} (w : (Jvm.Cond.classLink own i K).before a0 Z = true) (F : Ins Z h a K true) (hd : decode bytes pc = .ok (.checkcast i, 3)) (hq : pc + 3 = q) (K : AtS p l e R s m args below meth c Z EL own n0 Q mk sf h cells slots (mkF m q L (.ref a :: S))) : AtS p l e R s m args below meth c Z EL own n0 Q mk sf h cells slots (mkF m pc L (.ref a :: S)) := by
  subst hq
  intro T locs k n vm0 k0 X hk hn eT N hZ hown hS hk0 hC hB hF
  obtain ⟨T', X', e', st⟩ := castY X C.1 (show Z.Warmed39 (s.setVm vm0).vm from hZ) hown w eT F (g := mkF m pc L (.ref a :: S)) rfl rfl (hb C.2.1 hd)
  obtain ⟨t, o, r1, r⟩ := K T' locs k n vm0 k0 X' hk hn e' N hZ hown hS hk0 hC hB hF
  exact ⟨t, o, st _ r1, r⟩
theorem s_inst (C : Cx p s m meth c Z own bytes maxL ret nm) {K : String} {i : Nat} {a : Addr} (w : (Jvm.Cond.classLink own i K).before a0 Z = true) (F : Ins Z h a K true) (hd : decode bytes pc = .ok (.instanceof i, 3)) (hq : pc + 3 = q) (K : AtS p l e R s m args below meth c Z EL own n0 Q mk sf h cells slots (mkF m q L (.int 1 :: S))) : AtS p l e R s m args below meth c Z EL own n0 Q mk sf h cells slots (mkF m pc L (.ref a :: S)) := by
  subst hq
  intro T locs k n vm0 k0 X hk hn eT N hZ hown hS hk0 hC hB hF
  obtain ⟨T', X', e', st⟩ := instY X C.1 (show Z.Warmed39 (s.setVm vm0).vm from hZ) hown w eT F (g := mkF m pc L (.ref a :: S)) rfl rfl (hb C.2.1 hd)
  obtain ⟨t, o, r1, r⟩ := K T' locs k n vm0 k0 X' hk hn e' N hZ hown hS hk0 hC hB hF
  exact ⟨t, o, st _ r1, r⟩
theorem s_initO (C : Cx p s m meth c Z own bytes maxL ret nm) {i : Nat} {a : Addr} (w1 : (Jvm.Cond.methodLink own i Lib.objectInit).before a0 Z = true) (w2 : (Jvm.Cond.instanceMethod Lib.objectInit).before a0 Z = true) (w3 : (Jvm.Cond.code Lib.objectInit object_method_1_code 1 none).before a0 Z = true) (hL : L.size = maxL) (hf : 1 ≤ R.frames) {W : Nat} (hW : (S.map fun v => v.category).sum ≤ W) (hlo : W + 12 ≤ R.locals) (hd : decode bytes pc = .ok (.invokespecial i, 3)) (hq : pc + 3 = q) (K : AtS p l e R s m args below meth c Z EL own n0 Q mk sf h cells slots (mkF m q L S)) : AtS p l e R s m args below meth c Z EL own n0 Q mk sf h cells slots (mkF m pc L (.ref a :: S)) := by
  subst hq
  intro T locs k n vm0 k0 X hk hn eT N hZ hown hS hk0 hC hB hF
  obtain ⟨T', X', e', st⟩ := initO X C.1 (show Z.Warmed39 (s.setVm vm0).vm from hZ) hown w1 w2 w3 eT (g := mkF m pc L (.ref a :: S)) rfl (hL.trans C.2.2.1.symm) rfl (hb C.2.1 hd) hf (W := W) (by show 2 * 0 + _ ≤ _; omega) hlo
  obtain ⟨t, o, r1, r⟩ := K T' locs k n vm0 k0 X' hk hn e' N hZ hown hS hk0 hC hB hF
  exact ⟨t, o, st _ r1, r⟩
/-- an address that no booked constant has -/
def SfOk (Z : State) (h : Heap) (mk : Nat) (sf : List Addr) (x : Addr) : Prop := x ∈ sf ∨ mk ≤ x ∨ (∃ C, Exa Z h x C ∧ C ≠ "java/lang/String" ∧ C ≠ "[B") ∨ ∃ ty vs, Ar Z h x ty vs ∧ ty ≠ .byte
theorem SfOk.exa {x : Addr} {C : String} (E : Exa Z h x C) (h1 : C ≠ "java/lang/String" ∧ C ≠ "[B") : SfOk Z h mk sf x := Or.inr (Or.inr (Or.inl ⟨C, E, h1⟩))
theorem SfOk.arr {x : Addr} {ty : FieldType} {vs : List Value} (E : Ar Z h x ty vs) (h1 : ty ≠ .byte) : SfOk Z h mk sf x := Or.inr (Or.inr (Or.inr ⟨ty, vs, E, h1⟩))
theorem SfOk.mem {x : Addr} (q : x ∈ sf) : SfOk Z h mk sf x := Or.inl q
theorem SfOk.new {x : Addr} (q : mk ≤ x) : SfOk Z h mk sf x := Or.inr (Or.inl q)
theorem SfOk.safe {vm0 : Vm} {x : Addr} (F : SfOk Z h mk sf x) (hal : Z.vm.Alike vm0) (hB : ∀ y, Bk Z EL vm0 h y → y < mk) (hF : ∀ x ∈ sf, x < h.size ∧ Safe Z EL vm0 h x) : Safe Z EL vm0 h x := by
  rcases F with q | q | ⟨C, E, h1, h2⟩ | ⟨ty, vs, A, hne⟩
  · exact (hF x q).2
  · exact fun b => Nat.not_lt.mpr q (hB _ b)
  · exact Safe.exa hal E h1 h2
  · obtain ⟨-, k, V⟩ := A; exact Safe.arv hal V hne
theorem s_putF (C : Cx p s m meth c Z own bytes maxL ret nm) {R0 O n d host Cl : String} {i kk : Nat} {ty : FieldType} {a : Addr} {v v' old : Value} (w : (Jvm.Cond.fieldLink own i R0 n d).before a0 Z = true) (via : Via Z R0 O n d) (F : Fld Z h a O n d old) (E : Exa Z h a Cl)
    (hL : (Jvm.Cond.lays Cl O n d).before a0 Z = true ∨ ((Jvm.Cond.laysFinal Cl O n d).before a0 Z = true ∧ own = O ∧ nm = "<init>")) (wi : (Jvm.Cond.instantiable Cl kk).before a0 Z = true) (hty : parseFieldDescriptor d = some ty) (hn : narrow ty v = v') (hf : fits ty v' = true) (hge : n0 ≤ a) (hsf : SfOk Z h mk sf a)
    (hd : decode bytes pc = .ok (.putfield i, 3)) (hq : pc + 3 = q) (K : ∀ h', Wr h h' a (Jvm.RoadKit.slotOf Z O n d) v' → AtS p l e R s m args below meth c Z EL own n0 Q mk sf h' cells slots (mkF m q L S)) : AtS p l e R s m args below meth c Z EL own n0 Q mk sf h cells slots (mkF m pc L (v :: .ref a :: S)) := by
  subst hq
  intro T locs k n' vm0 k0 X hk hn' eT N hZ hown hS hk0 hC hB hF
  have hL' : (Jvm.Cond.lays Cl O n d).before a0 Z = true ∨ ((Jvm.Cond.laysFinal Cl O n d).before a0 Z = true ∧ own = O ∧ meth.name = "<init>") := hL.imp id fun x => ⟨x.1, x.2.1, C.2.2.2.2.2.2.2.trans x.2.2⟩
  obtain ⟨T', h', X', e', W, st⟩ := putFN X C.1 (show Z.Warmed39 (s.setVm vm0).vm from hZ) hown w via eT F E hL' wi hty hn hf (g := mkF m pc L (v :: .ref a :: S)) rfl rfl (hb C.2.1 hd)
  have hsafe := hsf.safe hZ.alike hB hF
  obtain ⟨H', hB'⟩ := hC.1.wrStep W hsafe
  obtain ⟨t, o, r1, r⟩ := K h' W T' _ k n' vm0 k0 X' hk hn' e' (Fr.snoc X' N hge) hZ hown hS (by rw [W.size]; exact hk0) (hC.trans (CHr.wr W hsafe hC.1)) (fun y hy => hB y (hB' y hy)) (fun x hx => ⟨by rw [W.size]; exact (hF x hx).1, Safe.wr W hsafe hC.1 (hF x hx).2⟩)
  exact ⟨t, o, st _ r1, r⟩
theorem s_new (C : Cx p s m meth c Z own bytes maxL ret nm) {Cl : String} {i n : Nat} (w : (Jvm.Cond.classLink own i Cl).before a0 Z = true) (wi : (Jvm.Cond.instantiable Cl n).before a0 Z = true) (wz : (Jvm.Cond.initialized Cl).before a0 Z = true) {cells' slots' : Nat} (hc1 : cells + 1 = cells') (hs1 : slots + n = slots') (hc : cells' ≤ R.cells) (hl : slots' ≤ R.slots)
    (hd : decode bytes pc = .ok (.new i, 3)) (hq : pc + 3 = q) (K : ∀ h' a, a = h.size → Ext h h' → Exa Z h' a Cl → (∀ {O nm d : String} {ty : FieldType}, RoadKit.Laid Z a0 Cl O nm d → parseFieldDescriptor d = some ty → Fld Z h' a O nm d (defaultValue ty)) → AtS p l e R s m args below meth c Z EL own n0 Q mk (a :: sf) h' cells' slots' (mkF m q L (.ref a :: S))) : AtS p l e R s m args below meth c Z EL own n0 Q mk sf h cells slots (mkF m pc L S) := by
  subst hq hc1 hs1
  intro T locs k n' vm0 k0 X hk hn' eT N hZ hown hS hk0 hC hB hF
  obtain ⟨T', h', X', e', E, A, D, -, st⟩ := newO X C.1 (show Z.Warmed39 (s.setVm vm0).vm from hZ) hown w wi wz eT (g := mkF m pc L S) rfl (hb C.2.1 hd) (by omega) (by omega)
  obtain ⟨H', hB'⟩ := hC.1.step (h' := h') fun y _ cell hc => E.2 _ _ hc
  have hs : ∀ x ∈ h.size :: sf, x < h'.size ∧ Safe Z EL vm0 h' x := fun x hx => by
    rcases List.mem_cons.mp hx with rfl | hx
    · exact ⟨A.lt, (Safe.new (Nat.le_refl _)).ext E hC.1⟩
    · exact ⟨Nat.lt_of_lt_of_le (hF x hx).1 E.1, (hF x hx).2.ext E hC.1⟩
  obtain ⟨t, o, r1, r⟩ := K h' h.size rfl E A D T' _ (k + 1) (n' + n) vm0 k0 X' (by omega) (by omega) e' N hZ hown hS (Nat.le_trans hk0 E.1) (hC.trans (CHr.ext E hC.1)) (fun y hy => hB y (hB' y hy)) hs
  exact ⟨t, o, st _ r1, r⟩
theorem s_newArr (C : Cx p s m meth c Z own bytes maxL ret nm) {aty : ArrayType} {ty : FieldType} {n : Int32} (w : (Jvm.Cond.arrayClass ty).before a0 Z = true) (hty : newarray.typeOf aty = ty) (hn : ¬ n < 0) {cap : Nat} (hcap : n.toNatClampNeg ≤ cap) (hb' : cap * 8 ≤ 536870912) {cells' slots' : Nat} (hc1 : cells + 1 = cells') (hs1 : slots + cap = slots') (hc : cells' ≤ R.cells) (hl : slots' ≤ R.slots)
    (hd : decode bytes pc = .ok (.newarray aty, 2)) (hq : pc + 2 = q) (K : ∀ h' a, a = h.size → Ext h h' → Ar Z h' a ty (List.replicate n.toNatClampNeg (defaultValue ty)) → AtS p l e R s m args below meth c Z EL own n0 Q mk (a :: sf) h' cells' slots' (mkF m q L (.ref a :: S))) : AtS p l e R s m args below meth c Z EL own n0 Q mk sf h cells slots (mkF m pc L (.int n :: S)) := by
  subst hq hc1 hs1 hty
  intro T locs k n' vm0 k0 X hk hn' eT N hZ hown hS hk0 hC hB hF
  obtain ⟨T', h', cA, X', e', E, A, st⟩ := newP X C.1 (show Z.Warmed39 (s.setVm vm0).vm from hZ) w eT (g := mkF m pc L (.int n :: S)) rfl (hb C.2.1 hd) rfl hn hcap hb' (by omega) (by omega)
  have q := nat_of_nonneg hn
  have V := (Arv.new A hn).pad (pad_rep [] (defaultValue (newarray.typeOf aty)) n.toNatClampNeg)
  obtain ⟨H', hB'⟩ := hC.1.step (h' := h') fun y _ cell hc => E.2 _ _ hc
  have hs : ∀ x ∈ h.size :: sf, x < h'.size ∧ Safe Z EL vm0 h' x := fun x hx => by
    rcases List.mem_cons.mp hx with rfl | hx
    · exact ⟨V.lt, (Safe.new (Nat.le_refl _)).ext E hC.1⟩
    · exact ⟨Nat.lt_of_lt_of_le (hF x hx).1 E.1, (hF x hx).2.ext E hC.1⟩
  obtain ⟨t, o, r1, r⟩ := K h' h.size rfl E ⟨by simpa using q.2, cA, by simpa [q.1] using V⟩ T' _ (k + 1) (n' + cap) vm0 k0 X' (by omega) (by omega) e' N hZ hown hS (Nat.le_trans hk0 E.1) (hC.trans (CHr.ext E hC.1)) (fun y hy => hB y (hB' y hy)) hs
  exact ⟨t, o, st _ r1, r⟩
theorem s_len (C : Cx p s m meth c Z own bytes maxL ret nm) {a : Addr} {ty : FieldType} {vs : List Value} {z : Int32} (A : Ar Z h a ty vs) (hz : Int32.ofNat vs.length = z) (hd : decode bytes pc = .ok (.arraylength, 1)) (hq : pc + 1 = q) (K : AtS p l e R s m args below meth c Z EL own n0 Q mk sf h cells slots (mkF m q L (.int z :: S))) : AtS p l e R s m args below meth c Z EL own n0 Q mk sf h cells slots (mkF m pc L (.ref a :: S)) := by
  subst hq hz
  obtain ⟨hlt, k, cl, Ar, -, hS, hM, -, -⟩ := A
  refine K.goX fun T locs k n vm0 X eT hZ hown t st => X.arraylength C.1 (by rw [eT]; exact Ar.1) (State.isArrayOf_alike (T := s.setVm vm0) hZ.alike Ar.2.1) (g := mkF m pc L (.ref a :: S)) rfl rfl (hb C.2.1 hd) t ?_
  rw [len_of hS hM]; exact st

theorem s_iaload (C : Cx p s m meth c Z own bytes maxL ret nm) {a : Addr} {vs : List Value} {j : Int32} {i : Nat} {v : Value} (A : Ar Z h a .int vs) (hj : j = Int32.ofNat i) (hv : vs[i]? = some v) (hd : decode bytes pc = .ok (.iaload, 1)) (hq : pc + 1 = q) (K : AtS p l e R s m args below meth c Z EL own n0 Q mk sf h cells slots (mkF m q L (v :: S))) : AtS p l e R s m args below meth c Z EL own n0 Q mk sf h cells slots (mkF m pc L (.int j :: .ref a :: S)) := by
  subst hq hj
  obtain ⟨hlt, k, cl, Ar, -, hS, hM, H, -⟩ := A
  obtain ⟨hi, hg⟩ := List.getElem?_eq_some_iff.mp hv
  have e1 := ofNat_nat (n := i) (by omega)
  have e2 := ofNat_nat hlt
  have hin : ¬ (Int32.ofNat i < 0 ∨ cl.slots.size ≤ (Int32.ofNat i).toNatClampNeg) := by
    rw [e1, hS, e2]; exact fun q => q.elim (ofNat_neg (by omega)) (by omega)
  refine K.goX fun T locs k n vm0 X eT hZ hown t st => X.iaload C.1 (j := Int32.ofNat i) (v := v) (by rw [eT]; exact Ar.1) (State.isArrayOf_alike (T := s.setVm vm0) hZ.alike Ar.2.1) Ar.2.2 hin (by rw [e1, H i (by rw [hS, e2]; exact hi)]; simp [List.getD, hv]) (g := mkF m pc L (.int (Int32.ofNat i) :: .ref a :: S)) rfl rfl (hb C.2.1 hd) t st
theorem s_caload (C : Cx p s m meth c Z own bytes maxL ret nm) {a : Addr} {vs : List Value} {j : Int32} {i : Nat} {v : Value} (A : Ar Z h a .char vs) (hj : j = Int32.ofNat i) (hv : vs[i]? = some v) (hd : decode bytes pc = .ok (.caload, 1)) (hq : pc + 1 = q) (K : AtS p l e R s m args below meth c Z EL own n0 Q mk sf h cells slots (mkF m q L (v :: S))) : AtS p l e R s m args below meth c Z EL own n0 Q mk sf h cells slots (mkF m pc L (.int j :: .ref a :: S)) := by
  subst hq hj
  obtain ⟨hlt, k, cl, Ar, -, hS, hM, H, -⟩ := A
  obtain ⟨hi, hg⟩ := List.getElem?_eq_some_iff.mp hv
  have e1 := ofNat_nat (n := i) (by omega)
  have e2 := ofNat_nat hlt
  have hin : ¬ (Int32.ofNat i < 0 ∨ cl.slots.size ≤ (Int32.ofNat i).toNatClampNeg) := by
    rw [e1, hS, e2]; exact fun q => q.elim (ofNat_neg (by omega)) (by omega)
  refine K.goX fun T locs k n vm0 X eT hZ hown t st => X.caload C.1 (j := Int32.ofNat i) (v := v) (by rw [eT]; exact Ar.1) (State.isArrayOf_alike (T := s.setVm vm0) hZ.alike Ar.2.1) Ar.2.2 hin (by rw [e1, H i (by rw [hS, e2]; exact hi)]; simp [List.getD, hv]) (g := mkF m pc L (.int (Int32.ofNat i) :: .ref a :: S)) rfl rfl (hb C.2.1 hd) t st
theorem s_baload (C : Cx p s m meth c Z own bytes maxL ret nm) {a : Addr} {vs : List Value} {j : Int32} {i : Nat} {v : Value} (A : Ar Z h a .byte vs) (hj : j = Int32.ofNat i) (hv : vs[i]? = some v) (hd : decode bytes pc = .ok (.baload, 1)) (hq : pc + 1 = q) (K : AtS p l e R s m args below meth c Z EL own n0 Q mk sf h cells slots (mkF m q L (v :: S))) : AtS p l e R s m args below meth c Z EL own n0 Q mk sf h cells slots (mkF m pc L (.int j :: .ref a :: S)) := by
  subst hq hj
  obtain ⟨hlt, k, cl, Ar, -, hS, hM, H, -⟩ := A
  obtain ⟨hi, hg⟩ := List.getElem?_eq_some_iff.mp hv
  have e1 := ofNat_nat (n := i) (by omega)
  have e2 := ofNat_nat hlt
  have hin : ¬ (Int32.ofNat i < 0 ∨ cl.slots.size ≤ (Int32.ofNat i).toNatClampNeg) := by
    rw [e1, hS, e2]; exact fun q => q.elim (ofNat_neg (by omega)) (by omega)
  refine K.goX fun T locs k n vm0 X eT hZ hown t st => X.baloadBytes C.1 (j := Int32.ofNat i) (v := v) (by rw [eT]; exact Ar.1) (State.isArrayOf_alike (T := s.setVm vm0) hZ.alike Ar.2.1) Ar.2.2 hin (by rw [e1, H i (by rw [hS, e2]; exact hi)]; simp [List.getD, hv]) (g := mkF m pc L (.int (Int32.ofNat i) :: .ref a :: S)) rfl rfl (hb C.2.1 hd) t st
theorem s_laload (C : Cx p s m meth c Z own bytes maxL ret nm) {a : Addr} {vs : List Value} {j : Int32} {i : Nat} {v : Value} (A : Ar Z h a .long vs) (hj : j = Int32.ofNat i) (hv : vs[i]? = some v) (hd : decode bytes pc = .ok (.laload, 1)) (hq : pc + 1 = q) (K : AtS p l e R s m args below meth c Z EL own n0 Q mk sf h cells slots (mkF m q L (v :: S))) : AtS p l e R s m args below meth c Z EL own n0 Q mk sf h cells slots (mkF m pc L (.int j :: .ref a :: S)) := by
  subst hq hj
  obtain ⟨hlt, k, cl, Ar, -, hS, hM, H, -⟩ := A
  obtain ⟨hi, hg⟩ := List.getElem?_eq_some_iff.mp hv
  have e1 := ofNat_nat (n := i) (by omega)
  have e2 := ofNat_nat hlt
  have hin : ¬ (Int32.ofNat i < 0 ∨ cl.slots.size ≤ (Int32.ofNat i).toNatClampNeg) := by
    rw [e1, hS, e2]; exact fun q => q.elim (ofNat_neg (by omega)) (by omega)
  refine K.goX fun T locs k n vm0 X eT hZ hown t st => X.laload C.1 (j := Int32.ofNat i) (v := v) (by rw [eT]; exact Ar.1) (State.isArrayOf_alike (T := s.setVm vm0) hZ.alike Ar.2.1) Ar.2.2 hin (by rw [e1, H i (by rw [hS, e2]; exact hi)]; simp [List.getD, hv]) (g := mkF m pc L (.int (Int32.ofNat i) :: .ref a :: S)) rfl rfl (hb C.2.1 hd) t st
theorem s_aaload (C : Cx p s m meth c Z own bytes maxL ret nm) {a : Addr} {ty : FieldType} {vs : List Value} {j : Int32} {i : Nat} {v : Value} (A : Ar Z h a ty vs) (hj : j = Int32.ofNat i) (hv : vs[i]? = some v) (hr : ty.isReference = true) (hd : decode bytes pc = .ok (.aaload, 1)) (hq : pc + 1 = q) (K : AtS p l e R s m args below meth c Z EL own n0 Q mk sf h cells slots (mkF m q L (v :: S))) : AtS p l e R s m args below meth c Z EL own n0 Q mk sf h cells slots (mkF m pc L (.int j :: .ref a :: S)) := by
  subst hq hj
  obtain ⟨hlt, k, cl, Ar, -, hS, hM, H, -⟩ := A
  obtain ⟨hi, hg⟩ := List.getElem?_eq_some_iff.mp hv
  have e1 := ofNat_nat (n := i) (by omega)
  have e2 := ofNat_nat hlt
  have hin : ¬ (Int32.ofNat i < 0 ∨ cl.slots.size ≤ (Int32.ofNat i).toNatClampNeg) := by
    rw [e1, hS, e2]; exact fun q => q.elim (ofNat_neg (by omega)) (by omega)
  refine K.goX fun T locs k n vm0 X eT hZ hown t st => X.aaload C.1 (j := Int32.ofNat i) (v := v) (by rw [eT]; exact Ar.1) (State.isArrayOf_alike (T := s.setVm vm0) hZ.alike Ar.2.1) hr Ar.2.2 hin (by rw [e1, H i (by rw [hS, e2]; exact hi)]; simp [List.getD, hv]) (g := mkF m pc L (.int (Int32.ofNat i) :: .ref a :: S)) rfl rfl (hb C.2.1 hd) t st
theorem s_iastore (C : Cx p s m meth c Z own bytes maxL ret nm) {a : Addr} {vs : List Value} {j : Int32} {i : Nat} {x : Int32} (A : Ar Z h a .int vs) (hj : j = Int32.ofNat i) (hi : i < vs.length) (hge : n0 ≤ a) (hd : decode bytes pc = .ok (.iastore, 1)) (hq : pc + 1 = q)
    (K : ∀ h', Wr h h' a i (.int x) → Ar Z h' a .int (vs.set i (.int x)) → AtS p l e R s m args below meth c Z EL own n0 Q mk sf h' cells slots (mkF m q L S)) : AtS p l e R s m args below meth c Z EL own n0 Q mk sf h cells slots (mkF m pc L (.int x :: .int j :: .ref a :: S)) := by
  subst hq hj
  intro T locs k n' vm0 k0 X hk hn' eT N hZ hown hS0 hk0 hC hB hF
  have hsafe := SfOk.safe (mk := mk) (sf := sf) (SfOk.arr A (by decide)) hZ.alike hB hF
  obtain ⟨hlt, k', cl, Ar, q1, hS, hM, H, G⟩ := A
  have e1 := ofNat_nat (n := i) (by omega)
  have e2 := ofNat_nat hlt
  have hin : ¬ (Int32.ofNat i < 0 ∨ cl.slots.size ≤ (Int32.ofNat i).toNatClampNeg) := by
    rw [e1, hS, e2]; exact fun q => q.elim (ofNat_neg (by omega)) (by omega)
  obtain ⟨T', h', X', e', W, st⟩ := stI X C.1 (show Z.Warmed39 (s.setVm vm0).vm from hZ) eT Ar (j := Int32.ofNat i) (x := x) hin (g := mkF m pc L (.int x :: .int (Int32.ofNat i) :: .ref a :: S)) rfl rfl (hb C.2.1 hd)
  have V := Arv.set Ar q1 hS hM H G (rfl) W i e1 hi
  obtain ⟨H', hB'⟩ := hC.1.wrStep W hsafe
  obtain ⟨t, o, r1, r⟩ := K h' (by rw [e1] at W; exact W) ⟨by simpa using hlt, k', by rw [List.length_set]; exact V⟩ T' _ k n' vm0 k0 X' hk hn' e' (Fr.snoc X' N hge) hZ hown hS0 (by rw [W.size]; exact hk0) (hC.trans (CHr.wr W hsafe hC.1)) (fun y hy => hB y (hB' y hy)) (fun x hx => ⟨by rw [W.size]; exact (hF x hx).1, Safe.wr W hsafe hC.1 (hF x hx).2⟩)
  exact ⟨t, o, st _ r1, r⟩
theorem s_castore (C : Cx p s m meth c Z own bytes maxL ret nm) {a : Addr} {vs : List Value} {j : Int32} {i : Nat} {x : Int32} {z : Int32} (hz : nar .char x = z) (A : Ar Z h a .char vs) (hj : j = Int32.ofNat i) (hi : i < vs.length) (hge : n0 ≤ a) (hd : decode bytes pc = .ok (.castore, 1)) (hq : pc + 1 = q)
    (K : ∀ h', Wr h h' a i (.int z) → Ar Z h' a .char (vs.set i (.int z)) → AtS p l e R s m args below meth c Z EL own n0 Q mk sf h' cells slots (mkF m q L S)) : AtS p l e R s m args below meth c Z EL own n0 Q mk sf h cells slots (mkF m pc L (.int x :: .int j :: .ref a :: S)) := by
  subst hq hj hz
  intro T locs k n' vm0 k0 X hk hn' eT N hZ hown hS0 hk0 hC hB hF
  have hsafe := SfOk.safe (mk := mk) (sf := sf) (SfOk.arr A (by decide)) hZ.alike hB hF
  obtain ⟨hlt, k', cl, Ar, q1, hS, hM, H, G⟩ := A
  have e1 := ofNat_nat (n := i) (by omega)
  have e2 := ofNat_nat hlt
  have hin : ¬ (Int32.ofNat i < 0 ∨ cl.slots.size ≤ (Int32.ofNat i).toNatClampNeg) := by
    rw [e1, hS, e2]; exact fun q => q.elim (ofNat_neg (by omega)) (by omega)
  obtain ⟨T', h', X', e', W, st⟩ := stC X C.1 (show Z.Warmed39 (s.setVm vm0).vm from hZ) eT Ar (j := Int32.ofNat i) (x := x) hin (g := mkF m pc L (.int x :: .int (Int32.ofNat i) :: .ref a :: S)) rfl rfl (hb C.2.1 hd)
  have V := Arv.set Ar q1 hS hM H G (fits_nar_char _) W i e1 hi
  obtain ⟨H', hB'⟩ := hC.1.wrStep W hsafe
  obtain ⟨t, o, r1, r⟩ := K h' (by rw [e1] at W; exact W) ⟨by simpa using hlt, k', by rw [List.length_set]; exact V⟩ T' _ k n' vm0 k0 X' hk hn' e' (Fr.snoc X' N hge) hZ hown hS0 (by rw [W.size]; exact hk0) (hC.trans (CHr.wr W hsafe hC.1)) (fun y hy => hB y (hB' y hy)) (fun x hx => ⟨by rw [W.size]; exact (hF x hx).1, Safe.wr W hsafe hC.1 (hF x hx).2⟩)
  exact ⟨t, o, st _ r1, r⟩
theorem s_bastore (C : Cx p s m meth c Z own bytes maxL ret nm) {a : Addr} {vs : List Value} {j : Int32} {i : Nat} {x : Int32} {z : Int32} (hz : nar .byte x = z) (A : Ar Z h a .byte vs) (hj : j = Int32.ofNat i) (hi : i < vs.length) (hge : n0 ≤ a) (hsf : SfOk Z h mk sf a) (hd : decode bytes pc = .ok (.bastore, 1)) (hq : pc + 1 = q)
    (K : ∀ h', Wr h h' a i (.int z) → Ar Z h' a .byte (vs.set i (.int z)) → AtS p l e R s m args below meth c Z EL own n0 Q mk sf h' cells slots (mkF m q L S)) : AtS p l e R s m args below meth c Z EL own n0 Q mk sf h cells slots (mkF m pc L (.int x :: .int j :: .ref a :: S)) := by
  subst hq hj hz
  intro T locs k n' vm0 k0 X hk hn' eT N hZ hown hS0 hk0 hC hB hF
  have hsafe := SfOk.safe (mk := mk) (sf := sf) hsf hZ.alike hB hF
  obtain ⟨hlt, k', cl, Ar, q1, hS, hM, H, G⟩ := A
  have e1 := ofNat_nat (n := i) (by omega)
  have e2 := ofNat_nat hlt
  have hin : ¬ (Int32.ofNat i < 0 ∨ cl.slots.size ≤ (Int32.ofNat i).toNatClampNeg) := by
    rw [e1, hS, e2]; exact fun q => q.elim (ofNat_neg (by omega)) (by omega)
  obtain ⟨T', h', X', e', W, st⟩ := stB X C.1 (show Z.Warmed39 (s.setVm vm0).vm from hZ) eT Ar (j := Int32.ofNat i) (x := x) hin (g := mkF m pc L (.int x :: .int (Int32.ofNat i) :: .ref a :: S)) rfl rfl (hb C.2.1 hd)
  have V := Arv.set Ar q1 hS hM H G (fits_nar_byte _) W i e1 hi
  obtain ⟨H', hB'⟩ := hC.1.wrStep W hsafe
  obtain ⟨t, o, r1, r⟩ := K h' (by rw [e1] at W; exact W) ⟨by simpa using hlt, k', by rw [List.length_set]; exact V⟩ T' _ k n' vm0 k0 X' hk hn' e' (Fr.snoc X' N hge) hZ hown hS0 (by rw [W.size]; exact hk0) (hC.trans (CHr.wr W hsafe hC.1)) (fun y hy => hB y (hB' y hy)) (fun x hx => ⟨by rw [W.size]; exact (hF x hx).1, Safe.wr W hsafe hC.1 (hF x hx).2⟩)
  exact ⟨t, o, st _ r1, r⟩
theorem s_lastore (C : Cx p s m meth c Z own bytes maxL ret nm) {a : Addr} {vs : List Value} {j : Int32} {i : Nat} {x : Int64} (A : Ar Z h a .long vs) (hj : j = Int32.ofNat i) (hi : i < vs.length) (hge : n0 ≤ a) (hd : decode bytes pc = .ok (.lastore, 1)) (hq : pc + 1 = q)
    (K : ∀ h', Wr h h' a i (.long x) → Ar Z h' a .long (vs.set i (.long x)) → AtS p l e R s m args below meth c Z EL own n0 Q mk sf h' cells slots (mkF m q L S)) : AtS p l e R s m args below meth c Z EL own n0 Q mk sf h cells slots (mkF m pc L (.long x :: .int j :: .ref a :: S)) := by
  subst hq hj
  intro T locs k n' vm0 k0 X hk hn' eT N hZ hown hS0 hk0 hC hB hF
  have hsafe := SfOk.safe (mk := mk) (sf := sf) (SfOk.arr A (by decide)) hZ.alike hB hF
  obtain ⟨hlt, k', cl, Ar, q1, hS, hM, H, G⟩ := A
  have e1 := ofNat_nat (n := i) (by omega)
  have e2 := ofNat_nat hlt
  have hin : ¬ (Int32.ofNat i < 0 ∨ cl.slots.size ≤ (Int32.ofNat i).toNatClampNeg) := by
    rw [e1, hS, e2]; exact fun q => q.elim (ofNat_neg (by omega)) (by omega)
  obtain ⟨T', h', X', e', W, st⟩ := stJ X C.1 (show Z.Warmed39 (s.setVm vm0).vm from hZ) eT Ar (j := Int32.ofNat i) (x := x) hin (g := mkF m pc L (.long x :: .int (Int32.ofNat i) :: .ref a :: S)) rfl rfl (hb C.2.1 hd)
  have V := Arv.set Ar q1 hS hM H G (rfl) W i e1 hi
  obtain ⟨H', hB'⟩ := hC.1.wrStep W hsafe
  obtain ⟨t, o, r1, r⟩ := K h' (by rw [e1] at W; exact W) ⟨by simpa using hlt, k', by rw [List.length_set]; exact V⟩ T' _ k n' vm0 k0 X' hk hn' e' (Fr.snoc X' N hge) hZ hown hS0 (by rw [W.size]; exact hk0) (hC.trans (CHr.wr W hsafe hC.1)) (fun y hy => hB y (hB' y hy)) (fun x hx => ⟨by rw [W.size]; exact (hF x hx).1, Safe.wr W hsafe hC.1 (hF x hx).2⟩)
  exact ⟨t, o, st _ r1, r⟩
theorem s_retZ (C : Cx p s m meth c Z own bytes maxL ret nm) (hEL : EW Z a0 EL) {t : FieldType} {x z : Int32} (hret : ret = some t) (ht : t = .boolean ∨ t = .byte ∨ t = .char ∨ t = .short) (hz : nar t x = z) (hd : decode bytes pc = .ok (.ireturn, 1)) (hc : cells ≤ R.cells) (hs : slots ≤ R.slots) (hQ : Q (some (.int z)) h) : AtS p l e R s m args below meth c Z EL own n0 Q mk sf h cells slots (mkF m pc L (.int x :: S)) := by
  subst hz
  intro T locs k n vm0 k0 X hk hn eT N hZ hown hS hk0 hC hB hF
  obtain ⟨fs, hr, hrun, hended, hW1, hW2, hW3, hW4⟩ := X.leaveW hS (by rw [eT]; exact hk0) (v := some (.int (nar t x))) (fun h => by rw [C.2.2.2.2.2.1, hret] at h; cases h) C.2.2.2.2.2.2.1
  have hA := hC.trans (CHv.at (h := h) X hZ hEL hC.1)
  refine ⟨_, _, retN X C.1 (t := t) (C.2.2.2.2.2.1.trans hret) ht (hb C.2.1 hd) hr, hrun, hended, _, _, rfl, ⟨N, ?_⟩, ?_, hW1, hW2, hW3, hW4.mono (Nat.le_trans hk hc) (Nat.le_trans hn hs)⟩
  · show Q _ T.heap
    rw [eT]; exact hQ
  · show CHr Z EL s.vm s.heap T.vm T.heap
    rw [eT]; exact hA
theorem s_ret (C : Cx p s m meth c Z own bytes maxL ret nm) (hEL : EW Z a0 EL) {t : FieldType} {v : Value} {i : Instr} (hret : ret = some t) (hn' : narrow t v = v)
    (hi : (i = .ireturn ∧ (t = .int ∨ t = .boolean ∨ t = .byte ∨ t = .char ∨ t = .short) ∧ ∃ z, v = .int z) ∨ (i = .lreturn ∧ t = .long ∧ ∃ z, v = .long z) ∨ (i = .dreturn ∧ t = .double ∧ ∃ z, v = .double z) ∨ (i = .freturn ∧ t = .float ∧ ∃ z, v = .float z) ∨ (i = .areturn ∧ t.isReference = true ∧ v.isRef = true))
    (hd : decode bytes pc = .ok (i, 1)) (hc : cells ≤ R.cells) (hs : slots ≤ R.slots) (hQ : Q (some v) h) : AtS p l e R s m args below meth c Z EL own n0 Q mk sf h cells slots (mkF m pc L (v :: S)) := by
  intro T locs k n vm0 k0 X hk hn eT N hZ hown hS hk0 hC hB hF
  obtain ⟨fs, hr, hrun, hended, hW1, hW2, hW3, hW4⟩ := X.leaveW hS (by rw [eT]; exact hk0) (v := some v) (fun h => by rw [C.2.2.2.2.2.1, hret] at h; cases h) C.2.2.2.2.2.2.1
  have hA := hC.trans (CHv.at (h := h) X hZ hEL hC.1)
  refine ⟨_, _, retOut X C.1 (t := t) (C.2.2.2.2.2.1.trans hret) hn' hi (hb C.2.1 hd) hr, hrun, hended, _, _, rfl, ⟨N, ?_⟩, ?_, hW1, hW2, hW3, hW4.mono (Nat.le_trans hk hc) (Nat.le_trans hn hs)⟩
  · show Q _ T.heap
    rw [eT]; exact hQ
  · show CHr Z EL s.vm s.heap T.vm T.heap
    rw [eT]; exact hA
theorem s_retI (C : Cx p s m meth c Z own bytes maxL ret nm) (hEL : EW Z a0 EL) {x : Int32} (hret : ret = some .int) (hd : decode bytes pc = .ok (.ireturn, 1)) (hc : cells ≤ R.cells) (hs : slots ≤ R.slots) (hQ : Q (some (.int x)) h) : AtS p l e R s m args below meth c Z EL own n0 Q mk sf h cells slots (mkF m pc L (.int x :: S)) :=
  s_ret C hEL hret rfl (Or.inl ⟨rfl, Or.inl rfl, _, rfl⟩) hd hc hs hQ
theorem s_retJ (C : Cx p s m meth c Z own bytes maxL ret nm) (hEL : EW Z a0 EL) {x : Int64} (hret : ret = some .long) (hd : decode bytes pc = .ok (.lreturn, 1)) (hc : cells ≤ R.cells) (hs : slots ≤ R.slots) (hQ : Q (some (.long x)) h) : AtS p l e R s m args below meth c Z EL own n0 Q mk sf h cells slots (mkF m pc L (.long x :: S)) :=
  s_ret C hEL hret rfl (Or.inr (Or.inl ⟨rfl, rfl, _, rfl⟩)) hd hc hs hQ
theorem s_retA (C : Cx p s m meth c Z own bytes maxL ret nm) (hEL : EW Z a0 EL) {t : FieldType} {v : Value} (hret : ret = some t) (ht : t.isReference = true) (hv : v.isRef = true) (hd : decode bytes pc = .ok (.areturn, 1)) (hc : cells ≤ R.cells) (hs : slots ≤ R.slots) (hQ : Q (some v) h) : AtS p l e R s m args below meth c Z EL own n0 Q mk sf h cells slots (mkF m pc L (v :: S)) :=
  s_ret C hEL hret (by rcases ref_cases hv with rfl | ⟨a, rfl⟩ <;> cases t <;> first | rfl | cases ht) (Or.inr (Or.inr (Or.inr (Or.inr ⟨rfl, ht, hv⟩)))) hd hc hs hQ
theorem s_retV (C : Cx p s m meth c Z own bytes maxL ret nm) (hEL : EW Z a0 EL) (hret : ret = none) (hd : decode bytes pc = .ok (.return_, 1)) (hc : cells ≤ R.cells) (hs : slots ≤ R.slots) (hQ : Q none h) : AtS p l e R s m args below meth c Z EL own n0 Q mk sf h cells slots (mkF m pc L []) := by
  intro T locs k n vm0 k0 X hk hn eT N hZ hown hS hk0 hC hB hF
  obtain ⟨fs, hr, hrun, hended, hW1, hW2, hW3, hW4⟩ := X.leaveW hS (by rw [eT]; exact hk0) (v := none) (fun h => by rfl) C.2.2.2.2.2.2.1
  have hA := hC.trans (CHv.at (h := h) X hZ hEL hC.1)
  refine ⟨_, _, X.returnOut C.1 (C.2.2.2.2.2.1.trans hret) (hb C.2.1 hd) hr, hrun, hended, _, _, rfl, ⟨N, ?_⟩, ?_, hW1, hW2, hW3, hW4.mono (Nat.le_trans hk hc) (Nat.le_trans hn hs)⟩
  · show Q _ T.heap
    rw [eT]; exact hQ
  · show CHr Z EL s.vm s.heap T.vm T.heap
    rw [eT]; exact hA

theorem s_callS1 (C : Cx p s m meth c Z own bytes maxL ret nm) {y : MethodName} {i : Nat} {argsL : List Value} {bytesY : ByteArray} {maxY : Nat} {retY : Option FieldType} {rm : Room} {Qy : Option Value → Heap → Prop} (w1 : (Jvm.Cond.methodLink own i y).before a0 Z = true) (w2 : (Jvm.Cond.static y).before a0 Z = true) (wz : (Jvm.Cond.initialized y.cls).before a0 Z = true) (wc : (Jvm.Cond.code y bytesY maxY retY).before a0 Z = true)
    (hy : y.cls ≠ "java/lang/invoke/MethodHandle" ∧ y.cls ≠ "java/lang/invoke/VarHandle") (ct : Ct [] l Z n0 y bytesY maxY retY rm argsL.toArray h Qy) {S' : List Value} (hS : S' = argsL.reverse ++ S) (hlen : ∀ sig, parseMethodDescriptor y.desc = some sig → argsL.length = sig.parameters.length) (hL : L.size = maxL) (hf : rm.frames + 1 ≤ R.frames) {W : Nat} (hW : (S.map fun v => v.category).sum ≤ W) (hlo : W + (maxY + 11) + rm.locals ≤ R.locals) {cells' slots' : Nat} (hc1 : cells + rm.cells = cells') (hs1 : slots + rm.slots = slots') (hc : cells' ≤ R.cells) (hl : slots' ≤ R.slots) {wl : List Addr} (hKp : ∀ v h', Qy v h' → Keep h h' wl) (hSf : ∀ x ∈ wl, SfOk Z h mk sf x)
    (hd : decode bytes pc = .ok (.invokestatic i, 3)) (hq : pc + 3 = q) (K : ∀ v h', Qy v h' → AtS p l e R s m args below meth c Z EL own n0 Q mk sf h' cells' slots' (mkF m q L (v.toList ++ S))) : AtS p l e R s m args below meth c Z EL own n0 Q mk sf h cells slots (mkF m pc L S') := by
  subst hq hc1 hs1
  intro T locs k n' vm0 k0 X hk hn' eT N hZ hown hS0 hk0 hC hB hF
  obtain ⟨v, _, ⟨T', L', k', n''⟩, -, X', ⟨Lc, hQ, hl', hc', hs'⟩, st⟩ := Jvm.LawKit.callS X C.1 (y := y) hown (mvT (s := s.setVm vm0) hZ w1) (mvT (s := s.setVm vm0) hZ w2) (mvT (s := s.setVm vm0) hZ wz) (mvT (s := s.setVm vm0) hZ wc) hy (backOf (s := s.setVm vm0) (W := W) (Q := fun v h L => Fr n0 L ∧ Qy v h) ct hZ wc wz hf hlo) (g := mkF m pc L S') rfl (hL.trans C.2.2.1.symm) (argsL := argsL) (rest := S) hlen hS (by show 2 * 0 + _ ≤ _; omega) (hb C.2.1 hd) (fun _ _ => ⟨rfl, eT, (by show k + _ ≤ _; omega), (by show n' + _ ≤ _; omega)⟩)
  dsimp only [Pt.U, Pt.locs, Pt.cells, Pt.slots] at X' hl' hc' hs' st hQ
  subst hl' hc' hs'
  have hKp' := hKp v T'.heap hQ.2
  have hsafe : ∀ x ∈ wl, Safe Z EL vm0 h x := fun x hx => (hSf x hx).safe hZ.alike hB hF
  obtain ⟨H', hB'⟩ := hC.1.keepStep hKp' hsafe
  obtain ⟨t, o, r1, r⟩ := K v T'.heap hQ.2 T' _ _ _ vm0 k0 X' (by omega) (by omega) rfl (Fr.app N hQ.1) hZ hown hS0 (Nat.le_trans hk0 hKp'.1) (hC.trans (CHr.keep hKp' hsafe hC.1)) (fun y hy => hB y (hB' y hy)) (fun x hx => ⟨Nat.lt_of_lt_of_le (hF x hx).1 hKp'.1, (hF x hx).2.keep hKp' hsafe hC.1⟩)
  exact ⟨t, o, st _ r1, r⟩
theorem s_callI1 (C : Cx p s m meth c Z own bytes maxL ret nm) {y : MethodName} {i : Nat} {a : Addr} {argsL : List Value} {bytesY : ByteArray} {maxY : Nat} {rm : Room} {Qy : Option Value → Heap → Prop} (hnm : y.name = "<init>") (w1 : (Jvm.Cond.methodLink own i y).before a0 Z = true) (w2 : (Jvm.Cond.instanceMethod y).before a0 Z = true) (wz : (Jvm.Cond.initialized y.cls).before a0 Z = true) (wc : (Jvm.Cond.code y bytesY maxY none).before a0 Z = true)
    (hy : y.cls ≠ "java/lang/invoke/MethodHandle" ∧ y.cls ≠ "java/lang/invoke/VarHandle") (ct : Ct [] l Z n0 y bytesY maxY none rm (.ref a :: argsL).toArray h Qy) {S' : List Value} (hS : S' = argsL.reverse ++ .ref a :: S) (hlen : ∀ sig, parseMethodDescriptor y.desc = some sig → argsL.length = sig.parameters.length) (hL : L.size = maxL) (hf : rm.frames + 1 ≤ R.frames) {W : Nat} (hW : (S.map fun v => v.category).sum ≤ W) (hlo : W + (maxY + 11) + rm.locals ≤ R.locals) {cells' slots' : Nat} (hc1 : cells + rm.cells = cells') (hs1 : slots + rm.slots = slots') (hc : cells' ≤ R.cells) (hl : slots' ≤ R.slots) {wl : List Addr} (hKp : ∀ v h', Qy v h' → Keep h h' wl) (hSf : ∀ x ∈ wl, SfOk Z h mk sf x)
    (hd : decode bytes pc = .ok (.invokespecial i, 3)) (hq : pc + 3 = q) (K : ∀ v h', Qy v h' → AtS p l e R s m args below meth c Z EL own n0 Q mk sf h' cells' slots' (mkF m q L (v.toList ++ S))) : AtS p l e R s m args below meth c Z EL own n0 Q mk sf h cells slots (mkF m pc L S') := by
  subst hq hc1 hs1
  intro T locs k n' vm0 k0 X hk hn' eT N hZ hown hS0 hk0 hC hB hF
  obtain ⟨v, _, ⟨T', L', k', n''⟩, -, X', ⟨Lc, hQ, hl', hc', hs'⟩, st⟩ := X.specialBack C.1 (y := y) hnm hown (mvT (s := s.setVm vm0) hZ w1) (mvT (s := s.setVm vm0) hZ w2) (mvT (s := s.setVm vm0) hZ wc) hy (backOf (s := s.setVm vm0) (W := W) (Q := fun v h L => Fr n0 L ∧ Qy v h) ct hZ wc wz hf hlo) (g := mkF m pc L S') rfl (hL.trans C.2.2.1.symm) (Steps.refl _) (a := a) (argsL := argsL) (rest := S) hlen hS (by show 2 * 0 + _ ≤ _; omega) (hb C.2.1 hd) (fun _ _ => ⟨rfl, eT, (by show k + _ ≤ _; omega), (by show n' + _ ≤ _; omega)⟩)
  dsimp only [Pt.U, Pt.locs, Pt.cells, Pt.slots] at X' hl' hc' hs' st hQ
  subst hl' hc' hs'
  have hKp' := hKp v T'.heap hQ.2
  have hsafe : ∀ x ∈ wl, Safe Z EL vm0 h x := fun x hx => (hSf x hx).safe hZ.alike hB hF
  obtain ⟨H', hB'⟩ := hC.1.keepStep hKp' hsafe
  obtain ⟨t, o, r1, r⟩ := K v T'.heap hQ.2 T' _ _ _ vm0 k0 X' (by omega) (by omega) rfl (Fr.app N hQ.1) hZ hown hS0 (Nat.le_trans hk0 hKp'.1) (hC.trans (CHr.keep hKp' hsafe hC.1)) (fun y hy => hB y (hB' y hy)) (fun x hx => ⟨Nat.lt_of_lt_of_le (hF x hx).1 hKp'.1, (hF x hx).2.keep hKp' hsafe hC.1⟩)
  exact ⟨t, o, st.trans r1, r⟩
theorem s_callV1 (C : Cx p s m meth c Z own bytes maxL ret nm) {y z : MethodName} {Cl : String} {i : Nat} {a : Addr} {argsL : List Value} {bytesY : ByteArray} {maxY : Nat} {retY : Option FieldType} {rm : Room} {Qy : Option Value → Heap → Prop} (E : Exa Z h a Cl) (w1 : (Jvm.Cond.methodLink own i y).before a0 Z = true) (w2 : (Jvm.Cond.declares y).before a0 Z = true) (hnf : ∀ vm0, Z.Warmed39 vm0 → NotFace (s.setVm vm0) y) (w3 : (Jvm.Cond.selects Cl y z).before a0 Z = true) (w4 : (Jvm.Cond.instanceMethod z).before a0 Z = true) (wz : (Jvm.Cond.initialized z.cls).before a0 Z = true) (wc : (Jvm.Cond.code z bytesY maxY retY).before a0 Z = true)
    (hy : y.cls ≠ "java/lang/invoke/MethodHandle" ∧ y.cls ≠ "java/lang/invoke/VarHandle") (ct : Ct [] l Z n0 z bytesY maxY retY rm (.ref a :: argsL).toArray h Qy) {S' : List Value} (hS : S' = argsL.reverse ++ .ref a :: S) (hlen : ∀ sig, parseMethodDescriptor y.desc = some sig → argsL.length = sig.parameters.length) (hL : L.size = maxL) (hf : rm.frames + 1 ≤ R.frames) {W : Nat} (hW : (S.map fun v => v.category).sum ≤ W) (hlo : W + (maxY + 11) + rm.locals ≤ R.locals) {cells' slots' : Nat} (hc1 : cells + rm.cells = cells') (hs1 : slots + rm.slots = slots') (hc : cells' ≤ R.cells) (hl : slots' ≤ R.slots) {wl : List Addr} (hKp : ∀ v h', Qy v h' → Keep h h' wl) (hSf : ∀ x ∈ wl, SfOk Z h mk sf x)
    (hd : decode bytes pc = .ok (.invokevirtual i, 3)) (hq : pc + 3 = q) (K : ∀ v h', Qy v h' → AtS p l e R s m args below meth c Z EL own n0 Q mk sf h' cells' slots' (mkF m q L (v.toList ++ S))) : AtS p l e R s m args below meth c Z EL own n0 Q mk sf h cells slots (mkF m pc L S') := by
  subst hq hc1 hs1
  intro T locs k n' vm0 k0 X hk hn' eT N hZ hown hS0 hk0 hC hB hF
  obtain ⟨cB, kB, q1, q2, q3⟩ := isOf (s := s.setVm vm0) hZ eT E
  obtain ⟨v, _, ⟨T', L', k', n''⟩, -, X', ⟨Lc, hQ, hl', hc', hs'⟩, st⟩ := X.virtualBack C.1 (y := y) (z := z) hown (mvT (s := s.setVm vm0) hZ w1) (mvT (s := s.setVm vm0) hZ w2) (hnf vm0 hZ) (mvT (s := s.setVm vm0) hZ w3) (mvT (s := s.setVm vm0) hZ w4) hy (backOf (s := s.setVm vm0) (W := W) (Q := fun v h L => Fr n0 L ∧ Qy v h) ct hZ wc wz hf hlo) q1 q3 (g := mkF m pc L S') rfl (hL.trans C.2.2.1.symm) (Steps.refl _) (argsL := argsL) (rest := S) hlen hS (by show 2 * 0 + _ ≤ _; omega) (hb C.2.1 hd) (fun _ _ => ⟨rfl, eT, (by show k + _ ≤ _; omega), (by show n' + _ ≤ _; omega)⟩)
  dsimp only [Pt.U, Pt.locs, Pt.cells, Pt.slots] at X' hl' hc' hs' st hQ
  subst hl' hc' hs'
  have hKp' := hKp v T'.heap hQ.2
  have hsafe : ∀ x ∈ wl, Safe Z EL vm0 h x := fun x hx => (hSf x hx).safe hZ.alike hB hF
  obtain ⟨H', hB'⟩ := hC.1.keepStep hKp' hsafe
  obtain ⟨t, o, r1, r⟩ := K v T'.heap hQ.2 T' _ _ _ vm0 k0 X' (by omega) (by omega) rfl (Fr.app N hQ.1) hZ hown hS0 (Nat.le_trans hk0 hKp'.1) (hC.trans (CHr.keep hKp' hsafe hC.1)) (fun y hy => hB y (hB' y hy)) (fun x hx => ⟨Nat.lt_of_lt_of_le (hF x hx).1 hKp'.1, (hF x hx).2.keep hKp' hsafe hC.1⟩)
  exact ⟨t, o, st.trans r1, r⟩
theorem s_callP1 (C : Cx p s m meth c Z own bytes maxL ret nm) {y : MethodName} {Cl : String} {i : Nat} {a : Addr} {argsL : List Value} {bytesY : ByteArray} {maxY : Nat} {retY : Option FieldType} {rm : Room} {Qy : Option Value → Heap → Prop} (E : Exa Z h a Cl) (w1 : (Jvm.Cond.methodLink own i y).before a0 Z = true) (w4 : (Jvm.Cond.instanceMethod y).before a0 Z = true) (hni : ∀ vm0, Z.Warmed39 vm0 → NI (s.setVm vm0) y.cls) (w5 : (Jvm.Cond.privateMethod y).before a0 Z = true) (wz : (Jvm.Cond.initialized y.cls).before a0 Z = true) (wc : (Jvm.Cond.code y bytesY maxY retY).before a0 Z = true)
    (hy : y.cls ≠ "java/lang/invoke/MethodHandle" ∧ y.cls ≠ "java/lang/invoke/VarHandle") (ct : Ct [] l Z n0 y bytesY maxY retY rm (.ref a :: argsL).toArray h Qy) {S' : List Value} (hS : S' = argsL.reverse ++ .ref a :: S) (hlen : ∀ sig, parseMethodDescriptor y.desc = some sig → argsL.length = sig.parameters.length) (hL : L.size = maxL) (hf : rm.frames + 1 ≤ R.frames) {W : Nat} (hW : (S.map fun v => v.category).sum ≤ W) (hlo : W + (maxY + 11) + rm.locals ≤ R.locals) {cells' slots' : Nat} (hc1 : cells + rm.cells = cells') (hs1 : slots + rm.slots = slots') (hc : cells' ≤ R.cells) (hl : slots' ≤ R.slots) {wl : List Addr} (hKp : ∀ v h', Qy v h' → Keep h h' wl) (hSf : ∀ x ∈ wl, SfOk Z h mk sf x)
    (hd : decode bytes pc = .ok (.invokevirtual i, 3)) (hq : pc + 3 = q) (K : ∀ v h', Qy v h' → AtS p l e R s m args below meth c Z EL own n0 Q mk sf h' cells' slots' (mkF m q L (v.toList ++ S))) : AtS p l e R s m args below meth c Z EL own n0 Q mk sf h cells slots (mkF m pc L S') := by
  subst hq hc1 hs1
  intro T locs k n' vm0 k0 X hk hn' eT N hZ hown hS0 hk0 hC hB hF
  obtain ⟨cq, q1, q2⟩ := E.cell
  obtain ⟨cN, kN, n1, n2, n3⟩ := hni vm0 hZ
  have hpv := Cond.privateMethod_at (mvP (s := s.setVm vm0) hZ w5 (args := #[]))
  obtain ⟨v, _, ⟨T', L', k', n''⟩, -, X', ⟨Lc, hQ, hl', hc', hs'⟩, st⟩ := X.privateBack C.1 (y := y) hown (mvT (s := s.setVm vm0) hZ w1) (mvT (s := s.setVm vm0) hZ w4) (selects_self_of_private n1 n2 n3 hpv (mvT (s := s.setVm vm0) hZ w4) hy) hpv (mvT (s := s.setVm vm0) hZ wc) hy (backOf (s := s.setVm vm0) (W := W) (Q := fun v h L => Fr n0 L ∧ Qy v h) ct hZ wc wz hf hlo) (g := mkF m pc L S') rfl (hL.trans C.2.2.1.symm) (Steps.refl _) (a := a) (by rw [eT]; exact q1) q2 (argsL := argsL) (rest := S) hlen hS (by show 2 * 0 + _ ≤ _; omega) (hb C.2.1 hd) (fun _ _ => ⟨rfl, eT, (by show k + _ ≤ _; omega), (by show n' + _ ≤ _; omega)⟩)
  dsimp only [Pt.U, Pt.locs, Pt.cells, Pt.slots] at X' hl' hc' hs' st hQ
  subst hl' hc' hs'
  have hKp' := hKp v T'.heap hQ.2
  have hsafe : ∀ x ∈ wl, Safe Z EL vm0 h x := fun x hx => (hSf x hx).safe hZ.alike hB hF
  obtain ⟨H', hB'⟩ := hC.1.keepStep hKp' hsafe
  obtain ⟨t, o, r1, r⟩ := K v T'.heap hQ.2 T' _ _ _ vm0 k0 X' (by omega) (by omega) rfl (Fr.app N hQ.1) hZ hown hS0 (Nat.le_trans hk0 hKp'.1) (hC.trans (CHr.keep hKp' hsafe hC.1)) (fun y hy => hB y (hB' y hy)) (fun x hx => ⟨Nat.lt_of_lt_of_le (hF x hx).1 hKp'.1, (hF x hx).2.keep hKp' hsafe hC.1⟩)
  exact ⟨t, o, st.trans r1, r⟩
theorem s_callS2 (C : Cx p s m meth c Z own bytes maxL ret nm) (hEL : EW Z a0 EL) {y : MethodName} {i : Nat} {argsL : List Value} {bytesY : ByteArray} {maxY : Nat} {retY : Option FieldType} {rm : Room} {Qy : Option Value → Heap → Prop} (w1 : (Jvm.Cond.methodLink own i y).before a0 Z = true) (w2 : (Jvm.Cond.static y).before a0 Z = true) (wz : (Jvm.Cond.initialized y.cls).before a0 Z = true) (wc : (Jvm.Cond.code y bytesY maxY retY).before a0 Z = true)
    (hy : y.cls ≠ "java/lang/invoke/MethodHandle" ∧ y.cls ≠ "java/lang/invoke/VarHandle") (ct : Cs [] l Z EL n0 y bytesY maxY retY rm argsL.toArray h Qy) {S' : List Value} (hS : S' = argsL.reverse ++ S) (hlen : ∀ sig, parseMethodDescriptor y.desc = some sig → argsL.length = sig.parameters.length) (hL : L.size = maxL) (hf : rm.frames + 1 ≤ R.frames) {W : Nat} (hW : (S.map fun v => v.category).sum ≤ W) (hlo : W + (maxY + 11) + rm.locals ≤ R.locals) {cells' slots' : Nat} (hc1 : cells + rm.cells = cells') (hs1 : slots + rm.slots = slots') (hc : cells' ≤ R.cells) (hl : slots' ≤ R.slots) 
    (hd : decode bytes pc = .ok (.invokestatic i, 3)) (hq : pc + 3 = q) (K : ∀ v h', Qy v h' → AtS p l e R s m args below meth c Z EL own n0 Q h'.size sf h' cells' slots' (mkF m q L (v.toList ++ S))) : AtS p l e R s m args below meth c Z EL own n0 Q mk sf h cells slots (mkF m pc L S') := by
  subst hq hc1 hs1
  intro T locs k n' vm0 k0 X hk hn' eT N hZ hown hS0 hk0 hC hB hF
  obtain ⟨v, _, ⟨T', L', k', n''⟩, -, X', hSn, hgr, ⟨Lc, hQ, hl', hc', hs', hCr⟩, st⟩ := callSS X C.1 (y := y) hown (mvT (s := s.setVm vm0) hZ w1) (mvT (s := s.setVm vm0) hZ w2) (mvT (s := s.setVm vm0) hZ wz) (mvT (s := s.setVm vm0) hZ wc) hy (backOfSH (W := W) (Q := fun v h L => Fr n0 L ∧ Qy v h) ct hZ wc wz hf hlo hEL hC.1) (g := mkF m pc L S') rfl (hL.trans C.2.2.1.symm) (argsL := argsL) (rest := S) hlen hS (by show 2 * 0 + _ ≤ _; omega) (hb C.2.1 hd) (fun _ _ => ⟨rfl, eT, (by show k + _ ≤ _; omega), (by show n' + _ ≤ _; omega)⟩)
  dsimp only [Pt.U, Pt.locs, Pt.cells, Pt.slots] at X' hSn hgr hl' hc' hs' st hQ hCr
  subst hl' hc' hs'
  rw [eT] at hgr
  obtain ⟨X2, hS2, hZ2, hown2⟩ := rebS hS0 hk0 X' hSn hgr (show Z.Warmed39 (s.setVm vm0).vm from hZ) hown
  obtain ⟨t, o, r1, r⟩ := K v T'.heap hQ.2 T' _ _ _ T'.vm T'.heap.size X2 (by omega) (by omega) rfl (Fr.app N hQ.1) hZ2 hown2 hS2 (Nat.le_refl _) (hC.trans hCr) (fun y hy => bk_lt hy) (fun x hx => ⟨Nat.lt_of_lt_of_le (hF x hx).1 hgr, hCr.safe (hF x hx).1 (hF x hx).2⟩)
  exact ⟨t, o, st.trans r1, r⟩
theorem s_callI2 (C : Cx p s m meth c Z own bytes maxL ret nm) (hEL : EW Z a0 EL) {y : MethodName} {i : Nat} {a : Addr} {argsL : List Value} {bytesY : ByteArray} {maxY : Nat} {rm : Room} {Qy : Option Value → Heap → Prop} (hnm : y.name = "<init>") (w1 : (Jvm.Cond.methodLink own i y).before a0 Z = true) (w2 : (Jvm.Cond.instanceMethod y).before a0 Z = true) (wz : (Jvm.Cond.initialized y.cls).before a0 Z = true) (wc : (Jvm.Cond.code y bytesY maxY none).before a0 Z = true)
    (hy : y.cls ≠ "java/lang/invoke/MethodHandle" ∧ y.cls ≠ "java/lang/invoke/VarHandle") (ct : Cs [] l Z EL n0 y bytesY maxY none rm (.ref a :: argsL).toArray h Qy) {S' : List Value} (hS : S' = argsL.reverse ++ .ref a :: S) (hlen : ∀ sig, parseMethodDescriptor y.desc = some sig → argsL.length = sig.parameters.length) (hL : L.size = maxL) (hf : rm.frames + 1 ≤ R.frames) {W : Nat} (hW : (S.map fun v => v.category).sum ≤ W) (hlo : W + (maxY + 11) + rm.locals ≤ R.locals) {cells' slots' : Nat} (hc1 : cells + rm.cells = cells') (hs1 : slots + rm.slots = slots') (hc : cells' ≤ R.cells) (hl : slots' ≤ R.slots) 
    (hd : decode bytes pc = .ok (.invokespecial i, 3)) (hq : pc + 3 = q) (K : ∀ v h', Qy v h' → AtS p l e R s m args below meth c Z EL own n0 Q h'.size sf h' cells' slots' (mkF m q L (v.toList ++ S))) : AtS p l e R s m args below meth c Z EL own n0 Q mk sf h cells slots (mkF m pc L S') := by
  subst hq hc1 hs1
  intro T locs k n' vm0 k0 X hk hn' eT N hZ hown hS0 hk0 hC hB hF
  obtain ⟨v, _, ⟨T', L', k', n''⟩, -, X', hSn, hgr, ⟨Lc, hQ, hl', hc', hs', hCr⟩, st⟩ := X.specialBackS C.1 (y := y) hnm hown (mvT (s := s.setVm vm0) hZ w1) (mvT (s := s.setVm vm0) hZ w2) (mvT (s := s.setVm vm0) hZ wc) hy (backOfSH (W := W) (Q := fun v h L => Fr n0 L ∧ Qy v h) ct hZ wc wz hf hlo hEL hC.1) (g := mkF m pc L S') rfl (hL.trans C.2.2.1.symm) (Steps.refl _) (a := a) (argsL := argsL) (rest := S) hlen hS (by show 2 * 0 + _ ≤ _; omega) (hb C.2.1 hd) (fun _ _ => ⟨rfl, eT, (by show k + _ ≤ _; omega), (by show n' + _ ≤ _; omega)⟩)
  dsimp only [Pt.U, Pt.locs, Pt.cells, Pt.slots] at X' hSn hgr hl' hc' hs' st hQ hCr
  subst hl' hc' hs'
  rw [eT] at hgr
  obtain ⟨X2, hS2, hZ2, hown2⟩ := rebS hS0 hk0 X' hSn hgr (show Z.Warmed39 (s.setVm vm0).vm from hZ) hown
  obtain ⟨t, o, r1, r⟩ := K v T'.heap hQ.2 T' _ _ _ T'.vm T'.heap.size X2 (by omega) (by omega) rfl (Fr.app N hQ.1) hZ2 hown2 hS2 (Nat.le_refl _) (hC.trans hCr) (fun y hy => bk_lt hy) (fun x hx => ⟨Nat.lt_of_lt_of_le (hF x hx).1 hgr, hCr.safe (hF x hx).1 (hF x hx).2⟩)
  exact ⟨t, o, st.trans r1, r⟩
theorem s_callV2 (C : Cx p s m meth c Z own bytes maxL ret nm) (hEL : EW Z a0 EL) {y z : MethodName} {Cl : String} {i : Nat} {a : Addr} {argsL : List Value} {bytesY : ByteArray} {maxY : Nat} {retY : Option FieldType} {rm : Room} {Qy : Option Value → Heap → Prop} (E : Exa Z h a Cl) (w1 : (Jvm.Cond.methodLink own i y).before a0 Z = true) (w2 : (Jvm.Cond.declares y).before a0 Z = true) (hnf : ∀ vm0, Z.Warmed39 vm0 → NotFace (s.setVm vm0) y) (w3 : (Jvm.Cond.selects Cl y z).before a0 Z = true) (w4 : (Jvm.Cond.instanceMethod z).before a0 Z = true) (wz : (Jvm.Cond.initialized z.cls).before a0 Z = true) (wc : (Jvm.Cond.code z bytesY maxY retY).before a0 Z = true)
    (hy : y.cls ≠ "java/lang/invoke/MethodHandle" ∧ y.cls ≠ "java/lang/invoke/VarHandle") (ct : Cs [] l Z EL n0 z bytesY maxY retY rm (.ref a :: argsL).toArray h Qy) {S' : List Value} (hS : S' = argsL.reverse ++ .ref a :: S) (hlen : ∀ sig, parseMethodDescriptor y.desc = some sig → argsL.length = sig.parameters.length) (hL : L.size = maxL) (hf : rm.frames + 1 ≤ R.frames) {W : Nat} (hW : (S.map fun v => v.category).sum ≤ W) (hlo : W + (maxY + 11) + rm.locals ≤ R.locals) {cells' slots' : Nat} (hc1 : cells + rm.cells = cells') (hs1 : slots + rm.slots = slots') (hc : cells' ≤ R.cells) (hl : slots' ≤ R.slots) 
    (hd : decode bytes pc = .ok (.invokevirtual i, 3)) (hq : pc + 3 = q) (K : ∀ v h', Qy v h' → AtS p l e R s m args below meth c Z EL own n0 Q h'.size sf h' cells' slots' (mkF m q L (v.toList ++ S))) : AtS p l e R s m args below meth c Z EL own n0 Q mk sf h cells slots (mkF m pc L S') := by
  subst hq hc1 hs1
  intro T locs k n' vm0 k0 X hk hn' eT N hZ hown hS0 hk0 hC hB hF
  obtain ⟨cB, kB, q1, q2, q3⟩ := isOf (s := s.setVm vm0) hZ eT E
  obtain ⟨v, _, ⟨T', L', k', n''⟩, -, X', hSn, hgr, ⟨Lc, hQ, hl', hc', hs', hCr⟩, st⟩ := X.virtualBackS C.1 (y := y) (z := z) hown (mvT (s := s.setVm vm0) hZ w1) (mvT (s := s.setVm vm0) hZ w2) (hnf vm0 hZ) (mvT (s := s.setVm vm0) hZ w3) (mvT (s := s.setVm vm0) hZ w4) hy (backOfSH (W := W) (Q := fun v h L => Fr n0 L ∧ Qy v h) ct hZ wc wz hf hlo hEL hC.1) q1 q3 (g := mkF m pc L S') rfl (hL.trans C.2.2.1.symm) (Steps.refl _) (argsL := argsL) (rest := S) hlen hS (by show 2 * 0 + _ ≤ _; omega) (hb C.2.1 hd) (fun _ _ => ⟨rfl, eT, (by show k + _ ≤ _; omega), (by show n' + _ ≤ _; omega)⟩)
  dsimp only [Pt.U, Pt.locs, Pt.cells, Pt.slots] at X' hSn hgr hl' hc' hs' st hQ hCr
  subst hl' hc' hs'
  rw [eT] at hgr
  obtain ⟨X2, hS2, hZ2, hown2⟩ := rebS hS0 hk0 X' hSn hgr (show Z.Warmed39 (s.setVm vm0).vm from hZ) hown
  obtain ⟨t, o, r1, r⟩ := K v T'.heap hQ.2 T' _ _ _ T'.vm T'.heap.size X2 (by omega) (by omega) rfl (Fr.app N hQ.1) hZ2 hown2 hS2 (Nat.le_refl _) (hC.trans hCr) (fun y hy => bk_lt hy) (fun x hx => ⟨Nat.lt_of_lt_of_le (hF x hx).1 hgr, hCr.safe (hF x hx).1 (hF x hx).2⟩)
  exact ⟨t, o, st.trans r1, r⟩
theorem s_callP2 (C : Cx p s m meth c Z own bytes maxL ret nm) (hEL : EW Z a0 EL) {y : MethodName} {Cl : String} {i : Nat} {a : Addr} {argsL : List Value} {bytesY : ByteArray} {maxY : Nat} {retY : Option FieldType} {rm : Room} {Qy : Option Value → Heap → Prop} (E : Exa Z h a Cl) (w1 : (Jvm.Cond.methodLink own i y).before a0 Z = true) (w4 : (Jvm.Cond.instanceMethod y).before a0 Z = true) (hni : ∀ vm0, Z.Warmed39 vm0 → NI (s.setVm vm0) y.cls) (w5 : (Jvm.Cond.privateMethod y).before a0 Z = true) (wz : (Jvm.Cond.initialized y.cls).before a0 Z = true) (wc : (Jvm.Cond.code y bytesY maxY retY).before a0 Z = true)
    (hy : y.cls ≠ "java/lang/invoke/MethodHandle" ∧ y.cls ≠ "java/lang/invoke/VarHandle") (ct : Cs [] l Z EL n0 y bytesY maxY retY rm (.ref a :: argsL).toArray h Qy) {S' : List Value} (hS : S' = argsL.reverse ++ .ref a :: S) (hlen : ∀ sig, parseMethodDescriptor y.desc = some sig → argsL.length = sig.parameters.length) (hL : L.size = maxL) (hf : rm.frames + 1 ≤ R.frames) {W : Nat} (hW : (S.map fun v => v.category).sum ≤ W) (hlo : W + (maxY + 11) + rm.locals ≤ R.locals) {cells' slots' : Nat} (hc1 : cells + rm.cells = cells') (hs1 : slots + rm.slots = slots') (hc : cells' ≤ R.cells) (hl : slots' ≤ R.slots) 
    (hd : decode bytes pc = .ok (.invokevirtual i, 3)) (hq : pc + 3 = q) (K : ∀ v h', Qy v h' → AtS p l e R s m args below meth c Z EL own n0 Q h'.size sf h' cells' slots' (mkF m q L (v.toList ++ S))) : AtS p l e R s m args below meth c Z EL own n0 Q mk sf h cells slots (mkF m pc L S') := by
  subst hq hc1 hs1
  intro T locs k n' vm0 k0 X hk hn' eT N hZ hown hS0 hk0 hC hB hF
  obtain ⟨cq, q1, q2⟩ := E.cell
  obtain ⟨cN, kN, n1, n2, n3⟩ := hni vm0 hZ
  have hpv := Cond.privateMethod_at (mvP (s := s.setVm vm0) hZ w5 (args := #[]))
  obtain ⟨v, _, ⟨T', L', k', n''⟩, -, X', hSn, hgr, ⟨Lc, hQ, hl', hc', hs', hCr⟩, st⟩ := X.privateBackS C.1 (y := y) hown (mvT (s := s.setVm vm0) hZ w1) (mvT (s := s.setVm vm0) hZ w4) (selects_self_of_private n1 n2 n3 hpv (mvT (s := s.setVm vm0) hZ w4) hy) hpv (mvT (s := s.setVm vm0) hZ wc) hy (backOfSH (W := W) (Q := fun v h L => Fr n0 L ∧ Qy v h) ct hZ wc wz hf hlo hEL hC.1) (g := mkF m pc L S') rfl (hL.trans C.2.2.1.symm) (Steps.refl _) (a := a) (by rw [eT]; exact q1) q2 (argsL := argsL) (rest := S) hlen hS (by show 2 * 0 + _ ≤ _; omega) (hb C.2.1 hd) (fun _ _ => ⟨rfl, eT, (by show k + _ ≤ _; omega), (by show n' + _ ≤ _; omega)⟩)
  dsimp only [Pt.U, Pt.locs, Pt.cells, Pt.slots] at X' hSn hgr hl' hc' hs' st hQ hCr
  subst hl' hc' hs'
  rw [eT] at hgr
  obtain ⟨X2, hS2, hZ2, hown2⟩ := rebS hS0 hk0 X' hSn hgr (show Z.Warmed39 (s.setVm vm0).vm from hZ) hown
  obtain ⟨t, o, r1, r⟩ := K v T'.heap hQ.2 T' _ _ _ T'.vm T'.heap.size X2 (by omega) (by omega) rfl (Fr.app N hQ.1) hZ2 hown2 hS2 (Nat.le_refl _) (hC.trans hCr) (fun y hy => bk_lt hy) (fun x hx => ⟨Nat.lt_of_lt_of_le (hF x hx).1 hgr, hCr.safe (hF x hx).1 (hF x hx).2⟩)
  exact ⟨t, o, st.trans r1, r⟩
theorem s_nf {y : MethodName} {Cl : String} (w3 : (Jvm.Cond.selects Cl y y).before a0 Z = true) : ∀ vm0, Z.Warmed39 vm0 → NotFace (s.setVm vm0) y := fun vm0 hZ => notFace_of_selects (args := #[]) (mvT (s := s.setVm vm0) hZ w3)
theorem s_nfs {y : MethodName} {Cl : String} (w3 : (Jvm.Cond.superclass y.cls Cl).before a0 Z = true) : ∀ vm0, Z.Warmed39 vm0 → NotFace (s.setVm vm0) y := fun vm0 hZ => nf_super (args := #[]) (mvT (s := s.setVm vm0) hZ w3)
/-- ldc of a String constant: what it spells -/
theorem s_ldc (C : Cx p s m meth c Z own bytes maxL ret nm) (hEL : EW Z a0 EL) (wS : ∀ a ∈ Bundle.stringAtoms, a.before a0 Z = true) {text : String} {i : Nat} (w : (Jvm.Cond.stringLink own i text).before a0 Z = true) (hmem : (own, i) ∈ EL) {vs : List Value} (ht : (∀ c ∈ text.toList, c.toNat < 256) ∧ text.toList.map (fun c => Value.int (Jvm.Lit.byteI c.toNat.toUInt16)) = vs) (hvl : vs.length < 2 ^ 31)
    {n : Nat} (hn1 : 4 * text.toList.length ≤ n) (hbig : n ≤ 536870912) {cells' slots' : Nat} (hc1 : cells + 2 = cells') (hs1 : slots + (n + 4) = slots') (hc : cells' ≤ R.cells) (hl : slots' ≤ R.slots)
    (hd : decode bytes pc = .ok (.ldc i, 2)) (hq : pc + 2 = q) (K : ∀ h' a b, Ext h h' → Exa Z h' a "java/lang/String" → Fld Z h' a "java/lang/String" "coder" "B" (.int 0) → Fld Z h' a "java/lang/String" "value" "[B" (.ref b) → Ar Z h' b .byte vs → (∀ x ∈ sf, x ≠ a ∧ x ≠ b) → AtS p l e R s m args below meth c Z EL own n0 Q h'.size sf h' cells' slots' (mkF m q L (.ref a :: S))) : AtS p l e R s m args below meth c Z EL own n0 Q mk sf h cells slots (mkF m pc L S) := by
  subst hq hc1 hs1
  intro T locs k n' vm0 k0 X hk hn' eT N hZ hown hS0 hk0 hC hB hF
  obtain ⟨a, T', h', k1, b, kc, X', e', E, hS1, hk1, hZ1, hown1, f1, f2, f3, f4, -, -, hCr, -, hne, st⟩ := ldcCH X C.1 hZ hown w wS eT hS0 hk0 hEL hmem hC.1 ht (ofNat_neg hvl) (ofNat_nat hvl) (g := mkF m pc L S) rfl (hb C.2.1 hd) hn1 hbig (by omega) (by omega)
  have hsf : ∀ x ∈ sf, x < h'.size ∧ Safe Z EL T'.vm h' x := fun x hx => ⟨Nat.lt_of_lt_of_le (hF x hx).1 E.1, hCr.safe (hF x hx).1 (hF x hx).2⟩
  obtain ⟨t, o, r1, r⟩ := K h' a b E f1 f2 f3 ⟨hvl, kc, f4⟩ (fun x hx => hne x (hsf x hx).2) T' _ _ _ T'.vm k1 X' (by omega) (by omega) e' N hZ1 hown1 hS1 hk1 (hC.trans hCr) (fun y hy => bk_lt hy) hsf
  exact ⟨t, o, st _ r1, r⟩
/-- ldc of a String constant of which nothing is said -/
theorem s_ldcO (C : Cx p s m meth c Z own bytes maxL ret nm) (hEL : EW Z a0 EL) (wS : ∀ a ∈ Bundle.stringAtoms, a.before a0 Z = true) {text : String} {i : Nat} (w : (Jvm.Cond.stringLink own i text).before a0 Z = true)
    {n : Nat} (hn1 : 4 * text.toList.length ≤ n) (hbig : n ≤ 536870912) {cells' slots' : Nat} (hc1 : cells + 2 = cells') (hs1 : slots + (n + 4) = slots') (hc : cells' ≤ R.cells) (hl : slots' ≤ R.slots)
    (hd : decode bytes pc = .ok (.ldc i, 2)) (hq : pc + 2 = q) (K : ∀ h' a, Ext h h' → AtS p l e R s m args below meth c Z EL own n0 Q h'.size sf h' cells' slots' (mkF m q L (.ref a :: S))) : AtS p l e R s m args below meth c Z EL own n0 Q mk sf h cells slots (mkF m pc L S) := by
  subst hq hc1 hs1
  intro T locs k n' vm0 k0 X hk hn' eT N hZ hown hS0 hk0 hC hB hF
  obtain ⟨a, T', h', k1, X', e', E, hS1, hk1, hZ1, hown1, hCr, -, st⟩ := ldcOH X C.1 hZ hown w wS eT hS0 hk0 hEL hC.1 (g := mkF m pc L S) rfl (hb C.2.1 hd) hn1 hbig (by omega) (by omega)
  have hsf : ∀ x ∈ sf, x < h'.size ∧ Safe Z EL T'.vm h' x := fun x hx => ⟨Nat.lt_of_lt_of_le (hF x hx).1 E.1, hCr.safe (hF x hx).1 (hF x hx).2⟩
  obtain ⟨t, o, r1, r⟩ := K h' a E T' _ _ _ T'.vm k1 X' (by omega) (by omega) e' N hZ1 hown1 hS1 hk1 (hC.trans hCr) (fun y hy => bk_lt hy) hsf
  exact ⟨t, o, st _ r1, r⟩
end WkS
-- CUT
def Gl (Z : State) (a0 : Array Value) (n0 : Nat) : Prop := (∀ d ∈ tables_1, d.before a0 Z = true) ∧ (∃ z : Int32, Sta Z Z.heap "java/lang/String" "COMPACT_STRINGS" "Z" (.int z) ∧ ¬ z = 0) ∧ (∃ v : Value, Sta Z Z.heap "jdk/internal/util/Preconditions" "SIOOBE_FORMATTER" "Ljava/util/function/BiFunction;" v ∧ v.isRef = true ∧ v.category = 1) ∧ EW Z a0 consts_1 ∧ True
theorem Gl.cs {Z : State} {a0 : Array Value} {n0 : Nat} (G : Gl Z a0 n0) : ∃ z : Int32, Sta Z Z.heap "java/lang/String" "COMPACT_STRINGS" "Z" (.int z) ∧ ¬ z = 0 := G.2.1
theorem Gl.fm {Z : State} {a0 : Array Value} {n0 : Nat} (G : Gl Z a0 n0) : ∃ v : Value, Sta Z Z.heap "jdk/internal/util/Preconditions" "SIOOBE_FORMATTER" "Ljava/util/function/BiFunction;" v ∧ v.isRef = true ∧ v.category = 1 := G.2.2.1
theorem Gl.el {Z : State} {a0 : Array Value} {n0 : Nat} (G : Gl Z a0 n0) : EW Z a0 consts_1 := G.2.2.2.1
theorem own_sa : ∀ d ∈ Bundle.stringAtoms, d ∈ tables_1 := by decide +kernel
theorem Gl.sa {Z : State} {a0 : Array Value} {n0 : Nat} (G : Gl Z a0 n0) : ∀ d ∈ Bundle.stringAtoms, d.before a0 Z = true := fun d hd => G.1 d (own_sa d hd)
theorem pd_1 : parseMethodDescriptor "(I)C" = some ⟨[.int], some .char⟩ := by decide +kernel
theorem pd_2 : parseMethodDescriptor "([C)V" = some ⟨[(.array .char)], none⟩ := by decide +kernel
theorem pd_3 : parseMethodDescriptor "([CIILjava/lang/Void;)V" = some ⟨[(.array .char), .int, .int, (.object "java/lang/Void")], none⟩ := by decide +kernel
theorem pd_4 : parseMethodDescriptor "()V" = some ⟨[], none⟩ := by decide +kernel
theorem pd_5 : parseMethodDescriptor "([CII)[B" = some ⟨[(.array .char), .int, .int], some (.array .byte)⟩ := by decide +kernel
theorem pd_6 : parseMethodDescriptor "([CI[BII)I" = some ⟨[(.array .char), .int, (.array .byte), .int, .int], some .int⟩ := by decide +kernel
theorem pd_7 : parseMethodDescriptor "([BI)B" = some ⟨[(.array .byte), .int], some .byte⟩ := by decide +kernel
theorem pd_8 : parseMethodDescriptor "(C)Ljava/lang/String;" = some ⟨[.char], some (.object "java/lang/String")⟩ := by decide +kernel
theorem pd_9 : parseMethodDescriptor "(C)Z" = some ⟨[.char], some .boolean⟩ := by decide +kernel
theorem pd_10 : parseMethodDescriptor "(C)[B" = some ⟨[.char], some (.array .byte)⟩ := by decide +kernel
theorem pd_11 : parseMethodDescriptor "([BB)V" = some ⟨[(.array .byte), .byte], none⟩ := by decide +kernel
theorem pd_12 : parseMethodDescriptor "([CIICCCCC)I" = some ⟨[(.array .char), .int, .int, .char, .char, .char, .char, .char], some .int⟩ := by decide +kernel
theorem pd_13 : parseMethodDescriptor "(Ljava/lang/String;Ljava/lang/String;)Lcom/example/lease/lease/LockKeys;" = some ⟨[(.object "java/lang/String"), (.object "java/lang/String")], some (.object "com/example/lease/lease/LockKeys")⟩ := by decide +kernel
theorem pd_14 : parseMethodDescriptor "(Ljava/lang/String;)Ljava/lang/String;" = some ⟨[(.object "java/lang/String")], some (.object "java/lang/String")⟩ := by decide +kernel
theorem pd_15 : parseMethodDescriptor "(Ljava/lang/Object;Ljava/lang/String;)Ljava/lang/Object;" = some ⟨[(.object "java/lang/Object"), (.object "java/lang/String")], some (.object "java/lang/Object")⟩ := by decide +kernel
theorem pd_16 : parseMethodDescriptor "(I)I" = some ⟨[.int], some .int⟩ := by decide +kernel
theorem pd_17 : parseMethodDescriptor "(II)I" = some ⟨[.int, .int], some .int⟩ := by decide +kernel
theorem pd_18 : parseMethodDescriptor "()Z" = some ⟨[], some .boolean⟩ := by decide +kernel
theorem pd_19 : parseMethodDescriptor "()I" = some ⟨[], some .int⟩ := by decide +kernel
theorem pd_20 : parseMethodDescriptor "()B" = some ⟨[], some .byte⟩ := by decide +kernel
theorem pd_21 : parseMethodDescriptor "([BIII)I" = some ⟨[(.array .byte), .int, .int, .int], some .int⟩ := by decide +kernel
theorem pd_22 : parseMethodDescriptor "(I)Z" = some ⟨[.int], some .boolean⟩ := by decide +kernel
theorem pd_23 : parseMethodDescriptor "(I)V" = some ⟨[.int], none⟩ := by decide +kernel
theorem pd_24 : parseMethodDescriptor "(Ljava/lang/String;)Ljava/lang/StringBuilder;" = some ⟨[(.object "java/lang/String")], some (.object "java/lang/StringBuilder")⟩ := by decide +kernel
theorem pd_25 : parseMethodDescriptor "(Ljava/lang/String;)Ljava/lang/AbstractStringBuilder;" = some ⟨[(.object "java/lang/String")], some (.object "java/lang/AbstractStringBuilder")⟩ := by decide +kernel
theorem pd_26 : parseMethodDescriptor "(ILjava/lang/String;)V" = some ⟨[.int, (.object "java/lang/String")], none⟩ := by decide +kernel
theorem pd_27 : parseMethodDescriptor "(Ljava/lang/String;)V" = some ⟨[(.object "java/lang/String")], none⟩ := by decide +kernel
theorem pd_28 : parseMethodDescriptor "([BIB)V" = some ⟨[(.array .byte), .int, .byte], none⟩ := by decide +kernel
theorem pd_29 : parseMethodDescriptor "(Ljava/lang/Object;ILjava/lang/Object;II)V" = some ⟨[(.object "java/lang/Object"), .int, (.object "java/lang/Object"), .int, .int], none⟩ := by decide +kernel
theorem pd_30 : parseMethodDescriptor "(C)Ljava/lang/StringBuilder;" = some ⟨[.char], some (.object "java/lang/StringBuilder")⟩ := by decide +kernel
theorem pd_31 : parseMethodDescriptor "(C)Ljava/lang/AbstractStringBuilder;" = some ⟨[.char], some (.object "java/lang/AbstractStringBuilder")⟩ := by decide +kernel
theorem pd_32 : parseMethodDescriptor "()Ljava/lang/String;" = some ⟨[], some (.object "java/lang/String")⟩ := by decide +kernel
theorem pd_33 : parseMethodDescriptor "(Ljava/lang/StringBuilder;)V" = some ⟨[(.object "java/lang/StringBuilder")], none⟩ := by decide +kernel
theorem pd_34 : parseMethodDescriptor "(Ljava/lang/AbstractStringBuilder;Ljava/lang/Void;)V" = some ⟨[(.object "java/lang/AbstractStringBuilder"), (.object "java/lang/Void")], none⟩ := by decide +kernel
theorem pd_35 : parseMethodDescriptor "()[B" = some ⟨[], some (.array .byte)⟩ := by decide +kernel
theorem pd_36 : parseMethodDescriptor "([BII)[B" = some ⟨[(.array .byte), .int, .int], some (.array .byte)⟩ := by decide +kernel
theorem pd_37 : parseMethodDescriptor "(II)V" = some ⟨[.int, .int], none⟩ := by decide +kernel
theorem pd_38 : parseMethodDescriptor "(Ljava/lang/String;[CI)Z" = some ⟨[(.object "java/lang/String"), (.array .char), .int], some .boolean⟩ := by decide +kernel
theorem pd_39 : parseMethodDescriptor "(Ljava/lang/String;[CII)Z" = some ⟨[(.object "java/lang/String"), (.array .char), .int, .int], some .boolean⟩ := by decide +kernel
theorem pd_40 : parseMethodDescriptor "([BI)C" = some ⟨[(.array .byte), .int], some .char⟩ := by decide +kernel
theorem pd_41 : parseMethodDescriptor "(IILjava/util/function/BiFunction;)I" = some ⟨[.int, .int, (.object "java/util/function/BiFunction")], some .int⟩ := by decide +kernel
theorem pd_42 : parseMethodDescriptor "()Ljava/lang/Object;" = some ⟨[], some (.object "java/lang/Object")⟩ := by decide +kernel
theorem own_K1 {h0 h1 h2 : Heap} {t : Addr} (K1 : Keep h0 h1 []) (K2 : Keep h1 h2 [t]) (g : h0.size ≤ t) : Keep h0 h2 [] := K1.trans K2 (allS (P := fun x => x ∈ [] ∨ h0.size ≤ x) (Or.inr g) all0)
theorem own_K0 {h0 h1 h2 : Heap} {ws : List Addr} (K1 : Keep h0 h1 ws) (K2 : Keep h1 h2 []) : Keep h0 h2 ws := K1.trans K2 (all0 (P := fun x => x ∈ ws ∨ h0.size ≤ x))

section WkSb
variable {p : Program} {l : Launch} {e : Env} {R : Room} {s : State} {m : MethodId} {args : Array Value} {below : List Frame} {meth : Method} {c : Code} {n0 : Nat} {Q : Option Value → Heap → Prop} {h : Heap} {cells slots : Nat} {Z : State} {own : String} {bytes : ByteArray} {maxL : Nat} {ret : Option FieldType} {nm : String} {a0 : Array Value} {pc q : Nat} {L L' : Array Slot} {S : List Value}
theorem own_rng (vs : List Value) (dv : Value) (sp nn : Nat) (h : sp + nn ≤ vs.length) : (List.range nn).map (fun i => vs.getD (sp + i) dv) = (vs.drop sp).take nn := by
  apply List.ext_getElem?
  intro i
  rw [List.getElem?_map, List.getElem?_take, List.getElem?_drop]
  by_cases hi : i < nn
  · rw [List.getElem?_range hi, if_pos hi, List.getElem?_eq_getElem (show sp + i < vs.length by omega)]
    simp [List.getD, List.getElem?_eq_getElem (show sp + i < vs.length by omega)]
  · rw [if_neg hi, List.getElem?_eq_none (by simpa using hi)]; rfl
theorem w_copy (C : Cx p s m meth c Z own bytes maxL ret nm) {i : Nat} {a b : Addr} {ty : FieldType} {vs vd : List Value} {sp dp nn : Nat} (w1 : (Jvm.Cond.methodLink own i Jvm.Stand.acN).before a0 Z = true) (w2 : (Jvm.Cond.native Jvm.Stand.acN).before a0 Z = true) (w3 : (Jvm.Cond.static Jvm.Stand.acN).before a0 Z = true) (w4 : (Jvm.Cond.initialized "java/lang/System").before a0 Z = true)
    (A : Ar Z h a ty vs) (B : Ar Z h b ty vd) (hp : refKind ty = false) (h4 : sp + nn ≤ vs.length) (h5 : dp + nn ≤ vd.length) (ge : n0 ≤ b) (hL : L.size = maxL) (hf : 1 ≤ R.frames) {W : Nat} (hW : (S.map fun v => v.category).sum ≤ W) (hlo : W + 18 ≤ R.locals)
    {S' : List Value} (hS : S' = .int (Int32.ofNat nn) :: .int (Int32.ofNat dp) :: .ref b :: .int (Int32.ofNat sp) :: .ref a :: S) (hd : decode bytes pc = .ok (.invokestatic i, 3)) (hq : pc + 3 = q) (K : ∀ h', Keep h h' [b] → Ar Z h' b ty (vd.take dp ++ (vs.drop sp).take nn ++ vd.drop (dp + nn)) → AtW p l e R s m args below meth c n0 Q h' cells slots (mkF m q L S)) : AtW p l e R s m args below meth c n0 Q h cells slots (mkF m pc L S') := by
  subst hq hS
  intro T locs k n' X hk hn' eT N
  obtain ⟨la, ka, VA⟩ := A
  obtain ⟨lb, kb, VB⟩ := B
  have e1 := ofNat_nat (n := sp) (by omega)
  have e2 := ofNat_nat (n := dp) (by omega)
  have e3 := ofNat_nat (n := nn) (by omega)
  have e4 := ofNat_nat la
  have e5 := ofNat_nat lb
  obtain ⟨T', h', L', X', e', N', K', V', st⟩ := cpA X C.1 C.2.2.2.1 C.2.2.2.2.1 w1 w2 w3 w4 eT VA VB (Or.inl ⟨rfl, hp⟩) (ofNat_neg (n := sp) (by omega)) (ofNat_neg (n := dp) (by omega)) (ofNat_neg (n := nn) (by omega)) (by rw [e1, e3, e4]; exact h4) (by rw [e2, e3, e5]; exact h5) (us := (vs.drop sp).take nn) (by rw [e3, e1, own_rng vs _ sp nn h4]) (by rw [e2, e3]; exact h5) N ge (g := mkF m pc L (.int (Int32.ofNat nn) :: .int (Int32.ofNat dp) :: .ref b :: .int (Int32.ofNat sp) :: .ref a :: S)) rfl (hL.trans C.2.2.1.symm) rfl (hb C.2.1 hd) hf (W := W) (by show 2 * 0 + _ ≤ _; omega) (by show W + (7 + 11) ≤ _; omega)
  rw [e2, e3] at V'
  have hlen : (vd.take dp ++ (vs.drop sp).take nn ++ vd.drop (dp + nn)).length = vd.length := by simp only [List.length_append, List.length_take, List.length_drop]; omega
  obtain ⟨t, o, r1, r⟩ := K h' K' ⟨by rw [hlen]; exact lb, kb, by rw [hlen]; exact V'⟩ T' _ k n' X' hk hn' e' N'
  exact ⟨t, o, st _ r1, r⟩
theorem w_newArrE (C : Cx p s m meth c Z own bytes maxL ret nm) {aty : ArrayType} {ty : FieldType} {n : Int32} (w : (Jvm.Cond.arrayClass ty).before a0 Z = true) (hty : newarray.typeOf aty = ty) (hn : ¬ n < 0) {cap : Nat} (hcap : n.toNatClampNeg ≤ cap) (hb' : cap * 8 ≤ 536870912) {cells' slots' : Nat} (hc1 : cells + 1 = cells') (hs1 : slots + cap = slots') (hc : cells' ≤ R.cells) (hl : slots' ≤ R.slots) {ad : String} (had : "[" ++ ty.toString = ad)
    (hd : decode bytes pc = .ok (.newarray aty, 2)) (hq : pc + 2 = q) (K : ∀ h' a, a = h.size → Ext h h' → Ar Z h' a ty (List.replicate n.toNatClampNeg (defaultValue ty)) → Exa Z h' a ad → AtW p l e R s m args below meth c n0 Q h' cells' slots' (mkF m q L (.ref a :: S))) : AtW p l e R s m args below meth c n0 Q h cells slots (mkF m pc L (.int n :: S)) := by
  subst hq hc1 hs1 hty
  intro T locs k n' X hk hn' eT N
  obtain ⟨T', h', cA, X', e', E, A, Ex, st⟩ := newPE X C.1 C.2.2.2.1 w eT (g := mkF m pc L (.int n :: S)) rfl (hb C.2.1 hd) rfl hn hcap hb' (by omega) (by omega) had
  have q := nat_of_nonneg hn
  have V := (Arv.new A hn).pad (pad_rep [] (defaultValue (newarray.typeOf aty)) n.toNatClampNeg)
  obtain ⟨t, o, r1, r⟩ := K h' h.size rfl E ⟨by simpa using q.2, cA, by simpa [q.1] using V⟩ Ex T' _ (k + 1) (n' + cap) X' (by omega) (by omega) e' N
  exact ⟨t, o, st _ r1, r⟩
theorem w_clone (C : Cx p s m meth c Z own bytes maxL ret nm) {i : Nat} {a : Addr} {ty : FieldType} {ad : String} {vs : List Value} (w1 : (Jvm.Cond.methodLink own i ⟨ad, "clone", "()Ljava/lang/Object;"⟩).before a0 Z = true) (w2 : (Jvm.Cond.sameMethod ad "java/lang/Object" "clone" "()Ljava/lang/Object;").before a0 Z = true) (w3 : (Jvm.Cond.native ⟨"java/lang/Object", "clone", "()Ljava/lang/Object;"⟩).before a0 Z = true) (w4 : (Jvm.Cond.instanceMethod ⟨"java/lang/Object", "clone", "()Ljava/lang/Object;"⟩).before a0 Z = true)
    (w5 : (Jvm.Cond.selects ad ⟨ad, "clone", "()Ljava/lang/Object;"⟩ ⟨"java/lang/Object", "clone", "()Ljava/lang/Object;"⟩).before a0 Z = true) (w6 : (Jvm.Cond.castable ad "java/lang/Cloneable").before a0 Z = true) (A : Ar Z h a ty vs) (E : Exa Z h a ad) (hL : L.size = maxL) (hf : 1 ≤ R.frames) {W cap : Nat} (hW : (S.map fun v => v.category).sum ≤ W) (hlo : W + 14 ≤ R.locals) (hcap : vs.length ≤ cap)
    {cells' slots' : Nat} (hc1 : cells + 1 = cells') (hs1 : slots + cap = slots') (hc : cells' ≤ R.cells) (hl : slots' ≤ R.slots) (hd : decode bytes pc = .ok (.invokevirtual i, 3)) (hq : pc + 3 = q) (K : ∀ h' b, b = h.size → Ext h h' → Ar Z h' b ty vs → Exa Z h' b ad → AtW p l e R s m args below meth c n0 Q h' cells' slots' (mkF m q L (.ref b :: S))) : AtW p l e R s m args below meth c n0 Q h cells slots (mkF m pc L (.ref a :: S)) := by
  subst hq hc1 hs1
  intro T locs k n' X hk hn' eT N
  obtain ⟨la, ka, VA⟩ := A
  obtain ⟨T', h', X', e', E', V', Ex, st⟩ := cloneH X C.1 C.2.2.2.1 C.2.2.2.2.1 w1 w2 w3 w4 w5 w6 eT VA.arh E (g := mkF m pc L (.ref a :: S)) rfl (hL.trans C.2.2.1.symm) rfl (hb C.2.1 hd) hf (W := W) (cap := cap) (by show 2 * 0 + _ ≤ _; omega) hlo (by rw [ofNat_nat la]; exact hcap) (by omega) (by omega)
  have V2 : Arv Z h' h.size ka ty (Int32.ofNat vs.length) vs (defaultValue ty) := by
    obtain ⟨cc, c1, c2, c3, c4, c5, c6⟩ := V'
    exact ⟨cc, c1, c2, c3, c4, c5, c6⟩
  obtain ⟨t, o, r1, r⟩ := K h' h.size rfl E' ⟨la, ka, V2⟩ Ex T' _ (k + 1) (n' + cap) X' (by omega) (by omega) e' N
  exact ⟨t, o, st _ r1, r⟩
theorem own_same {y : MethodName} (hy : y.cls ≠ "java/lang/invoke/MethodHandle" ∧ y.cls ≠ "java/lang/invoke/VarHandle") (w : (Jvm.Cond.instanceMethod y).before a0 Z = true) (ni : NI Z y.cls) : (Jvm.Cond.sameMethod y.cls y.cls y.name y.desc).before a0 Z = true := by
  obtain ⟨mk, methM, hnamed, -, -, -⟩ := Cond.instanceMethod_spec w
  have hf := State.methodFound?_of_named hnamed hy
  obtain ⟨c, k, hc, hk, hi⟩ := ni
  have hn2 : Z.methodNamed? ⟨y.cls, y.name, y.desc⟩ = some mk := hnamed
  simp [Cond.before, Cond.holds, Cond.value, hc, hf, hn2, hk, hi]
theorem w_callU (C : Cx p s m meth c Z own bytes maxL ret nm) {y : MethodName} {Cl : String} {i : Nat} {a : Addr} {argsL : List Value} {bytesY : ByteArray} {maxY : Nat} {retY : Option FieldType} {rm : Room} {Qy : Option Value → Heap → Prop} (E : Exa Z h a Cl) (w1 : (Jvm.Cond.methodLink own i y).before a0 Z = true) (w4 : (Jvm.Cond.instanceMethod y).before a0 Z = true) (ni : NI Z y.cls) (w5 : (Jvm.Cond.superclass own y.cls).before a0 Z = true) (wz : (Jvm.Cond.initialized y.cls).before a0 Z = true) (wc : (Jvm.Cond.code y bytesY maxY retY).before a0 Z = true) (hnn : y.name ≠ "<init>")
    (hy : y.cls ≠ "java/lang/invoke/MethodHandle" ∧ y.cls ≠ "java/lang/invoke/VarHandle") (ct : Ct [] l Z n0 y bytesY maxY retY rm (.ref a :: argsL).toArray h Qy) {S' : List Value} (hS : S' = argsL.reverse ++ .ref a :: S) (hlen : ∀ sig, parseMethodDescriptor y.desc = some sig → argsL.length = sig.parameters.length) (hL : L.size = maxL) (hf : rm.frames + 1 ≤ R.frames) {W : Nat} (hW : (S.map fun v => v.category).sum ≤ W) (hlo : W + (maxY + 11) + rm.locals ≤ R.locals) {cells' slots' : Nat} (hc1 : cells + rm.cells = cells') (hs1 : slots + rm.slots = slots') (hc : cells' ≤ R.cells) (hl : slots' ≤ R.slots)
    (hd : decode bytes pc = .ok (.invokespecial i, 3)) (hq : pc + 3 = q) (K : ∀ v h', Qy v h' → AtW p l e R s m args below meth c n0 Q h' cells' slots' (mkF m q L (v.toList ++ S))) : AtW p l e R s m args below meth c n0 Q h cells slots (mkF m pc L S') := by
  subst hq hc1 hs1
  intro T locs k n' X hk hn' eT N
  obtain ⟨v, _, ⟨T', L', k', n''⟩, -, X', ⟨Lc, hQ, hl', hc', hs'⟩, st⟩ := superBack X C.1 C.2.2.2.1 (y := y) C.2.2.2.2.1 w1 (own_same hy w4 ni) w4 w5 hnn (backOf (W := W) (Q := fun v h L => Fr n0 L ∧ Qy v h) ct C.2.2.2.1 wc wz hf hlo) eT (Ins.self E) (g := mkF m pc L S') rfl (hL.trans C.2.2.1.symm) wc (argsL := argsL) (rest := S) hlen hS (by show 2 * 0 + _ ≤ _; omega) (hb C.2.1 hd) (fun _ _ => ⟨rfl, eT, (by show k + _ ≤ _; omega), (by show n' + _ ≤ _; omega)⟩)
  dsimp only [Pt.U, Pt.locs, Pt.cells, Pt.slots] at X' hl' hc' hs' st hQ
  subst hl' hc' hs'
  obtain ⟨t, o, r1, r⟩ := K v T'.heap hQ.2 T' _ _ _ X' (by omega) (by omega) rfl (Fr.app N hQ.1)
  exact ⟨t, o, st.trans r1, r⟩
end WkSb

theorem own_sub {a b : Nat} (h : b ≤ a) : Int32.ofNat a - Int32.ofNat b = Int32.ofNat (a - b) := by
  have e : Int32.ofNat a = Int32.ofNat (a - b) + Int32.ofNat b := by rw [← Int32.ofNat_add]; congr 1; omega
  rw [e, Int32.add_sub_cancel]
theorem own_add (a b : Nat) : Int32.ofNat a + Int32.ofNat b = Int32.ofNat (a + b) := (Int32.ofNat_add a b).symm
theorem own_shl0 (x : Int32) : x <<< ((0 : Int32) &&& 31) = x := by
  have h := c_ishl x 0 0 (by decide)
  have r1 := rng32 x
  have r2 := rng32 (x <<< ((0 : Int32) &&& 31))
  rw [own_eq]; simp only [Nat.pow_zero] at h; omega
theorem own_bs_app (cs ds : List Int32) : own_bs (cs ++ ds) = own_bs cs ++ own_bs ds := by simp [own_bs]
theorem L1.app {cs ds : List Int32} (h : L1 cs) (g : L1 ds) : L1 (cs ++ ds) := fun c hc => (List.mem_append.mp hc).elim (h c) (g c)
/-- a StringBuilder at b over the byte[] t: it spells cs (Latin-1), its room is cap -/
def Sb (Z : State) (h : Heap) (b t : Addr) (cs : List Int32) (cap : Nat) : Prop := Exa Z h b "java/lang/StringBuilder" ∧ L1 cs ∧ cs.length ≤ cap ∧ Fld Z h b "java/lang/AbstractStringBuilder" "coder" "B" (.int (0 : Int32)) ∧ Fld Z h b "java/lang/AbstractStringBuilder" "count" "I" (.int (Int32.ofNat cs.length)) ∧ Fld Z h b "java/lang/AbstractStringBuilder" "value" "[B" (.ref t) ∧ Exa Z h t "[B" ∧ Ar Z h t .byte (own_bs cs ++ List.replicate (cap - cs.length) (Value.int (0 : Int32)))
theorem Sb_k0 {Z : State} {h h' : Heap} {b t : Addr} {cs : List Int32} {cap : Nat} (F : Sb Z h b t cs cap) (K : Keep h h' []) : Sb Z h' b t cs cap := by
  obtain ⟨E, hr, hl, f1, f2, f3, E2, A⟩ := F
  exact ⟨E.keep K, hr, hl, f1.keep K nin0, f2.keep K nin0, f3.keep K nin0, E2.keep K, A.keep K nin0⟩
theorem Sb.capl {Z : State} {h : Heap} {b t : Addr} {cs : List Int32} {cap : Nat} (F : Sb Z h b t cs cap) : cap < 2 ^ 31 := by
  obtain ⟨-, -, hl, -, -, -, -, A⟩ := F
  have := A.1
  rw [List.length_append, own_bs_len, List.length_replicate] at this
  omega
theorem Sb.tlt {Z : State} {h : Heap} {b t : Addr} {cs : List Int32} {cap : Nat} (F : Sb Z h b t cs cap) : t < h.size := F.2.2.2.2.2.2.1.lt
theorem Sb.ne {Z : State} {h : Heap} {b t : Addr} {cs : List Int32} {cap : Nat} (F : Sb Z h b t cs cap) : b ≠ t := ne_exa F.1 F.2.2.2.2.2.2.1 (by decide)
/-- the appended bytes behind the first ones -/
theorem own_appd (cs ds : List Int32) (cap : Nat) (h : cs.length + ds.length ≤ cap) : (own_bs cs ++ List.replicate (cap - cs.length) (Value.int (0 : Int32))).take cs.length ++ own_bs ds ++ (own_bs cs ++ List.replicate (cap - cs.length) (Value.int (0 : Int32))).drop (cs.length + ds.length) = own_bs (cs ++ ds) ++ List.replicate (cap - (cs ++ ds).length) (Value.int (0 : Int32)) := by
  have h1 : (own_bs cs).length = cs.length := own_bs_len cs
  rw [List.take_left' h1, List.drop_append, h1, List.drop_eq_nil_of_le (by omega), List.nil_append, List.drop_replicate, own_bs_app, List.length_append]
  congr 2; omega

theorem d20_0 : decode jdk_42_method_152_code 0 = .ok (.getstatic 38, 3) := by decide +kernel
theorem d20_3 : decode jdk_42_method_152_code 3 = .ok (.ifCond .eq 10, 3) := by decide +kernel
theorem d20_6 : decode jdk_42_method_152_code 6 = .ok (.aload_n 0, 1) := by decide +kernel
theorem d20_7 : decode jdk_42_method_152_code 7 = .ok (.getfield 15, 3) := by decide +kernel
theorem d20_10 : decode jdk_42_method_152_code 10 = .ok (.goto 4, 3) := by decide +kernel
theorem d20_13 : decode jdk_42_method_152_code 13 = .ok (.iconst 1, 1) := by decide +kernel
theorem d20_14 : decode jdk_42_method_152_code 14 = .ok (.ireturn, 1) := by decide +kernel
theorem pf20 : plainFor (⟨"java/lang/String", "coder", "()B"⟩ : MethodName) = true := by first | exact plainFor_of_name (by first | (simp [plainName, overriddenIn]; done) | decide +kernel) | decide +kernel
theorem ef_coder (m : MethodId) (z0 : Addr) : entryFrame m #[(.ref z0)] 1 = mkF m 0 #[.val (.ref z0)] [] := by first | rfl | (simp [entryFrame, mkF, argsToLocals, Value.category, *]; done) | rfl
set_option maxRecDepth 65536 in
set_option maxHeartbeats 40000000 in
theorem rm_coder {l : Launch} {Z : State} {a0 : Array Value} {n0 : Nat} (G : Gl Z a0 n0) {h0 : Heap} (O : Old Z n0 h0) (a : Addr) (cs : List Int32) (S : Str Z h0 a cs) :
    Ct [] l Z n0 (⟨"java/lang/String", "coder", "()B"⟩ : MethodName) jdk_42_method_152_code 1 (some .byte) ({ frames := 0, cells := 0, slots := 0, locals := 0 } : Room) #[(.ref a)] h0 (fun v h => h = h0 ∧ v = some (.int 0)) := by
  refine Ct.intro pf20 ?_
  intro p e s m below meth c C
  refine AtW.cast ?_ (ef_coder m a)
  obtain ⟨E, hr, t, FC, FV, A⟩ := id S
  obtain ⟨zc, SC, hzc⟩ := G.cs
  refine w_getS (q := 3) (host := "") C (Or.inl (G.1 _ (List.mem_of_getElem? (i := 18) rfl))) Via.refl (SC.ext O.2) d20_0 rfl ?_
  refine w_if_eq_f (q := 6) C d20_3 rfl hzc ?_
  refine w_aloadN (q := 7) C rfl rfl d20_6 rfl ?_
  refine w_getF (q := 10) (host := "") C (Or.inl (G.1 _ (List.mem_of_getElem? (i := 30) rfl))) Via.refl FC d20_7 rfl ?_
  refine w_goto (q := 14) C d20_10 (by decide) (by decide) ?_
  exact w_retZ (z := (0 : Int32)) C (t := .byte) rfl (by simp) (by decide) d20_14 (by decide) (by decide) ⟨rfl, rfl⟩
theorem d19_0 : decode jdk_42_method_54_code 0 = .ok (.aload_n 0, 1) := by decide +kernel
theorem d19_1 : decode jdk_42_method_54_code 1 = .ok (.getfield 9, 3) := by decide +kernel
theorem d19_4 : decode jdk_42_method_54_code 4 = .ok (.arraylength, 1) := by decide +kernel
theorem d19_5 : decode jdk_42_method_54_code 5 = .ok (.aload_n 0, 1) := by decide +kernel
theorem d19_6 : decode jdk_42_method_54_code 6 = .ok (.invokevirtual 335, 3) := by decide +kernel
theorem d19_9 : decode jdk_42_method_54_code 9 = .ok (.ishr, 1) := by decide +kernel
theorem d19_10 : decode jdk_42_method_54_code 10 = .ok (.ireturn, 1) := by decide +kernel
theorem pf19 : plainFor (⟨"java/lang/String", "length", "()I"⟩ : MethodName) = true := by first | exact plainFor_of_name (by first | (simp [plainName, overriddenIn]; done) | decide +kernel) | decide +kernel
theorem ef_length (m : MethodId) (z0 : Addr) : entryFrame m #[(.ref z0)] 1 = mkF m 0 #[.val (.ref z0)] [] := by first | rfl | (simp [entryFrame, mkF, argsToLocals, Value.category, *]; done) | rfl
set_option maxRecDepth 65536 in
set_option maxHeartbeats 40000000 in
theorem rm_length {l : Launch} {Z : State} {a0 : Array Value} {n0 : Nat} (G : Gl Z a0 n0) {h0 : Heap} (O : Old Z n0 h0) (a : Addr) (cs : List Int32) (S : Str Z h0 a cs) :
    Ct [] l Z n0 (⟨"java/lang/String", "length", "()I"⟩ : MethodName) jdk_42_method_54_code 1 (some .int) ({ frames := 1, cells := 0, slots := 0, locals := 13 } : Room) #[(.ref a)] h0 (fun v h => h = h0 ∧ v = some (.int (Int32.ofNat cs.length))) := by
  refine Ct.intro pf19 ?_
  intro p e s m below meth c C
  refine AtW.cast ?_ (ef_length m a)
  obtain ⟨E, hr, t, FC, FV, A⟩ := id S
  refine w_aloadN (q := 1) C rfl rfl d19_0 rfl ?_
  refine w_getF (q := 4) (host := "") C (Or.inl (G.1 _ (List.mem_of_getElem? (i := 32) rfl))) Via.refl FV d19_1 rfl ?_
  refine w_len (q := 5) (z := (Int32.ofNat cs.length)) C A (by rw [own_bs_len]) d19_4 rfl ?_
  refine w_aloadN (q := 6) C rfl rfl d19_5 rfl ?_
  refine w_callV (q := 9) (argsL := []) (S := [(.int (Int32.ofNat cs.length))]) (W := 1) (cells' := 0) (slots' := 0) (a := a) C E (G.1 _ (List.mem_of_getElem? (i := 85) rfl)) (G.1 _ (List.mem_of_getElem? (i := 86) rfl)) (w_nf C (G.1 _ (List.mem_of_getElem? (i := 88) rfl))) (G.1 _ (List.mem_of_getElem? (i := 88) rfl)) (G.1 _ (List.mem_of_getElem? (i := 87) rfl)) (G.1 _ (List.mem_of_getElem? (i := 6) rfl)) (G.1 _ (List.mem_of_getElem? (i := 89) rfl)) (by decide) (rm_coder G O a cs S) rfl (lenOf pd_20 rfl) rfl (by decide) (own_leb rfl) (by decide) rfl rfl (by decide) (by decide) d19_6 rfl ?_
  rintro _ h1 ⟨eh2, rfl⟩
  rw [eh2]
  show AtW p l e _ s m _ below meth c n0 _ h0 0 0 (mkF m 9 #[.val (.ref a)] [(.int (0 : Int32)), (.int (Int32.ofNat cs.length))])
  refine w_ishr (q := 10) C rfl d19_9 rfl ?_
  rw [show ((Int32.ofNat cs.length) >>> ((0 : Int32) &&& 31)) = (Int32.ofNat cs.length) from own_shr0 _]
  exact w_retI C rfl d19_10 (by decide) (by decide) ⟨rfl, rfl⟩
theorem d18_0 : decode jdk_42_method_154_code 0 = .ok (.getstatic 38, 3) := by decide +kernel
theorem d18_3 : decode jdk_42_method_154_code 3 = .ok (.ifCond .eq 14, 3) := by decide +kernel
theorem d18_6 : decode jdk_42_method_154_code 6 = .ok (.aload_n 0, 1) := by decide +kernel
theorem d18_7 : decode jdk_42_method_154_code 7 = .ok (.getfield 15, 3) := by decide +kernel
theorem d18_10 : decode jdk_42_method_154_code 10 = .ok (.ifCond .ne 7, 3) := by decide +kernel
theorem d18_13 : decode jdk_42_method_154_code 13 = .ok (.iconst 1, 1) := by decide +kernel
theorem d18_14 : decode jdk_42_method_154_code 14 = .ok (.goto 4, 3) := by decide +kernel
theorem d18_17 : decode jdk_42_method_154_code 17 = .ok (.iconst 0, 1) := by decide +kernel
theorem d18_18 : decode jdk_42_method_154_code 18 = .ok (.ireturn, 1) := by decide +kernel
theorem pf18 : plainFor (⟨"java/lang/String", "isLatin1", "()Z"⟩ : MethodName) = true := by first | exact plainFor_of_name (by first | (simp [plainName, overriddenIn]; done) | decide +kernel) | decide +kernel
theorem ef_isLatin1 (m : MethodId) (z0 : Addr) : entryFrame m #[(.ref z0)] 1 = mkF m 0 #[.val (.ref z0)] [] := by first | rfl | (simp [entryFrame, mkF, argsToLocals, Value.category, *]; done) | rfl
set_option maxRecDepth 65536 in
set_option maxHeartbeats 40000000 in
theorem rm_isLatin1 {l : Launch} {Z : State} {a0 : Array Value} {n0 : Nat} (G : Gl Z a0 n0) {h0 : Heap} (O : Old Z n0 h0) (a : Addr) (cs : List Int32) (S : Str Z h0 a cs) :
    Ct [] l Z n0 (⟨"java/lang/String", "isLatin1", "()Z"⟩ : MethodName) jdk_42_method_154_code 1 (some .boolean) ({ frames := 0, cells := 0, slots := 0, locals := 0 } : Room) #[(.ref a)] h0 (fun v h => h = h0 ∧ v = some (.int 1)) := by
  refine Ct.intro pf18 ?_
  intro p e s m below meth c C
  refine AtW.cast ?_ (ef_isLatin1 m a)
  obtain ⟨E, hr, t, FC, FV, A⟩ := id S
  obtain ⟨zc, SC, hzc⟩ := G.cs
  refine w_getS (q := 3) (host := "") C (Or.inl (G.1 _ (List.mem_of_getElem? (i := 18) rfl))) Via.refl (SC.ext O.2) d18_0 rfl ?_
  refine w_if_eq_f (q := 6) C d18_3 rfl hzc ?_
  refine w_aloadN (q := 7) C rfl rfl d18_6 rfl ?_
  refine w_getF (q := 10) (host := "") C (Or.inl (G.1 _ (List.mem_of_getElem? (i := 30) rfl))) Via.refl FC d18_7 rfl ?_
  refine w_if_ne_f (q := 13) C d18_10 rfl (by decide) ?_
  refine w_iconst (q := 14) (v := (1 : Int32)) C (by rfl) d18_13 rfl ?_
  refine w_goto (q := 18) C d18_14 (by decide) (by decide) ?_
  exact w_retZ (z := (1 : Int32)) C (t := .boolean) rfl (by simp) (by decide) d18_18 (by decide) (by decide) ⟨rfl, rfl⟩
theorem d54_0 : decode jdk_41_method_11_code 0 = .ok (.iload_n 0, 1) := by decide +kernel
theorem d54_1 : decode jdk_41_method_11_code 1 = .ok (.ifCond .lt 8, 3) := by decide +kernel
theorem d54_4 : decode jdk_41_method_11_code 4 = .ok (.iload_n 0, 1) := by decide +kernel
theorem d54_5 : decode jdk_41_method_11_code 5 = .ok (.iload_n 1, 1) := by decide +kernel
theorem d54_6 : decode jdk_41_method_11_code 6 = .ok (.if_icmp .lt 10, 3) := by decide +kernel
theorem d54_9 : decode jdk_41_method_11_code 9 = .ok (.aload_n 2, 1) := by decide +kernel
theorem d54_10 : decode jdk_41_method_11_code 10 = .ok (.iload_n 0, 1) := by decide +kernel
theorem d54_11 : decode jdk_41_method_11_code 11 = .ok (.iload_n 1, 1) := by decide +kernel
theorem d54_12 : decode jdk_41_method_11_code 12 = .ok (.invokestatic 95, 3) := by decide +kernel
theorem d54_15 : decode jdk_41_method_11_code 15 = .ok (.athrow, 1) := by decide +kernel
theorem d54_16 : decode jdk_41_method_11_code 16 = .ok (.iload_n 0, 1) := by decide +kernel
theorem d54_17 : decode jdk_41_method_11_code 17 = .ok (.ireturn, 1) := by decide +kernel
theorem pf54 : plainFor (⟨"jdk/internal/util/Preconditions", "checkIndex", "(IILjava/util/function/BiFunction;)I"⟩ : MethodName) = true := by first | exact plainFor_of_name (by first | (simp [plainName, overriddenIn]; done) | decide +kernel) | decide +kernel
theorem ef_pcheck (m : MethodId) (z0 : Int32) (z1 : Int32) (z2 : Value) (cz2 : z2.category = 1) : entryFrame m #[(.int z0), (.int z1), z2] 3 = mkF m 0 #[.val (.int z0), .val (.int z1), .val z2] [] := by cases z2 <;> first | (simp [Value.category] at cz2; done) | first | rfl | (simp [entryFrame, mkF, argsToLocals, Value.category, *]; done) | rfl
set_option maxRecDepth 65536 in
set_option maxHeartbeats 40000000 in
theorem rm_pcheck {l : Launch} {Z : State} {a0 : Array Value} {n0 : Nat} (G : Gl Z a0 n0) {h0 : Heap} (O : Old Z n0 h0) (x : Int32) (y : Int32) (f : Value) (hf : f.isRef = true) (hfc : f.category = 1) (hx : ¬ x < 0) (hxy : x < y) :
    Ct [] l Z n0 (⟨"jdk/internal/util/Preconditions", "checkIndex", "(IILjava/util/function/BiFunction;)I"⟩ : MethodName) jdk_41_method_11_code 3 (some .int) ({ frames := 0, cells := 0, slots := 0, locals := 0 } : Room) #[(.int x), (.int y), f] h0 (fun v h => h = h0 ∧ v = some (.int x)) := by
  refine Ct.intro pf54 ?_
  intro p e s m below meth c C
  refine AtW.cast ?_ (ef_pcheck m x y f (by assumption))
  refine w_iloadN (q := 1) C rfl d54_0 rfl ?_
  refine w_if_lt_f (q := 4) C d54_1 rfl hx ?_
  refine w_iloadN (q := 5) C rfl d54_4 rfl ?_
  refine w_iloadN (q := 6) C rfl d54_5 rfl ?_
  refine w_icmp_lt_t (q := 16) C d54_6 (by decide) (by decide) hxy ?_
  refine w_iloadN (q := 17) C rfl d54_16 rfl ?_
  exact w_retI C rfl d54_17 (by decide) (by decide) ⟨rfl, rfl⟩
theorem d53_0 : decode jdk_42_method_155_code 0 = .ok (.iload_n 0, 1) := by decide +kernel
theorem d53_1 : decode jdk_42_method_155_code 1 = .ok (.iload_n 1, 1) := by decide +kernel
theorem d53_2 : decode jdk_42_method_155_code 2 = .ok (.getstatic 1053, 3) := by decide +kernel
theorem d53_5 : decode jdk_42_method_155_code 5 = .ok (.invokestatic 1059, 3) := by decide +kernel
theorem d53_8 : decode jdk_42_method_155_code 8 = .ok (.pop, 1) := by decide +kernel
theorem d53_9 : decode jdk_42_method_155_code 9 = .ok (.return_, 1) := by decide +kernel
theorem pf53 : plainFor (⟨"java/lang/String", "checkIndex", "(II)V"⟩ : MethodName) = true := by first | exact plainFor_of_name (by first | (simp [plainName, overriddenIn]; done) | decide +kernel) | decide +kernel
theorem ef_scheck (m : MethodId) (z0 : Int32) (z1 : Int32) : entryFrame m #[(.int z0), (.int z1)] 2 = mkF m 0 #[.val (.int z0), .val (.int z1)] [] := by first | rfl | (simp [entryFrame, mkF, argsToLocals, Value.category, *]; done) | rfl
set_option maxRecDepth 65536 in
set_option maxHeartbeats 40000000 in
theorem rm_scheck {l : Launch} {Z : State} {a0 : Array Value} {n0 : Nat} (G : Gl Z a0 n0) {h0 : Heap} (O : Old Z n0 h0) (x : Int32) (y : Int32) (hx : ¬ x < 0) (hxy : x < y) :
    Ct [] l Z n0 (⟨"java/lang/String", "checkIndex", "(II)V"⟩ : MethodName) jdk_42_method_155_code 2 none ({ frames := 1, cells := 0, slots := 0, locals := 14 } : Room) #[(.int x), (.int y)] h0 (fun v h => h = h0 ∧ v = none) := by
  refine Ct.intro pf53 ?_
  intro p e s m below meth c C
  refine AtW.cast ?_ (ef_scheck m x y)
  obtain ⟨f, Sf, hf, hfc⟩ := G.fm
  refine w_iloadN (q := 1) C rfl d53_0 rfl ?_
  refine w_iloadN (q := 2) C rfl d53_1 rfl ?_
  refine w_getS (q := 5) (host := "") C (Or.inl (G.1 _ (List.mem_of_getElem? (i := 258) rfl))) Via.refl (Sf.ext O.2) d53_2 rfl ?_
  refine w_callS (q := 8) (argsL := [(.int x), (.int y), f]) (S := []) (W := 0) (cells' := 0) (slots' := 0) C (G.1 _ (List.mem_of_getElem? (i := 260) rfl)) (G.1 _ (List.mem_of_getElem? (i := 261) rfl)) (G.1 _ (List.mem_of_getElem? (i := 259) rfl)) (G.1 _ (List.mem_of_getElem? (i := 262) rfl)) (by decide) (rm_pcheck G O x y f hf hfc hx hxy) rfl (lenOf pd_41 rfl) rfl (by decide) (own_leb rfl) (by decide) rfl rfl (by decide) (by decide) d53_5 rfl ?_
  rintro _ h3 ⟨eh4, rfl⟩
  rw [eh4]
  show AtW p l e _ s m _ below meth c n0 _ h0 0 0 (mkF m 8 #[.val (.int x), .val (.int y)] [(.int x)])
  refine w_pop (q := 9) C rfl d53_8 rfl ?_
  exact w_retV C rfl d53_9 (by decide) (by decide) ⟨rfl, rfl⟩
theorem d52_0 : decode jdk_43_method_2_code 0 = .ok (.iload_n 1, 1) := by decide +kernel
theorem d52_1 : decode jdk_43_method_2_code 1 = .ok (.aload_n 0, 1) := by decide +kernel
theorem d52_2 : decode jdk_43_method_2_code 2 = .ok (.arraylength, 1) := by decide +kernel
theorem d52_3 : decode jdk_43_method_2_code 3 = .ok (.invokestatic 9, 3) := by decide +kernel
theorem d52_6 : decode jdk_43_method_2_code 6 = .ok (.aload_n 0, 1) := by decide +kernel
theorem d52_7 : decode jdk_43_method_2_code 7 = .ok (.iload_n 1, 1) := by decide +kernel
theorem d52_8 : decode jdk_43_method_2_code 8 = .ok (.baload, 1) := by decide +kernel
theorem d52_9 : decode jdk_43_method_2_code 9 = .ok (.sipush 255, 3) := by decide +kernel
theorem d52_12 : decode jdk_43_method_2_code 12 = .ok (.iand, 1) := by decide +kernel
theorem d52_13 : decode jdk_43_method_2_code 13 = .ok (.i2c, 1) := by decide +kernel
theorem d52_14 : decode jdk_43_method_2_code 14 = .ok (.ireturn, 1) := by decide +kernel
theorem pf52 : plainFor (⟨"java/lang/StringLatin1", "charAt", "([BI)C"⟩ : MethodName) = true := by first | exact plainFor_of_name (by first | (simp [plainName, overriddenIn]; done) | decide +kernel) | decide +kernel
theorem ef_charAtL (m : MethodId) (z0 : Addr) (z1 : Int32) : entryFrame m #[(.ref z0), (.int z1)] 2 = mkF m 0 #[.val (.ref z0), .val (.int z1)] [] := by first | rfl | (simp [entryFrame, mkF, argsToLocals, Value.category, *]; done) | rfl
set_option maxRecDepth 65536 in
set_option maxHeartbeats 40000000 in
theorem rm_charAtL {l : Launch} {Z : State} {a0 : Array Value} {n0 : Nat} (G : Gl Z a0 n0) {h0 : Heap} (O : Old Z n0 h0) (t : Addr) (cs : List Int32) (i : Nat) (ch : Int32) (A : Ar Z h0 t .byte (own_bs cs)) (hr : L1 cs) (hi : cs[i]? = some ch) :
    Ct [] l Z n0 (⟨"java/lang/StringLatin1", "charAt", "([BI)C"⟩ : MethodName) jdk_43_method_2_code 2 (some .char) ({ frames := 2, cells := 0, slots := 0, locals := 27 } : Room) #[(.ref t), (.int (Int32.ofNat i))] h0 (fun v h => h = h0 ∧ v = some (.int ch)) := by
  refine Ct.intro pf52 ?_
  intro p e s m below meth c C
  refine AtW.cast ?_ (ef_charAtL m t (Int32.ofNat i))
  have hl := A.1
  rw [own_bs_len] at hl
  have hil : i < cs.length := (List.getElem?_eq_some_iff.mp hi).1
  have hc := hr.get hi
  refine w_iloadN (q := 1) C rfl d52_0 rfl ?_
  refine w_aloadN (q := 2) C rfl rfl d52_1 rfl ?_
  refine w_len (q := 3) (z := (Int32.ofNat cs.length)) C A (by rw [own_bs_len]) d52_2 rfl ?_
  refine w_callS (q := 6) (argsL := [(.int (Int32.ofNat i)), (.int (Int32.ofNat cs.length))]) (S := []) (W := 0) (cells' := 0) (slots' := 0) C (G.1 _ (List.mem_of_getElem? (i := 255) rfl)) (G.1 _ (List.mem_of_getElem? (i := 256) rfl)) (G.1 _ (List.mem_of_getElem? (i := 6) rfl)) (G.1 _ (List.mem_of_getElem? (i := 257) rfl)) (by decide) (rm_scheck G O _ _ (ofNat_neg (by omega)) ((own_nlt (by omega) hl).mpr hil)) rfl (lenOf pd_37 rfl) rfl (by decide) (own_leb rfl) (by decide) rfl rfl (by decide) (by decide) d52_3 rfl ?_
  rintro _ h5 ⟨eh6, rfl⟩
  rw [eh6]
  show AtW p l e _ s m _ below meth c n0 _ h0 0 0 (mkF m 6 #[.val (.ref t), .val (.int (Int32.ofNat i))] [])
  refine w_aloadN (q := 7) C rfl rfl d52_6 rfl ?_
  refine w_iloadN (q := 8) C rfl d52_7 rfl ?_
  refine w_baload (q := 9) (i := i) (v := (.int ch.toInt8.toInt32)) C A rfl (own_bs_get hi) d52_8 rfl ?_
  refine w_sipush (q := 12) (v := (255 : Int32)) C (by rfl) d52_9 rfl ?_
  refine w_iand (q := 13) C rfl d52_12 rfl ?_
  refine w_i2c (q := 14) C rfl d52_13 rfl ?_
  rw [show ((ch.toInt8.toInt32 &&& (255 : Int32)).toUInt32.toUInt16.toUInt32.toInt32) = ch from own_lo8 hc.1 hc.2]
  exact w_retZ (z := ch) C (t := .char) rfl (by simp) (own_nar hc.1 hc.2) d52_14 (by decide) (by decide) ⟨rfl, rfl⟩
theorem d51_0 : decode jdk_42_method_56_code 0 = .ok (.aload_n 0, 1) := by decide +kernel
theorem d51_1 : decode jdk_42_method_56_code 1 = .ok (.invokevirtual 492, 3) := by decide +kernel
theorem d51_4 : decode jdk_42_method_56_code 4 = .ok (.ifCond .eq 12, 3) := by decide +kernel
theorem d51_7 : decode jdk_42_method_56_code 7 = .ok (.aload_n 0, 1) := by decide +kernel
theorem d51_8 : decode jdk_42_method_56_code 8 = .ok (.getfield 9, 3) := by decide +kernel
theorem d51_11 : decode jdk_42_method_56_code 11 = .ok (.iload_n 1, 1) := by decide +kernel
theorem d51_12 : decode jdk_42_method_56_code 12 = .ok (.invokestatic 495, 3) := by decide +kernel
theorem d51_15 : decode jdk_42_method_56_code 15 = .ok (.ireturn, 1) := by decide +kernel
theorem d51_16 : decode jdk_42_method_56_code 16 = .ok (.aload_n 0, 1) := by decide +kernel
theorem d51_17 : decode jdk_42_method_56_code 17 = .ok (.getfield 9, 3) := by decide +kernel
theorem d51_20 : decode jdk_42_method_56_code 20 = .ok (.iload_n 1, 1) := by decide +kernel
theorem d51_21 : decode jdk_42_method_56_code 21 = .ok (.invokestatic 498, 3) := by decide +kernel
theorem d51_24 : decode jdk_42_method_56_code 24 = .ok (.ireturn, 1) := by decide +kernel
theorem pf51 : plainFor (⟨"java/lang/String", "charAt", "(I)C"⟩ : MethodName) = true := by first | exact plainFor_of_name (by first | (simp [plainName, overriddenIn]; done) | decide +kernel) | decide +kernel
theorem ef_charAt (m : MethodId) (z0 : Addr) (z1 : Int32) : entryFrame m #[(.ref z0), (.int z1)] 2 = mkF m 0 #[.val (.ref z0), .val (.int z1)] [] := by first | rfl | (simp [entryFrame, mkF, argsToLocals, Value.category, *]; done) | rfl
set_option maxRecDepth 65536 in
set_option maxHeartbeats 40000000 in
theorem rm_charAt {l : Launch} {Z : State} {a0 : Array Value} {n0 : Nat} (G : Gl Z a0 n0) {h0 : Heap} (O : Old Z n0 h0) (a : Addr) (cs : List Int32) (i : Nat) (ch : Int32) (S : Str Z h0 a cs) (hi : cs[i]? = some ch) :
    Ct [] l Z n0 (⟨"java/lang/String", "charAt", "(I)C"⟩ : MethodName) jdk_42_method_56_code 2 (some .char) ({ frames := 3, cells := 0, slots := 0, locals := 40 } : Room) #[(.ref a), (.int (Int32.ofNat i))] h0 (fun v h => h = h0 ∧ v = some (.int ch)) := by
  refine Ct.intro pf51 ?_
  intro p e s m below meth c C
  refine AtW.cast ?_ (ef_charAt m a (Int32.ofNat i))
  obtain ⟨E, hr, t, FC, FV, A⟩ := id S
  have hc := hr.get hi
  refine w_aloadN (q := 1) C rfl rfl d51_0 rfl ?_
  refine w_callV (q := 4) (argsL := []) (S := []) (W := 0) (cells' := 0) (slots' := 0) (a := a) C E (G.1 _ (List.mem_of_getElem? (i := 75) rfl)) (G.1 _ (List.mem_of_getElem? (i := 76) rfl)) (w_nf C (G.1 _ (List.mem_of_getElem? (i := 78) rfl))) (G.1 _ (List.mem_of_getElem? (i := 78) rfl)) (G.1 _ (List.mem_of_getElem? (i := 77) rfl)) (G.1 _ (List.mem_of_getElem? (i := 6) rfl)) (G.1 _ (List.mem_of_getElem? (i := 79) rfl)) (by decide) (rm_isLatin1 G O a cs S) rfl (lenOf pd_18 rfl) rfl (by decide) (own_leb rfl) (by decide) rfl rfl (by decide) (by decide) d51_1 rfl ?_
  rintro _ h7 ⟨eh8, rfl⟩
  rw [eh8]
  show AtW p l e _ s m _ below meth c n0 _ h0 0 0 (mkF m 4 #[.val (.ref a), .val (.int (Int32.ofNat i))] [(.int (1 : Int32))])
  refine w_if_eq_f (q := 7) C d51_4 rfl (by decide) ?_
  refine w_aloadN (q := 8) C rfl rfl d51_7 rfl ?_
  refine w_getF (q := 11) (host := "") C (Or.inl (G.1 _ (List.mem_of_getElem? (i := 32) rfl))) Via.refl FV d51_8 rfl ?_
  refine w_iloadN (q := 12) C rfl d51_11 rfl ?_
  refine w_callS (q := 15) (argsL := [(.ref t), (.int (Int32.ofNat i))]) (S := []) (W := 0) (cells' := 0) (slots' := 0) C (G.1 _ (List.mem_of_getElem? (i := 252) rfl)) (G.1 _ (List.mem_of_getElem? (i := 253) rfl)) (G.1 _ (List.mem_of_getElem? (i := 39) rfl)) (G.1 _ (List.mem_of_getElem? (i := 254) rfl)) (by decide) (rm_charAtL G O t cs i ch A hr hi) rfl (lenOf pd_40 rfl) rfl (by decide) (own_leb rfl) (by decide) rfl rfl (by decide) (by decide) d51_12 rfl ?_
  rintro _ h9 ⟨eh10, rfl⟩
  rw [eh10]
  show AtW p l e _ s m _ below meth c n0 _ h0 0 0 (mkF m 15 #[.val (.ref a), .val (.int (Int32.ofNat i))] [(.int ch)])
  exact w_retZ (z := ch) C (t := .char) rfl (by simp) (own_nar hc.1 hc.2) d51_15 (by decide) (by decide) ⟨rfl, rfl⟩
theorem own_fill (cs : List Int32) (i k : Nat) (c : Int32) (h : cs[i]? = some c) : (own_bs (cs.take i) ++ List.replicate (k + 1) (Value.int (0 : Int32))).set i (.int c.toInt8.toInt32) = own_bs (cs.take (i + 1)) ++ List.replicate k (Value.int (0 : Int32)) := by
  obtain ⟨hi, hg⟩ := List.getElem?_eq_some_iff.mp h
  have hl : (own_bs (cs.take i)).length = i := by rw [own_bs_len, List.length_take]; omega
  rw [List.set_append_right _ _ (by omega), hl, Nat.sub_self, List.replicate_succ, List.set_cons_zero, List.take_add_one, h]
  simp [own_bs]

theorem d6_0 : decode jdk_52_method_21_code 0 = .ok (.iconst 0, 1) := by decide +kernel
theorem d6_1 : decode jdk_52_method_21_code 1 = .ok (.istore 5, 2) := by decide +kernel
theorem d6_3 : decode jdk_52_method_21_code 3 = .ok (.iload 5, 2) := by decide +kernel
theorem d6_5 : decode jdk_52_method_21_code 5 = .ok (.iload 4, 2) := by decide +kernel
theorem d6_7 : decode jdk_52_method_21_code 7 = .ok (.if_icmp .ge 37, 3) := by decide +kernel
theorem d6_10 : decode jdk_52_method_21_code 10 = .ok (.aload_n 0, 1) := by decide +kernel
theorem d6_11 : decode jdk_52_method_21_code 11 = .ok (.iload_n 1, 1) := by decide +kernel
theorem d6_12 : decode jdk_52_method_21_code 12 = .ok (.caload, 1) := by decide +kernel
theorem d6_13 : decode jdk_52_method_21_code 13 = .ok (.istore 6, 2) := by decide +kernel
theorem d6_15 : decode jdk_52_method_21_code 15 = .ok (.iload 6, 2) := by decide +kernel
theorem d6_17 : decode jdk_52_method_21_code 17 = .ok (.sipush 255, 3) := by decide +kernel
theorem d6_20 : decode jdk_52_method_21_code 20 = .ok (.if_icmp .le 6, 3) := by decide +kernel
theorem d6_23 : decode jdk_52_method_21_code 23 = .ok (.iload 5, 2) := by decide +kernel
theorem d6_25 : decode jdk_52_method_21_code 25 = .ok (.ireturn, 1) := by decide +kernel
theorem d6_26 : decode jdk_52_method_21_code 26 = .ok (.aload_n 2, 1) := by decide +kernel
theorem d6_27 : decode jdk_52_method_21_code 27 = .ok (.iload_n 3, 1) := by decide +kernel
theorem d6_28 : decode jdk_52_method_21_code 28 = .ok (.iload 6, 2) := by decide +kernel
theorem d6_30 : decode jdk_52_method_21_code 30 = .ok (.i2b, 1) := by decide +kernel
theorem d6_31 : decode jdk_52_method_21_code 31 = .ok (.bastore, 1) := by decide +kernel
theorem d6_32 : decode jdk_52_method_21_code 32 = .ok (.iinc 1 1, 3) := by decide +kernel
theorem d6_35 : decode jdk_52_method_21_code 35 = .ok (.iinc 3 1, 3) := by decide +kernel
theorem d6_38 : decode jdk_52_method_21_code 38 = .ok (.iinc 5 1, 3) := by decide +kernel
theorem d6_41 : decode jdk_52_method_21_code 41 = .ok (.goto (-38), 3) := by decide +kernel
theorem d6_44 : decode jdk_52_method_21_code 44 = .ok (.iload 4, 2) := by decide +kernel
theorem d6_46 : decode jdk_52_method_21_code 46 = .ok (.ireturn, 1) := by decide +kernel
theorem pf6 : plainFor (⟨"java/lang/StringUTF16", "compress", "([CI[BII)I"⟩ : MethodName) = true := by first | exact plainFor_of_name (by first | (simp [plainName, overriddenIn]; done) | decide +kernel) | decide +kernel
theorem ef_comp5 (m : MethodId) (z0 : Addr) (z1 : Int32) (z2 : Addr) (z3 : Int32) (z4 : Int32) : entryFrame m #[(.ref z0), (.int z1), (.ref z2), (.int z3), (.int z4)] 7 = mkF m 0 #[.val (.ref z0), .val (.int z1), .val (.ref z2), .val (.int z3), .val (.int z4), .unset, .unset] [] := by first | rfl | (simp [entryFrame, mkF, argsToLocals, Value.category, *]; done) | rfl
set_option maxRecDepth 65536 in
set_option maxHeartbeats 40000000 in
theorem rm_comp5 {l : Launch} {Z : State} {a0 : Array Value} {n0 : Nat} (G : Gl Z a0 n0) {h0 : Heap} (O : Old Z n0 h0) (a : Addr) (cs : List Int32) (t : Addr) (A : Ar Z h0 a .char (cs.map Value.int)) (hr : L1 cs) (B : Ar Z h0 t .byte (List.replicate cs.length (Value.int (0 : Int32)))) (hne : a ≠ t) (hge : n0 ≤ t) :
    Ct [] l Z n0 (⟨"java/lang/StringUTF16", "compress", "([CI[BII)I"⟩ : MethodName) jdk_52_method_21_code 7 (some .int) ({ frames := 0, cells := 0, slots := 0, locals := 0 } : Room) #[(.ref a), (.int (0 : Int32)), (.ref t), (.int (0 : Int32)), (.int (Int32.ofNat cs.length))] h0 (fun v h => Keep h0 h [t] ∧ v = some (.int (Int32.ofNat cs.length)) ∧ Ar Z h t .byte (own_bs cs)) := by
  refine Ct.intro pf6 ?_
  intro p e s m below meth c C
  refine AtW.cast ?_ (ef_comp5 m a (0 : Int32) t (0 : Int32) (Int32.ofNat cs.length))
  have hl : cs.length < 2 ^ 31 := by have := A.1; rw [List.length_map] at this; exact this
  have LOOP : ∀ (k i : Nat) (h1 : Heap) (s6 : Slot), i + k = cs.length → One s6 → Keep h0 h1 [t] → Ar Z h1 t .byte (own_bs (cs.take i) ++ List.replicate k (Value.int (0 : Int32))) → AtW p l e ({ frames := 0, cells := 0, slots := 0, locals := 0 } : Room) s m #[(.ref a), (.int (0 : Int32)), (.ref t), (.int (0 : Int32)), (.int (Int32.ofNat cs.length))] below meth c n0 (fun v h => Keep h0 h [t] ∧ v = some (.int (Int32.ofNat cs.length)) ∧ Ar Z h t .byte (own_bs cs)) h1 0 0 (mkF m 3 #[.val (.ref a), .val (.int (Int32.ofNat i)), .val (.ref t), .val (.int (Int32.ofNat i)), .val (.int (Int32.ofNat cs.length)), .val (.int (Int32.ofNat i)), s6] []) := by
    intro k
    induction k with
    | zero =>
      intro i h1 s6 hik hs K V
      obtain rfl : i = cs.length := by omega
      refine w_iload (q := 5) C rfl d6_3 rfl ?_
      refine w_iload (q := 7) C rfl d6_5 rfl ?_
      refine w_icmp_ge_t (q := 44) C d6_7 (by decide) (by decide) (fun q => Nat.lt_irrefl _ ((own_nlt hl hl).mp q)) ?_
      refine w_iload (q := 46) C rfl d6_44 rfl ?_
      exact w_retI C rfl d6_46 (by decide) (by decide) ⟨K, rfl, by simpa using V⟩
    | succ k ih =>
      intro i h1 s6 hik hs K V
      have hil : i < cs.length := by omega
      obtain ⟨ch, hch⟩ : ∃ ch, cs[i]? = some ch := ⟨_, List.getElem?_eq_getElem hil⟩
      have hc := hr.get hch
      refine w_iload (q := 5) C rfl d6_3 rfl ?_
      refine w_iload (q := 7) C rfl d6_5 rfl ?_
      refine w_icmp_ge_f (q := 10) C d6_7 rfl ((own_nlt (by omega) hl).mpr hil) ?_
      refine w_aloadN (q := 11) C rfl rfl d6_10 rfl ?_
      refine w_iloadN (q := 12) C rfl d6_11 rfl ?_
      refine w_caload (q := 13) (i := i) (v := (.int ch)) C (A.keep K (ninS hne nin0)) rfl (by simp [hch]) d6_12 rfl ?_
      refine w_istore (q := 15) (L' := #[.val (.ref a), .val (.int (Int32.ofNat i)), .val (.ref t), .val (.int (Int32.ofNat i)), .val (.int (Int32.ofNat cs.length)), .val (.int (Int32.ofNat i)), .val (.int ch)]) C (Jvm.Free.XS.store1 (o := s6) rfl hs rfl) d6_13 rfl ?_
      refine w_iload (q := 17) C rfl d6_15 rfl ?_
      refine w_sipush (q := 20) (v := (255 : Int32)) C (by rfl) d6_17 rfl ?_
      refine w_icmp_le_t (q := 26) C d6_20 (by decide) (by decide) hc.2 ?_
      refine w_aloadN (q := 27) C rfl rfl d6_26 rfl ?_
      refine w_iloadN (q := 28) C rfl d6_27 rfl ?_
      refine w_iload (q := 30) C rfl d6_28 rfl ?_
      refine w_i2b (q := 31) C rfl d6_30 rfl ?_
      refine w_bastore (q := 32) (z := ch.toInt8.toInt32) (i := i) C (own_nar8 ch) V rfl (by simp [own_bs_len]; omega) hge d6_31 rfl ?_
      intro h11 Wh11 Vh11
      rw [own_fill cs i k ch hch] at Vh11
      refine w_iinc (q := 35) (L' := #[.val (.ref a), .val (.int (Int32.ofNat (i + 1))), .val (.ref t), .val (.int (Int32.ofNat i)), .val (.int (Int32.ofNat cs.length)), .val (.int (Int32.ofNat i)), .val (.int ch)]) C rfl (own_one i) rfl d6_32 rfl ?_
      refine w_iinc (q := 38) (L' := #[.val (.ref a), .val (.int (Int32.ofNat (i + 1))), .val (.ref t), .val (.int (Int32.ofNat (i + 1))), .val (.int (Int32.ofNat cs.length)), .val (.int (Int32.ofNat i)), .val (.int ch)]) C rfl (own_one i) rfl d6_35 rfl ?_
      refine w_iinc (q := 41) (L' := #[.val (.ref a), .val (.int (Int32.ofNat (i + 1))), .val (.ref t), .val (.int (Int32.ofNat (i + 1))), .val (.int (Int32.ofNat cs.length)), .val (.int (Int32.ofNat (i + 1))), .val (.int ch)]) C rfl (own_one i) rfl d6_38 rfl ?_
      refine w_goto (q := 3) C d6_41 (by decide) (by decide) ?_
      exact ih (i + 1) h11 _ (by omega) (One.val rfl) (K.wr Wh11 (Or.inl (List.mem_cons_self ..))) Vh11
  refine w_iconst (q := 1) (v := (0 : Int32)) C (by rfl) d6_0 rfl ?_
  refine w_istore (q := 3) (L' := #[.val (.ref a), .val (.int (0 : Int32)), .val (.ref t), .val (.int (0 : Int32)), .val (.int (Int32.ofNat cs.length)), .val (.int (0 : Int32)), .unset]) C rfl d6_1 rfl ?_
  exact LOOP cs.length 0 h0 .unset (by omega) One.u (Keep.refl _ _) (by simpa [own_bs] using B)
theorem d5_0 : decode jdk_52_method_16_code 0 = .ok (.iload_n 2, 1) := by decide +kernel
theorem d5_1 : decode jdk_52_method_16_code 1 = .ok (.newarray .byte, 2) := by decide +kernel
theorem d5_3 : decode jdk_52_method_16_code 3 = .ok (.astore_n 3, 1) := by decide +kernel
theorem d5_4 : decode jdk_52_method_16_code 4 = .ok (.aload_n 0, 1) := by decide +kernel
theorem d5_5 : decode jdk_52_method_16_code 5 = .ok (.iload_n 1, 1) := by decide +kernel
theorem d5_6 : decode jdk_52_method_16_code 6 = .ok (.aload_n 3, 1) := by decide +kernel
theorem d5_7 : decode jdk_52_method_16_code 7 = .ok (.iconst 0, 1) := by decide +kernel
theorem d5_8 : decode jdk_52_method_16_code 8 = .ok (.iload_n 2, 1) := by decide +kernel
theorem d5_9 : decode jdk_52_method_16_code 9 = .ok (.invokestatic 115, 3) := by decide +kernel
theorem d5_12 : decode jdk_52_method_16_code 12 = .ok (.istore 4, 2) := by decide +kernel
theorem d5_14 : decode jdk_52_method_16_code 14 = .ok (.iload 4, 2) := by decide +kernel
theorem d5_16 : decode jdk_52_method_16_code 16 = .ok (.iload_n 2, 1) := by decide +kernel
theorem d5_17 : decode jdk_52_method_16_code 17 = .ok (.if_icmp .eq 40, 3) := by decide +kernel
theorem d5_20 : decode jdk_52_method_16_code 20 = .ok (.aload_n 0, 1) := by decide +kernel
theorem d5_21 : decode jdk_52_method_16_code 21 = .ok (.iload_n 1, 1) := by decide +kernel
theorem d5_22 : decode jdk_52_method_16_code 22 = .ok (.iload_n 2, 1) := by decide +kernel
theorem d5_23 : decode jdk_52_method_16_code 23 = .ok (.invokestatic 119, 3) := by decide +kernel
theorem d5_26 : decode jdk_52_method_16_code 26 = .ok (.astore 5, 2) := by decide +kernel
theorem d5_28 : decode jdk_52_method_16_code 28 = .ok (.aload 5, 2) := by decide +kernel
theorem d5_30 : decode jdk_52_method_16_code 30 = .ok (.iload 4, 2) := by decide +kernel
theorem d5_32 : decode jdk_52_method_16_code 32 = .ok (.invokestatic 71, 3) := by decide +kernel
theorem d5_35 : decode jdk_52_method_16_code 35 = .ok (.sipush 255, 3) := by decide +kernel
theorem d5_38 : decode jdk_52_method_16_code 38 = .ok (.if_icmp .gt 16, 3) := by decide +kernel
theorem d5_41 : decode jdk_52_method_16_code 41 = .ok (.aload 5, 2) := by decide +kernel
theorem d5_43 : decode jdk_52_method_16_code 43 = .ok (.iconst 0, 1) := by decide +kernel
theorem d5_44 : decode jdk_52_method_16_code 44 = .ok (.aload_n 3, 1) := by decide +kernel
theorem d5_45 : decode jdk_52_method_16_code 45 = .ok (.iconst 0, 1) := by decide +kernel
theorem d5_46 : decode jdk_52_method_16_code 46 = .ok (.iload_n 2, 1) := by decide +kernel
theorem d5_47 : decode jdk_52_method_16_code 47 = .ok (.invokestatic 123, 3) := by decide +kernel
theorem d5_50 : decode jdk_52_method_16_code 50 = .ok (.iload_n 2, 1) := by decide +kernel
theorem d5_51 : decode jdk_52_method_16_code 51 = .ok (.if_icmp .eq 6, 3) := by decide +kernel
theorem d5_54 : decode jdk_52_method_16_code 54 = .ok (.aload 5, 2) := by decide +kernel
theorem d5_56 : decode jdk_52_method_16_code 56 = .ok (.areturn, 1) := by decide +kernel
theorem d5_57 : decode jdk_52_method_16_code 57 = .ok (.aload_n 3, 1) := by decide +kernel
theorem d5_58 : decode jdk_52_method_16_code 58 = .ok (.areturn, 1) := by decide +kernel
theorem pf5 : plainFor (⟨"java/lang/StringUTF16", "compress", "([CII)[B"⟩ : MethodName) = true := by first | exact plainFor_of_name (by first | (simp [plainName, overriddenIn]; done) | decide +kernel) | decide +kernel
theorem ef_comp3 (m : MethodId) (z0 : Addr) (z1 : Int32) (z2 : Int32) : entryFrame m #[(.ref z0), (.int z1), (.int z2)] 6 = mkF m 0 #[.val (.ref z0), .val (.int z1), .val (.int z2), .unset, .unset, .unset] [] := by first | rfl | (simp [entryFrame, mkF, argsToLocals, Value.category, *]; done) | rfl
set_option maxRecDepth 65536 in
set_option maxHeartbeats 40000000 in
theorem rm_comp3 {l : Launch} {Z : State} {a0 : Array Value} {n0 : Nat} (G : Gl Z a0 n0) {h0 : Heap} (O : Old Z n0 h0) (a : Addr) (cs : List Int32) (A : Ar Z h0 a .char (cs.map Value.int)) (hr : L1 cs) (hcap : cs.length ≤ 3) :
    Ct [] l Z n0 (⟨"java/lang/StringUTF16", "compress", "([CII)[B"⟩ : MethodName) jdk_52_method_16_code 6 (some (.array .byte)) ({ frames := 1, cells := 1, slots := 3, locals := 18 } : Room) #[(.ref a), (.int (0 : Int32)), (.int (Int32.ofNat cs.length))] h0 (fun v h => Keep h0 h [] ∧ ∃ t, v = some (.ref t) ∧ h0.size ≤ t ∧ Ar Z h t .byte (own_bs cs)) := by
  refine Ct.intro pf5 ?_
  intro p e s m below meth c C
  refine AtW.cast ?_ (ef_comp3 m a (0 : Int32) (Int32.ofNat cs.length))
  have hl : cs.length < 2 ^ 31 := by omega
  refine w_iloadN (q := 1) C rfl d5_0 rfl ?_
  refine w_newArr (q := 3) (cap := 3) (cells' := 1) (slots' := 3) C (G.1 _ (List.mem_of_getElem? (i := 23) rfl)) rfl (ofNat_neg hl) (by rw [ofNat_nat hl]; exact hcap) (by decide) rfl rfl (by decide) (by decide) d5_1 rfl ?_
  intro h12 t g_t Eh12 V_t
  replace V_t : Ar Z h12 t .byte (List.replicate cs.length (Value.int (0 : Int32))) := by rw [ofNat_nat hl] at V_t; exact V_t
  have hge : n0 ≤ t := by rw [g_t]; exact Old_le O
  have hg0 : h0.size ≤ t := Nat.le_of_eq g_t.symm
  have K1 : Keep h0 h12 [] := Keep.of_ext Eh12
  replace O := Old_k0 O K1
  refine w_astoreN (q := 4) (L' := #[.val (.ref a), .val (.int (0 : Int32)), .val (.int (Int32.ofNat cs.length)), .val (.ref t), .unset, .unset]) C rfl rfl d5_3 rfl ?_
  refine w_aloadN (q := 5) C rfl rfl d5_4 rfl ?_
  refine w_iloadN (q := 6) C rfl d5_5 rfl ?_
  refine w_aloadN (q := 7) C rfl rfl d5_6 rfl ?_
  refine w_iconst (q := 8) (v := (0 : Int32)) C (by rfl) d5_7 rfl ?_
  refine w_iloadN (q := 9) C rfl d5_8 rfl ?_
  refine w_callS (q := 12) (argsL := [(.ref a), (.int (0 : Int32)), (.ref t), (.int (0 : Int32)), (.int (Int32.ofNat cs.length))]) (S := []) (W := 0) (cells' := 1) (slots' := 3) C (G.1 _ (List.mem_of_getElem? (i := 24) rfl)) (G.1 _ (List.mem_of_getElem? (i := 25) rfl)) (G.1 _ (List.mem_of_getElem? (i := 21) rfl)) (G.1 _ (List.mem_of_getElem? (i := 26) rfl)) (by decide) (rm_comp5 G O a cs t (Ar_k0 A K1) hr V_t (Nat.ne_of_lt (by rw [g_t]; exact A.lt)) hge) rfl (lenOf pd_6 rfl) rfl (by decide) (own_leb rfl) (by decide) rfl rfl (by decide) (by decide) d5_9 rfl ?_
  rintro _ h13 ⟨Kh13, rfl, B2⟩
  show AtW p l e _ s m _ below meth c n0 _ h13 1 3 (mkF m 12 #[.val (.ref a), .val (.int (0 : Int32)), .val (.int (Int32.ofNat cs.length)), .val (.ref t), .unset, .unset] [(.int (Int32.ofNat cs.length))])
  refine w_istore (q := 14) (L' := #[.val (.ref a), .val (.int (0 : Int32)), .val (.int (Int32.ofNat cs.length)), .val (.ref t), .val (.int (Int32.ofNat cs.length)), .unset]) C rfl d5_12 rfl ?_
  refine w_iload (q := 16) C rfl d5_14 rfl ?_
  refine w_iloadN (q := 17) C rfl d5_16 rfl ?_
  refine w_icmp_eq_t (q := 57) C d5_17 (by decide) (by decide) rfl ?_
  refine w_aloadN (q := 58) C rfl rfl d5_57 rfl ?_
  exact w_retA C rfl rfl rfl d5_58 (by decide) (by decide) ⟨own_K1 K1 Kh13 hg0, t, rfl, hg0, B2⟩
theorem d7_0 : decode jdk_52_method_15_code 0 = .ok (.iload_n 1, 1) := by decide +kernel
theorem d7_1 : decode jdk_52_method_15_code 1 = .ok (.aload_n 0, 1) := by decide +kernel
theorem d7_2 : decode jdk_52_method_15_code 2 = .ok (.arraylength, 1) := by decide +kernel
theorem d7_3 : decode jdk_52_method_15_code 3 = .ok (.isub, 1) := by decide +kernel
theorem d7_4 : decode jdk_52_method_15_code 4 = .ok (.bipush 31, 2) := by decide +kernel
theorem d7_6 : decode jdk_52_method_15_code 6 = .ok (.iushr, 1) := by decide +kernel
theorem d7_7 : decode jdk_52_method_15_code 7 = .ok (.i2b, 1) := by decide +kernel
theorem d7_8 : decode jdk_52_method_15_code 8 = .ok (.ireturn, 1) := by decide +kernel
theorem pf7 : plainFor (⟨"java/lang/StringUTF16", "coderFromArrayLen", "([BI)B"⟩ : MethodName) = true := by first | exact plainFor_of_name (by first | (simp [plainName, overriddenIn]; done) | decide +kernel) | decide +kernel
theorem ef_codL (m : MethodId) (z0 : Addr) (z1 : Int32) : entryFrame m #[(.ref z0), (.int z1)] 2 = mkF m 0 #[.val (.ref z0), .val (.int z1)] [] := by first | rfl | (simp [entryFrame, mkF, argsToLocals, Value.category, *]; done) | rfl
set_option maxRecDepth 65536 in
set_option maxHeartbeats 40000000 in
theorem rm_codL {l : Launch} {Z : State} {a0 : Array Value} {n0 : Nat} (G : Gl Z a0 n0) {h0 : Heap} (O : Old Z n0 h0) (t : Addr) (cs : List Int32) (A : Ar Z h0 t .byte (own_bs cs)) :
    Ct [] l Z n0 (⟨"java/lang/StringUTF16", "coderFromArrayLen", "([BI)B"⟩ : MethodName) jdk_52_method_15_code 2 (some .byte) ({ frames := 0, cells := 0, slots := 0, locals := 0 } : Room) #[(.ref t), (.int (Int32.ofNat cs.length))] h0 (fun v h => h = h0 ∧ v = some (.int 0)) := by
  refine Ct.intro pf7 ?_
  intro p e s m below meth c C
  refine AtW.cast ?_ (ef_codL m t (Int32.ofNat cs.length))
  refine w_iloadN (q := 1) C rfl d7_0 rfl ?_
  refine w_aloadN (q := 2) C rfl rfl d7_1 rfl ?_
  refine w_len (q := 3) (z := (Int32.ofNat cs.length)) C A (by rw [own_bs_len]) d7_2 rfl ?_
  refine w_isub (q := 4) C rfl d7_3 rfl ?_
  rw [show ((Int32.ofNat cs.length) - (Int32.ofNat cs.length)) = (0 : Int32) from Int32.sub_self _]
  refine w_bipush (q := 6) (v := (31 : Int32)) C (by rfl) d7_4 rfl ?_
  refine w_iushr (q := 7) (z := (0 : Int32)) C (by decide) d7_6 rfl ?_
  refine w_i2b (q := 8) (z := (0 : Int32)) C (by decide) d7_7 rfl ?_
  exact w_retZ (z := (0 : Int32)) C (t := .byte) rfl (by simp) (by decide) d7_8 (by decide) (by decide) ⟨rfl, rfl⟩
theorem d3_0 : decode jdk_42_method_149_code 0 = .ok (.aload_n 0, 1) := by decide +kernel
theorem d3_1 : decode jdk_42_method_149_code 1 = .ok (.invokespecial 1, 3) := by decide +kernel
theorem d3_4 : decode jdk_42_method_149_code 4 = .ok (.iload_n 3, 1) := by decide +kernel
theorem d3_5 : decode jdk_42_method_149_code 5 = .ok (.ifCond .ne 22, 3) := by decide +kernel
theorem d3_8 : decode jdk_42_method_149_code 8 = .ok (.aload_n 0, 1) := by decide +kernel
theorem d3_9 : decode jdk_42_method_149_code 9 = .ok (.ldc 7, 2) := by decide +kernel
theorem d3_11 : decode jdk_42_method_149_code 11 = .ok (.getfield 9, 3) := by decide +kernel
theorem d3_14 : decode jdk_42_method_149_code 14 = .ok (.putfield 9, 3) := by decide +kernel
theorem d3_17 : decode jdk_42_method_149_code 17 = .ok (.aload_n 0, 1) := by decide +kernel
theorem d3_18 : decode jdk_42_method_149_code 18 = .ok (.ldc 7, 2) := by decide +kernel
theorem d3_20 : decode jdk_42_method_149_code 20 = .ok (.getfield 15, 3) := by decide +kernel
theorem d3_23 : decode jdk_42_method_149_code 23 = .ok (.putfield 15, 3) := by decide +kernel
theorem d3_26 : decode jdk_42_method_149_code 26 = .ok (.return_, 1) := by decide +kernel
theorem d3_27 : decode jdk_42_method_149_code 27 = .ok (.getstatic 38, 3) := by decide +kernel
theorem d3_30 : decode jdk_42_method_149_code 30 = .ok (.ifCond .eq 28, 3) := by decide +kernel
theorem d3_33 : decode jdk_42_method_149_code 33 = .ok (.aload_n 1, 1) := by decide +kernel
theorem d3_34 : decode jdk_42_method_149_code 34 = .ok (.iload_n 2, 1) := by decide +kernel
theorem d3_35 : decode jdk_42_method_149_code 35 = .ok (.iload_n 3, 1) := by decide +kernel
theorem d3_36 : decode jdk_42_method_149_code 36 = .ok (.invokestatic 177, 3) := by decide +kernel
theorem d3_39 : decode jdk_42_method_149_code 39 = .ok (.astore 5, 2) := by decide +kernel
theorem d3_41 : decode jdk_42_method_149_code 41 = .ok (.aload_n 0, 1) := by decide +kernel
theorem d3_42 : decode jdk_42_method_149_code 42 = .ok (.aload 5, 2) := by decide +kernel
theorem d3_44 : decode jdk_42_method_149_code 44 = .ok (.iload_n 3, 1) := by decide +kernel
theorem d3_45 : decode jdk_42_method_149_code 45 = .ok (.invokestatic 47, 3) := by decide +kernel
theorem d3_48 : decode jdk_42_method_149_code 48 = .ok (.putfield 15, 3) := by decide +kernel
theorem d3_51 : decode jdk_42_method_149_code 51 = .ok (.aload_n 0, 1) := by decide +kernel
theorem d3_52 : decode jdk_42_method_149_code 52 = .ok (.aload 5, 2) := by decide +kernel
theorem d3_54 : decode jdk_42_method_149_code 54 = .ok (.putfield 9, 3) := by decide +kernel
theorem d3_57 : decode jdk_42_method_149_code 57 = .ok (.return_, 1) := by decide +kernel
theorem d3_58 : decode jdk_42_method_149_code 58 = .ok (.aload_n 0, 1) := by decide +kernel
theorem d3_59 : decode jdk_42_method_149_code 59 = .ok (.iconst 1, 1) := by decide +kernel
theorem d3_60 : decode jdk_42_method_149_code 60 = .ok (.putfield 15, 3) := by decide +kernel
theorem d3_63 : decode jdk_42_method_149_code 63 = .ok (.aload_n 0, 1) := by decide +kernel
theorem d3_64 : decode jdk_42_method_149_code 64 = .ok (.aload_n 1, 1) := by decide +kernel
theorem d3_65 : decode jdk_42_method_149_code 65 = .ok (.iload_n 2, 1) := by decide +kernel
theorem d3_66 : decode jdk_42_method_149_code 66 = .ok (.iload_n 3, 1) := by decide +kernel
theorem d3_67 : decode jdk_42_method_149_code 67 = .ok (.invokestatic 180, 3) := by decide +kernel
theorem d3_70 : decode jdk_42_method_149_code 70 = .ok (.putfield 9, 3) := by decide +kernel
theorem d3_73 : decode jdk_42_method_149_code 73 = .ok (.return_, 1) := by decide +kernel
theorem pf3 : plainFor (⟨"java/lang/String", "<init>", "([CIILjava/lang/Void;)V"⟩ : MethodName) = true := by first | exact plainFor_of_name (by first | (simp [plainName, overriddenIn]; done) | decide +kernel) | decide +kernel
theorem ef_strinit4 (m : MethodId) (z0 : Addr) (z1 : Addr) (z2 : Int32) (z3 : Int32) : entryFrame m #[(.ref z0), (.ref z1), (.int z2), (.int z3), .null] 6 = mkF m 0 #[.val (.ref z0), .val (.ref z1), .val (.int z2), .val (.int z3), .val .null, .unset] [] := by first | rfl | (simp [entryFrame, mkF, argsToLocals, Value.category, *]; done) | rfl
set_option maxRecDepth 65536 in
set_option maxHeartbeats 40000000 in
theorem rm_strinit4 {l : Launch} {Z : State} {a0 : Array Value} {n0 : Nat} (G : Gl Z a0 n0) {h0 : Heap} (O : Old Z n0 h0) (a : Addr) (b : Addr) (cs : List Int32) (E : Exa Z h0 a "java/lang/String") (FV : Fld Z h0 a "java/lang/String" "value" "[B" .null) (FC : Fld Z h0 a "java/lang/String" "coder" "B" (.int (0 : Int32))) (hge : n0 ≤ a) (A : Ar Z h0 b .char (cs.map Value.int)) (hr : L1 cs) (hcap : cs.length ≤ 3) (h1 : cs.length ≠ 0) :
    Ct [] l Z n0 (⟨"java/lang/String", "<init>", "([CIILjava/lang/Void;)V"⟩ : MethodName) jdk_42_method_149_code 6 none ({ frames := 2, cells := 1, slots := 3, locals := 35 } : Room) #[(.ref a), (.ref b), (.int (0 : Int32)), (.int (Int32.ofNat cs.length)), .null] h0 (fun v h => Keep h0 h [a] ∧ v = none ∧ Str Z h a cs) := by
  refine Ct.intro pf3 ?_
  intro p e s m below meth c C
  refine AtW.cast ?_ (ef_strinit4 m a b (0 : Int32) (Int32.ofNat cs.length))
  obtain ⟨zc, SC, hzc⟩ := G.cs
  refine w_aloadN (q := 1) C rfl rfl d3_0 rfl ?_
  refine w_initO (q := 4) (W := 0) C (G.1 _ (List.mem_of_getElem? (i := 15) rfl)) (G.1 _ (List.mem_of_getElem? (i := 16) rfl)) (G.1 _ (List.mem_of_getElem? (i := 17) rfl)) rfl (by decide) (own_leb rfl) (by decide) d3_1 rfl ?_
  refine w_iloadN (q := 5) C rfl d3_4 rfl ?_
  refine w_if_ne_t (q := 27) C d3_5 (by decide) (by decide) (fun q => h1 ((own_neq (n := 0) (by omega) (by omega)).mp q)) ?_
  refine w_getS (q := 30) (host := "") C (Or.inl (G.1 _ (List.mem_of_getElem? (i := 18) rfl))) Via.refl (SC.ext O.2) d3_27 rfl ?_
  refine w_if_eq_f (q := 33) C d3_30 rfl hzc ?_
  refine w_aloadN (q := 34) C rfl rfl d3_33 rfl ?_
  refine w_iloadN (q := 35) C rfl d3_34 rfl ?_
  refine w_iloadN (q := 36) C rfl d3_35 rfl ?_
  have A_lt := E.lt
  refine w_callS (q := 39) (argsL := [(.ref b), (.int (0 : Int32)), (.int (Int32.ofNat cs.length))]) (S := []) (W := 0) (cells' := 1) (slots' := 3) C (G.1 _ (List.mem_of_getElem? (i := 19) rfl)) (G.1 _ (List.mem_of_getElem? (i := 20) rfl)) (G.1 _ (List.mem_of_getElem? (i := 21) rfl)) (G.1 _ (List.mem_of_getElem? (i := 22) rfl)) (by decide) (rm_comp3 G O b cs A hr hcap) rfl (lenOf pd_5 rfl) rfl (by decide) (own_leb rfl) (by decide) rfl rfl (by decide) (by decide) d3_36 rfl ?_
  rintro _ h14 ⟨Kh14, t, rfl, hg, B⟩
  show AtW p l e _ s m _ below meth c n0 _ h14 1 3 (mkF m 39 #[.val (.ref a), .val (.ref b), .val (.int (0 : Int32)), .val (.int (Int32.ofNat cs.length)), .val .null, .unset] [(.ref t)])
  replace O := Old_k0 O Kh14
  replace E := Exa_k0 E Kh14
  replace FV := Fld_k0 FV Kh14
  replace FC := Fld_k0 FC Kh14
  have hne : t ≠ a := Ne.symm (Nat.ne_of_lt (Nat.lt_of_lt_of_le A_lt hg))
  refine w_astore (q := 41) (L' := #[.val (.ref a), .val (.ref b), .val (.int (0 : Int32)), .val (.int (Int32.ofNat cs.length)), .val .null, .val (.ref t)]) C rfl rfl d3_39 rfl ?_
  refine w_aloadN (q := 42) C rfl rfl d3_41 rfl ?_
  refine w_aload (q := 44) C rfl rfl d3_42 rfl ?_
  refine w_iloadN (q := 45) C rfl d3_44 rfl ?_
  refine w_callS (q := 48) (argsL := [(.ref t), (.int (Int32.ofNat cs.length))]) (S := [(.ref a)]) (W := 1) (cells' := 1) (slots' := 3) C (G.1 _ (List.mem_of_getElem? (i := 27) rfl)) (G.1 _ (List.mem_of_getElem? (i := 28) rfl)) (G.1 _ (List.mem_of_getElem? (i := 21) rfl)) (G.1 _ (List.mem_of_getElem? (i := 29) rfl)) (by decide) (rm_codL G O t cs B) rfl (lenOf pd_7 rfl) rfl (by decide) (own_leb rfl) (by decide) rfl rfl (by decide) (by decide) d3_45 rfl ?_
  rintro _ h15 ⟨eh16, rfl⟩
  rw [eh16]
  show AtW p l e _ s m _ below meth c n0 _ h14 1 3 (mkF m 48 #[.val (.ref a), .val (.ref b), .val (.int (0 : Int32)), .val (.int (Int32.ofNat cs.length)), .val .null, .val (.ref t)] [(.int (0 : Int32)), (.ref a)])
  refine w_putF (q := 51) (host := "") (v' := (.int (0 : Int32))) C (G.1 _ (List.mem_of_getElem? (i := 30) rfl)) Via.refl FC E (Or.inr ⟨(G.1 _ (List.mem_of_getElem? (i := 31) rfl)), rfl, rfl⟩) (G.1 _ (List.mem_of_getElem? (i := 5) rfl)) (ty := .byte) (by decide) rfl rfl hge d3_48 rfl ?_
  intro h17 Wh17
  have K2 : Keep h0 h17 [a] := ((Keep.refl h0 [a]).trans Kh14 (all0 (P := fun x => x ∈ [a] ∨ h0.size ≤ x))).wr Wh17 (Or.inl (List.mem_cons_self ..))
  replace FC := FC.same Wh17
  replace FV := FV.other Wh17 (Or.inr (slot_ne (Or.inr (G.1 _ (List.mem_of_getElem? (i := 33) rfl))) (Or.inr (G.1 _ (List.mem_of_getElem? (i := 31) rfl))) (by decide) (t := .array .byte) (t' := .byte) (by decide) (by decide)))
  replace E := E.wr Wh17
  replace B := B.other Wh17 hne
  refine w_aloadN (q := 52) C rfl rfl d3_51 rfl ?_
  refine w_aload (q := 54) C rfl rfl d3_52 rfl ?_
  refine w_putF (q := 57) (host := "") (v' := (.ref t)) C (G.1 _ (List.mem_of_getElem? (i := 32) rfl)) Via.refl FV E (Or.inr ⟨(G.1 _ (List.mem_of_getElem? (i := 33) rfl)), rfl, rfl⟩) (G.1 _ (List.mem_of_getElem? (i := 5) rfl)) (ty := (.array .byte)) (by decide) rfl rfl hge d3_54 rfl ?_
  intro h18 Wh18
  replace FV := FV.same Wh18
  replace FC := FC.other Wh18 (Or.inr (slot_ne (Or.inr (G.1 _ (List.mem_of_getElem? (i := 31) rfl))) (Or.inr (G.1 _ (List.mem_of_getElem? (i := 33) rfl))) (by decide) (t := .byte) (t' := .array .byte) (by decide) (by decide)))
  replace E := E.wr Wh18
  replace B := B.other Wh18 hne
  exact w_retV C rfl d3_57 (by decide) (by decide) ⟨K2.wr Wh18 (Or.inl (List.mem_cons_self ..)), rfl, E, hr, t, FC, FV, B⟩
theorem d2_0 : decode jdk_42_method_3_code 0 = .ok (.aload_n 0, 1) := by decide +kernel
theorem d2_1 : decode jdk_42_method_3_code 1 = .ok (.aload_n 1, 1) := by decide +kernel
theorem d2_2 : decode jdk_42_method_3_code 2 = .ok (.iconst 0, 1) := by decide +kernel
theorem d2_3 : decode jdk_42_method_3_code 3 = .ok (.aload_n 1, 1) := by decide +kernel
theorem d2_4 : decode jdk_42_method_3_code 4 = .ok (.arraylength, 1) := by decide +kernel
theorem d2_5 : decode jdk_42_method_3_code 5 = .ok (.aconst_null, 1) := by decide +kernel
theorem d2_6 : decode jdk_42_method_3_code 6 = .ok (.invokespecial 27, 3) := by decide +kernel
theorem d2_9 : decode jdk_42_method_3_code 9 = .ok (.return_, 1) := by decide +kernel
theorem pf2 : plainFor (⟨"java/lang/String", "<init>", "([C)V"⟩ : MethodName) = true := by first | exact plainFor_of_name (by first | (simp [plainName, overriddenIn]; done) | decide +kernel) | decide +kernel
theorem ef_strinit (m : MethodId) (z0 : Addr) (z1 : Addr) : entryFrame m #[(.ref z0), (.ref z1)] 2 = mkF m 0 #[.val (.ref z0), .val (.ref z1)] [] := by first | rfl | (simp [entryFrame, mkF, argsToLocals, Value.category, *]; done) | rfl
set_option maxRecDepth 65536 in
set_option maxHeartbeats 40000000 in
theorem rm_strinit {l : Launch} {Z : State} {a0 : Array Value} {n0 : Nat} (G : Gl Z a0 n0) {h0 : Heap} (O : Old Z n0 h0) (a : Addr) (b : Addr) (cs : List Int32) (E : Exa Z h0 a "java/lang/String") (FV : Fld Z h0 a "java/lang/String" "value" "[B" .null) (FC : Fld Z h0 a "java/lang/String" "coder" "B" (.int (0 : Int32))) (hge : n0 ≤ a) (A : Ar Z h0 b .char (cs.map Value.int)) (hr : L1 cs) (hcap : cs.length ≤ 3) (h1 : cs.length ≠ 0) :
    Ct [] l Z n0 (⟨"java/lang/String", "<init>", "([C)V"⟩ : MethodName) jdk_42_method_3_code 2 none ({ frames := 3, cells := 1, slots := 3, locals := 52 } : Room) #[(.ref a), (.ref b)] h0 (fun v h => Keep h0 h [a] ∧ v = none ∧ Str Z h a cs) := by
  refine Ct.intro pf2 ?_
  intro p e s m below meth c C
  refine AtW.cast ?_ (ef_strinit m a b)
  refine w_aloadN (q := 1) C rfl rfl d2_0 rfl ?_
  refine w_aloadN (q := 2) C rfl rfl d2_1 rfl ?_
  refine w_iconst (q := 3) (v := (0 : Int32)) C (by rfl) d2_2 rfl ?_
  refine w_aloadN (q := 4) C rfl rfl d2_3 rfl ?_
  refine w_len (q := 5) (z := (Int32.ofNat cs.length)) C A (by rw [List.length_map]) d2_4 rfl ?_
  refine w_aconst_null (q := 6) C d2_5 rfl ?_
  refine w_callI (q := 9) (argsL := [(.ref b), (.int (0 : Int32)), (.int (Int32.ofNat cs.length)), .null]) (S := []) (W := 0) (cells' := 1) (slots' := 3) (a := a) C rfl (G.1 _ (List.mem_of_getElem? (i := 11) rfl)) (G.1 _ (List.mem_of_getElem? (i := 12) rfl)) (G.1 _ (List.mem_of_getElem? (i := 6) rfl)) (G.1 _ (List.mem_of_getElem? (i := 14) rfl)) (by decide) (rm_strinit4 G O a b cs E FV FC hge A hr hcap h1) rfl (lenOf pd_3 rfl) rfl (by decide) (own_leb rfl) (by decide) rfl rfl (by decide) (by decide) d2_6 rfl ?_
  rintro _ h19 ⟨Kh19, rfl, S⟩
  show AtW p l e _ s m _ below meth c n0 _ h19 1 3 (mkF m 9 #[.val (.ref a), .val (.ref b)] [])
  exact w_retV C rfl d2_9 (by decide) (by decide) ⟨Kh19, rfl, S⟩
theorem AtS.addS {p : Program} {l : Launch} {e : Env} {R : Room} {s : State} {m : MethodId} {args : Array Value} {below : List Frame} {meth : Method} {c : Code} {n0 : Nat} {Q : Option Value → Heap → Prop} {h : Heap} {cells slots : Nat} {Z : State} {own : String} {EL : List (String × Nat)} {mk : Nat} {sf : List Addr} {g : JFrame} {x : Addr} (E : Exa Z h x "java/lang/String") (F : Fld Z h x "java/lang/String" "value" "[B" .null)
    (K : AtS p l e R s m args below meth c Z EL own n0 Q mk (x :: sf) h cells slots g) : AtS p l e R s m args below meth c Z EL own n0 Q mk sf h cells slots g :=
  fun T locs k n vm0 k0 X hk hn eT N hZ hown hS hk0 hC hB hF => K T locs k n vm0 k0 X hk hn eT N hZ hown hS hk0 hC hB (fun y hy => by
    rcases List.mem_cons.mp hy with rfl | hy
    · refine ⟨E.lt, fun B => ?_⟩
      obtain ⟨cell, cf, kf, jf, f, f1, f2, -, -, -, -, f7⟩ := F
      obtain ⟨cE, kE, e1, e2, -, -, -⟩ := E
      cases f1.symm.trans e1
      obtain ⟨pr, -, u, a, -, q, -, ⟨cS, ⟨⟨s1, s2, s3, ⟨cv, kv, iv, s4, s4'⟩, s5, s6, s7, s8, s9⟩, hfS, hcS⟩, -, hb, -⟩, rfl | rfl⟩ := B
      · obtain ⟨kv', z4⟩ := ff_back (Z := Z) (U := Wst Z vm0 h) hZ.alike s4
        cases (show h[q.sa]? = some q.sC from s1).symm.trans f1
        cases f2.symm.trans z4
        rw [f7] at s8; cases s8
      · have hd : h[q.sd]? = some q.SA := s9.2.1
        cases hd.symm.trans f1
        have hb' : vm0.findClass "[B" = some q.SA.cls := hb
        rw [hZ.alike.findClass] at hb'
        obtain ⟨k1, q1, q2⟩ := Vm.findClass_spec hb'
        obtain ⟨k2, q3, q4⟩ := Vm.findClass_spec e2
        cases q1.symm.trans q3
        exact absurd (q2.symm.trans q4) (by decide)
    · exact hF y hy)

theorem ef_strinit4e (m : MethodId) (z0 : Addr) (z1 : Addr) (z2 : Int32) (z3 : Int32) : entryFrame m #[(.ref z0), (.ref z1), (.int z2), (.int z3), .null] 6 = mkF m 0 #[.val (.ref z0), .val (.ref z1), .val (.int z2), .val (.int z3), .val .null, .unset] [] := by first | rfl | (simp [entryFrame, mkF, argsToLocals, Value.category, *]; done) | rfl
set_option maxRecDepth 65536 in
set_option maxHeartbeats 40000000 in
theorem rm_strinit4e {l : Launch} {Z : State} {a0 : Array Value} {n0 : Nat} (G : Gl Z a0 n0) {h0 : Heap} (O : Old Z n0 h0) (a : Addr) (b : Addr) (E : Exa Z h0 a "java/lang/String") (FV : Fld Z h0 a "java/lang/String" "value" "[B" .null) (FC : Fld Z h0 a "java/lang/String" "coder" "B" (.int (0 : Int32))) (hge : n0 ≤ a) :
    Cs [] l Z consts_1 n0 (⟨"java/lang/String", "<init>", "([CIILjava/lang/Void;)V"⟩ : MethodName) jdk_42_method_149_code 6 none ({ frames := 1, cells := 4, slots := 8, locals := 12 } : Room) #[(.ref a), (.ref b), (.int (0 : Int32)), (.int (0 : Int32)), .null] h0 (fun v h => Keep h0 h [a] ∧ v = none ∧ Str Z h a []) := by
  refine Cs.intro pf3 ?_
  intro p e s m below meth c C
  refine AtS.cast ?_ (ef_strinit4e m a b (0 : Int32) (0 : Int32))
  refine AtS.addS E FV ?_
  refine s_aloadN (q := 1) C rfl rfl d3_0 rfl ?_
  refine s_initO (q := 4) (W := 0) C (G.1 _ (List.mem_of_getElem? (i := 15) rfl)) (G.1 _ (List.mem_of_getElem? (i := 16) rfl)) (G.1 _ (List.mem_of_getElem? (i := 17) rfl)) rfl (by decide) (own_leb rfl) (by decide) d3_1 rfl ?_
  refine s_iloadN (q := 5) C rfl d3_4 rfl ?_
  refine s_if_ne_f (q := 8) C d3_5 rfl (by decide) ?_
  refine s_aloadN (q := 9) C rfl rfl d3_8 rfl ?_
  refine s_ldc (q := 11) (n := 0) (cells' := 2) (slots' := 4) (vs := []) C G.el G.sa (G.1 _ (List.mem_of_getElem? (i := 273) rfl)) (by decide) (by decide +kernel) (by decide) (by decide +kernel) (by decide) rfl rfl (by decide) (by decide) d3_9 rfl ?_
  intro h20 s t21 Eh20 e1_s e2_s e3_s e4_s hne_s
  have S_s : Str Z h20 s [] := ⟨e1_s, (fun c hc => absurd hc List.not_mem_nil), t21, e2_s, e3_s, e4_s⟩
  have K1 : Keep h0 h20 [a] := (Keep.refl h0 [a]).ext Eh20
  replace FV := FV.ext Eh20
  replace FC := FC.ext Eh20
  replace E := E.ext Eh20
  have hne := (hne_s a (List.mem_cons_self ..)).2
  refine s_getF (q := 14) (host := "") C (Or.inl (G.1 _ (List.mem_of_getElem? (i := 32) rfl))) Via.refl e3_s d3_11 rfl ?_
  refine s_putF (q := 17) (host := "") (v' := (.ref t21)) C (G.1 _ (List.mem_of_getElem? (i := 32) rfl)) Via.refl FV E (Or.inr ⟨(G.1 _ (List.mem_of_getElem? (i := 33) rfl)), rfl, rfl⟩) (G.1 _ (List.mem_of_getElem? (i := 5) rfl)) (ty := (.array .byte)) (by decide) rfl rfl hge (SfOk.mem (List.mem_cons_self ..)) d3_14 rfl ?_
  intro h22 Wh22
  have K2 := K1.wr Wh22 (Or.inl (List.mem_cons_self ..))
  replace FV := FV.same Wh22
  replace FC := FC.other Wh22 (Or.inr (slot_ne (Or.inr (G.1 _ (List.mem_of_getElem? (i := 31) rfl))) (Or.inr (G.1 _ (List.mem_of_getElem? (i := 33) rfl))) (by decide) (t := .byte) (t' := .array .byte) (by decide) (by decide)))
  replace E := E.wr Wh22
  have B := e4_s.other Wh22 (Ne.symm hne)
  refine s_aloadN (q := 18) C rfl rfl d3_17 rfl ?_
  refine s_ldc (q := 20) (n := 0) (cells' := 4) (slots' := 8) (vs := []) C G.el G.sa (G.1 _ (List.mem_of_getElem? (i := 273) rfl)) (by decide) (by decide +kernel) (by decide) (by decide +kernel) (by decide) rfl rfl (by decide) (by decide) d3_18 rfl ?_
  intro h23 s2 t24 Eh23 e1_s2 e2_s2 e3_s2 e4_s2 hne_s2
  have S_s2 : Str Z h23 s2 [] := ⟨e1_s2, (fun c hc => absurd hc List.not_mem_nil), t24, e2_s2, e3_s2, e4_s2⟩
  have K3 := K2.ext Eh23
  replace FV := FV.ext Eh23
  replace FC := FC.ext Eh23
  replace E := E.ext Eh23
  replace B := B.ext Eh23
  refine s_getF (q := 23) (host := "") C (Or.inl (G.1 _ (List.mem_of_getElem? (i := 30) rfl))) Via.refl e2_s2 d3_20 rfl ?_
  refine s_putF (q := 26) (host := "") (v' := (.int (0 : Int32))) C (G.1 _ (List.mem_of_getElem? (i := 30) rfl)) Via.refl FC E (Or.inr ⟨(G.1 _ (List.mem_of_getElem? (i := 31) rfl)), rfl, rfl⟩) (G.1 _ (List.mem_of_getElem? (i := 5) rfl)) (ty := .byte) (by decide) rfl rfl hge (SfOk.mem (List.mem_cons_self ..)) d3_23 rfl ?_
  intro h25 Wh25
  replace FC := FC.same Wh25
  replace FV := FV.other Wh25 (Or.inr (slot_ne (Or.inr (G.1 _ (List.mem_of_getElem? (i := 33) rfl))) (Or.inr (G.1 _ (List.mem_of_getElem? (i := 31) rfl))) (by decide) (t := .array .byte) (t' := .byte) (by decide) (by decide)))
  replace E := E.wr Wh25
  replace B := B.other Wh25 (Ne.symm hne)
  exact s_retV C G.el rfl d3_26 (by decide) (by decide) ⟨K3.wr Wh25 (Or.inl (List.mem_cons_self ..)), rfl, E, (fun c hc => absurd hc List.not_mem_nil), t21, FC, FV, B⟩
theorem ef_strinite (m : MethodId) (z0 : Addr) (z1 : Addr) : entryFrame m #[(.ref z0), (.ref z1)] 2 = mkF m 0 #[.val (.ref z0), .val (.ref z1)] [] := by first | rfl | (simp [entryFrame, mkF, argsToLocals, Value.category, *]; done) | rfl
set_option maxRecDepth 65536 in
set_option maxHeartbeats 40000000 in
theorem rm_strinite {l : Launch} {Z : State} {a0 : Array Value} {n0 : Nat} (G : Gl Z a0 n0) {h0 : Heap} (O : Old Z n0 h0) (a : Addr) (b : Addr) (E : Exa Z h0 a "java/lang/String") (FV : Fld Z h0 a "java/lang/String" "value" "[B" .null) (FC : Fld Z h0 a "java/lang/String" "coder" "B" (.int (0 : Int32))) (hge : n0 ≤ a) (A : Ar Z h0 b .char []) :
    Cs [] l Z consts_1 n0 (⟨"java/lang/String", "<init>", "([C)V"⟩ : MethodName) jdk_42_method_3_code 2 none ({ frames := 2, cells := 4, slots := 8, locals := 29 } : Room) #[(.ref a), (.ref b)] h0 (fun v h => Keep h0 h [a] ∧ v = none ∧ Str Z h a []) := by
  refine Cs.intro pf2 ?_
  intro p e s m below meth c C
  refine AtS.cast ?_ (ef_strinite m a b)
  refine s_aloadN (q := 1) C rfl rfl d2_0 rfl ?_
  refine s_aloadN (q := 2) C rfl rfl d2_1 rfl ?_
  refine s_iconst (q := 3) (v := (0 : Int32)) C (by rfl) d2_2 rfl ?_
  refine s_aloadN (q := 4) C rfl rfl d2_3 rfl ?_
  refine s_len (q := 5) (z := (0 : Int32)) C A rfl d2_4 rfl ?_
  refine s_aconst_null (q := 6) C d2_5 rfl ?_
  refine s_callI2 (q := 9) (argsL := [(.ref b), (.int (0 : Int32)), (.int (0 : Int32)), .null]) (S := []) (W := 0) (cells' := 4) (slots' := 8) (a := a) C G.el rfl (G.1 _ (List.mem_of_getElem? (i := 11) rfl)) (G.1 _ (List.mem_of_getElem? (i := 12) rfl)) (G.1 _ (List.mem_of_getElem? (i := 6) rfl)) (G.1 _ (List.mem_of_getElem? (i := 14) rfl)) (by decide) (rm_strinit4e G O a b E FV FC hge) rfl (lenOf pd_3 rfl) rfl (by decide) (own_leb rfl) (by decide) rfl rfl (by decide) (by decide) d2_6 rfl ?_
  rintro _ h26 ⟨Kh26, rfl, S⟩
  show AtS p l e _ s m _ below meth c Z _ _ n0 _ _ _ h26 4 8 (mkF m 9 #[.val (.ref a), .val (.ref b)] [])
  exact s_retV C G.el rfl d2_9 (by decide) (by decide) ⟨Kh26, rfl, S⟩
theorem d9_0 : decode jdk_43_method_3_code 0 = .ok (.iload_n 0, 1) := by decide +kernel
theorem d9_1 : decode jdk_43_method_3_code 1 = .ok (.sipush 255, 3) := by decide +kernel
theorem d9_4 : decode jdk_43_method_3_code 4 = .ok (.if_icmp .gt 7, 3) := by decide +kernel
theorem d9_7 : decode jdk_43_method_3_code 7 = .ok (.iconst 1, 1) := by decide +kernel
theorem d9_8 : decode jdk_43_method_3_code 8 = .ok (.goto 4, 3) := by decide +kernel
theorem d9_11 : decode jdk_43_method_3_code 11 = .ok (.iconst 0, 1) := by decide +kernel
theorem d9_12 : decode jdk_43_method_3_code 12 = .ok (.ireturn, 1) := by decide +kernel
theorem pf9 : plainFor (⟨"java/lang/StringLatin1", "canEncode", "(C)Z"⟩ : MethodName) = true := by first | exact plainFor_of_name (by first | (simp [plainName, overriddenIn]; done) | decide +kernel) | decide +kernel
theorem ef_canEncC (m : MethodId) (z0 : Int32) : entryFrame m #[(.int z0)] 1 = mkF m 0 #[.val (.int z0)] [] := by first | rfl | (simp [entryFrame, mkF, argsToLocals, Value.category, *]; done) | rfl
set_option maxRecDepth 65536 in
set_option maxHeartbeats 40000000 in
theorem rm_canEncC {l : Launch} {Z : State} {a0 : Array Value} {n0 : Nat} (G : Gl Z a0 n0) {h0 : Heap} (O : Old Z n0 h0) (ch : Int32) (hc : ¬ ch < 0 ∧ ¬ 255 < ch) :
    Ct [] l Z n0 (⟨"java/lang/StringLatin1", "canEncode", "(C)Z"⟩ : MethodName) jdk_43_method_3_code 1 (some .boolean) ({ frames := 0, cells := 0, slots := 0, locals := 0 } : Room) #[(.int ch)] h0 (fun v h => h = h0 ∧ v = some (.int 1)) := by
  refine Ct.intro pf9 ?_
  intro p e s m below meth c C
  refine AtW.cast ?_ (ef_canEncC m ch)
  refine w_iloadN (q := 1) C rfl d9_0 rfl ?_
  refine w_sipush (q := 4) (v := (255 : Int32)) C (by rfl) d9_1 rfl ?_
  refine w_icmp_gt_f (q := 7) C d9_4 rfl hc.2 ?_
  refine w_iconst (q := 8) (v := (1 : Int32)) C (by rfl) d9_7 rfl ?_
  refine w_goto (q := 12) C d9_8 (by decide) (by decide) ?_
  exact w_retZ (z := (1 : Int32)) C (t := .boolean) rfl (by simp) (by decide) d9_12 (by decide) (by decide) ⟨rfl, rfl⟩
theorem d10_0 : decode jdk_43_method_46_code 0 = .ok (.iconst 1, 1) := by decide +kernel
theorem d10_1 : decode jdk_43_method_46_code 1 = .ok (.newarray .byte, 2) := by decide +kernel
theorem d10_3 : decode jdk_43_method_46_code 3 = .ok (.dup, 1) := by decide +kernel
theorem d10_4 : decode jdk_43_method_46_code 4 = .ok (.iconst 0, 1) := by decide +kernel
theorem d10_5 : decode jdk_43_method_46_code 5 = .ok (.iload_n 0, 1) := by decide +kernel
theorem d10_6 : decode jdk_43_method_46_code 6 = .ok (.i2b, 1) := by decide +kernel
theorem d10_7 : decode jdk_43_method_46_code 7 = .ok (.bastore, 1) := by decide +kernel
theorem d10_8 : decode jdk_43_method_46_code 8 = .ok (.areturn, 1) := by decide +kernel
theorem pf10 : plainFor (⟨"java/lang/StringLatin1", "toBytes", "(C)[B"⟩ : MethodName) = true := by first | exact plainFor_of_name (by first | (simp [plainName, overriddenIn]; done) | decide +kernel) | decide +kernel
theorem ef_toBytesC (m : MethodId) (z0 : Int32) : entryFrame m #[(.int z0)] 1 = mkF m 0 #[.val (.int z0)] [] := by first | rfl | (simp [entryFrame, mkF, argsToLocals, Value.category, *]; done) | rfl
set_option maxRecDepth 65536 in
set_option maxHeartbeats 40000000 in
theorem rm_toBytesC {l : Launch} {Z : State} {a0 : Array Value} {n0 : Nat} (G : Gl Z a0 n0) {h0 : Heap} (O : Old Z n0 h0) (ch : Int32) :
    Ct [] l Z n0 (⟨"java/lang/StringLatin1", "toBytes", "(C)[B"⟩ : MethodName) jdk_43_method_46_code 1 (some (.array .byte)) ({ frames := 0, cells := 1, slots := 1, locals := 0 } : Room) #[(.int ch)] h0 (fun v h => Keep h0 h [] ∧ ∃ t, v = some (.ref t) ∧ h0.size ≤ t ∧ Ar Z h t .byte (own_bs [ch])) := by
  refine Ct.intro pf10 ?_
  intro p e s m below meth c C
  refine AtW.cast ?_ (ef_toBytesC m ch)
  refine w_iconst (q := 1) (v := (1 : Int32)) C (by rfl) d10_0 rfl ?_
  refine w_newArr (q := 3) (cap := 1) (cells' := 1) (slots' := 1) C (G.1 _ (List.mem_of_getElem? (i := 23) rfl)) rfl (by decide) (by decide) (by decide) rfl rfl (by decide) (by decide) d10_1 rfl ?_
  intro h27 t g_t Eh27 V_t
  replace V_t : Ar Z h27 t .byte [(.int (0 : Int32))] := V_t
  have hge : n0 ≤ t := by rw [g_t]; exact Old_le O
  have hg0 : h0.size ≤ t := Nat.le_of_eq g_t.symm
  have K1 : Keep h0 h27 [] := Keep.of_ext Eh27
  refine w_dup (q := 4) C rfl d10_3 rfl ?_
  refine w_iconst (q := 5) (v := (0 : Int32)) C (by rfl) d10_4 rfl ?_
  refine w_iloadN (q := 6) C rfl d10_5 rfl ?_
  refine w_i2b (q := 7) C rfl d10_6 rfl ?_
  refine w_bastore (q := 8) (z := ch.toInt8.toInt32) (i := 0) C (own_nar8 ch) V_t rfl (own_ltb rfl) hge d10_7 rfl ?_
  intro h28 Wh28 Vh28
  exact w_retA C rfl rfl rfl d10_8 (by decide) (by decide) ⟨K1.wr Wh28 (Or.inr hg0), t, rfl, hg0, Vh28⟩
theorem d11_0 : decode jdk_42_method_151_code 0 = .ok (.aload_n 0, 1) := by decide +kernel
theorem d11_1 : decode jdk_42_method_151_code 1 = .ok (.invokespecial 1, 3) := by decide +kernel
theorem d11_4 : decode jdk_42_method_151_code 4 = .ok (.aload_n 0, 1) := by decide +kernel
theorem d11_5 : decode jdk_42_method_151_code 5 = .ok (.aload_n 1, 1) := by decide +kernel
theorem d11_6 : decode jdk_42_method_151_code 6 = .ok (.putfield 9, 3) := by decide +kernel
theorem d11_9 : decode jdk_42_method_151_code 9 = .ok (.aload_n 0, 1) := by decide +kernel
theorem d11_10 : decode jdk_42_method_151_code 10 = .ok (.iload_n 2, 1) := by decide +kernel
theorem d11_11 : decode jdk_42_method_151_code 11 = .ok (.putfield 15, 3) := by decide +kernel
theorem d11_14 : decode jdk_42_method_151_code 14 = .ok (.return_, 1) := by decide +kernel
theorem pf11 : plainFor (⟨"java/lang/String", "<init>", "([BB)V"⟩ : MethodName) = true := by first | exact plainFor_of_name (by first | (simp [plainName, overriddenIn]; done) | decide +kernel) | decide +kernel
theorem ef_initBB (m : MethodId) (z0 : Addr) (z1 : Addr) (z2 : Int32) : entryFrame m #[(.ref z0), (.ref z1), (.int z2)] 3 = mkF m 0 #[.val (.ref z0), .val (.ref z1), .val (.int z2)] [] := by first | rfl | (simp [entryFrame, mkF, argsToLocals, Value.category, *]; done) | rfl
set_option maxRecDepth 65536 in
set_option maxHeartbeats 40000000 in
theorem rm_initBB {l : Launch} {Z : State} {a0 : Array Value} {n0 : Nat} (G : Gl Z a0 n0) {h0 : Heap} (O : Old Z n0 h0) (a : Addr) (t : Addr) (cd : Int32) (E : Exa Z h0 a "java/lang/String") (FV : Fld Z h0 a "java/lang/String" "value" "[B" .null) (FC : Fld Z h0 a "java/lang/String" "coder" "B" (.int (0 : Int32))) (hge : n0 ≤ a) (hcd : cd = 0 ∨ cd = 1) :
    Ct [] l Z n0 (⟨"java/lang/String", "<init>", "([BB)V"⟩ : MethodName) jdk_42_method_151_code 3 none ({ frames := 1, cells := 0, slots := 0, locals := 12 } : Room) #[(.ref a), (.ref t), (.int cd)] h0 (fun v h => Keep h0 h [a] ∧ v = none ∧ Exa Z h a "java/lang/String" ∧ Fld Z h a "java/lang/String" "coder" "B" (.int cd) ∧ Fld Z h a "java/lang/String" "value" "[B" (.ref t)) := by
  refine Ct.intro pf11 ?_
  intro p e s m below meth c C
  refine AtW.cast ?_ (ef_initBB m a t cd)
  refine w_aloadN (q := 1) C rfl rfl d11_0 rfl ?_
  refine w_initO (q := 4) (W := 0) C (G.1 _ (List.mem_of_getElem? (i := 15) rfl)) (G.1 _ (List.mem_of_getElem? (i := 16) rfl)) (G.1 _ (List.mem_of_getElem? (i := 17) rfl)) rfl (by decide) (own_leb rfl) (by decide) d11_1 rfl ?_
  refine w_aloadN (q := 5) C rfl rfl d11_4 rfl ?_
  refine w_aloadN (q := 6) C rfl rfl d11_5 rfl ?_
  refine w_putF (q := 9) (host := "") (v' := (.ref t)) C (G.1 _ (List.mem_of_getElem? (i := 32) rfl)) Via.refl FV E (Or.inr ⟨(G.1 _ (List.mem_of_getElem? (i := 33) rfl)), rfl, rfl⟩) (G.1 _ (List.mem_of_getElem? (i := 5) rfl)) (ty := (.array .byte)) (by decide) rfl rfl hge d11_6 rfl ?_
  intro h29 Wh29
  have K2 : Keep h0 h29 [a] := (Keep.refl h0 [a]).wr Wh29 (Or.inl (List.mem_cons_self ..))
  replace FV := FV.same Wh29
  replace FC := FC.other Wh29 (Or.inr (slot_ne (Or.inr (G.1 _ (List.mem_of_getElem? (i := 31) rfl))) (Or.inr (G.1 _ (List.mem_of_getElem? (i := 33) rfl))) (by decide) (t := .byte) (t' := .array .byte) (by decide) (by decide)))
  replace E := E.wr Wh29
  refine w_aloadN (q := 10) C rfl rfl d11_9 rfl ?_
  refine w_iloadN (q := 11) C rfl d11_10 rfl ?_
  refine w_putF (q := 14) (host := "") (v' := (.int cd)) C (G.1 _ (List.mem_of_getElem? (i := 30) rfl)) Via.refl FC E (Or.inr ⟨(G.1 _ (List.mem_of_getElem? (i := 31) rfl)), rfl, rfl⟩) (G.1 _ (List.mem_of_getElem? (i := 5) rfl)) (ty := .byte) (by decide) (by rcases hcd with rfl | rfl <;> rfl) (by rcases hcd with rfl | rfl <;> rfl) hge d11_11 rfl ?_
  intro h30 Wh30
  replace FC := FC.same Wh30
  replace FV := FV.other Wh30 (Or.inr (slot_ne (Or.inr (G.1 _ (List.mem_of_getElem? (i := 33) rfl))) (Or.inr (G.1 _ (List.mem_of_getElem? (i := 31) rfl))) (by decide) (t := .array .byte) (t' := .byte) (by decide) (by decide)))
  replace E := E.wr Wh30
  exact w_retV C rfl d11_14 (by decide) (by decide) ⟨K2.wr Wh30 (Or.inl (List.mem_cons_self ..)), rfl, E, FC, FV⟩
theorem d8_0 : decode jdk_42_method_139_code 0 = .ok (.getstatic 38, 3) := by decide +kernel
theorem d8_3 : decode jdk_42_method_139_code 3 = .ok (.ifCond .eq 23, 3) := by decide +kernel
theorem d8_6 : decode jdk_42_method_139_code 6 = .ok (.iload_n 0, 1) := by decide +kernel
theorem d8_7 : decode jdk_42_method_139_code 7 = .ok (.invokestatic 1015, 3) := by decide +kernel
theorem d8_10 : decode jdk_42_method_139_code 10 = .ok (.ifCond .eq 16, 3) := by decide +kernel
theorem d8_13 : decode jdk_42_method_139_code 13 = .ok (.new 10, 3) := by decide +kernel
theorem d8_16 : decode jdk_42_method_139_code 16 = .ok (.dup, 1) := by decide +kernel
theorem d8_17 : decode jdk_42_method_139_code 17 = .ok (.iload_n 0, 1) := by decide +kernel
theorem d8_18 : decode jdk_42_method_139_code 18 = .ok (.invokestatic 1018, 3) := by decide +kernel
theorem d8_21 : decode jdk_42_method_139_code 21 = .ok (.iconst 0, 1) := by decide +kernel
theorem d8_22 : decode jdk_42_method_139_code 22 = .ok (.invokespecial 209, 3) := by decide +kernel
theorem d8_25 : decode jdk_42_method_139_code 25 = .ok (.areturn, 1) := by decide +kernel
theorem d8_26 : decode jdk_42_method_139_code 26 = .ok (.new 10, 3) := by decide +kernel
theorem d8_29 : decode jdk_42_method_139_code 29 = .ok (.dup, 1) := by decide +kernel
theorem d8_30 : decode jdk_42_method_139_code 30 = .ok (.iload_n 0, 1) := by decide +kernel
theorem d8_31 : decode jdk_42_method_139_code 31 = .ok (.invokestatic 1021, 3) := by decide +kernel
theorem d8_34 : decode jdk_42_method_139_code 34 = .ok (.iconst 1, 1) := by decide +kernel
theorem d8_35 : decode jdk_42_method_139_code 35 = .ok (.invokespecial 209, 3) := by decide +kernel
theorem d8_38 : decode jdk_42_method_139_code 38 = .ok (.areturn, 1) := by decide +kernel
theorem pf8 : plainFor (⟨"java/lang/String", "valueOf", "(C)Ljava/lang/String;"⟩ : MethodName) = true := by first | exact plainFor_of_name (by first | (simp [plainName, overriddenIn]; done) | decide +kernel) | decide +kernel
theorem ef_valueOfC (m : MethodId) (z0 : Int32) : entryFrame m #[(.int z0)] 1 = mkF m 0 #[.val (.int z0)] [] := by first | rfl | (simp [entryFrame, mkF, argsToLocals, Value.category, *]; done) | rfl
set_option maxRecDepth 65536 in
set_option maxHeartbeats 40000000 in
theorem rm_valueOfC {l : Launch} {Z : State} {a0 : Array Value} {n0 : Nat} (G : Gl Z a0 n0) {h0 : Heap} (O : Old Z n0 h0) (ch : Int32) (hc : ¬ ch < 0 ∧ ¬ 255 < ch) :
    Ct [] l Z n0 (⟨"java/lang/String", "valueOf", "(C)Ljava/lang/String;"⟩ : MethodName) jdk_42_method_139_code 1 (some (.object "java/lang/String")) ({ frames := 2, cells := 2, slots := 5, locals := 27 } : Room) #[(.int ch)] h0 (fun v h => Keep h0 h [] ∧ ∃ a, v = some (.ref a) ∧ Str Z h a [ch]) := by
  refine Ct.intro pf8 ?_
  intro p e s m below meth c C
  refine AtW.cast ?_ (ef_valueOfC m ch)
  obtain ⟨zc, SC, hzc⟩ := G.cs
  refine w_getS (q := 3) (host := "") C (Or.inl (G.1 _ (List.mem_of_getElem? (i := 18) rfl))) Via.refl (SC.ext O.2) d8_0 rfl ?_
  refine w_if_eq_f (q := 6) C d8_3 rfl hzc ?_
  refine w_iloadN (q := 7) C rfl d8_6 rfl ?_
  refine w_callS (q := 10) (argsL := [(.int ch)]) (S := []) (W := 0) (cells' := 0) (slots' := 0) C (G.1 _ (List.mem_of_getElem? (i := 37) rfl)) (G.1 _ (List.mem_of_getElem? (i := 38) rfl)) (G.1 _ (List.mem_of_getElem? (i := 39) rfl)) (G.1 _ (List.mem_of_getElem? (i := 40) rfl)) (by decide) (rm_canEncC G O ch hc) rfl (lenOf pd_9 rfl) rfl (by decide) (own_leb rfl) (by decide) rfl rfl (by decide) (by decide) d8_7 rfl ?_
  rintro _ h31 ⟨eh32, rfl⟩
  rw [eh32]
  show AtW p l e _ s m _ below meth c n0 _ h0 0 0 (mkF m 10 #[.val (.int ch)] [(.int (1 : Int32))])
  refine w_if_eq_f (q := 13) C d8_10 rfl (by decide) ?_
  refine w_new (q := 16) (cells' := 1) (slots' := 4) C (G.1 _ (List.mem_of_getElem? (i := 41) rfl)) (G.1 _ (List.mem_of_getElem? (i := 5) rfl)) (G.1 _ (List.mem_of_getElem? (i := 6) rfl)) rfl rfl (by decide) (by decide) d8_13 rfl ?_
  intro h33 a g_a Eh33 A_a D_a
  have F_coder_a : Fld Z h33 a "java/lang/String" "coder" "B" (.int (0 : Int32)) := D_a (Or.inr (G.1 _ (List.mem_of_getElem? (i := 31) rfl))) (ty := .byte) (by decide)
  have F_value_a : Fld Z h33 a "java/lang/String" "value" "[B" .null := D_a (Or.inr (G.1 _ (List.mem_of_getElem? (i := 33) rfl))) (ty := (.array .byte)) (by decide)
  have hge : n0 ≤ a := by rw [g_a]; exact Old_le O
  have K1 : Keep h0 h33 [] := Keep.of_ext Eh33
  replace O := Old_k0 O K1
  refine w_dup (q := 17) C rfl d8_16 rfl ?_
  refine w_iloadN (q := 18) C rfl d8_17 rfl ?_
  refine w_callS (q := 21) (argsL := [(.int ch)]) (S := [(.ref a), (.ref a)]) (W := 2) (cells' := 2) (slots' := 5) C (G.1 _ (List.mem_of_getElem? (i := 42) rfl)) (G.1 _ (List.mem_of_getElem? (i := 43) rfl)) (G.1 _ (List.mem_of_getElem? (i := 39) rfl)) (G.1 _ (List.mem_of_getElem? (i := 44) rfl)) (by decide) (rm_toBytesC G O ch) rfl (lenOf pd_10 rfl) rfl (by decide) (own_leb rfl) (by decide) rfl rfl (by decide) (by decide) d8_18 rfl ?_
  rintro _ h34 ⟨Kh34, t, rfl, hg, B⟩
  show AtW p l e _ s m _ below meth c n0 _ h34 2 5 (mkF m 21 #[.val (.int ch)] [(.ref t), (.ref a), (.ref a)])
  replace O := Old_k0 O Kh34
  have hne : t ≠ a := Ne.symm (Nat.ne_of_lt (Nat.lt_of_lt_of_le A_a.lt hg))
  refine w_iconst (q := 22) (v := (0 : Int32)) C (by rfl) d8_21 rfl ?_
  refine w_callI (q := 25) (argsL := [(.ref t), (.int (0 : Int32))]) (S := [(.ref a)]) (W := 1) (cells' := 2) (slots' := 5) (a := a) C rfl (G.1 _ (List.mem_of_getElem? (i := 45) rfl)) (G.1 _ (List.mem_of_getElem? (i := 46) rfl)) (G.1 _ (List.mem_of_getElem? (i := 6) rfl)) (G.1 _ (List.mem_of_getElem? (i := 47) rfl)) (by decide) (rm_initBB G O a t 0 (Exa_k0 A_a Kh34) (Fld_k0 F_value_a Kh34) (Fld_k0 F_coder_a Kh34) hge (Or.inl rfl)) rfl (lenOf pd_11 rfl) rfl (by decide) (own_leb rfl) (by decide) rfl rfl (by decide) (by decide) d8_22 rfl ?_
  rintro _ h35 ⟨Kh35, rfl, e1, e2, e3⟩
  show AtW p l e _ s m _ below meth c n0 _ h35 2 5 (mkF m 25 #[.val (.int ch)] [(.ref a)])
  exact w_retA C rfl rfl rfl d8_25 (by decide) (by decide) ⟨own_K1 (own_K0 K1 Kh34) Kh35 (Nat.le_of_eq g_a.symm), a, rfl, e1, own_L1c hc (fun c hc => absurd hc List.not_mem_nil), t, e2, e3, B.keep Kh35 (ninS hne nin0)⟩
theorem d22_0 : decode jdk_43_method_4_code 0 = .ok (.iload_n 0, 1) := by decide +kernel
theorem d22_1 : decode jdk_43_method_4_code 1 = .ok (.ifCond .lt 14, 3) := by decide +kernel
theorem d22_4 : decode jdk_43_method_4_code 4 = .ok (.iload_n 0, 1) := by decide +kernel
theorem d22_5 : decode jdk_43_method_4_code 5 = .ok (.sipush 255, 3) := by decide +kernel
theorem d22_8 : decode jdk_43_method_4_code 8 = .ok (.if_icmp .gt 7, 3) := by decide +kernel
theorem d22_11 : decode jdk_43_method_4_code 11 = .ok (.iconst 1, 1) := by decide +kernel
theorem d22_12 : decode jdk_43_method_4_code 12 = .ok (.goto 4, 3) := by decide +kernel
theorem d22_15 : decode jdk_43_method_4_code 15 = .ok (.iconst 0, 1) := by decide +kernel
theorem d22_16 : decode jdk_43_method_4_code 16 = .ok (.ireturn, 1) := by decide +kernel
theorem pf22 : plainFor (⟨"java/lang/StringLatin1", "canEncode", "(I)Z"⟩ : MethodName) = true := by first | exact plainFor_of_name (by first | (simp [plainName, overriddenIn]; done) | decide +kernel) | decide +kernel
theorem ef_canEncI (m : MethodId) (z0 : Int32) : entryFrame m #[(.int z0)] 1 = mkF m 0 #[.val (.int z0)] [] := by first | rfl | (simp [entryFrame, mkF, argsToLocals, Value.category, *]; done) | rfl
set_option maxRecDepth 65536 in
set_option maxHeartbeats 40000000 in
theorem rm_canEncI {l : Launch} {Z : State} {a0 : Array Value} {n0 : Nat} (G : Gl Z a0 n0) {h0 : Heap} (O : Old Z n0 h0) (ch : Int32) (hc : ¬ ch < 0 ∧ ¬ 255 < ch) :
    Ct [] l Z n0 (⟨"java/lang/StringLatin1", "canEncode", "(I)Z"⟩ : MethodName) jdk_43_method_4_code 1 (some .boolean) ({ frames := 0, cells := 0, slots := 0, locals := 0 } : Room) #[(.int ch)] h0 (fun v h => h = h0 ∧ v = some (.int 1)) := by
  refine Ct.intro pf22 ?_
  intro p e s m below meth c C
  refine AtW.cast ?_ (ef_canEncI m ch)
  refine w_iloadN (q := 1) C rfl d22_0 rfl ?_
  refine w_if_lt_f (q := 4) C d22_1 rfl hc.1 ?_
  refine w_iloadN (q := 5) C rfl d22_4 rfl ?_
  refine w_sipush (q := 8) (v := (255 : Int32)) C (by rfl) d22_5 rfl ?_
  refine w_icmp_gt_f (q := 11) C d22_8 rfl hc.2 ?_
  refine w_iconst (q := 12) (v := (1 : Int32)) C (by rfl) d22_11 rfl ?_
  refine w_goto (q := 16) C d22_12 (by decide) (by decide) ?_
  exact w_retZ (z := (1 : Int32)) C (t := .boolean) rfl (by simp) (by decide) d22_16 (by decide) (by decide) ⟨rfl, rfl⟩
theorem d23_0 : decode jdk_29_method_65_code 0 = .ok (.iload_n 0, 1) := by decide +kernel
theorem d23_1 : decode jdk_29_method_65_code 1 = .ok (.iload_n 1, 1) := by decide +kernel
theorem d23_2 : decode jdk_29_method_65_code 2 = .ok (.if_icmp .lt 7, 3) := by decide +kernel
theorem d23_5 : decode jdk_29_method_65_code 5 = .ok (.iload_n 0, 1) := by decide +kernel
theorem d23_6 : decode jdk_29_method_65_code 6 = .ok (.goto 4, 3) := by decide +kernel
theorem d23_9 : decode jdk_29_method_65_code 9 = .ok (.iload_n 1, 1) := by decide +kernel
theorem d23_10 : decode jdk_29_method_65_code 10 = .ok (.ireturn, 1) := by decide +kernel
theorem pf23 : plainFor (⟨"java/lang/Math", "max", "(II)I"⟩ : MethodName) = true := by first | exact plainFor_of_name (by first | (simp [plainName, overriddenIn]; done) | decide +kernel) | decide +kernel
theorem ef_mmax (m : MethodId) (z0 : Int32) (z1 : Int32) : entryFrame m #[(.int z0), (.int z1)] 2 = mkF m 0 #[.val (.int z0), .val (.int z1)] [] := by first | rfl | (simp [entryFrame, mkF, argsToLocals, Value.category, *]; done) | rfl
set_option maxRecDepth 65536 in
set_option maxHeartbeats 40000000 in
theorem rm_mmax {l : Launch} {Z : State} {a0 : Array Value} {n0 : Nat} (G : Gl Z a0 n0) {h0 : Heap} (O : Old Z n0 h0) (x : Int32) (y : Int32) :
    Ct [] l Z n0 (⟨"java/lang/Math", "max", "(II)I"⟩ : MethodName) jdk_29_method_65_code 2 (some .int) ({ frames := 0, cells := 0, slots := 0, locals := 0 } : Room) #[(.int x), (.int y)] h0 (fun v h => h = h0 ∧ v = some (.int (if x < y then y else x))) := by
  refine Ct.intro pf23 ?_
  intro p e s m below meth c C
  refine AtW.cast ?_ (ef_mmax m x y)
  refine w_iloadN (q := 1) C rfl d23_0 rfl ?_
  refine w_iloadN (q := 2) C rfl d23_1 rfl ?_
  by_cases hc : x < y
  · refine w_icmp_lt_t (q := 9) C d23_2 (by decide) (by decide) hc ?_
    refine w_iloadN (q := 10) C rfl d23_9 rfl ?_
    exact w_retI C rfl d23_10 (by decide) (by decide) ⟨rfl, by rw [if_pos hc]⟩
  · refine w_icmp_lt_f (q := 5) C d23_2 rfl hc ?_
    refine w_iloadN (q := 6) C rfl d23_5 rfl ?_
    refine w_goto (q := 10) C d23_6 (by decide) (by decide) ?_
    exact w_retI C rfl d23_10 (by decide) (by decide) ⟨rfl, by rw [if_neg hc]⟩
theorem d24_0 : decode jdk_29_method_69_code 0 = .ok (.iload_n 0, 1) := by decide +kernel
theorem d24_1 : decode jdk_29_method_69_code 1 = .ok (.iload_n 1, 1) := by decide +kernel
theorem d24_2 : decode jdk_29_method_69_code 2 = .ok (.if_icmp .gt 7, 3) := by decide +kernel
theorem d24_5 : decode jdk_29_method_69_code 5 = .ok (.iload_n 0, 1) := by decide +kernel
theorem d24_6 : decode jdk_29_method_69_code 6 = .ok (.goto 4, 3) := by decide +kernel
theorem d24_9 : decode jdk_29_method_69_code 9 = .ok (.iload_n 1, 1) := by decide +kernel
theorem d24_10 : decode jdk_29_method_69_code 10 = .ok (.ireturn, 1) := by decide +kernel
theorem pf24 : plainFor (⟨"java/lang/Math", "min", "(II)I"⟩ : MethodName) = true := by first | exact plainFor_of_name (by first | (simp [plainName, overriddenIn]; done) | decide +kernel) | decide +kernel
theorem ef_mmin (m : MethodId) (z0 : Int32) (z1 : Int32) : entryFrame m #[(.int z0), (.int z1)] 2 = mkF m 0 #[.val (.int z0), .val (.int z1)] [] := by first | rfl | (simp [entryFrame, mkF, argsToLocals, Value.category, *]; done) | rfl
set_option maxRecDepth 65536 in
set_option maxHeartbeats 40000000 in
theorem rm_mmin {l : Launch} {Z : State} {a0 : Array Value} {n0 : Nat} (G : Gl Z a0 n0) {h0 : Heap} (O : Old Z n0 h0) (x : Int32) (y : Int32) :
    Ct [] l Z n0 (⟨"java/lang/Math", "min", "(II)I"⟩ : MethodName) jdk_29_method_69_code 2 (some .int) ({ frames := 0, cells := 0, slots := 0, locals := 0 } : Room) #[(.int x), (.int y)] h0 (fun v h => h = h0 ∧ v = some (.int (if y < x then y else x))) := by
  refine Ct.intro pf24 ?_
  intro p e s m below meth c C
  refine AtW.cast ?_ (ef_mmin m x y)
  refine w_iloadN (q := 1) C rfl d24_0 rfl ?_
  refine w_iloadN (q := 2) C rfl d24_1 rfl ?_
  by_cases hc : y < x
  · refine w_icmp_gt_t (q := 9) C d24_2 (by decide) (by decide) hc ?_
    refine w_iloadN (q := 10) C rfl d24_9 rfl ?_
    exact w_retI C rfl d24_10 (by decide) (by decide) ⟨rfl, by rw [if_pos hc]⟩
  · refine w_icmp_gt_f (q := 5) C d24_2 rfl hc ?_
    refine w_iloadN (q := 6) C rfl d24_5 rfl ?_
    refine w_goto (q := 10) C d24_6 (by decide) (by decide) ?_
    exact w_retI C rfl d24_10 (by decide) (by decide) ⟨rfl, by rw [if_neg hc]⟩
def own_ix (ch : Int32) : List Int32 → Nat → Int32
  | [], _ => -1
  | c :: r, i => if c = ch then Int32.ofNat i else own_ix ch r (i + 1)
theorem own_ix_cons (ch c : Int32) (r : List Int32) (i : Nat) : own_ix ch (c :: r) i = if c = ch then Int32.ofNat i else own_ix ch r (i + 1) := rfl
theorem own_b8inj {x y : Int32} (hx : ¬ x < 0 ∧ ¬ 255 < x) (hy : ¬ y < 0 ∧ ¬ 255 < y) : x.toInt8.toInt32 = y.toInt8.toInt32 ↔ x = y :=
  ⟨fun q => by rw [← own_lo8 hx.1 hx.2, ← own_lo8 hy.1 hy.2, q], fun q => by rw [q]⟩
theorem own_ix_neg (ch : Int32) : ∀ (cs : List Int32) (i : Nat), i + cs.length < 2 ^ 31 → (own_ix ch cs i < 0 ↔ ch ∉ cs)
  | [], i, _ => by simp only [own_ix]; exact ⟨fun _ => List.not_mem_nil, fun _ => by decide⟩
  | c :: r, i, h => by
    simp only [List.length_cons] at h
    unfold own_ix
    by_cases hc : c = ch
    · rw [if_pos hc]; subst hc
      exact ⟨fun q => absurd q (ofNat_neg (by omega)), fun q => absurd (List.mem_cons_self ..) q⟩
    · rw [if_neg hc, own_ix_neg ch r (i + 1) (by omega)]
      simp [List.mem_cons, Ne.symm hc]

theorem d25_0 : decode jdk_43_method_23_code 0 = .ok (.iload_n 1, 1) := by decide +kernel
theorem d25_1 : decode jdk_43_method_23_code 1 = .ok (.i2b, 1) := by decide +kernel
theorem d25_2 : decode jdk_43_method_23_code 2 = .ok (.istore 4, 2) := by decide +kernel
theorem d25_4 : decode jdk_43_method_23_code 4 = .ok (.iload_n 2, 1) := by decide +kernel
theorem d25_5 : decode jdk_43_method_23_code 5 = .ok (.istore 5, 2) := by decide +kernel
theorem d25_7 : decode jdk_43_method_23_code 7 = .ok (.iload 5, 2) := by decide +kernel
theorem d25_9 : decode jdk_43_method_23_code 9 = .ok (.iload_n 3, 1) := by decide +kernel
theorem d25_10 : decode jdk_43_method_23_code 10 = .ok (.if_icmp .ge 21, 3) := by decide +kernel
theorem d25_13 : decode jdk_43_method_23_code 13 = .ok (.aload_n 0, 1) := by decide +kernel
theorem d25_14 : decode jdk_43_method_23_code 14 = .ok (.iload 5, 2) := by decide +kernel
theorem d25_16 : decode jdk_43_method_23_code 16 = .ok (.baload, 1) := by decide +kernel
theorem d25_17 : decode jdk_43_method_23_code 17 = .ok (.iload 4, 2) := by decide +kernel
theorem d25_19 : decode jdk_43_method_23_code 19 = .ok (.if_icmp .ne 6, 3) := by decide +kernel
theorem d25_22 : decode jdk_43_method_23_code 22 = .ok (.iload 5, 2) := by decide +kernel
theorem d25_24 : decode jdk_43_method_23_code 24 = .ok (.ireturn, 1) := by decide +kernel
theorem d25_25 : decode jdk_43_method_23_code 25 = .ok (.iinc 5 1, 3) := by decide +kernel
theorem d25_28 : decode jdk_43_method_23_code 28 = .ok (.goto (-21), 3) := by decide +kernel
theorem d25_31 : decode jdk_43_method_23_code 31 = .ok (.iconst (-1), 1) := by decide +kernel
theorem d25_32 : decode jdk_43_method_23_code 32 = .ok (.ireturn, 1) := by decide +kernel
theorem pf25 : plainFor (⟨"java/lang/StringLatin1", "indexOfChar", "([BIII)I"⟩ : MethodName) = true := by first | exact plainFor_of_name (by first | (simp [plainName, overriddenIn]; done) | decide +kernel) | decide +kernel
theorem ef_idxChar (m : MethodId) (z0 : Addr) (z1 : Int32) (z2 : Int32) (z3 : Int32) : entryFrame m #[(.ref z0), (.int z1), (.int z2), (.int z3)] 6 = mkF m 0 #[.val (.ref z0), .val (.int z1), .val (.int z2), .val (.int z3), .unset, .unset] [] := by first | rfl | (simp [entryFrame, mkF, argsToLocals, Value.category, *]; done) | rfl
set_option maxRecDepth 65536 in
set_option maxHeartbeats 40000000 in
theorem rm_idxChar {l : Launch} {Z : State} {a0 : Array Value} {n0 : Nat} (G : Gl Z a0 n0) {h0 : Heap} (O : Old Z n0 h0) (t : Addr) (cs : List Int32) (ch : Int32) (A : Ar Z h0 t .byte (own_bs cs)) (hr : L1 cs) (hc : ¬ ch < 0 ∧ ¬ 255 < ch) :
    Ct [] l Z n0 (⟨"java/lang/StringLatin1", "indexOfChar", "([BIII)I"⟩ : MethodName) jdk_43_method_23_code 6 (some .int) ({ frames := 0, cells := 0, slots := 0, locals := 0 } : Room) #[(.ref t), (.int ch), (.int (0 : Int32)), (.int (Int32.ofNat cs.length))] h0 (fun v h => h = h0 ∧ v = some (.int (own_ix ch cs 0))) := by
  refine Ct.intro pf25 ?_
  intro p e s m below meth c C
  refine AtW.cast ?_ (ef_idxChar m t ch (0 : Int32) (Int32.ofNat cs.length))
  have hl : cs.length < 2 ^ 31 := by have := A.1; rw [own_bs_len] at this; exact this
  have LOOP : ∀ (k i : Nat), i + k = cs.length → own_ix ch cs 0 = own_ix ch (cs.drop i) i → AtW p l e ({ frames := 0, cells := 0, slots := 0, locals := 0 } : Room) s m #[(.ref t), (.int ch), (.int (0 : Int32)), (.int (Int32.ofNat cs.length))] below meth c n0 (fun v h => h = h0 ∧ v = some (.int (own_ix ch cs 0))) h0 0 0 (mkF m 7 #[.val (.ref t), .val (.int ch), .val (.int (0 : Int32)), .val (.int (Int32.ofNat cs.length)), .val (.int (ch.toInt8.toInt32)), .val (.int (Int32.ofNat i))] []) := by
    intro k
    induction k with
    | zero =>
      intro i hik e
      obtain rfl : i = cs.length := by omega
      refine w_iload (q := 9) C rfl d25_7 rfl ?_
      refine w_iloadN (q := 10) C rfl d25_9 rfl ?_
      refine w_icmp_ge_t (q := 31) C d25_10 (by decide) (by decide) (fun q => Nat.lt_irrefl _ ((own_nlt hl hl).mp q)) ?_
      refine w_iconst (q := 32) (v := (-1 : Int32)) C (by rfl) d25_31 rfl ?_
      exact w_retI C rfl d25_32 (by decide) (by decide) ⟨rfl, by rw [e, List.drop_length]; rfl⟩
    | succ k ih =>
      intro i hik e
      have hil : i < cs.length := by omega
      obtain ⟨c1, hc1⟩ : ∃ c1, cs[i]? = some c1 := ⟨_, List.getElem?_eq_getElem hil⟩
      have ed : cs.drop i = c1 :: cs.drop (i + 1) := by rw [List.drop_eq_getElem_cons hil]; congr 1; exact Option.some.inj ((List.getElem?_eq_getElem hil).symm.trans hc1)
      rw [ed, own_ix_cons] at e
      refine w_iload (q := 9) C rfl d25_7 rfl ?_
      refine w_iloadN (q := 10) C rfl d25_9 rfl ?_
      refine w_icmp_ge_f (q := 13) C d25_10 rfl ((own_nlt (by omega) hl).mpr hil) ?_
      refine w_aloadN (q := 14) C rfl rfl d25_13 rfl ?_
      refine w_iload (q := 16) C rfl d25_14 rfl ?_
      refine w_baload (q := 17) (i := i) (v := (.int c1.toInt8.toInt32)) C A rfl (own_bs_get hc1) d25_16 rfl ?_
      refine w_iload (q := 19) C rfl d25_17 rfl ?_
      by_cases q1 : c1.toInt8.toInt32 = (ch.toInt8.toInt32)
      · refine w_icmp_ne_f (q := 22) C d25_19 rfl q1 ?_
        refine w_iload (q := 24) C rfl d25_22 rfl ?_
        exact w_retI C rfl d25_24 (by decide) (by decide) ⟨rfl, by rw [e, if_pos ((own_b8inj (hr.get hc1) hc).mp q1)]⟩
      · refine w_icmp_ne_t (q := 25) C d25_19 (by decide) (by decide) q1 ?_
        refine w_iinc (q := 28) (L' := #[.val (.ref t), .val (.int ch), .val (.int (0 : Int32)), .val (.int (Int32.ofNat cs.length)), .val (.int (ch.toInt8.toInt32)), .val (.int (Int32.ofNat (i + 1)))]) C rfl (own_one i) rfl d25_25 rfl ?_
        refine w_goto (q := 7) C d25_28 (by decide) (by decide) ?_
        exact ih (i + 1) (by omega) (by rw [e, if_neg (fun q => q1 ((own_b8inj (hr.get hc1) hc).mpr q))])
  refine w_iloadN (q := 1) C rfl d25_0 rfl ?_
  refine w_i2b (q := 2) C rfl d25_1 rfl ?_
  refine w_istore (q := 4) (L' := #[.val (.ref t), .val (.int ch), .val (.int (0 : Int32)), .val (.int (Int32.ofNat cs.length)), .val (.int (ch.toInt8.toInt32)), .unset]) C rfl d25_2 rfl ?_
  refine w_iloadN (q := 5) C rfl d25_4 rfl ?_
  refine w_istore (q := 7) (L' := #[.val (.ref t), .val (.int ch), .val (.int (0 : Int32)), .val (.int (Int32.ofNat cs.length)), .val (.int (ch.toInt8.toInt32)), .val (.int (0 : Int32))]) C rfl d25_5 rfl ?_
  exact LOOP cs.length 0 (by omega) rfl
theorem d21_0 : decode jdk_43_method_22_code 0 = .ok (.iload_n 1, 1) := by decide +kernel
theorem d21_1 : decode jdk_43_method_22_code 1 = .ok (.invokestatic 88, 3) := by decide +kernel
theorem d21_4 : decode jdk_43_method_22_code 4 = .ok (.ifCond .ne 5, 3) := by decide +kernel
theorem d21_7 : decode jdk_43_method_22_code 7 = .ok (.iconst (-1), 1) := by decide +kernel
theorem d21_8 : decode jdk_43_method_22_code 8 = .ok (.ireturn, 1) := by decide +kernel
theorem d21_9 : decode jdk_43_method_22_code 9 = .ok (.iload_n 2, 1) := by decide +kernel
theorem d21_10 : decode jdk_43_method_22_code 10 = .ok (.iconst 0, 1) := by decide +kernel
theorem d21_11 : decode jdk_43_method_22_code 11 = .ok (.invokestatic 92, 3) := by decide +kernel
theorem d21_14 : decode jdk_43_method_22_code 14 = .ok (.istore_n 2, 1) := by decide +kernel
theorem d21_15 : decode jdk_43_method_22_code 15 = .ok (.iload_n 3, 1) := by decide +kernel
theorem d21_16 : decode jdk_43_method_22_code 16 = .ok (.aload_n 0, 1) := by decide +kernel
theorem d21_17 : decode jdk_43_method_22_code 17 = .ok (.arraylength, 1) := by decide +kernel
theorem d21_18 : decode jdk_43_method_22_code 18 = .ok (.invokestatic 38, 3) := by decide +kernel
theorem d21_21 : decode jdk_43_method_22_code 21 = .ok (.istore_n 3, 1) := by decide +kernel
theorem d21_22 : decode jdk_43_method_22_code 22 = .ok (.iload_n 2, 1) := by decide +kernel
theorem d21_23 : decode jdk_43_method_22_code 23 = .ok (.iload_n 3, 1) := by decide +kernel
theorem d21_24 : decode jdk_43_method_22_code 24 = .ok (.if_icmp .lt 5, 3) := by decide +kernel
theorem d21_27 : decode jdk_43_method_22_code 27 = .ok (.iconst (-1), 1) := by decide +kernel
theorem d21_28 : decode jdk_43_method_22_code 28 = .ok (.ireturn, 1) := by decide +kernel
theorem d21_29 : decode jdk_43_method_22_code 29 = .ok (.aload_n 0, 1) := by decide +kernel
theorem d21_30 : decode jdk_43_method_22_code 30 = .ok (.iload_n 1, 1) := by decide +kernel
theorem d21_31 : decode jdk_43_method_22_code 31 = .ok (.iload_n 2, 1) := by decide +kernel
theorem d21_32 : decode jdk_43_method_22_code 32 = .ok (.iload_n 3, 1) := by decide +kernel
theorem d21_33 : decode jdk_43_method_22_code 33 = .ok (.invokestatic 95, 3) := by decide +kernel
theorem d21_36 : decode jdk_43_method_22_code 36 = .ok (.ireturn, 1) := by decide +kernel
theorem pf21 : plainFor (⟨"java/lang/StringLatin1", "indexOf", "([BIII)I"⟩ : MethodName) = true := by first | exact plainFor_of_name (by first | (simp [plainName, overriddenIn]; done) | decide +kernel) | decide +kernel
theorem ef_idxL (m : MethodId) (z0 : Addr) (z1 : Int32) (z2 : Int32) (z3 : Int32) : entryFrame m #[(.ref z0), (.int z1), (.int z2), (.int z3)] 4 = mkF m 0 #[.val (.ref z0), .val (.int z1), .val (.int z2), .val (.int z3)] [] := by first | rfl | (simp [entryFrame, mkF, argsToLocals, Value.category, *]; done) | rfl
set_option maxRecDepth 65536 in
set_option maxHeartbeats 40000000 in
theorem rm_idxL {l : Launch} {Z : State} {a0 : Array Value} {n0 : Nat} (G : Gl Z a0 n0) {h0 : Heap} (O : Old Z n0 h0) (t : Addr) (cs : List Int32) (ch : Int32) (A : Ar Z h0 t .byte (own_bs cs)) (hr : L1 cs) (hc : ¬ ch < 0 ∧ ¬ 255 < ch) :
    Ct [] l Z n0 (⟨"java/lang/StringLatin1", "indexOf", "([BIII)I"⟩ : MethodName) jdk_43_method_22_code 4 (some .int) ({ frames := 1, cells := 0, slots := 0, locals := 17 } : Room) #[(.ref t), (.int ch), (.int (0 : Int32)), (.int (Int32.ofNat cs.length))] h0 (fun v h => h = h0 ∧ v = some (.int (own_ix ch cs 0))) := by
  refine Ct.intro pf21 ?_
  intro p e s m below meth c C
  refine AtW.cast ?_ (ef_idxL m t ch (0 : Int32) (Int32.ofNat cs.length))
  have hl : cs.length < 2 ^ 31 := by have := A.1; rw [own_bs_len] at this; exact this
  refine w_iloadN (q := 1) C rfl d21_0 rfl ?_
  refine w_callS (q := 4) (argsL := [(.int ch)]) (S := []) (W := 0) (cells' := 0) (slots' := 0) C (G.1 _ (List.mem_of_getElem? (i := 93) rfl)) (G.1 _ (List.mem_of_getElem? (i := 94) rfl)) (G.1 _ (List.mem_of_getElem? (i := 39) rfl)) (G.1 _ (List.mem_of_getElem? (i := 95) rfl)) (by decide) (rm_canEncI G O ch hc) rfl (lenOf pd_22 rfl) rfl (by decide) (own_leb rfl) (by decide) rfl rfl (by decide) (by decide) d21_1 rfl ?_
  rintro _ h36 ⟨eh37, rfl⟩
  rw [eh37]
  show AtW p l e _ s m _ below meth c n0 _ h0 0 0 (mkF m 4 #[.val (.ref t), .val (.int ch), .val (.int (0 : Int32)), .val (.int (Int32.ofNat cs.length))] [(.int (1 : Int32))])
  refine w_if_ne_t (q := 9) C d21_4 (by decide) (by decide) (by decide) ?_
  refine w_iloadN (q := 10) C rfl d21_9 rfl ?_
  refine w_iconst (q := 11) (v := (0 : Int32)) C (by rfl) d21_10 rfl ?_
  refine w_callS (q := 14) (argsL := [(.int (0 : Int32)), (.int (0 : Int32))]) (S := []) (W := 0) (cells' := 0) (slots' := 0) C (G.1 _ (List.mem_of_getElem? (i := 96) rfl)) (G.1 _ (List.mem_of_getElem? (i := 97) rfl)) (G.1 _ (List.mem_of_getElem? (i := 98) rfl)) (G.1 _ (List.mem_of_getElem? (i := 99) rfl)) (by decide) (rm_mmax G O 0 0) rfl (lenOf pd_17 rfl) rfl (by decide) (own_leb rfl) (by decide) rfl rfl (by decide) (by decide) d21_11 rfl ?_
  rintro _ h38 ⟨eh39, rfl⟩
  rw [eh39]
  show AtW p l e _ s m _ below meth c n0 _ h0 0 0 (mkF m 14 #[.val (.ref t), .val (.int ch), .val (.int (0 : Int32)), .val (.int (Int32.ofNat cs.length))] [(.int (if (0 : Int32) < (0 : Int32) then (0 : Int32) else (0 : Int32)))])
  rw [show (if (0 : Int32) < (0 : Int32) then (0 : Int32) else (0 : Int32)) = (0 : Int32) from by decide]
  refine w_istoreN (q := 15) (L' := #[.val (.ref t), .val (.int ch), .val (.int (0 : Int32)), .val (.int (Int32.ofNat cs.length))]) C rfl d21_14 rfl ?_
  refine w_iloadN (q := 16) C rfl d21_15 rfl ?_
  refine w_aloadN (q := 17) C rfl rfl d21_16 rfl ?_
  refine w_len (q := 18) (z := (Int32.ofNat cs.length)) C A (by rw [own_bs_len]) d21_17 rfl ?_
  refine w_callS (q := 21) (argsL := [(.int (Int32.ofNat cs.length)), (.int (Int32.ofNat cs.length))]) (S := []) (W := 0) (cells' := 0) (slots' := 0) C (G.1 _ (List.mem_of_getElem? (i := 100) rfl)) (G.1 _ (List.mem_of_getElem? (i := 101) rfl)) (G.1 _ (List.mem_of_getElem? (i := 98) rfl)) (G.1 _ (List.mem_of_getElem? (i := 102) rfl)) (by decide) (rm_mmin G O _ _) rfl (lenOf pd_17 rfl) rfl (by decide) (own_leb rfl) (by decide) rfl rfl (by decide) (by decide) d21_18 rfl ?_
  rintro _ h40 ⟨eh41, rfl⟩
  rw [eh41]
  show AtW p l e _ s m _ below meth c n0 _ h0 0 0 (mkF m 21 #[.val (.ref t), .val (.int ch), .val (.int (0 : Int32)), .val (.int (Int32.ofNat cs.length))] [(.int (if (Int32.ofNat cs.length) < (Int32.ofNat cs.length) then (Int32.ofNat cs.length) else (Int32.ofNat cs.length)))])
  rw [show (if (Int32.ofNat cs.length) < (Int32.ofNat cs.length) then (Int32.ofNat cs.length) else (Int32.ofNat cs.length)) = (Int32.ofNat cs.length) from by simp]
  refine w_istoreN (q := 22) (L' := #[.val (.ref t), .val (.int ch), .val (.int (0 : Int32)), .val (.int (Int32.ofNat cs.length))]) C rfl d21_21 rfl ?_
  refine w_iloadN (q := 23) C rfl d21_22 rfl ?_
  refine w_iloadN (q := 24) C rfl d21_23 rfl ?_
  by_cases q1 : (0 : Int32) < (Int32.ofNat cs.length)
  · refine w_icmp_lt_t (q := 29) C d21_24 (by decide) (by decide) q1 ?_
    refine w_aloadN (q := 30) C rfl rfl d21_29 rfl ?_
    refine w_iloadN (q := 31) C rfl d21_30 rfl ?_
    refine w_iloadN (q := 32) C rfl d21_31 rfl ?_
    refine w_iloadN (q := 33) C rfl d21_32 rfl ?_
    refine w_callS (q := 36) (argsL := [(.ref t), (.int ch), (.int (0 : Int32)), (.int (Int32.ofNat cs.length))]) (S := []) (W := 0) (cells' := 0) (slots' := 0) C (G.1 _ (List.mem_of_getElem? (i := 103) rfl)) (G.1 _ (List.mem_of_getElem? (i := 104) rfl)) (G.1 _ (List.mem_of_getElem? (i := 39) rfl)) (G.1 _ (List.mem_of_getElem? (i := 105) rfl)) (by decide) (rm_idxChar G O t cs ch A hr hc) rfl (lenOf pd_21 rfl) rfl (by decide) (own_leb rfl) (by decide) rfl rfl (by decide) (by decide) d21_33 rfl ?_
    rintro _ h42 ⟨eh43, rfl⟩
    rw [eh43]
    show AtW p l e _ s m _ below meth c n0 _ h0 0 0 (mkF m 36 #[.val (.ref t), .val (.int ch), .val (.int (0 : Int32)), .val (.int (Int32.ofNat cs.length))] [(.int (own_ix ch cs 0))])
    exact w_retI C rfl d21_36 (by decide) (by decide) ⟨rfl, rfl⟩
  · refine w_icmp_lt_f (q := 27) C d21_24 rfl q1 ?_
    refine w_iconst (q := 28) (v := (-1 : Int32)) C (by rfl) d21_27 rfl ?_
    exact w_retI C rfl d21_28 (by decide) (by decide) ⟨rfl, by have hz : cs = [] := List.eq_nil_of_length_eq_zero (by have : ¬ 0 < cs.length := fun q => q1 ((own_nlt (i := 0) (by omega) hl).mpr q); omega); subst hz; rfl⟩
theorem d17_0 : decode jdk_42_method_80_code 0 = .ok (.aload_n 0, 1) := by decide +kernel
theorem d17_1 : decode jdk_42_method_80_code 1 = .ok (.invokevirtual 492, 3) := by decide +kernel
theorem d17_4 : decode jdk_42_method_80_code 4 = .ok (.ifCond .eq 19, 3) := by decide +kernel
theorem d17_7 : decode jdk_42_method_80_code 7 = .ok (.aload_n 0, 1) := by decide +kernel
theorem d17_8 : decode jdk_42_method_80_code 8 = .ok (.getfield 9, 3) := by decide +kernel
theorem d17_11 : decode jdk_42_method_80_code 11 = .ok (.iload_n 1, 1) := by decide +kernel
theorem d17_12 : decode jdk_42_method_80_code 12 = .ok (.iload_n 2, 1) := by decide +kernel
theorem d17_13 : decode jdk_42_method_80_code 13 = .ok (.aload_n 0, 1) := by decide +kernel
theorem d17_14 : decode jdk_42_method_80_code 14 = .ok (.invokevirtual 505, 3) := by decide +kernel
theorem d17_17 : decode jdk_42_method_80_code 17 = .ok (.invokestatic 637, 3) := by decide +kernel
theorem d17_20 : decode jdk_42_method_80_code 20 = .ok (.goto 16, 3) := by decide +kernel
theorem d17_23 : decode jdk_42_method_80_code 23 = .ok (.aload_n 0, 1) := by decide +kernel
theorem d17_24 : decode jdk_42_method_80_code 24 = .ok (.getfield 9, 3) := by decide +kernel
theorem d17_27 : decode jdk_42_method_80_code 27 = .ok (.iload_n 1, 1) := by decide +kernel
theorem d17_28 : decode jdk_42_method_80_code 28 = .ok (.iload_n 2, 1) := by decide +kernel
theorem d17_29 : decode jdk_42_method_80_code 29 = .ok (.aload_n 0, 1) := by decide +kernel
theorem d17_30 : decode jdk_42_method_80_code 30 = .ok (.invokevirtual 505, 3) := by decide +kernel
theorem d17_33 : decode jdk_42_method_80_code 33 = .ok (.invokestatic 640, 3) := by decide +kernel
theorem d17_36 : decode jdk_42_method_80_code 36 = .ok (.ireturn, 1) := by decide +kernel
theorem pf17 : plainFor (⟨"java/lang/String", "indexOf", "(II)I"⟩ : MethodName) = true := by first | exact plainFor_of_name (by first | (simp [plainName, overriddenIn]; done) | decide +kernel) | decide +kernel
theorem ef_idx2 (m : MethodId) (z0 : Addr) (z1 : Int32) (z2 : Int32) : entryFrame m #[(.ref z0), (.int z1), (.int z2)] 3 = mkF m 0 #[.val (.ref z0), .val (.int z1), .val (.int z2)] [] := by first | rfl | (simp [entryFrame, mkF, argsToLocals, Value.category, *]; done) | rfl
set_option maxRecDepth 65536 in
set_option maxHeartbeats 40000000 in
theorem rm_idx2 {l : Launch} {Z : State} {a0 : Array Value} {n0 : Nat} (G : Gl Z a0 n0) {h0 : Heap} (O : Old Z n0 h0) (a : Addr) (cs : List Int32) (ch : Int32) (S : Str Z h0 a cs) (hc : ¬ ch < 0 ∧ ¬ 255 < ch) :
    Ct [] l Z n0 (⟨"java/lang/String", "indexOf", "(II)I"⟩ : MethodName) jdk_42_method_80_code 3 (some .int) ({ frames := 2, cells := 0, slots := 0, locals := 32 } : Room) #[(.ref a), (.int ch), (.int (0 : Int32))] h0 (fun v h => h = h0 ∧ v = some (.int (own_ix ch cs 0))) := by
  refine Ct.intro pf17 ?_
  intro p e s m below meth c C
  refine AtW.cast ?_ (ef_idx2 m a ch (0 : Int32))
  obtain ⟨E, hr, t, FC, FV, A⟩ := id S
  refine w_aloadN (q := 1) C rfl rfl d17_0 rfl ?_
  refine w_callV (q := 4) (argsL := []) (S := []) (W := 0) (cells' := 0) (slots' := 0) (a := a) C E (G.1 _ (List.mem_of_getElem? (i := 75) rfl)) (G.1 _ (List.mem_of_getElem? (i := 76) rfl)) (w_nf C (G.1 _ (List.mem_of_getElem? (i := 78) rfl))) (G.1 _ (List.mem_of_getElem? (i := 78) rfl)) (G.1 _ (List.mem_of_getElem? (i := 77) rfl)) (G.1 _ (List.mem_of_getElem? (i := 6) rfl)) (G.1 _ (List.mem_of_getElem? (i := 79) rfl)) (by decide) (rm_isLatin1 G O a cs S) rfl (lenOf pd_18 rfl) rfl (by decide) (own_leb rfl) (by decide) rfl rfl (by decide) (by decide) d17_1 rfl ?_
  rintro _ h44 ⟨eh45, rfl⟩
  rw [eh45]
  show AtW p l e _ s m _ below meth c n0 _ h0 0 0 (mkF m 4 #[.val (.ref a), .val (.int ch), .val (.int (0 : Int32))] [(.int (1 : Int32))])
  refine w_if_eq_f (q := 7) C d17_4 rfl (by decide) ?_
  refine w_aloadN (q := 8) C rfl rfl d17_7 rfl ?_
  refine w_getF (q := 11) (host := "") C (Or.inl (G.1 _ (List.mem_of_getElem? (i := 32) rfl))) Via.refl FV d17_8 rfl ?_
  refine w_iloadN (q := 12) C rfl d17_11 rfl ?_
  refine w_iloadN (q := 13) C rfl d17_12 rfl ?_
  refine w_aloadN (q := 14) C rfl rfl d17_13 rfl ?_
  refine w_callV (q := 17) (argsL := []) (S := [(.int (0 : Int32)), (.int ch), (.ref t)]) (W := 3) (cells' := 0) (slots' := 0) (a := a) C E (G.1 _ (List.mem_of_getElem? (i := 80) rfl)) (G.1 _ (List.mem_of_getElem? (i := 81) rfl)) (w_nf C (G.1 _ (List.mem_of_getElem? (i := 83) rfl))) (G.1 _ (List.mem_of_getElem? (i := 83) rfl)) (G.1 _ (List.mem_of_getElem? (i := 82) rfl)) (G.1 _ (List.mem_of_getElem? (i := 6) rfl)) (G.1 _ (List.mem_of_getElem? (i := 84) rfl)) (by decide) (rm_length G O a cs S) rfl (lenOf pd_19 rfl) rfl (by decide) (own_leb rfl) (by decide) rfl rfl (by decide) (by decide) d17_14 rfl ?_
  rintro _ h46 ⟨eh47, rfl⟩
  rw [eh47]
  show AtW p l e _ s m _ below meth c n0 _ h0 0 0 (mkF m 17 #[.val (.ref a), .val (.int ch), .val (.int (0 : Int32))] [(.int (Int32.ofNat cs.length)), (.int (0 : Int32)), (.int ch), (.ref t)])
  refine w_callS (q := 20) (argsL := [(.ref t), (.int ch), (.int (0 : Int32)), (.int (Int32.ofNat cs.length))]) (S := []) (W := 0) (cells' := 0) (slots' := 0) C (G.1 _ (List.mem_of_getElem? (i := 90) rfl)) (G.1 _ (List.mem_of_getElem? (i := 91) rfl)) (G.1 _ (List.mem_of_getElem? (i := 39) rfl)) (G.1 _ (List.mem_of_getElem? (i := 92) rfl)) (by decide) (rm_idxL G O t cs ch A hr hc) rfl (lenOf pd_21 rfl) rfl (by decide) (own_leb rfl) (by decide) rfl rfl (by decide) (by decide) d17_17 rfl ?_
  rintro _ h48 ⟨eh49, rfl⟩
  rw [eh49]
  show AtW p l e _ s m _ below meth c n0 _ h0 0 0 (mkF m 20 #[.val (.ref a), .val (.int ch), .val (.int (0 : Int32))] [(.int (own_ix ch cs 0))])
  refine w_goto (q := 36) C d17_20 (by decide) (by decide) ?_
  exact w_retI C rfl d17_36 (by decide) (by decide) ⟨rfl, rfl⟩
theorem d16_0 : decode jdk_42_method_79_code 0 = .ok (.aload_n 0, 1) := by decide +kernel
theorem d16_1 : decode jdk_42_method_79_code 1 = .ok (.iload_n 1, 1) := by decide +kernel
theorem d16_2 : decode jdk_42_method_79_code 2 = .ok (.iconst 0, 1) := by decide +kernel
theorem d16_3 : decode jdk_42_method_79_code 3 = .ok (.invokevirtual 633, 3) := by decide +kernel
theorem d16_6 : decode jdk_42_method_79_code 6 = .ok (.ireturn, 1) := by decide +kernel
theorem pf16 : plainFor (⟨"java/lang/String", "indexOf", "(I)I"⟩ : MethodName) = true := by first | exact plainFor_of_name (by first | (simp [plainName, overriddenIn]; done) | decide +kernel) | decide +kernel
theorem ef_idx1 (m : MethodId) (z0 : Addr) (z1 : Int32) : entryFrame m #[(.ref z0), (.int z1)] 2 = mkF m 0 #[.val (.ref z0), .val (.int z1)] [] := by first | rfl | (simp [entryFrame, mkF, argsToLocals, Value.category, *]; done) | rfl
set_option maxRecDepth 65536 in
set_option maxHeartbeats 40000000 in
theorem rm_idx1 {l : Launch} {Z : State} {a0 : Array Value} {n0 : Nat} (G : Gl Z a0 n0) {h0 : Heap} (O : Old Z n0 h0) (a : Addr) (cs : List Int32) (ch : Int32) (S : Str Z h0 a cs) (hc : ¬ ch < 0 ∧ ¬ 255 < ch) :
    Ct [] l Z n0 (⟨"java/lang/String", "indexOf", "(I)I"⟩ : MethodName) jdk_42_method_79_code 2 (some .int) ({ frames := 3, cells := 0, slots := 0, locals := 46 } : Room) #[(.ref a), (.int ch)] h0 (fun v h => h = h0 ∧ v = some (.int (own_ix ch cs 0))) := by
  refine Ct.intro pf16 ?_
  intro p e s m below meth c C
  refine AtW.cast ?_ (ef_idx1 m a ch)
  obtain ⟨E, hr, t, FC, FV, A⟩ := id S
  refine w_aloadN (q := 1) C rfl rfl d16_0 rfl ?_
  refine w_iloadN (q := 2) C rfl d16_1 rfl ?_
  refine w_iconst (q := 3) (v := (0 : Int32)) C (by rfl) d16_2 rfl ?_
  refine w_callV (q := 6) (argsL := [(.int ch), (.int (0 : Int32))]) (S := []) (W := 0) (cells' := 0) (slots' := 0) (a := a) C E (G.1 _ (List.mem_of_getElem? (i := 70) rfl)) (G.1 _ (List.mem_of_getElem? (i := 71) rfl)) (w_nf C (G.1 _ (List.mem_of_getElem? (i := 73) rfl))) (G.1 _ (List.mem_of_getElem? (i := 73) rfl)) (G.1 _ (List.mem_of_getElem? (i := 72) rfl)) (G.1 _ (List.mem_of_getElem? (i := 6) rfl)) (G.1 _ (List.mem_of_getElem? (i := 74) rfl)) (by decide) (rm_idx2 G O a cs ch S hc) rfl (lenOf pd_17 rfl) rfl (by decide) (own_leb rfl) (by decide) rfl rfl (by decide) (by decide) d16_3 rfl ?_
  rintro _ h50 ⟨eh51, rfl⟩
  rw [eh51]
  show AtW p l e _ s m _ below meth c n0 _ h0 0 0 (mkF m 6 #[.val (.ref a), .val (.int ch)] [(.int (own_ix ch cs 0))])
  exact w_retI C rfl d16_6 (by decide) (by decide) ⟨rfl, rfl⟩
theorem d26_0 : decode jdk_42_method_55_code 0 = .ok (.aload_n 0, 1) := by decide +kernel
theorem d26_1 : decode jdk_42_method_55_code 1 = .ok (.getfield 9, 3) := by decide +kernel
theorem d26_4 : decode jdk_42_method_55_code 4 = .ok (.arraylength, 1) := by decide +kernel
theorem d26_5 : decode jdk_42_method_55_code 5 = .ok (.ifCond .ne 7, 3) := by decide +kernel
theorem d26_8 : decode jdk_42_method_55_code 8 = .ok (.iconst 1, 1) := by decide +kernel
theorem d26_9 : decode jdk_42_method_55_code 9 = .ok (.goto 4, 3) := by decide +kernel
theorem d26_12 : decode jdk_42_method_55_code 12 = .ok (.iconst 0, 1) := by decide +kernel
theorem d26_13 : decode jdk_42_method_55_code 13 = .ok (.ireturn, 1) := by decide +kernel
theorem pf26 : plainFor (⟨"java/lang/String", "isEmpty", "()Z"⟩ : MethodName) = true := by first | exact plainFor_of_name (by first | (simp [plainName, overriddenIn]; done) | decide +kernel) | decide +kernel
theorem ef_isEmpty (m : MethodId) (z0 : Addr) : entryFrame m #[(.ref z0)] 1 = mkF m 0 #[.val (.ref z0)] [] := by first | rfl | (simp [entryFrame, mkF, argsToLocals, Value.category, *]; done) | rfl
set_option maxRecDepth 65536 in
set_option maxHeartbeats 40000000 in
theorem rm_isEmpty {l : Launch} {Z : State} {a0 : Array Value} {n0 : Nat} (G : Gl Z a0 n0) {h0 : Heap} (O : Old Z n0 h0) (a : Addr) (cs : List Int32) (S : Str Z h0 a cs) :
    Ct [] l Z n0 (⟨"java/lang/String", "isEmpty", "()Z"⟩ : MethodName) jdk_42_method_55_code 1 (some .boolean) ({ frames := 0, cells := 0, slots := 0, locals := 0 } : Room) #[(.ref a)] h0 (fun v h => h = h0 ∧ v = some (.int (if cs.length = 0 then 1 else 0))) := by
  refine Ct.intro pf26 ?_
  intro p e s m below meth c C
  refine AtW.cast ?_ (ef_isEmpty m a)
  obtain ⟨E, hr, t, FC, FV, A⟩ := id S
  have hl := A.1
  rw [own_bs_len] at hl
  refine w_aloadN (q := 1) C rfl rfl d26_0 rfl ?_
  refine w_getF (q := 4) (host := "") C (Or.inl (G.1 _ (List.mem_of_getElem? (i := 32) rfl))) Via.refl FV d26_1 rfl ?_
  refine w_len (q := 5) (z := (Int32.ofNat cs.length)) C A (by rw [own_bs_len]) d26_4 rfl ?_
  by_cases hc : (Int32.ofNat cs.length) = 0
  · refine w_if_ne_f (q := 8) C d26_5 rfl hc ?_
    refine w_iconst (q := 9) (v := (1 : Int32)) C (by rfl) d26_8 rfl ?_
    refine w_goto (q := 13) C d26_9 (by decide) (by decide) ?_
    exact w_retZ (z := (1 : Int32)) C (t := .boolean) rfl (by simp) (by decide) d26_13 (by decide) (by decide) ⟨rfl, by rw [if_pos ((own_neq (n := 0) hl (by omega)).mp hc)]⟩
  · refine w_if_ne_t (q := 12) C d26_5 (by decide) (by decide) hc ?_
    refine w_iconst (q := 13) (v := (0 : Int32)) C (by rfl) d26_12 rfl ?_
    exact w_retZ (z := (0 : Int32)) C (t := .boolean) rfl (by simp) (by decide) d26_13 (by decide) (by decide) ⟨rfl, by rw [if_neg (fun q => hc ((own_neq (n := 0) hl (by omega)).mpr q))]⟩
theorem d33_0 : decode jdk_68_method_71_code 0 = .ok (.getstatic 18, 3) := by decide +kernel
theorem d33_3 : decode jdk_68_method_71_code 3 = .ok (.ifCond .eq 18, 3) := by decide +kernel
theorem d33_6 : decode jdk_68_method_71_code 6 = .ok (.aload_n 0, 1) := by decide +kernel
theorem d33_7 : decode jdk_68_method_71_code 7 = .ok (.getfield 22, 3) := by decide +kernel
theorem d33_10 : decode jdk_68_method_71_code 10 = .ok (.aload_n 1, 1) := by decide +kernel
theorem d33_11 : decode jdk_68_method_71_code 11 = .ok (.invokevirtual 40, 3) := by decide +kernel
theorem d33_14 : decode jdk_68_method_71_code 14 = .ok (.if_icmp .eq 7, 3) := by decide +kernel
theorem d33_17 : decode jdk_68_method_71_code 17 = .ok (.aload_n 0, 1) := by decide +kernel
theorem d33_18 : decode jdk_68_method_71_code 18 = .ok (.invokevirtual 195, 3) := by decide +kernel
theorem d33_21 : decode jdk_68_method_71_code 21 = .ok (.return_, 1) := by decide +kernel
theorem pf33 : plainFor (⟨"java/lang/AbstractStringBuilder", "inflateIfNeededFor", "(Ljava/lang/String;)V"⟩ : MethodName) = true := by first | exact plainFor_of_name (by first | (simp [plainName, overriddenIn]; done) | decide +kernel) | decide +kernel
theorem ef_inflate (m : MethodId) (z0 : Addr) (z1 : Addr) : entryFrame m #[(.ref z0), (.ref z1)] 2 = mkF m 0 #[.val (.ref z0), .val (.ref z1)] [] := by first | rfl | (simp [entryFrame, mkF, argsToLocals, Value.category, *]; done) | rfl
set_option maxRecDepth 65536 in
set_option maxHeartbeats 40000000 in
theorem rm_inflate {l : Launch} {Z : State} {a0 : Array Value} {n0 : Nat} (G : Gl Z a0 n0) {h0 : Heap} (O : Old Z n0 h0) (b : Addr) (t : Addr) (cs : List Int32) (cap : Nat) (a : Addr) (ds : List Int32) (B : Sb Z h0 b t cs cap) (S : Str Z h0 a ds) :
    Ct [] l Z n0 (⟨"java/lang/AbstractStringBuilder", "inflateIfNeededFor", "(Ljava/lang/String;)V"⟩ : MethodName) jdk_68_method_71_code 2 none ({ frames := 1, cells := 0, slots := 0, locals := 13 } : Room) #[(.ref b), (.ref a)] h0 (fun v h => h = h0 ∧ v = none) := by
  refine Ct.intro pf33 ?_
  intro p e s m below meth c C
  refine AtW.cast ?_ (ef_inflate m b a)
  obtain ⟨E, hr, hlc, FC, FN, FV, E2, A⟩ := id B
  obtain ⟨zc, SC, hzc⟩ := G.cs
  refine w_getS (q := 3) (host := "") C (Or.inl (G.1 _ (List.mem_of_getElem? (i := 127) rfl))) Via.refl (SC.ext O.2) d33_0 rfl ?_
  refine w_if_eq_f (q := 6) C d33_3 rfl hzc ?_
  refine w_aloadN (q := 7) C rfl rfl d33_6 rfl ?_
  refine w_getF (q := 10) (host := "") C (Or.inl (G.1 _ (List.mem_of_getElem? (i := 130) rfl))) Via.refl FC d33_7 rfl ?_
  refine w_aloadN (q := 11) C rfl rfl d33_10 rfl ?_
  refine w_callV (q := 14) (argsL := []) (S := [(.int (0 : Int32))]) (W := 1) (cells' := 0) (slots' := 0) (a := a) C S.1 (G.1 _ (List.mem_of_getElem? (i := 160) rfl)) (G.1 _ (List.mem_of_getElem? (i := 86) rfl)) (w_nf C (G.1 _ (List.mem_of_getElem? (i := 88) rfl))) (G.1 _ (List.mem_of_getElem? (i := 88) rfl)) (G.1 _ (List.mem_of_getElem? (i := 87) rfl)) (G.1 _ (List.mem_of_getElem? (i := 6) rfl)) (G.1 _ (List.mem_of_getElem? (i := 89) rfl)) (by decide) (rm_coder G O a ds S) rfl (lenOf pd_20 rfl) rfl (by decide) (own_leb rfl) (by decide) rfl rfl (by decide) (by decide) d33_11 rfl ?_
  rintro _ h52 ⟨eh53, rfl⟩
  rw [eh53]
  show AtW p l e _ s m _ below meth c n0 _ h0 0 0 (mkF m 14 #[.val (.ref b), .val (.ref a)] [(.int (0 : Int32)), (.int (0 : Int32))])
  refine w_icmp_eq_t (q := 21) C d33_14 (by decide) (by decide) (by decide) ?_
  exact w_retV C rfl d33_21 (by decide) (by decide) ⟨rfl, rfl⟩
theorem d34_0 : decode jdk_42_method_147_code 0 = .ok (.aload_n 0, 1) := by decide +kernel
theorem d34_1 : decode jdk_42_method_147_code 1 = .ok (.invokevirtual 335, 3) := by decide +kernel
theorem d34_4 : decode jdk_42_method_147_code 4 = .ok (.iload_n 3, 1) := by decide +kernel
theorem d34_5 : decode jdk_42_method_147_code 5 = .ok (.if_icmp .ne 23, 3) := by decide +kernel
theorem d34_8 : decode jdk_42_method_147_code 8 = .ok (.aload_n 0, 1) := by decide +kernel
theorem d34_9 : decode jdk_42_method_147_code 9 = .ok (.getfield 9, 3) := by decide +kernel
theorem d34_12 : decode jdk_42_method_147_code 12 = .ok (.iconst 0, 1) := by decide +kernel
theorem d34_13 : decode jdk_42_method_147_code 13 = .ok (.aload_n 1, 1) := by decide +kernel
theorem d34_14 : decode jdk_42_method_147_code 14 = .ok (.iload_n 2, 1) := by decide +kernel
theorem d34_15 : decode jdk_42_method_147_code 15 = .ok (.iload_n 3, 1) := by decide +kernel
theorem d34_16 : decode jdk_42_method_147_code 16 = .ok (.ishl, 1) := by decide +kernel
theorem d34_17 : decode jdk_42_method_147_code 17 = .ok (.aload_n 0, 1) := by decide +kernel
theorem d34_18 : decode jdk_42_method_147_code 18 = .ok (.getfield 9, 3) := by decide +kernel
theorem d34_21 : decode jdk_42_method_147_code 21 = .ok (.arraylength, 1) := by decide +kernel
theorem d34_22 : decode jdk_42_method_147_code 22 = .ok (.invokestatic 212, 3) := by decide +kernel
theorem d34_25 : decode jdk_42_method_147_code 25 = .ok (.goto 18, 3) := by decide +kernel
theorem d34_28 : decode jdk_42_method_147_code 28 = .ok (.aload_n 0, 1) := by decide +kernel
theorem d34_29 : decode jdk_42_method_147_code 29 = .ok (.getfield 9, 3) := by decide +kernel
theorem d34_32 : decode jdk_42_method_147_code 32 = .ok (.iconst 0, 1) := by decide +kernel
theorem d34_33 : decode jdk_42_method_147_code 33 = .ok (.aload_n 1, 1) := by decide +kernel
theorem d34_34 : decode jdk_42_method_147_code 34 = .ok (.iload_n 2, 1) := by decide +kernel
theorem d34_35 : decode jdk_42_method_147_code 35 = .ok (.aload_n 0, 1) := by decide +kernel
theorem d34_36 : decode jdk_42_method_147_code 36 = .ok (.getfield 9, 3) := by decide +kernel
theorem d34_39 : decode jdk_42_method_147_code 39 = .ok (.arraylength, 1) := by decide +kernel
theorem d34_40 : decode jdk_42_method_147_code 40 = .ok (.invokestatic 106, 3) := by decide +kernel
theorem d34_43 : decode jdk_42_method_147_code 43 = .ok (.return_, 1) := by decide +kernel
theorem pf34 : plainFor (⟨"java/lang/String", "getBytes", "([BIB)V"⟩ : MethodName) = true := by first | exact plainFor_of_name (by first | (simp [plainName, overriddenIn]; done) | decide +kernel) | decide +kernel
theorem ef_getBytes (m : MethodId) (z0 : Addr) (z1 : Addr) (z2 : Int32) (z3 : Int32) : entryFrame m #[(.ref z0), (.ref z1), (.int z2), (.int z3)] 4 = mkF m 0 #[.val (.ref z0), .val (.ref z1), .val (.int z2), .val (.int z3)] [] := by first | rfl | (simp [entryFrame, mkF, argsToLocals, Value.category, *]; done) | rfl
set_option maxRecDepth 65536 in
set_option maxHeartbeats 40000000 in
theorem rm_getBytes {l : Launch} {Z : State} {a0 : Array Value} {n0 : Nat} (G : Gl Z a0 n0) {h0 : Heap} (O : Old Z n0 h0) (a : Addr) (ds : List Int32) (t : Addr) (vd : List Value) (k : Nat) (S : Str Z h0 a ds) (B : Ar Z h0 t .byte vd) (hk : k + ds.length ≤ vd.length) (hge : n0 ≤ t) :
    Ct [] l Z n0 (⟨"java/lang/String", "getBytes", "([BIB)V"⟩ : MethodName) jdk_42_method_147_code 4 none ({ frames := 1, cells := 0, slots := 0, locals := 18 } : Room) #[(.ref a), (.ref t), (.int (Int32.ofNat k)), (.int (0 : Int32))] h0 (fun v h => Keep h0 h [t] ∧ v = none ∧ Ar Z h t .byte (vd.take k ++ own_bs ds ++ vd.drop (k + ds.length))) := by
  refine Ct.intro pf34 ?_
  intro p e s m below meth c C
  refine AtW.cast ?_ (ef_getBytes m a t (Int32.ofNat k) (0 : Int32))
  obtain ⟨E, hr, ts, FC, FV, A⟩ := id S
  refine w_aloadN (q := 1) C rfl rfl d34_0 rfl ?_
  refine w_callV (q := 4) (argsL := []) (S := []) (W := 0) (cells' := 0) (slots' := 0) (a := a) C E (G.1 _ (List.mem_of_getElem? (i := 85) rfl)) (G.1 _ (List.mem_of_getElem? (i := 86) rfl)) (w_nf C (G.1 _ (List.mem_of_getElem? (i := 88) rfl))) (G.1 _ (List.mem_of_getElem? (i := 88) rfl)) (G.1 _ (List.mem_of_getElem? (i := 87) rfl)) (G.1 _ (List.mem_of_getElem? (i := 6) rfl)) (G.1 _ (List.mem_of_getElem? (i := 89) rfl)) (by decide) (rm_coder G O a ds S) rfl (lenOf pd_20 rfl) rfl (by decide) (own_leb rfl) (by decide) rfl rfl (by decide) (by decide) d34_1 rfl ?_
  rintro _ h54 ⟨eh55, rfl⟩
  rw [eh55]
  show AtW p l e _ s m _ below meth c n0 _ h0 0 0 (mkF m 4 #[.val (.ref a), .val (.ref t), .val (.int (Int32.ofNat k)), .val (.int (0 : Int32))] [(.int (0 : Int32))])
  refine w_iloadN (q := 5) C rfl d34_4 rfl ?_
  refine w_icmp_ne_f (q := 8) C d34_5 rfl (by decide) ?_
  refine w_aloadN (q := 9) C rfl rfl d34_8 rfl ?_
  refine w_getF (q := 12) (host := "") C (Or.inl (G.1 _ (List.mem_of_getElem? (i := 32) rfl))) Via.refl FV d34_9 rfl ?_
  refine w_iconst (q := 13) (v := (0 : Int32)) C (by rfl) d34_12 rfl ?_
  refine w_aloadN (q := 14) C rfl rfl d34_13 rfl ?_
  refine w_iloadN (q := 15) C rfl d34_14 rfl ?_
  refine w_iloadN (q := 16) C rfl d34_15 rfl ?_
  refine w_ishl (q := 17) C rfl d34_16 rfl ?_
  rw [show ((Int32.ofNat k) <<< ((0 : Int32) &&& 31)) = (Int32.ofNat k) from own_shl0 _]
  refine w_aloadN (q := 18) C rfl rfl d34_17 rfl ?_
  refine w_getF (q := 21) (host := "") C (Or.inl (G.1 _ (List.mem_of_getElem? (i := 32) rfl))) Via.refl FV d34_18 rfl ?_
  refine w_len (q := 22) (z := (Int32.ofNat ds.length)) C A (by rw [own_bs_len]) d34_21 rfl ?_
  refine w_copy (q := 25) (S := []) (sp := 0) (dp := k) (nn := ds.length) (W := 0) C (G.1 _ (List.mem_of_getElem? (i := 166) rfl)) (G.1 _ (List.mem_of_getElem? (i := 169) rfl)) (G.1 _ (List.mem_of_getElem? (i := 167) rfl)) (G.1 _ (List.mem_of_getElem? (i := 168) rfl)) A B rfl (by rw [own_bs_len]; omega) hk hge rfl (by decide) (own_leb rfl) (by decide) rfl d34_22 rfl ?_
  intro h56 Kh56 Vh56
  refine w_goto (q := 43) C d34_25 (by decide) (by decide) ?_
  exact w_retV C rfl d34_43 (by decide) (by decide) ⟨Kh56, rfl, by simpa [own_bs_len, List.take_of_length_le] using Vh56⟩
theorem d32_0 : decode jdk_68_method_73_code 0 = .ok (.aload_n 0, 1) := by decide +kernel
theorem d32_1 : decode jdk_68_method_73_code 1 = .ok (.aload_n 2, 1) := by decide +kernel
theorem d32_2 : decode jdk_68_method_73_code 2 = .ok (.invokevirtual 397, 3) := by decide +kernel
theorem d32_5 : decode jdk_68_method_73_code 5 = .ok (.aload_n 2, 1) := by decide +kernel
theorem d32_6 : decode jdk_68_method_73_code 6 = .ok (.aload_n 0, 1) := by decide +kernel
theorem d32_7 : decode jdk_68_method_73_code 7 = .ok (.getfield 15, 3) := by decide +kernel
theorem d32_10 : decode jdk_68_method_73_code 10 = .ok (.iload_n 1, 1) := by decide +kernel
theorem d32_11 : decode jdk_68_method_73_code 11 = .ok (.aload_n 0, 1) := by decide +kernel
theorem d32_12 : decode jdk_68_method_73_code 12 = .ok (.getfield 22, 3) := by decide +kernel
theorem d32_15 : decode jdk_68_method_73_code 15 = .ok (.invokevirtual 399, 3) := by decide +kernel
theorem d32_18 : decode jdk_68_method_73_code 18 = .ok (.return_, 1) := by decide +kernel
theorem pf32 : plainFor (⟨"java/lang/AbstractStringBuilder", "putStringAt", "(ILjava/lang/String;)V"⟩ : MethodName) = true := by first | exact plainFor_of_name (by first | (simp [plainName, overriddenIn]; done) | decide +kernel) | decide +kernel
theorem ef_putStr (m : MethodId) (z0 : Addr) (z1 : Int32) (z2 : Addr) : entryFrame m #[(.ref z0), (.int z1), (.ref z2)] 3 = mkF m 0 #[.val (.ref z0), .val (.int z1), .val (.ref z2)] [] := by first | rfl | (simp [entryFrame, mkF, argsToLocals, Value.category, *]; done) | rfl
set_option maxRecDepth 65536 in
set_option maxHeartbeats 40000000 in
theorem rm_putStr {l : Launch} {Z : State} {a0 : Array Value} {n0 : Nat} (G : Gl Z a0 n0) {h0 : Heap} (O : Old Z n0 h0) (b : Addr) (t : Addr) (cs : List Int32) (cap : Nat) (a : Addr) (ds : List Int32) (B : Sb Z h0 b t cs cap) (S : Str Z h0 a ds) (hfit : cs.length + ds.length ≤ cap) (hge : n0 ≤ t) :
    Ct [] l Z n0 (⟨"java/lang/AbstractStringBuilder", "putStringAt", "(ILjava/lang/String;)V"⟩ : MethodName) jdk_68_method_73_code 3 none ({ frames := 2, cells := 0, slots := 0, locals := 33 } : Room) #[(.ref b), (.int (Int32.ofNat cs.length)), (.ref a)] h0 (fun v h => Keep h0 h [t] ∧ v = none ∧ Ar Z h t .byte (own_bs (cs ++ ds) ++ List.replicate (cap - (cs ++ ds).length) (Value.int (0 : Int32)))) := by
  refine Ct.intro pf32 ?_
  intro p e s m below meth c C
  refine AtW.cast ?_ (ef_putStr m b (Int32.ofNat cs.length) a)
  obtain ⟨E, hr, hlc, FC, FN, FV, E2, A⟩ := id B
  refine w_aloadN (q := 1) C rfl rfl d32_0 rfl ?_
  refine w_aloadN (q := 2) C rfl rfl d32_1 rfl ?_
  refine w_callP (q := 5) (argsL := [(.ref a)]) (S := []) (W := 0) (cells' := 0) (slots' := 0) (a := b) C E (G.1 _ (List.mem_of_getElem? (i := 155) rfl)) (G.1 _ (List.mem_of_getElem? (i := 156) rfl)) (NI.of_sel (args := #[]) (z := ({ cls := "java/lang/AbstractStringBuilder", name := "ensureCapacityInternal", desc := "(I)V" } : Jvm.MethodName)) (mvT C.2.2.2.1 (G.1 _ (List.mem_of_getElem? (i := 148) rfl)))) (G.1 _ (List.mem_of_getElem? (i := 157) rfl)) (G.1 _ (List.mem_of_getElem? (i := 124) rfl)) (G.1 _ (List.mem_of_getElem? (i := 159) rfl)) (by decide) (rm_inflate G O b t cs cap a ds B S) rfl (lenOf pd_27 rfl) rfl (by decide) (own_leb rfl) (by decide) rfl rfl (by decide) (by decide) d32_2 rfl ?_
  rintro _ h57 ⟨eh58, rfl⟩
  rw [eh58]
  show AtW p l e _ s m _ below meth c n0 _ h0 0 0 (mkF m 5 #[.val (.ref b), .val (.int (Int32.ofNat cs.length)), .val (.ref a)] [])
  refine w_aloadN (q := 6) C rfl rfl d32_5 rfl ?_
  refine w_aloadN (q := 7) C rfl rfl d32_6 rfl ?_
  refine w_getF (q := 10) (host := "") C (Or.inl (G.1 _ (List.mem_of_getElem? (i := 128) rfl))) Via.refl FV d32_7 rfl ?_
  refine w_iloadN (q := 11) C rfl d32_10 rfl ?_
  refine w_aloadN (q := 12) C rfl rfl d32_11 rfl ?_
  refine w_getF (q := 15) (host := "") C (Or.inl (G.1 _ (List.mem_of_getElem? (i := 130) rfl))) Via.refl FC d32_12 rfl ?_
  refine w_callV (q := 18) (argsL := [(.ref t), (.int (Int32.ofNat cs.length)), (.int (0 : Int32))]) (S := []) (W := 0) (cells' := 0) (slots' := 0) (a := a) C S.1 (G.1 _ (List.mem_of_getElem? (i := 161) rfl)) (G.1 _ (List.mem_of_getElem? (i := 162) rfl)) (w_nf C (G.1 _ (List.mem_of_getElem? (i := 164) rfl))) (G.1 _ (List.mem_of_getElem? (i := 164) rfl)) (G.1 _ (List.mem_of_getElem? (i := 163) rfl)) (G.1 _ (List.mem_of_getElem? (i := 6) rfl)) (G.1 _ (List.mem_of_getElem? (i := 165) rfl)) (by decide) (rm_getBytes G O a ds t _ cs.length S A (by simp only [List.length_append, own_bs_len, List.length_replicate]; omega) hge) rfl (lenOf pd_28 rfl) rfl (by decide) (own_leb rfl) (by decide) rfl rfl (by decide) (by decide) d32_15 rfl ?_
  rintro _ h59 ⟨Kh59, rfl, V⟩
  show AtW p l e _ s m _ below meth c n0 _ h59 0 0 (mkF m 18 #[.val (.ref b), .val (.int (Int32.ofNat cs.length)), .val (.ref a)] [])
  exact w_retV C rfl d32_18 (by decide) (by decide) ⟨Kh59, rfl, by rw [← own_appd cs ds cap hfit]; exact V⟩
theorem d31_0 : decode jdk_68_method_9_code 0 = .ok (.aload_n 0, 1) := by decide +kernel
theorem d31_1 : decode jdk_68_method_9_code 1 = .ok (.getfield 15, 3) := by decide +kernel
theorem d31_4 : decode jdk_68_method_9_code 4 = .ok (.arraylength, 1) := by decide +kernel
theorem d31_5 : decode jdk_68_method_9_code 5 = .ok (.aload_n 0, 1) := by decide +kernel
theorem d31_6 : decode jdk_68_method_9_code 6 = .ok (.getfield 22, 3) := by decide +kernel
theorem d31_9 : decode jdk_68_method_9_code 9 = .ok (.ishr, 1) := by decide +kernel
theorem d31_10 : decode jdk_68_method_9_code 10 = .ok (.istore_n 2, 1) := by decide +kernel
theorem d31_11 : decode jdk_68_method_9_code 11 = .ok (.iload_n 1, 1) := by decide +kernel
theorem d31_12 : decode jdk_68_method_9_code 12 = .ok (.iload_n 2, 1) := by decide +kernel
theorem d31_13 : decode jdk_68_method_9_code 13 = .ok (.isub, 1) := by decide +kernel
theorem d31_14 : decode jdk_68_method_9_code 14 = .ok (.ifCond .le 24, 3) := by decide +kernel
theorem d31_17 : decode jdk_68_method_9_code 17 = .ok (.aload_n 0, 1) := by decide +kernel
theorem d31_18 : decode jdk_68_method_9_code 18 = .ok (.aload_n 0, 1) := by decide +kernel
theorem d31_19 : decode jdk_68_method_9_code 19 = .ok (.getfield 15, 3) := by decide +kernel
theorem d31_22 : decode jdk_68_method_9_code 22 = .ok (.aload_n 0, 1) := by decide +kernel
theorem d31_23 : decode jdk_68_method_9_code 23 = .ok (.iload_n 1, 1) := by decide +kernel
theorem d31_24 : decode jdk_68_method_9_code 24 = .ok (.invokevirtual 104, 3) := by decide +kernel
theorem d31_27 : decode jdk_68_method_9_code 27 = .ok (.aload_n 0, 1) := by decide +kernel
theorem d31_28 : decode jdk_68_method_9_code 28 = .ok (.getfield 22, 3) := by decide +kernel
theorem d31_31 : decode jdk_68_method_9_code 31 = .ok (.ishl, 1) := by decide +kernel
theorem d31_32 : decode jdk_68_method_9_code 32 = .ok (.invokestatic 108, 3) := by decide +kernel
theorem d31_35 : decode jdk_68_method_9_code 35 = .ok (.putfield 15, 3) := by decide +kernel
theorem d31_38 : decode jdk_68_method_9_code 38 = .ok (.return_, 1) := by decide +kernel
theorem pf31 : plainFor (⟨"java/lang/AbstractStringBuilder", "ensureCapacityInternal", "(I)V"⟩ : MethodName) = true := by first | exact plainFor_of_name (by first | (simp [plainName, overriddenIn]; done) | decide +kernel) | decide +kernel
theorem ef_ensCap (m : MethodId) (z0 : Addr) (z1 : Int32) : entryFrame m #[(.ref z0), (.int z1)] 3 = mkF m 0 #[.val (.ref z0), .val (.int z1), .unset] [] := by first | rfl | (simp [entryFrame, mkF, argsToLocals, Value.category, *]; done) | rfl
set_option maxRecDepth 65536 in
set_option maxHeartbeats 40000000 in
theorem rm_ensCap {l : Launch} {Z : State} {a0 : Array Value} {n0 : Nat} (G : Gl Z a0 n0) {h0 : Heap} (O : Old Z n0 h0) (b : Addr) (t : Addr) (cs : List Int32) (cap : Nat) (mn : Nat) (B : Sb Z h0 b t cs cap) (hmn : mn ≤ cap) :
    Ct [] l Z n0 (⟨"java/lang/AbstractStringBuilder", "ensureCapacityInternal", "(I)V"⟩ : MethodName) jdk_68_method_9_code 3 none ({ frames := 0, cells := 0, slots := 0, locals := 0 } : Room) #[(.ref b), (.int (Int32.ofNat mn))] h0 (fun v h => h = h0 ∧ v = none) := by
  refine Ct.intro pf31 ?_
  intro p e s m below meth c C
  refine AtW.cast ?_ (ef_ensCap m b (Int32.ofNat mn))
  obtain ⟨E, hr, hlc, FC, FN, FV, E2, A⟩ := id B
  have hcl := B.capl
  refine w_aloadN (q := 1) C rfl rfl d31_0 rfl ?_
  refine w_getF (q := 4) (host := "") C (Or.inl (G.1 _ (List.mem_of_getElem? (i := 128) rfl))) Via.refl FV d31_1 rfl ?_
  refine w_len (q := 5) (z := (Int32.ofNat cap)) C A (by simp only [List.length_append, own_bs_len, List.length_replicate]; congr 1; omega) d31_4 rfl ?_
  refine w_aloadN (q := 6) C rfl rfl d31_5 rfl ?_
  refine w_getF (q := 9) (host := "") C (Or.inl (G.1 _ (List.mem_of_getElem? (i := 130) rfl))) Via.refl FC d31_6 rfl ?_
  refine w_ishr (q := 10) C rfl d31_9 rfl ?_
  rw [show ((Int32.ofNat cap) >>> ((0 : Int32) &&& 31)) = (Int32.ofNat cap) from own_shr0 _]
  refine w_istoreN (q := 11) (L' := #[.val (.ref b), .val (.int (Int32.ofNat mn)), .val (.int (Int32.ofNat cap))]) C rfl d31_10 rfl ?_
  refine w_iloadN (q := 12) C rfl d31_11 rfl ?_
  refine w_iloadN (q := 13) C rfl d31_12 rfl ?_
  refine w_isub (q := 14) C rfl d31_13 rfl ?_
  refine w_if_le_t (q := 38) C d31_14 (by decide) (by decide) (by rw [own_lt, Int.not_lt]; have c1 := c_isub (Int32.ofNat mn) (Int32.ofNat cap); rw [own_nat (by omega), own_nat hcl] at c1; have r := rng32 (Int32.ofNat mn - Int32.ofNat cap); have e0 : (0 : Int32).toInt = 0 := rfl; omega) ?_
  exact w_retV C rfl d31_38 (by decide) (by decide) ⟨rfl, rfl⟩
theorem d30_0 : decode jdk_68_method_22_code 0 = .ok (.aload_n 1, 1) := by decide +kernel
theorem d30_1 : decode jdk_68_method_22_code 1 = .ok (.ifnonnull 8, 3) := by decide +kernel
theorem d30_4 : decode jdk_68_method_22_code 4 = .ok (.aload_n 0, 1) := by decide +kernel
theorem d30_5 : decode jdk_68_method_22_code 5 = .ok (.invokevirtual 204, 3) := by decide +kernel
theorem d30_8 : decode jdk_68_method_22_code 8 = .ok (.areturn, 1) := by decide +kernel
theorem d30_9 : decode jdk_68_method_22_code 9 = .ok (.aload_n 1, 1) := by decide +kernel
theorem d30_10 : decode jdk_68_method_22_code 10 = .ok (.invokevirtual 32, 3) := by decide +kernel
theorem d30_13 : decode jdk_68_method_22_code 13 = .ok (.istore_n 2, 1) := by decide +kernel
theorem d30_14 : decode jdk_68_method_22_code 14 = .ok (.aload_n 0, 1) := by decide +kernel
theorem d30_15 : decode jdk_68_method_22_code 15 = .ok (.aload_n 0, 1) := by decide +kernel
theorem d30_16 : decode jdk_68_method_22_code 16 = .ok (.getfield 79, 3) := by decide +kernel
theorem d30_19 : decode jdk_68_method_22_code 19 = .ok (.iload_n 2, 1) := by decide +kernel
theorem d30_20 : decode jdk_68_method_22_code 20 = .ok (.iadd, 1) := by decide +kernel
theorem d30_21 : decode jdk_68_method_22_code 21 = .ok (.invokevirtual 100, 3) := by decide +kernel
theorem d30_24 : decode jdk_68_method_22_code 24 = .ok (.aload_n 0, 1) := by decide +kernel
theorem d30_25 : decode jdk_68_method_22_code 25 = .ok (.aload_n 0, 1) := by decide +kernel
theorem d30_26 : decode jdk_68_method_22_code 26 = .ok (.getfield 79, 3) := by decide +kernel
theorem d30_29 : decode jdk_68_method_22_code 29 = .ok (.aload_n 1, 1) := by decide +kernel
theorem d30_30 : decode jdk_68_method_22_code 30 = .ok (.invokevirtual 208, 3) := by decide +kernel
theorem d30_33 : decode jdk_68_method_22_code 33 = .ok (.aload_n 0, 1) := by decide +kernel
theorem d30_34 : decode jdk_68_method_22_code 34 = .ok (.dup, 1) := by decide +kernel
theorem d30_35 : decode jdk_68_method_22_code 35 = .ok (.getfield 79, 3) := by decide +kernel
theorem d30_38 : decode jdk_68_method_22_code 38 = .ok (.iload_n 2, 1) := by decide +kernel
theorem d30_39 : decode jdk_68_method_22_code 39 = .ok (.iadd, 1) := by decide +kernel
theorem d30_40 : decode jdk_68_method_22_code 40 = .ok (.putfield 79, 3) := by decide +kernel
theorem d30_43 : decode jdk_68_method_22_code 43 = .ok (.aload_n 0, 1) := by decide +kernel
theorem d30_44 : decode jdk_68_method_22_code 44 = .ok (.areturn, 1) := by decide +kernel
theorem pf30 : plainFor (⟨"java/lang/AbstractStringBuilder", "append", "(Ljava/lang/String;)Ljava/lang/AbstractStringBuilder;"⟩ : MethodName) = true := by first | exact plainFor_of_name (by first | (simp [plainName, overriddenIn]; done) | decide +kernel) | decide +kernel
theorem ef_asbApp (m : MethodId) (z0 : Addr) (z1 : Addr) : entryFrame m #[(.ref z0), (.ref z1)] 3 = mkF m 0 #[.val (.ref z0), .val (.ref z1), .unset] [] := by first | rfl | (simp [entryFrame, mkF, argsToLocals, Value.category, *]; done) | rfl
set_option maxRecDepth 65536 in
set_option maxHeartbeats 40000000 in
theorem rm_asbApp {l : Launch} {Z : State} {a0 : Array Value} {n0 : Nat} (G : Gl Z a0 n0) {h0 : Heap} (O : Old Z n0 h0) (b : Addr) (t : Addr) (cs : List Int32) (cap : Nat) (a : Addr) (ds : List Int32) (B : Sb Z h0 b t cs cap) (S : Str Z h0 a ds) (hfit : cs.length + ds.length ≤ cap) (hge : n0 ≤ b) (hgt : n0 ≤ t) :
    Ct [] l Z n0 (⟨"java/lang/AbstractStringBuilder", "append", "(Ljava/lang/String;)Ljava/lang/AbstractStringBuilder;"⟩ : MethodName) jdk_68_method_22_code 3 (some (.object "java/lang/AbstractStringBuilder")) ({ frames := 3, cells := 0, slots := 0, locals := 47 } : Room) #[(.ref b), (.ref a)] h0 (fun v h => Keep h0 h [b, t] ∧ v = some (.ref b) ∧ Sb Z h b t (cs ++ ds) cap) := by
  refine Ct.intro pf30 ?_
  intro p e s m below meth c C
  refine AtW.cast ?_ (ef_asbApp m b a)
  obtain ⟨E, hr, hlc, FC, FN, FV, E2, A⟩ := id B
  have hsl := S.len
  have hcl := B.capl
  refine w_aloadN (q := 1) C rfl rfl d30_0 rfl ?_
  refine w_ifnonnull_t (q := 9) C d30_1 (by decide) (by decide) ?_
  refine w_aloadN (q := 10) C rfl rfl d30_9 rfl ?_
  refine w_callV (q := 13) (argsL := []) (S := []) (W := 0) (cells' := 0) (slots' := 0) (a := a) C S.1 (G.1 _ (List.mem_of_getElem? (i := 142) rfl)) (G.1 _ (List.mem_of_getElem? (i := 81) rfl)) (w_nf C (G.1 _ (List.mem_of_getElem? (i := 83) rfl))) (G.1 _ (List.mem_of_getElem? (i := 83) rfl)) (G.1 _ (List.mem_of_getElem? (i := 82) rfl)) (G.1 _ (List.mem_of_getElem? (i := 6) rfl)) (G.1 _ (List.mem_of_getElem? (i := 84) rfl)) (by decide) (rm_length G O a ds S) rfl (lenOf pd_19 rfl) rfl (by decide) (own_leb rfl) (by decide) rfl rfl (by decide) (by decide) d30_10 rfl ?_
  rintro _ h60 ⟨eh61, rfl⟩
  rw [eh61]
  show AtW p l e _ s m _ below meth c n0 _ h0 0 0 (mkF m 13 #[.val (.ref b), .val (.ref a), .unset] [(.int (Int32.ofNat ds.length))])
  refine w_istoreN (q := 14) (L' := #[.val (.ref b), .val (.ref a), .val (.int (Int32.ofNat ds.length))]) C rfl d30_13 rfl ?_
  refine w_aloadN (q := 15) C rfl rfl d30_14 rfl ?_
  refine w_aloadN (q := 16) C rfl rfl d30_15 rfl ?_
  refine w_getF (q := 19) (host := "") C (Or.inl (G.1 _ (List.mem_of_getElem? (i := 143) rfl))) Via.refl FN d30_16 rfl ?_
  refine w_iloadN (q := 20) C rfl d30_19 rfl ?_
  refine w_iadd (q := 21) C rfl d30_20 rfl ?_
  rw [show ((Int32.ofNat cs.length) + (Int32.ofNat ds.length)) = (Int32.ofNat (cs.length + ds.length)) from own_add _ _]
  refine w_callP (q := 24) (argsL := [(.int (Int32.ofNat (cs.length + ds.length)))]) (S := []) (W := 0) (cells' := 0) (slots' := 0) (a := b) C E (G.1 _ (List.mem_of_getElem? (i := 145) rfl)) (G.1 _ (List.mem_of_getElem? (i := 146) rfl)) (NI.of_sel (args := #[]) (z := ({ cls := "java/lang/AbstractStringBuilder", name := "ensureCapacityInternal", desc := "(I)V" } : Jvm.MethodName)) (mvT C.2.2.2.1 (G.1 _ (List.mem_of_getElem? (i := 148) rfl)))) (G.1 _ (List.mem_of_getElem? (i := 147) rfl)) (G.1 _ (List.mem_of_getElem? (i := 124) rfl)) (G.1 _ (List.mem_of_getElem? (i := 149) rfl)) (by decide) (rm_ensCap G O b t cs cap (cs.length + ds.length) B hfit) rfl (lenOf pd_23 rfl) rfl (by decide) (own_leb rfl) (by decide) rfl rfl (by decide) (by decide) d30_21 rfl ?_
  rintro _ h62 ⟨eh63, rfl⟩
  rw [eh63]
  show AtW p l e _ s m _ below meth c n0 _ h0 0 0 (mkF m 24 #[.val (.ref b), .val (.ref a), .val (.int (Int32.ofNat ds.length))] [])
  refine w_aloadN (q := 25) C rfl rfl d30_24 rfl ?_
  refine w_aloadN (q := 26) C rfl rfl d30_25 rfl ?_
  refine w_getF (q := 29) (host := "") C (Or.inl (G.1 _ (List.mem_of_getElem? (i := 143) rfl))) Via.refl FN d30_26 rfl ?_
  refine w_aloadN (q := 30) C rfl rfl d30_29 rfl ?_
  refine w_callP (q := 33) (argsL := [(.int (Int32.ofNat cs.length)), (.ref a)]) (S := []) (W := 0) (cells' := 0) (slots' := 0) (a := b) C E (G.1 _ (List.mem_of_getElem? (i := 150) rfl)) (G.1 _ (List.mem_of_getElem? (i := 151) rfl)) (NI.of_sel (args := #[]) (z := ({ cls := "java/lang/AbstractStringBuilder", name := "ensureCapacityInternal", desc := "(I)V" } : Jvm.MethodName)) (mvT C.2.2.2.1 (G.1 _ (List.mem_of_getElem? (i := 148) rfl)))) (G.1 _ (List.mem_of_getElem? (i := 152) rfl)) (G.1 _ (List.mem_of_getElem? (i := 124) rfl)) (G.1 _ (List.mem_of_getElem? (i := 154) rfl)) (by decide) (rm_putStr G O b t cs cap a ds B S hfit hgt) rfl (lenOf pd_26 rfl) rfl (by decide) (own_leb rfl) (by decide) rfl rfl (by decide) (by decide) d30_30 rfl ?_
  rintro _ h64 ⟨Kh64, rfl, V⟩
  show AtW p l e _ s m _ below meth c n0 _ h64 0 0 (mkF m 33 #[.val (.ref b), .val (.ref a), .val (.int (Int32.ofNat ds.length))] [])
  have hbt := B.ne
  replace E := E.keep Kh64
  replace FC := FC.keep Kh64 (ninS hbt nin0)
  replace FN := FN.keep Kh64 (ninS hbt nin0)
  replace FV := FV.keep Kh64 (ninS hbt nin0)
  replace E2 := E2.keep Kh64
  have hL2 : L1 (cs ++ ds) := hr.app S.2.1
  refine w_aloadN (q := 34) C rfl rfl d30_33 rfl ?_
  refine w_dup (q := 35) C rfl d30_34 rfl ?_
  refine w_getF (q := 38) (host := "") C (Or.inl (G.1 _ (List.mem_of_getElem? (i := 143) rfl))) Via.refl FN d30_35 rfl ?_
  refine w_iloadN (q := 39) C rfl d30_38 rfl ?_
  refine w_iadd (q := 40) C rfl d30_39 rfl ?_
  rw [show ((Int32.ofNat cs.length) + (Int32.ofNat ds.length)) = (Int32.ofNat (cs ++ ds).length) from (own_add _ _).trans (by rw [List.length_append])]
  refine w_putF (q := 43) (host := "") (v' := (.int (Int32.ofNat (cs ++ ds).length))) C (G.1 _ (List.mem_of_getElem? (i := 143) rfl)) Via.refl FN E (Or.inl (G.1 _ (List.mem_of_getElem? (i := 144) rfl))) (G.1 _ (List.mem_of_getElem? (i := 115) rfl)) (ty := .int) (by decide) rfl rfl hge d30_40 rfl ?_
  intro h65 Wh65
  replace FN := FN.same Wh65
  replace FC := FC.other Wh65 (Or.inr (slot_ne (Or.inl (G.1 _ (List.mem_of_getElem? (i := 131) rfl))) (Or.inl (G.1 _ (List.mem_of_getElem? (i := 144) rfl))) (by decide) (t := .byte) (t' := .int) (by decide) (by decide)))
  replace FV := FV.other Wh65 (Or.inr (slot_ne (Or.inl (G.1 _ (List.mem_of_getElem? (i := 129) rfl))) (Or.inl (G.1 _ (List.mem_of_getElem? (i := 144) rfl))) (by decide) (t := (.array .byte)) (t' := .int) (by decide) (by decide)))
  replace E := E.wr Wh65
  replace E2 := E2.wr Wh65
  replace V := V.other Wh65 (Ne.symm hbt)
  refine w_aloadN (q := 44) C rfl rfl d30_43 rfl ?_
  exact w_retA C rfl rfl rfl d30_44 (by decide) (by decide) ⟨((Keep.refl h0 [b, t]).trans Kh64 (allS (P := fun x => x ∈ [b, t] ∨ h0.size ≤ x) (Or.inl (by simp)) all0)).wr Wh65 (Or.inl (by simp)), rfl, E, hL2, by rw [List.length_append]; exact hfit, FC, FN, FV, E2, V⟩
theorem d28_0 : decode jdk_68_method_2_code 0 = .ok (.aload_n 0, 1) := by decide +kernel
theorem d28_1 : decode jdk_68_method_2_code 1 = .ok (.invokespecial 3, 3) := by decide +kernel
theorem d28_4 : decode jdk_68_method_2_code 4 = .ok (.getstatic 18, 3) := by decide +kernel
theorem d28_7 : decode jdk_68_method_2_code 7 = .ok (.ifCond .eq 18, 3) := by decide +kernel
theorem d28_10 : decode jdk_68_method_2_code 10 = .ok (.aload_n 0, 1) := by decide +kernel
theorem d28_11 : decode jdk_68_method_2_code 11 = .ok (.iload_n 1, 1) := by decide +kernel
theorem d28_12 : decode jdk_68_method_2_code 12 = .ok (.newarray .byte, 2) := by decide +kernel
theorem d28_14 : decode jdk_68_method_2_code 14 = .ok (.putfield 15, 3) := by decide +kernel
theorem d28_17 : decode jdk_68_method_2_code 17 = .ok (.aload_n 0, 1) := by decide +kernel
theorem d28_18 : decode jdk_68_method_2_code 18 = .ok (.iconst 0, 1) := by decide +kernel
theorem d28_19 : decode jdk_68_method_2_code 19 = .ok (.putfield 22, 3) := by decide +kernel
theorem d28_22 : decode jdk_68_method_2_code 22 = .ok (.goto 16, 3) := by decide +kernel
theorem d28_25 : decode jdk_68_method_2_code 25 = .ok (.aload_n 0, 1) := by decide +kernel
theorem d28_26 : decode jdk_68_method_2_code 26 = .ok (.iload_n 1, 1) := by decide +kernel
theorem d28_27 : decode jdk_68_method_2_code 27 = .ok (.invokestatic 26, 3) := by decide +kernel
theorem d28_30 : decode jdk_68_method_2_code 30 = .ok (.putfield 15, 3) := by decide +kernel
theorem d28_33 : decode jdk_68_method_2_code 33 = .ok (.aload_n 0, 1) := by decide +kernel
theorem d28_34 : decode jdk_68_method_2_code 34 = .ok (.iconst 1, 1) := by decide +kernel
theorem d28_35 : decode jdk_68_method_2_code 35 = .ok (.putfield 22, 3) := by decide +kernel
theorem d28_38 : decode jdk_68_method_2_code 38 = .ok (.return_, 1) := by decide +kernel
theorem pf28 : plainFor (⟨"java/lang/AbstractStringBuilder", "<init>", "(I)V"⟩ : MethodName) = true := by first | exact plainFor_of_name (by first | (simp [plainName, overriddenIn]; done) | decide +kernel) | decide +kernel
theorem ef_asbinit (m : MethodId) (z0 : Addr) (z1 : Int32) : entryFrame m #[(.ref z0), (.int z1)] 2 = mkF m 0 #[.val (.ref z0), .val (.int z1)] [] := by first | rfl | (simp [entryFrame, mkF, argsToLocals, Value.category, *]; done) | rfl
set_option maxRecDepth 65536 in
set_option maxHeartbeats 40000000 in
theorem rm_asbinit {l : Launch} {Z : State} {a0 : Array Value} {n0 : Nat} (G : Gl Z a0 n0) {h0 : Heap} (O : Old Z n0 h0) (b : Addr) (E : Exa Z h0 b "java/lang/StringBuilder") (F_value : Fld Z h0 b "java/lang/AbstractStringBuilder" "value" "[B" .null) (F_coder : Fld Z h0 b "java/lang/AbstractStringBuilder" "coder" "B" (.int (0 : Int32))) (F_count : Fld Z h0 b "java/lang/AbstractStringBuilder" "count" "I" (.int (0 : Int32))) (hge : n0 ≤ b) :
    Ct [] l Z n0 (⟨"java/lang/AbstractStringBuilder", "<init>", "(I)V"⟩ : MethodName) jdk_68_method_2_code 2 none ({ frames := 1, cells := 1, slots := 16, locals := 12 } : Room) #[(.ref b), (.int (16 : Int32))] h0 (fun v h => Keep h0 h [b] ∧ v = none ∧ ∃ t, h0.size ≤ t ∧ Sb Z h b t [] 16) := by
  refine Ct.intro pf28 ?_
  intro p e s m below meth c C
  refine AtW.cast ?_ (ef_asbinit m b (16 : Int32))
  obtain ⟨zc, SC, hzc⟩ := G.cs
  refine w_aloadN (q := 1) C rfl rfl d28_0 rfl ?_
  refine w_initO (q := 4) (W := 0) C (G.1 _ (List.mem_of_getElem? (i := 126) rfl)) (G.1 _ (List.mem_of_getElem? (i := 16) rfl)) (G.1 _ (List.mem_of_getElem? (i := 17) rfl)) rfl (by decide) (own_leb rfl) (by decide) d28_1 rfl ?_
  refine w_getS (q := 7) (host := "") C (Or.inl (G.1 _ (List.mem_of_getElem? (i := 127) rfl))) Via.refl (SC.ext O.2) d28_4 rfl ?_
  refine w_if_eq_f (q := 10) C d28_7 rfl hzc ?_
  refine w_aloadN (q := 11) C rfl rfl d28_10 rfl ?_
  refine w_iloadN (q := 12) C rfl d28_11 rfl ?_
  refine w_newArrE (q := 14) (cap := 16) (cells' := 1) (slots' := 16) (ad := "[B") C (G.1 _ (List.mem_of_getElem? (i := 23) rfl)) rfl (by decide) (by decide) (by decide) rfl rfl (by decide) (by decide) rfl d28_12 rfl ?_
  intro h66 t g_t Eh66 V_t X_t
  have hg0 : h0.size ≤ t := Nat.le_of_eq g_t.symm
  have hbt : t ≠ b := Ne.symm (Nat.ne_of_lt (by rw [g_t]; exact E.lt))
  have K1 : Keep h0 h66 [b] := (Keep.refl h0 [b]).ext Eh66
  replace E := E.ext Eh66
  replace F_value := F_value.ext Eh66
  replace F_coder := F_coder.ext Eh66
  replace F_count := F_count.ext Eh66
  refine w_putF (q := 17) (host := "") (v' := (.ref t)) C (G.1 _ (List.mem_of_getElem? (i := 128) rfl)) Via.refl F_value E (Or.inl (G.1 _ (List.mem_of_getElem? (i := 129) rfl))) (G.1 _ (List.mem_of_getElem? (i := 115) rfl)) (ty := (.array .byte)) (by decide) rfl rfl hge d28_14 rfl ?_
  intro h67 Wh67
  have K2 := K1.wr Wh67 (Or.inl (List.mem_cons_self ..))
  replace F_value := F_value.same Wh67
  replace F_coder := F_coder.other Wh67 (Or.inr (slot_ne (Or.inl (G.1 _ (List.mem_of_getElem? (i := 131) rfl))) (Or.inl (G.1 _ (List.mem_of_getElem? (i := 129) rfl))) (by decide) (t := .byte) (t' := (.array .byte)) (by decide) (by decide)))
  replace F_count := F_count.other Wh67 (Or.inr (slot_ne (Or.inl (G.1 _ (List.mem_of_getElem? (i := 144) rfl))) (Or.inl (G.1 _ (List.mem_of_getElem? (i := 129) rfl))) (by decide) (t := .int) (t' := (.array .byte)) (by decide) (by decide)))
  replace E := E.wr Wh67
  replace X_t := X_t.wr Wh67
  replace V_t := V_t.other Wh67 hbt
  refine w_aloadN (q := 18) C rfl rfl d28_17 rfl ?_
  refine w_iconst (q := 19) (v := (0 : Int32)) C (by rfl) d28_18 rfl ?_
  refine w_putF (q := 22) (host := "") (v' := (.int (0 : Int32))) C (G.1 _ (List.mem_of_getElem? (i := 130) rfl)) Via.refl F_coder E (Or.inl (G.1 _ (List.mem_of_getElem? (i := 131) rfl))) (G.1 _ (List.mem_of_getElem? (i := 115) rfl)) (ty := .byte) (by decide) rfl rfl hge d28_19 rfl ?_
  intro h68 Wh68
  replace F_coder := F_coder.same Wh68
  replace F_value := F_value.other Wh68 (Or.inr (slot_ne (Or.inl (G.1 _ (List.mem_of_getElem? (i := 129) rfl))) (Or.inl (G.1 _ (List.mem_of_getElem? (i := 131) rfl))) (by decide) (t := (.array .byte)) (t' := .byte) (by decide) (by decide)))
  replace F_count := F_count.other Wh68 (Or.inr (slot_ne (Or.inl (G.1 _ (List.mem_of_getElem? (i := 144) rfl))) (Or.inl (G.1 _ (List.mem_of_getElem? (i := 131) rfl))) (by decide) (t := .int) (t' := .byte) (by decide) (by decide)))
  replace E := E.wr Wh68
  replace X_t := X_t.wr Wh68
  replace V_t := V_t.other Wh68 hbt
  refine w_goto (q := 38) C d28_22 (by decide) (by decide) ?_
  exact w_retV C rfl d28_38 (by decide) (by decide) ⟨K2.wr Wh68 (Or.inl (List.mem_cons_self ..)), rfl, t, hg0, E, (fun c hc => absurd hc List.not_mem_nil), by decide, F_coder, F_count, F_value, X_t, V_t⟩
theorem d27_0 : decode jdk_67_method_1_code 0 = .ok (.aload_n 0, 1) := by decide +kernel
theorem d27_1 : decode jdk_67_method_1_code 1 = .ok (.bipush 16, 2) := by decide +kernel
theorem d27_3 : decode jdk_67_method_1_code 3 = .ok (.invokespecial 1, 3) := by decide +kernel
theorem d27_6 : decode jdk_67_method_1_code 6 = .ok (.return_, 1) := by decide +kernel
theorem pf27 : plainFor (⟨"java/lang/StringBuilder", "<init>", "()V"⟩ : MethodName) = true := by first | exact plainFor_of_name (by first | (simp [plainName, overriddenIn]; done) | decide +kernel) | decide +kernel
theorem ef_sbinit (m : MethodId) (z0 : Addr) : entryFrame m #[(.ref z0)] 1 = mkF m 0 #[.val (.ref z0)] [] := by first | rfl | (simp [entryFrame, mkF, argsToLocals, Value.category, *]; done) | rfl
set_option maxRecDepth 65536 in
set_option maxHeartbeats 40000000 in
theorem rm_sbinit {l : Launch} {Z : State} {a0 : Array Value} {n0 : Nat} (G : Gl Z a0 n0) {h0 : Heap} (O : Old Z n0 h0) (b : Addr) (E : Exa Z h0 b "java/lang/StringBuilder") (F_value : Fld Z h0 b "java/lang/AbstractStringBuilder" "value" "[B" .null) (F_coder : Fld Z h0 b "java/lang/AbstractStringBuilder" "coder" "B" (.int (0 : Int32))) (F_count : Fld Z h0 b "java/lang/AbstractStringBuilder" "count" "I" (.int (0 : Int32))) (hge : n0 ≤ b) :
    Ct [] l Z n0 (⟨"java/lang/StringBuilder", "<init>", "()V"⟩ : MethodName) jdk_67_method_1_code 1 none ({ frames := 2, cells := 1, slots := 16, locals := 25 } : Room) #[(.ref b)] h0 (fun v h => Keep h0 h [b] ∧ v = none ∧ ∃ t, h0.size ≤ t ∧ Sb Z h b t [] 16) := by
  refine Ct.intro pf27 ?_
  intro p e s m below meth c C
  refine AtW.cast ?_ (ef_sbinit m b)
  refine w_aloadN (q := 1) C rfl rfl d27_0 rfl ?_
  refine w_bipush (q := 3) (v := (16 : Int32)) C (by rfl) d27_1 rfl ?_
  refine w_callI (q := 6) (argsL := [(.int (16 : Int32))]) (S := []) (W := 0) (cells' := 1) (slots' := 16) (a := b) C rfl (G.1 _ (List.mem_of_getElem? (i := 120) rfl)) (G.1 _ (List.mem_of_getElem? (i := 121) rfl)) (G.1 _ (List.mem_of_getElem? (i := 124) rfl)) (G.1 _ (List.mem_of_getElem? (i := 125) rfl)) (by decide) (rm_asbinit G O b E F_value F_coder F_count hge) rfl (lenOf pd_23 rfl) rfl (by decide) (own_leb rfl) (by decide) rfl rfl (by decide) (by decide) d27_3 rfl ?_
  rintro _ h69 ⟨Kh69, rfl, t, hg, B⟩
  show AtW p l e _ s m _ below meth c n0 _ h69 1 16 (mkF m 6 #[.val (.ref b)] [])
  exact w_retV C rfl d27_6 (by decide) (by decide) ⟨Kh69, rfl, t, hg, B⟩
theorem d29_0 : decode jdk_67_method_7_code 0 = .ok (.aload_n 0, 1) := by decide +kernel
theorem d29_1 : decode jdk_67_method_7_code 1 = .ok (.aload_n 1, 1) := by decide +kernel
theorem d29_2 : decode jdk_67_method_7_code 2 = .ok (.invokespecial 29, 3) := by decide +kernel
theorem d29_5 : decode jdk_67_method_7_code 5 = .ok (.pop, 1) := by decide +kernel
theorem d29_6 : decode jdk_67_method_7_code 6 = .ok (.aload_n 0, 1) := by decide +kernel
theorem d29_7 : decode jdk_67_method_7_code 7 = .ok (.areturn, 1) := by decide +kernel
theorem pf29 : plainFor (⟨"java/lang/StringBuilder", "append", "(Ljava/lang/String;)Ljava/lang/StringBuilder;"⟩ : MethodName) = true := by first | exact plainFor_of_name (by first | (simp [plainName, overriddenIn]; done) | decide +kernel) | decide +kernel
theorem ef_sbApp (m : MethodId) (z0 : Addr) (z1 : Addr) : entryFrame m #[(.ref z0), (.ref z1)] 2 = mkF m 0 #[.val (.ref z0), .val (.ref z1)] [] := by first | rfl | (simp [entryFrame, mkF, argsToLocals, Value.category, *]; done) | rfl
set_option maxRecDepth 65536 in
set_option maxHeartbeats 40000000 in
theorem rm_sbApp {l : Launch} {Z : State} {a0 : Array Value} {n0 : Nat} (G : Gl Z a0 n0) {h0 : Heap} (O : Old Z n0 h0) (b : Addr) (t : Addr) (cs : List Int32) (cap : Nat) (a : Addr) (ds : List Int32) (B : Sb Z h0 b t cs cap) (S : Str Z h0 a ds) (hfit : cs.length + ds.length ≤ cap) (hge : n0 ≤ b) (hgt : n0 ≤ t) :
    Ct [] l Z n0 (⟨"java/lang/StringBuilder", "append", "(Ljava/lang/String;)Ljava/lang/StringBuilder;"⟩ : MethodName) jdk_67_method_7_code 2 (some (.object "java/lang/StringBuilder")) ({ frames := 4, cells := 0, slots := 0, locals := 61 } : Room) #[(.ref b), (.ref a)] h0 (fun v h => Keep h0 h [b, t] ∧ v = some (.ref b) ∧ Sb Z h b t (cs ++ ds) cap) := by
  refine Ct.intro pf29 ?_
  intro p e s m below meth c C
  refine AtW.cast ?_ (ef_sbApp m b a)
  have E := B.1
  refine w_aloadN (q := 1) C rfl rfl d29_0 rfl ?_
  refine w_aloadN (q := 2) C rfl rfl d29_1 rfl ?_
  refine w_callU (q := 5) (argsL := [(.ref a)]) (S := []) (W := 0) (cells' := 0) (slots' := 0) (a := b) C E (G.1 _ (List.mem_of_getElem? (i := 137) rfl)) (G.1 _ (List.mem_of_getElem? (i := 138) rfl)) (NI.of_sel (z := ({ cls := "java/lang/AbstractStringBuilder", name := "ensureCapacityInternal", desc := "(I)V" } : Jvm.MethodName)) (G.1 _ (List.mem_of_getElem? (i := 148) rfl))) (G.1 _ (List.mem_of_getElem? (i := 139) rfl)) (G.1 _ (List.mem_of_getElem? (i := 124) rfl)) (G.1 _ (List.mem_of_getElem? (i := 141) rfl)) (by decide) (by decide) (rm_asbApp G O b t cs cap a ds B S hfit hge hgt) rfl (lenOf pd_25 rfl) rfl (by decide) (own_leb rfl) (by decide) rfl rfl (by decide) (by decide) d29_2 rfl ?_
  rintro _ h70 ⟨Kh70, rfl, R⟩
  show AtW p l e _ s m _ below meth c n0 _ h70 0 0 (mkF m 5 #[.val (.ref b), .val (.ref a)] [(.ref b)])
  refine w_pop (q := 6) C rfl d29_5 rfl ?_
  refine w_aloadN (q := 7) C rfl rfl d29_6 rfl ?_
  exact w_retA C rfl rfl rfl d29_7 (by decide) (by decide) ⟨Kh70, rfl, R⟩
theorem d37_0 : decode jdk_68_method_68_code 0 = .ok (.getstatic 18, 3) := by decide +kernel
theorem d37_3 : decode jdk_68_method_68_code 3 = .ok (.ifCond .eq 14, 3) := by decide +kernel
theorem d37_6 : decode jdk_68_method_68_code 6 = .ok (.aload_n 0, 1) := by decide +kernel
theorem d37_7 : decode jdk_68_method_68_code 7 = .ok (.getfield 22, 3) := by decide +kernel
theorem d37_10 : decode jdk_68_method_68_code 10 = .ok (.ifCond .ne 7, 3) := by decide +kernel
theorem d37_13 : decode jdk_68_method_68_code 13 = .ok (.iconst 1, 1) := by decide +kernel
theorem d37_14 : decode jdk_68_method_68_code 14 = .ok (.goto 4, 3) := by decide +kernel
theorem d37_17 : decode jdk_68_method_68_code 17 = .ok (.iconst 0, 1) := by decide +kernel
theorem d37_18 : decode jdk_68_method_68_code 18 = .ok (.ireturn, 1) := by decide +kernel
theorem pf37 : plainFor (⟨"java/lang/AbstractStringBuilder", "isLatin1", "()Z"⟩ : MethodName) = true := by first | exact plainFor_of_name (by first | (simp [plainName, overriddenIn]; done) | decide +kernel) | decide +kernel
theorem ef_asbLatin1 (m : MethodId) (z0 : Addr) : entryFrame m #[(.ref z0)] 1 = mkF m 0 #[.val (.ref z0)] [] := by first | rfl | (simp [entryFrame, mkF, argsToLocals, Value.category, *]; done) | rfl
set_option maxRecDepth 65536 in
set_option maxHeartbeats 40000000 in
theorem rm_asbLatin1 {l : Launch} {Z : State} {a0 : Array Value} {n0 : Nat} (G : Gl Z a0 n0) {h0 : Heap} (O : Old Z n0 h0) (b : Addr) (t : Addr) (cs : List Int32) (cap : Nat) (B : Sb Z h0 b t cs cap) :
    Ct [] l Z n0 (⟨"java/lang/AbstractStringBuilder", "isLatin1", "()Z"⟩ : MethodName) jdk_68_method_68_code 1 (some .boolean) ({ frames := 0, cells := 0, slots := 0, locals := 0 } : Room) #[(.ref b)] h0 (fun v h => h = h0 ∧ v = some (.int 1)) := by
  refine Ct.intro pf37 ?_
  intro p e s m below meth c C
  refine AtW.cast ?_ (ef_asbLatin1 m b)
  obtain ⟨E, hr, hlc, FC, FN, FV, E2, A⟩ := id B
  obtain ⟨zc, SC, hzc⟩ := G.cs
  refine w_getS (q := 3) (host := "") C (Or.inl (G.1 _ (List.mem_of_getElem? (i := 127) rfl))) Via.refl (SC.ext O.2) d37_0 rfl ?_
  refine w_if_eq_f (q := 6) C d37_3 rfl hzc ?_
  refine w_aloadN (q := 7) C rfl rfl d37_6 rfl ?_
  refine w_getF (q := 10) (host := "") C (Or.inl (G.1 _ (List.mem_of_getElem? (i := 130) rfl))) Via.refl FC d37_7 rfl ?_
  refine w_if_ne_f (q := 13) C d37_10 rfl (by decide) ?_
  refine w_iconst (q := 14) (v := (1 : Int32)) C (by rfl) d37_13 rfl ?_
  refine w_goto (q := 18) C d37_14 (by decide) (by decide) ?_
  exact w_retZ (z := (1 : Int32)) C (t := .boolean) rfl (by simp) (by decide) d37_18 (by decide) (by decide) ⟨rfl, rfl⟩
theorem own_setc (cs : List Int32) (ch : Int32) (cap : Nat) (h : cs.length + 1 ≤ cap) : (own_bs cs ++ List.replicate (cap - cs.length) (Value.int (0 : Int32))).set cs.length (.int ch.toInt8.toInt32) = own_bs (cs ++ [ch]) ++ List.replicate (cap - (cs ++ [ch]).length) (Value.int (0 : Int32)) := by
  have h1 : (own_bs cs).length = cs.length := own_bs_len cs
  rw [List.set_append_right _ _ (by omega), h1, Nat.sub_self, show cap - cs.length = cap - (cs ++ [ch]).length + 1 by simp; omega, List.replicate_succ, List.set_cons_zero, own_bs_app, List.append_assoc]
  rfl

theorem d36_0 : decode jdk_68_method_31_code 0 = .ok (.aload_n 0, 1) := by decide +kernel
theorem d36_1 : decode jdk_68_method_31_code 1 = .ok (.aload_n 0, 1) := by decide +kernel
theorem d36_2 : decode jdk_68_method_31_code 2 = .ok (.getfield 79, 3) := by decide +kernel
theorem d36_5 : decode jdk_68_method_31_code 5 = .ok (.iconst 1, 1) := by decide +kernel
theorem d36_6 : decode jdk_68_method_31_code 6 = .ok (.iadd, 1) := by decide +kernel
theorem d36_7 : decode jdk_68_method_31_code 7 = .ok (.invokevirtual 100, 3) := by decide +kernel
theorem d36_10 : decode jdk_68_method_31_code 10 = .ok (.aload_n 0, 1) := by decide +kernel
theorem d36_11 : decode jdk_68_method_31_code 11 = .ok (.invokevirtual 83, 3) := by decide +kernel
theorem d36_14 : decode jdk_68_method_31_code 14 = .ok (.ifCond .eq 31, 3) := by decide +kernel
theorem d36_17 : decode jdk_68_method_31_code 17 = .ok (.iload_n 1, 1) := by decide +kernel
theorem d36_18 : decode jdk_68_method_31_code 18 = .ok (.invokestatic 191, 3) := by decide +kernel
theorem d36_21 : decode jdk_68_method_31_code 21 = .ok (.ifCond .eq 24, 3) := by decide +kernel
theorem d36_24 : decode jdk_68_method_31_code 24 = .ok (.aload_n 0, 1) := by decide +kernel
theorem d36_25 : decode jdk_68_method_31_code 25 = .ok (.getfield 15, 3) := by decide +kernel
theorem d36_28 : decode jdk_68_method_31_code 28 = .ok (.aload_n 0, 1) := by decide +kernel
theorem d36_29 : decode jdk_68_method_31_code 29 = .ok (.dup, 1) := by decide +kernel
theorem d36_30 : decode jdk_68_method_31_code 30 = .ok (.getfield 79, 3) := by decide +kernel
theorem d36_33 : decode jdk_68_method_31_code 33 = .ok (.dup_x1, 1) := by decide +kernel
theorem d36_34 : decode jdk_68_method_31_code 34 = .ok (.iconst 1, 1) := by decide +kernel
theorem d36_35 : decode jdk_68_method_31_code 35 = .ok (.iadd, 1) := by decide +kernel
theorem d36_36 : decode jdk_68_method_31_code 36 = .ok (.putfield 79, 3) := by decide +kernel
theorem d36_39 : decode jdk_68_method_31_code 39 = .ok (.iload_n 1, 1) := by decide +kernel
theorem d36_40 : decode jdk_68_method_31_code 40 = .ok (.i2b, 1) := by decide +kernel
theorem d36_41 : decode jdk_68_method_31_code 41 = .ok (.bastore, 1) := by decide +kernel
theorem d36_42 : decode jdk_68_method_31_code 42 = .ok (.goto 33, 3) := by decide +kernel
theorem d36_45 : decode jdk_68_method_31_code 45 = .ok (.aload_n 0, 1) := by decide +kernel
theorem d36_46 : decode jdk_68_method_31_code 46 = .ok (.invokevirtual 83, 3) := by decide +kernel
theorem d36_49 : decode jdk_68_method_31_code 49 = .ok (.ifCond .eq 7, 3) := by decide +kernel
theorem d36_52 : decode jdk_68_method_31_code 52 = .ok (.aload_n 0, 1) := by decide +kernel
theorem d36_53 : decode jdk_68_method_31_code 53 = .ok (.invokevirtual 195, 3) := by decide +kernel
theorem d36_56 : decode jdk_68_method_31_code 56 = .ok (.aload_n 0, 1) := by decide +kernel
theorem d36_57 : decode jdk_68_method_31_code 57 = .ok (.getfield 15, 3) := by decide +kernel
theorem d36_60 : decode jdk_68_method_31_code 60 = .ok (.aload_n 0, 1) := by decide +kernel
theorem d36_61 : decode jdk_68_method_31_code 61 = .ok (.dup, 1) := by decide +kernel
theorem d36_62 : decode jdk_68_method_31_code 62 = .ok (.getfield 79, 3) := by decide +kernel
theorem d36_65 : decode jdk_68_method_31_code 65 = .ok (.dup_x1, 1) := by decide +kernel
theorem d36_66 : decode jdk_68_method_31_code 66 = .ok (.iconst 1, 1) := by decide +kernel
theorem d36_67 : decode jdk_68_method_31_code 67 = .ok (.iadd, 1) := by decide +kernel
theorem d36_68 : decode jdk_68_method_31_code 68 = .ok (.putfield 79, 3) := by decide +kernel
theorem d36_71 : decode jdk_68_method_31_code 71 = .ok (.iload_n 1, 1) := by decide +kernel
theorem d36_72 : decode jdk_68_method_31_code 72 = .ok (.invokestatic 197, 3) := by decide +kernel
theorem d36_75 : decode jdk_68_method_31_code 75 = .ok (.aload_n 0, 1) := by decide +kernel
theorem d36_76 : decode jdk_68_method_31_code 76 = .ok (.areturn, 1) := by decide +kernel
theorem pf36 : plainFor (⟨"java/lang/AbstractStringBuilder", "append", "(C)Ljava/lang/AbstractStringBuilder;"⟩ : MethodName) = true := by first | exact plainFor_of_name (by first | (simp [plainName, overriddenIn]; done) | decide +kernel) | decide +kernel
theorem ef_asbAppC (m : MethodId) (z0 : Addr) (z1 : Int32) : entryFrame m #[(.ref z0), (.int z1)] 2 = mkF m 0 #[.val (.ref z0), .val (.int z1)] [] := by first | rfl | (simp [entryFrame, mkF, argsToLocals, Value.category, *]; done) | rfl
set_option maxRecDepth 65536 in
set_option maxHeartbeats 40000000 in
theorem rm_asbAppC {l : Launch} {Z : State} {a0 : Array Value} {n0 : Nat} (G : Gl Z a0 n0) {h0 : Heap} (O : Old Z n0 h0) (b : Addr) (t : Addr) (cs : List Int32) (cap : Nat) (ch : Int32) (B : Sb Z h0 b t cs cap) (hch : ¬ ch < 0 ∧ ¬ 255 < ch) (hfit : cs.length + 1 ≤ cap) (hge : n0 ≤ b) (hgt : n0 ≤ t) :
    Ct [] l Z n0 (⟨"java/lang/AbstractStringBuilder", "append", "(C)Ljava/lang/AbstractStringBuilder;"⟩ : MethodName) jdk_68_method_31_code 2 (some (.object "java/lang/AbstractStringBuilder")) ({ frames := 1, cells := 0, slots := 0, locals := 14 } : Room) #[(.ref b), (.int ch)] h0 (fun v h => Keep h0 h [b, t] ∧ v = some (.ref b) ∧ Sb Z h b t (cs ++ [ch]) cap) := by
  refine Ct.intro pf36 ?_
  intro p e s m below meth c C
  refine AtW.cast ?_ (ef_asbAppC m b ch)
  obtain ⟨E, hr, hlc, FC, FN, FV, E2, A⟩ := id B
  have hcl := B.capl
  have hbt := B.ne
  refine w_aloadN (q := 1) C rfl rfl d36_0 rfl ?_
  refine w_aloadN (q := 2) C rfl rfl d36_1 rfl ?_
  refine w_getF (q := 5) (host := "") C (Or.inl (G.1 _ (List.mem_of_getElem? (i := 143) rfl))) Via.refl FN d36_2 rfl ?_
  refine w_iconst (q := 6) (v := (1 : Int32)) C (by rfl) d36_5 rfl ?_
  refine w_iadd (q := 7) C rfl d36_6 rfl ?_
  rw [show ((Int32.ofNat cs.length) + (1 : Int32)) = (Int32.ofNat (cs.length + 1)) from own_one _]
  refine w_callP (q := 10) (argsL := [(.int (Int32.ofNat (cs.length + 1)))]) (S := []) (W := 0) (cells' := 0) (slots' := 0) (a := b) C E (G.1 _ (List.mem_of_getElem? (i := 145) rfl)) (G.1 _ (List.mem_of_getElem? (i := 146) rfl)) (NI.of_sel (args := #[]) (z := ({ cls := "java/lang/AbstractStringBuilder", name := "ensureCapacityInternal", desc := "(I)V" } : Jvm.MethodName)) (mvT C.2.2.2.1 (G.1 _ (List.mem_of_getElem? (i := 148) rfl)))) (G.1 _ (List.mem_of_getElem? (i := 147) rfl)) (G.1 _ (List.mem_of_getElem? (i := 124) rfl)) (G.1 _ (List.mem_of_getElem? (i := 149) rfl)) (by decide) (rm_ensCap G O b t cs cap (cs.length + 1) B hfit) rfl (lenOf pd_23 rfl) rfl (by decide) (own_leb rfl) (by decide) rfl rfl (by decide) (by decide) d36_7 rfl ?_
  rintro _ h71 ⟨eh72, rfl⟩
  rw [eh72]
  show AtW p l e _ s m _ below meth c n0 _ h0 0 0 (mkF m 10 #[.val (.ref b), .val (.int ch)] [])
  refine w_aloadN (q := 11) C rfl rfl d36_10 rfl ?_
  refine w_callV (q := 14) (argsL := []) (S := []) (W := 0) (cells' := 0) (slots' := 0) (a := b) C E (G.1 _ (List.mem_of_getElem? (i := 179) rfl)) (G.1 _ (List.mem_of_getElem? (i := 180) rfl)) (w_nf C (G.1 _ (List.mem_of_getElem? (i := 182) rfl))) (G.1 _ (List.mem_of_getElem? (i := 182) rfl)) (G.1 _ (List.mem_of_getElem? (i := 181) rfl)) (G.1 _ (List.mem_of_getElem? (i := 124) rfl)) (G.1 _ (List.mem_of_getElem? (i := 183) rfl)) (by decide) (rm_asbLatin1 G O b t cs cap B) rfl (lenOf pd_18 rfl) rfl (by decide) (own_leb rfl) (by decide) rfl rfl (by decide) (by decide) d36_11 rfl ?_
  rintro _ h73 ⟨eh74, rfl⟩
  rw [eh74]
  show AtW p l e _ s m _ below meth c n0 _ h0 0 0 (mkF m 14 #[.val (.ref b), .val (.int ch)] [(.int (1 : Int32))])
  refine w_if_eq_f (q := 17) C d36_14 rfl (by decide) ?_
  refine w_iloadN (q := 18) C rfl d36_17 rfl ?_
  refine w_callS (q := 21) (argsL := [(.int ch)]) (S := []) (W := 0) (cells' := 0) (slots' := 0) C (G.1 _ (List.mem_of_getElem? (i := 184) rfl)) (G.1 _ (List.mem_of_getElem? (i := 38) rfl)) (G.1 _ (List.mem_of_getElem? (i := 39) rfl)) (G.1 _ (List.mem_of_getElem? (i := 40) rfl)) (by decide) (rm_canEncC G O ch hch) rfl (lenOf pd_9 rfl) rfl (by decide) (own_leb rfl) (by decide) rfl rfl (by decide) (by decide) d36_18 rfl ?_
  rintro _ h75 ⟨eh76, rfl⟩
  rw [eh76]
  show AtW p l e _ s m _ below meth c n0 _ h0 0 0 (mkF m 21 #[.val (.ref b), .val (.int ch)] [(.int (1 : Int32))])
  refine w_if_eq_f (q := 24) C d36_21 rfl (by decide) ?_
  refine w_aloadN (q := 25) C rfl rfl d36_24 rfl ?_
  refine w_getF (q := 28) (host := "") C (Or.inl (G.1 _ (List.mem_of_getElem? (i := 128) rfl))) Via.refl FV d36_25 rfl ?_
  refine w_aloadN (q := 29) C rfl rfl d36_28 rfl ?_
  refine w_dup (q := 30) C rfl d36_29 rfl ?_
  refine w_getF (q := 33) (host := "") C (Or.inl (G.1 _ (List.mem_of_getElem? (i := 143) rfl))) Via.refl FN d36_30 rfl ?_
  refine w_dup_x1 (q := 34) C rfl rfl d36_33 rfl ?_
  refine w_iconst (q := 35) (v := (1 : Int32)) C (by rfl) d36_34 rfl ?_
  refine w_iadd (q := 36) C rfl d36_35 rfl ?_
  rw [show ((Int32.ofNat cs.length) + (1 : Int32)) = (Int32.ofNat (cs ++ [ch]).length) from (own_one _).trans (by rw [List.length_append]; rfl)]
  refine w_putF (q := 39) (host := "") (v' := (.int (Int32.ofNat (cs ++ [ch]).length))) C (G.1 _ (List.mem_of_getElem? (i := 143) rfl)) Via.refl FN E (Or.inl (G.1 _ (List.mem_of_getElem? (i := 144) rfl))) (G.1 _ (List.mem_of_getElem? (i := 115) rfl)) (ty := .int) (by decide) rfl rfl hge d36_36 rfl ?_
  intro h77 Wh77
  replace FN := FN.same Wh77
  replace FC := FC.other Wh77 (Or.inr (slot_ne (Or.inl (G.1 _ (List.mem_of_getElem? (i := 131) rfl))) (Or.inl (G.1 _ (List.mem_of_getElem? (i := 144) rfl))) (by decide) (t := .byte) (t' := .int) (by decide) (by decide)))
  replace FV := FV.other Wh77 (Or.inr (slot_ne (Or.inl (G.1 _ (List.mem_of_getElem? (i := 129) rfl))) (Or.inl (G.1 _ (List.mem_of_getElem? (i := 144) rfl))) (by decide) (t := (.array .byte)) (t' := .int) (by decide) (by decide)))
  replace E := E.wr Wh77
  replace E2 := E2.wr Wh77
  replace A := A.other Wh77 (Ne.symm hbt)
  refine w_iloadN (q := 40) C rfl d36_39 rfl ?_
  refine w_i2b (q := 41) C rfl d36_40 rfl ?_
  refine w_bastore (q := 42) (z := ch.toInt8.toInt32) (i := cs.length) C (own_nar8 ch) A rfl (by simp only [List.length_append, own_bs_len, List.length_replicate]; omega) hgt d36_41 rfl ?_
  intro h78 Wh78 Vh78
  rw [own_setc cs ch cap hfit] at Vh78
  refine w_goto (q := 75) C d36_42 (by decide) (by decide) ?_
  refine w_aloadN (q := 76) C rfl rfl d36_75 rfl ?_
  exact w_retA C rfl rfl rfl d36_76 (by decide) (by decide) ⟨((Keep.refl h0 [b, t]).wr Wh77 (Or.inl (by simp))).wr Wh78 (Or.inl (by simp)), rfl, E.wr Wh78, hr.app (own_L1c hch (fun c hc => absurd hc List.not_mem_nil)), by rw [List.length_append]; exact hfit, FC.other Wh78 (Or.inl hbt), FN.other Wh78 (Or.inl hbt), FV.other Wh78 (Or.inl hbt), E2.wr Wh78, Vh78⟩
theorem d35_0 : decode jdk_67_method_14_code 0 = .ok (.aload_n 0, 1) := by decide +kernel
theorem d35_1 : decode jdk_67_method_14_code 1 = .ok (.iload_n 1, 1) := by decide +kernel
theorem d35_2 : decode jdk_67_method_14_code 2 = .ok (.invokespecial 50, 3) := by decide +kernel
theorem d35_5 : decode jdk_67_method_14_code 5 = .ok (.pop, 1) := by decide +kernel
theorem d35_6 : decode jdk_67_method_14_code 6 = .ok (.aload_n 0, 1) := by decide +kernel
theorem d35_7 : decode jdk_67_method_14_code 7 = .ok (.areturn, 1) := by decide +kernel
theorem pf35 : plainFor (⟨"java/lang/StringBuilder", "append", "(C)Ljava/lang/StringBuilder;"⟩ : MethodName) = true := by first | exact plainFor_of_name (by first | (simp [plainName, overriddenIn]; done) | decide +kernel) | decide +kernel
theorem ef_sbAppC (m : MethodId) (z0 : Addr) (z1 : Int32) : entryFrame m #[(.ref z0), (.int z1)] 2 = mkF m 0 #[.val (.ref z0), .val (.int z1)] [] := by first | rfl | (simp [entryFrame, mkF, argsToLocals, Value.category, *]; done) | rfl
set_option maxRecDepth 65536 in
set_option maxHeartbeats 40000000 in
theorem rm_sbAppC {l : Launch} {Z : State} {a0 : Array Value} {n0 : Nat} (G : Gl Z a0 n0) {h0 : Heap} (O : Old Z n0 h0) (b : Addr) (t : Addr) (cs : List Int32) (cap : Nat) (ch : Int32) (B : Sb Z h0 b t cs cap) (hch : ¬ ch < 0 ∧ ¬ 255 < ch) (hfit : cs.length + 1 ≤ cap) (hge : n0 ≤ b) (hgt : n0 ≤ t) :
    Ct [] l Z n0 (⟨"java/lang/StringBuilder", "append", "(C)Ljava/lang/StringBuilder;"⟩ : MethodName) jdk_67_method_14_code 2 (some (.object "java/lang/StringBuilder")) ({ frames := 2, cells := 0, slots := 0, locals := 27 } : Room) #[(.ref b), (.int ch)] h0 (fun v h => Keep h0 h [b, t] ∧ v = some (.ref b) ∧ Sb Z h b t (cs ++ [ch]) cap) := by
  refine Ct.intro pf35 ?_
  intro p e s m below meth c C
  refine AtW.cast ?_ (ef_sbAppC m b ch)
  have E := B.1
  refine w_aloadN (q := 1) C rfl rfl d35_0 rfl ?_
  refine w_iloadN (q := 2) C rfl d35_1 rfl ?_
  refine w_callU (q := 5) (argsL := [(.int ch)]) (S := []) (W := 0) (cells' := 0) (slots' := 0) (a := b) C E (G.1 _ (List.mem_of_getElem? (i := 175) rfl)) (G.1 _ (List.mem_of_getElem? (i := 176) rfl)) (NI.of_sel (z := ({ cls := "java/lang/AbstractStringBuilder", name := "ensureCapacityInternal", desc := "(I)V" } : Jvm.MethodName)) (G.1 _ (List.mem_of_getElem? (i := 148) rfl))) (G.1 _ (List.mem_of_getElem? (i := 139) rfl)) (G.1 _ (List.mem_of_getElem? (i := 124) rfl)) (G.1 _ (List.mem_of_getElem? (i := 178) rfl)) (by decide) (by decide) (rm_asbAppC G O b t cs cap ch B hch hfit hge hgt) rfl (lenOf pd_31 rfl) rfl (by decide) (own_leb rfl) (by decide) rfl rfl (by decide) (by decide) d35_2 rfl ?_
  rintro _ h79 ⟨Kh79, rfl, R⟩
  show AtW p l e _ s m _ below meth c n0 _ h79 0 0 (mkF m 5 #[.val (.ref b), .val (.int ch)] [(.ref b)])
  refine w_pop (q := 6) C rfl d35_5 rfl ?_
  refine w_aloadN (q := 7) C rfl rfl d35_6 rfl ?_
  exact w_retA C rfl rfl rfl d35_7 (by decide) (by decide) ⟨Kh79, rfl, R⟩
theorem d41_0 : decode jdk_68_method_64_code 0 = .ok (.aload_n 0, 1) := by decide +kernel
theorem d41_1 : decode jdk_68_method_64_code 1 = .ok (.getfield 15, 3) := by decide +kernel
theorem d41_4 : decode jdk_68_method_64_code 4 = .ok (.areturn, 1) := by decide +kernel
theorem pf41 : plainFor (⟨"java/lang/AbstractStringBuilder", "getValue", "()[B"⟩ : MethodName) = true := by first | exact plainFor_of_name (by first | (simp [plainName, overriddenIn]; done) | decide +kernel) | decide +kernel
theorem ef_asbValue (m : MethodId) (z0 : Addr) : entryFrame m #[(.ref z0)] 1 = mkF m 0 #[.val (.ref z0)] [] := by first | rfl | (simp [entryFrame, mkF, argsToLocals, Value.category, *]; done) | rfl
set_option maxRecDepth 65536 in
set_option maxHeartbeats 40000000 in
theorem rm_asbValue {l : Launch} {Z : State} {a0 : Array Value} {n0 : Nat} (G : Gl Z a0 n0) {h0 : Heap} (O : Old Z n0 h0) (b : Addr) (t : Addr) (cs : List Int32) (cap : Nat) (B : Sb Z h0 b t cs cap) :
    Ct [] l Z n0 (⟨"java/lang/AbstractStringBuilder", "getValue", "()[B"⟩ : MethodName) jdk_68_method_64_code 1 (some (.array .byte)) ({ frames := 0, cells := 0, slots := 0, locals := 0 } : Room) #[(.ref b)] h0 (fun v h => h = h0 ∧ v = some (.ref t)) := by
  refine Ct.intro pf41 ?_
  intro p e s m below meth c C
  refine AtW.cast ?_ (ef_asbValue m b)
  obtain ⟨E, hr, hlc, FC, FN, FV, E2, A⟩ := id B
  refine w_aloadN (q := 1) C rfl rfl d41_0 rfl ?_
  refine w_getF (q := 4) (host := "") C (Or.inl (G.1 _ (List.mem_of_getElem? (i := 128) rfl))) Via.refl FV d41_1 rfl ?_
  exact w_retA C rfl rfl rfl d41_4 (by decide) (by decide) ⟨rfl, rfl⟩
theorem d43_0 : decode jdk_68_method_6_code 0 = .ok (.aload_n 0, 1) := by decide +kernel
theorem d43_1 : decode jdk_68_method_6_code 1 = .ok (.getfield 79, 3) := by decide +kernel
theorem d43_4 : decode jdk_68_method_6_code 4 = .ok (.ireturn, 1) := by decide +kernel
theorem pf43 : plainFor (⟨"java/lang/AbstractStringBuilder", "length", "()I"⟩ : MethodName) = true := by first | exact plainFor_of_name (by first | (simp [plainName, overriddenIn]; done) | decide +kernel) | decide +kernel
theorem ef_asbLen (m : MethodId) (z0 : Addr) : entryFrame m #[(.ref z0)] 1 = mkF m 0 #[.val (.ref z0)] [] := by first | rfl | (simp [entryFrame, mkF, argsToLocals, Value.category, *]; done) | rfl
set_option maxRecDepth 65536 in
set_option maxHeartbeats 40000000 in
theorem rm_asbLen {l : Launch} {Z : State} {a0 : Array Value} {n0 : Nat} (G : Gl Z a0 n0) {h0 : Heap} (O : Old Z n0 h0) (b : Addr) (t : Addr) (cs : List Int32) (cap : Nat) (B : Sb Z h0 b t cs cap) :
    Ct [] l Z n0 (⟨"java/lang/AbstractStringBuilder", "length", "()I"⟩ : MethodName) jdk_68_method_6_code 1 (some .int) ({ frames := 0, cells := 0, slots := 0, locals := 0 } : Room) #[(.ref b)] h0 (fun v h => h = h0 ∧ v = some (.int (Int32.ofNat cs.length))) := by
  refine Ct.intro pf43 ?_
  intro p e s m below meth c C
  refine AtW.cast ?_ (ef_asbLen m b)
  obtain ⟨E, hr, hlc, FC, FN, FV, E2, A⟩ := id B
  refine w_aloadN (q := 1) C rfl rfl d43_0 rfl ?_
  refine w_getF (q := 4) (host := "") C (Or.inl (G.1 _ (List.mem_of_getElem? (i := 143) rfl))) Via.refl FN d43_1 rfl ?_
  exact w_retI C rfl d43_4 (by decide) (by decide) ⟨rfl, rfl⟩
theorem d42_0 : decode jdk_67_method_93_code 0 = .ok (.aload_n 0, 1) := by decide +kernel
theorem d42_1 : decode jdk_67_method_93_code 1 = .ok (.invokespecial 343, 3) := by decide +kernel
theorem d42_4 : decode jdk_67_method_93_code 4 = .ok (.ireturn, 1) := by decide +kernel
theorem pf42 : plainFor (⟨"java/lang/StringBuilder", "length", "()I"⟩ : MethodName) = true := by first | exact plainFor_of_name (by first | (simp [plainName, overriddenIn]; done) | decide +kernel) | decide +kernel
theorem ef_sbLen (m : MethodId) (z0 : Addr) : entryFrame m #[(.ref z0)] 1 = mkF m 0 #[.val (.ref z0)] [] := by first | rfl | (simp [entryFrame, mkF, argsToLocals, Value.category, *]; done) | rfl
set_option maxRecDepth 65536 in
set_option maxHeartbeats 40000000 in
theorem rm_sbLen {l : Launch} {Z : State} {a0 : Array Value} {n0 : Nat} (G : Gl Z a0 n0) {h0 : Heap} (O : Old Z n0 h0) (b : Addr) (t : Addr) (cs : List Int32) (cap : Nat) (B : Sb Z h0 b t cs cap) :
    Ct [] l Z n0 (⟨"java/lang/StringBuilder", "length", "()I"⟩ : MethodName) jdk_67_method_93_code 1 (some .int) ({ frames := 1, cells := 0, slots := 0, locals := 12 } : Room) #[(.ref b)] h0 (fun v h => h = h0 ∧ v = some (.int (Int32.ofNat cs.length))) := by
  refine Ct.intro pf42 ?_
  intro p e s m below meth c C
  refine AtW.cast ?_ (ef_sbLen m b)
  obtain ⟨E, hr, hlc, FC, FN, FV, E2, A⟩ := id B
  refine w_aloadN (q := 1) C rfl rfl d42_0 rfl ?_
  refine w_callU (q := 4) (argsL := []) (S := []) (W := 0) (cells' := 0) (slots' := 0) (a := b) C E (G.1 _ (List.mem_of_getElem? (i := 208) rfl)) (G.1 _ (List.mem_of_getElem? (i := 204) rfl)) (NI.of_sel (z := ({ cls := "java/lang/AbstractStringBuilder", name := "ensureCapacityInternal", desc := "(I)V" } : Jvm.MethodName)) (G.1 _ (List.mem_of_getElem? (i := 148) rfl))) (G.1 _ (List.mem_of_getElem? (i := 139) rfl)) (G.1 _ (List.mem_of_getElem? (i := 124) rfl)) (G.1 _ (List.mem_of_getElem? (i := 209) rfl)) (by decide) (by decide) (rm_asbLen G O b t cs cap B) rfl (lenOf pd_19 rfl) rfl (by decide) (own_leb rfl) (by decide) rfl rfl (by decide) (by decide) d42_1 rfl ?_
  rintro _ h80 ⟨eh81, rfl⟩
  rw [eh81]
  show AtW p l e _ s m _ below meth c n0 _ h0 0 0 (mkF m 4 #[.val (.ref b)] [(.int (Int32.ofNat cs.length))])
  exact w_retI C rfl d42_4 (by decide) (by decide) ⟨rfl, rfl⟩
theorem d46_0 : decode jdk_65_method_131_code 0 = .ok (.iload_n 1, 1) := by decide +kernel
theorem d46_1 : decode jdk_65_method_131_code 1 = .ok (.iload_n 0, 1) := by decide +kernel
theorem d46_2 : decode jdk_65_method_131_code 2 = .ok (.if_icmp .ge 35, 3) := by decide +kernel
theorem d46_5 : decode jdk_65_method_131_code 5 = .ok (.new 43, 3) := by decide +kernel
theorem d46_8 : decode jdk_65_method_131_code 8 = .ok (.dup, 1) := by decide +kernel
theorem d46_9 : decode jdk_65_method_131_code 9 = .ok (.new 45, 3) := by decide +kernel
theorem d46_12 : decode jdk_65_method_131_code 12 = .ok (.dup, 1) := by decide +kernel
theorem d46_13 : decode jdk_65_method_131_code 13 = .ok (.invokespecial 47, 3) := by decide +kernel
theorem d46_16 : decode jdk_65_method_131_code 16 = .ok (.iload_n 0, 1) := by decide +kernel
theorem d46_17 : decode jdk_65_method_131_code 17 = .ok (.invokevirtual 54, 3) := by decide +kernel
theorem d46_20 : decode jdk_65_method_131_code 20 = .ok (.ldc_w 337, 3) := by decide +kernel
theorem d46_23 : decode jdk_65_method_131_code 23 = .ok (.invokevirtual 50, 3) := by decide +kernel
theorem d46_26 : decode jdk_65_method_131_code 26 = .ok (.iload_n 1, 1) := by decide +kernel
theorem d46_27 : decode jdk_65_method_131_code 27 = .ok (.invokevirtual 54, 3) := by decide +kernel
theorem d46_30 : decode jdk_65_method_131_code 30 = .ok (.invokevirtual 61, 3) := by decide +kernel
theorem d46_33 : decode jdk_65_method_131_code 33 = .ok (.invokespecial 65, 3) := by decide +kernel
theorem d46_36 : decode jdk_65_method_131_code 36 = .ok (.athrow, 1) := by decide +kernel
theorem d46_37 : decode jdk_65_method_131_code 37 = .ok (.return_, 1) := by decide +kernel
theorem pf46 : plainFor (⟨"java/util/Arrays", "checkLength", "(II)V"⟩ : MethodName) = true := by first | exact plainFor_of_name (by first | (simp [plainName, overriddenIn]; done) | decide +kernel) | decide +kernel
theorem ef_checkLen (m : MethodId) (z0 : Int32) (z1 : Int32) : entryFrame m #[(.int z0), (.int z1)] 2 = mkF m 0 #[.val (.int z0), .val (.int z1)] [] := by first | rfl | (simp [entryFrame, mkF, argsToLocals, Value.category, *]; done) | rfl
set_option maxRecDepth 65536 in
set_option maxHeartbeats 40000000 in
theorem rm_checkLen {l : Launch} {Z : State} {a0 : Array Value} {n0 : Nat} (G : Gl Z a0 n0) {h0 : Heap} (O : Old Z n0 h0) (x : Int32) (y : Int32) (hxy : ¬ y < x) :
    Ct [] l Z n0 (⟨"java/util/Arrays", "checkLength", "(II)V"⟩ : MethodName) jdk_65_method_131_code 2 none ({ frames := 0, cells := 0, slots := 0, locals := 0 } : Room) #[(.int x), (.int y)] h0 (fun v h => h = h0 ∧ v = none) := by
  refine Ct.intro pf46 ?_
  intro p e s m below meth c C
  refine AtW.cast ?_ (ef_checkLen m x y)
  refine w_iloadN (q := 1) C rfl d46_0 rfl ?_
  refine w_iloadN (q := 2) C rfl d46_1 rfl ?_
  refine w_icmp_ge_t (q := 37) C d46_2 (by decide) (by decide) hxy ?_
  exact w_retV C rfl d46_37 (by decide) (by decide) ⟨rfl, rfl⟩
theorem d45_0 : decode jdk_65_method_133_code 0 = .ok (.iload_n 1, 1) := by decide +kernel
theorem d45_1 : decode jdk_65_method_133_code 1 = .ok (.iload_n 2, 1) := by decide +kernel
theorem d45_2 : decode jdk_65_method_133_code 2 = .ok (.invokestatic 343, 3) := by decide +kernel
theorem d45_5 : decode jdk_65_method_133_code 5 = .ok (.iload_n 2, 1) := by decide +kernel
theorem d45_6 : decode jdk_65_method_133_code 6 = .ok (.iload_n 1, 1) := by decide +kernel
theorem d45_7 : decode jdk_65_method_133_code 7 = .ok (.isub, 1) := by decide +kernel
theorem d45_8 : decode jdk_65_method_133_code 8 = .ok (.istore_n 3, 1) := by decide +kernel
theorem d45_9 : decode jdk_65_method_133_code 9 = .ok (.iload_n 3, 1) := by decide +kernel
theorem d45_10 : decode jdk_65_method_133_code 10 = .ok (.newarray .byte, 2) := by decide +kernel
theorem d45_12 : decode jdk_65_method_133_code 12 = .ok (.astore 4, 2) := by decide +kernel
theorem d45_14 : decode jdk_65_method_133_code 14 = .ok (.aload_n 0, 1) := by decide +kernel
theorem d45_15 : decode jdk_65_method_133_code 15 = .ok (.iload_n 1, 1) := by decide +kernel
theorem d45_16 : decode jdk_65_method_133_code 16 = .ok (.aload 4, 2) := by decide +kernel
theorem d45_18 : decode jdk_65_method_133_code 18 = .ok (.iconst 0, 1) := by decide +kernel
theorem d45_19 : decode jdk_65_method_133_code 19 = .ok (.aload_n 0, 1) := by decide +kernel
theorem d45_20 : decode jdk_65_method_133_code 20 = .ok (.arraylength, 1) := by decide +kernel
theorem d45_21 : decode jdk_65_method_133_code 21 = .ok (.iload_n 1, 1) := by decide +kernel
theorem d45_22 : decode jdk_65_method_133_code 22 = .ok (.isub, 1) := by decide +kernel
theorem d45_23 : decode jdk_65_method_133_code 23 = .ok (.iload_n 3, 1) := by decide +kernel
theorem d45_24 : decode jdk_65_method_133_code 24 = .ok (.invokestatic 304, 3) := by decide +kernel
theorem d45_27 : decode jdk_65_method_133_code 27 = .ok (.invokestatic 150, 3) := by decide +kernel
theorem d45_30 : decode jdk_65_method_133_code 30 = .ok (.aload 4, 2) := by decide +kernel
theorem d45_32 : decode jdk_65_method_133_code 32 = .ok (.areturn, 1) := by decide +kernel
theorem pf45 : plainFor (⟨"java/util/Arrays", "copyOfRangeByte", "([BII)[B"⟩ : MethodName) = true := by first | exact plainFor_of_name (by first | (simp [plainName, overriddenIn]; done) | decide +kernel) | decide +kernel
theorem ef_cpRangeB (m : MethodId) (z0 : Addr) (z1 : Int32) (z2 : Int32) : entryFrame m #[(.ref z0), (.int z1), (.int z2)] 5 = mkF m 0 #[.val (.ref z0), .val (.int z1), .val (.int z2), .unset, .unset] [] := by first | rfl | (simp [entryFrame, mkF, argsToLocals, Value.category, *]; done) | rfl
set_option maxRecDepth 65536 in
set_option maxHeartbeats 40000000 in
theorem rm_cpRangeB {l : Launch} {Z : State} {a0 : Array Value} {n0 : Nat} (G : Gl Z a0 n0) {h0 : Heap} (O : Old Z n0 h0) (t : Addr) (vs : List Value) (n : Nat) (A : Ar Z h0 t .byte vs) (hn : n ≤ vs.length) (hnc : n ≤ 16) :
    Ct [] l Z n0 (⟨"java/util/Arrays", "copyOfRangeByte", "([BII)[B"⟩ : MethodName) jdk_65_method_133_code 5 (some (.array .byte)) ({ frames := 1, cells := 1, slots := 16, locals := 18 } : Room) #[(.ref t), (.int (0 : Int32)), (.int (Int32.ofNat n))] h0 (fun v h => Keep h0 h [] ∧ ∃ u, v = some (.ref u) ∧ h0.size ≤ u ∧ Ar Z h u .byte (vs.take n)) := by
  refine Ct.intro pf45 ?_
  intro p e s m below meth c C
  refine AtW.cast ?_ (ef_cpRangeB m t (0 : Int32) (Int32.ofNat n))
  have hvl := A.1
  refine w_iloadN (q := 1) C rfl d45_0 rfl ?_
  refine w_iloadN (q := 2) C rfl d45_1 rfl ?_
  refine w_callS (q := 5) (argsL := [(.int (0 : Int32)), (.int (Int32.ofNat n))]) (S := []) (W := 0) (cells' := 0) (slots' := 0) C (G.1 _ (List.mem_of_getElem? (i := 218) rfl)) (G.1 _ (List.mem_of_getElem? (i := 219) rfl)) (G.1 _ (List.mem_of_getElem? (i := 213) rfl)) (G.1 _ (List.mem_of_getElem? (i := 220) rfl)) (by decide) (rm_checkLen G O 0 _ (ofNat_neg (by omega))) rfl (lenOf pd_37 rfl) rfl (by decide) (own_leb rfl) (by decide) rfl rfl (by decide) (by decide) d45_2 rfl ?_
  rintro _ h82 ⟨eh83, rfl⟩
  rw [eh83]
  show AtW p l e _ s m _ below meth c n0 _ h0 0 0 (mkF m 5 #[.val (.ref t), .val (.int (0 : Int32)), .val (.int (Int32.ofNat n)), .unset, .unset] [])
  refine w_iloadN (q := 6) C rfl d45_5 rfl ?_
  refine w_iloadN (q := 7) C rfl d45_6 rfl ?_
  refine w_isub (q := 8) C rfl d45_7 rfl ?_
  rw [show ((Int32.ofNat n) - (0 : Int32)) = (Int32.ofNat n) from Int32.sub_zero _]
  refine w_istoreN (q := 9) (L' := #[.val (.ref t), .val (.int (0 : Int32)), .val (.int (Int32.ofNat n)), .val (.int (Int32.ofNat n)), .unset]) C rfl d45_8 rfl ?_
  refine w_iloadN (q := 10) C rfl d45_9 rfl ?_
  refine w_newArrE (q := 12) (cap := 16) (cells' := 1) (slots' := 16) (ad := "[B") C (G.1 _ (List.mem_of_getElem? (i := 23) rfl)) rfl (ofNat_neg (by omega)) (by rw [ofNat_nat (by omega)]; exact hnc) (by decide) rfl rfl (by decide) (by decide) rfl d45_10 rfl ?_
  intro h84 u g_u Eh84 V_u X_u
  rw [ofNat_nat (by omega)] at V_u
  have K1 : Keep h0 h84 [] := Keep.of_ext Eh84
  have hg0 : h0.size ≤ u := Nat.le_of_eq g_u.symm
  have ge : n0 ≤ u := Nat.le_trans (Old_le O) hg0
  replace O := Old_k0 O K1
  replace A := Ar_k0 A K1
  refine w_astore (q := 14) (L' := #[.val (.ref t), .val (.int (0 : Int32)), .val (.int (Int32.ofNat n)), .val (.int (Int32.ofNat n)), .val (.ref u)]) C rfl rfl d45_12 rfl ?_
  refine w_aloadN (q := 15) C rfl rfl d45_14 rfl ?_
  refine w_iloadN (q := 16) C rfl d45_15 rfl ?_
  refine w_aload (q := 18) C rfl rfl d45_16 rfl ?_
  refine w_iconst (q := 19) (v := (0 : Int32)) C (by rfl) d45_18 rfl ?_
  refine w_aloadN (q := 20) C rfl rfl d45_19 rfl ?_
  refine w_len (q := 21) (z := (Int32.ofNat vs.length)) C A rfl d45_20 rfl ?_
  refine w_iloadN (q := 22) C rfl d45_21 rfl ?_
  refine w_isub (q := 23) C rfl d45_22 rfl ?_
  rw [show ((Int32.ofNat vs.length) - (0 : Int32)) = (Int32.ofNat vs.length) from Int32.sub_zero _]
  refine w_iloadN (q := 24) C rfl d45_23 rfl ?_
  refine w_callS (q := 27) (argsL := [(.int (Int32.ofNat vs.length)), (.int (Int32.ofNat n))]) (S := [(.int (0 : Int32)), (.ref u), (.int (0 : Int32)), (.ref t)]) (W := 4) (cells' := 1) (slots' := 16) C (G.1 _ (List.mem_of_getElem? (i := 221) rfl)) (G.1 _ (List.mem_of_getElem? (i := 101) rfl)) (G.1 _ (List.mem_of_getElem? (i := 98) rfl)) (G.1 _ (List.mem_of_getElem? (i := 102) rfl)) (by decide) (rm_mmin G O _ _) rfl (lenOf pd_17 rfl) rfl (by decide) (own_leb rfl) (by decide) rfl rfl (by decide) (by decide) d45_24 rfl ?_
  rintro _ h85 ⟨eh86, rfl⟩
  rw [eh86]
  show AtW p l e _ s m _ below meth c n0 _ h84 1 16 (mkF m 27 #[.val (.ref t), .val (.int (0 : Int32)), .val (.int (Int32.ofNat n)), .val (.int (Int32.ofNat n)), .val (.ref u)] [(.int (if (Int32.ofNat n) < (Int32.ofNat vs.length) then (Int32.ofNat n) else (Int32.ofNat vs.length))), (.int (0 : Int32)), (.ref u), (.int (0 : Int32)), (.ref t)])
  rw [show (if (Int32.ofNat n) < (Int32.ofNat vs.length) then (Int32.ofNat n) else (Int32.ofNat vs.length)) = (Int32.ofNat n) from by split; rfl; rename_i q; rw [own_nlt (by omega) hvl] at q; congr 1; omega]
  refine w_copy (q := 30) (S := []) (sp := 0) (dp := 0) (nn := n) (W := 0) C (G.1 _ (List.mem_of_getElem? (i := 222) rfl)) (G.1 _ (List.mem_of_getElem? (i := 169) rfl)) (G.1 _ (List.mem_of_getElem? (i := 167) rfl)) (G.1 _ (List.mem_of_getElem? (i := 168) rfl)) A V_u rfl (by omega) (by rw [List.length_replicate]; omega) ge rfl (by decide) (own_leb rfl) (by decide) rfl d45_27 rfl ?_
  intro h87 Kh87 Vh87
  refine w_aload (q := 32) C rfl rfl d45_30 rfl ?_
  exact w_retA C rfl rfl rfl d45_32 (by decide) (by decide) ⟨own_K1 K1 Kh87 hg0, u, rfl, hg0, by simpa using Vh87⟩
theorem d44_0 : decode jdk_65_method_132_code 0 = .ok (.iload_n 1, 1) := by decide +kernel
theorem d44_1 : decode jdk_65_method_132_code 1 = .ok (.ifCond .ne 9, 3) := by decide +kernel
theorem d44_4 : decode jdk_65_method_132_code 4 = .ok (.iload_n 2, 1) := by decide +kernel
theorem d44_5 : decode jdk_65_method_132_code 5 = .ok (.aload_n 0, 1) := by decide +kernel
theorem d44_6 : decode jdk_65_method_132_code 6 = .ok (.arraylength, 1) := by decide +kernel
theorem d44_7 : decode jdk_65_method_132_code 7 = .ok (.if_icmp .eq 10, 3) := by decide +kernel
theorem d44_10 : decode jdk_65_method_132_code 10 = .ok (.aload_n 0, 1) := by decide +kernel
theorem d44_11 : decode jdk_65_method_132_code 11 = .ok (.iload_n 1, 1) := by decide +kernel
theorem d44_12 : decode jdk_65_method_132_code 12 = .ok (.iload_n 2, 1) := by decide +kernel
theorem d44_13 : decode jdk_65_method_132_code 13 = .ok (.invokestatic 339, 3) := by decide +kernel
theorem d44_16 : decode jdk_65_method_132_code 16 = .ok (.areturn, 1) := by decide +kernel
theorem d44_17 : decode jdk_65_method_132_code 17 = .ok (.aload_n 0, 1) := by decide +kernel
theorem d44_18 : decode jdk_65_method_132_code 18 = .ok (.invokevirtual 310, 3) := by decide +kernel
theorem d44_21 : decode jdk_65_method_132_code 21 = .ok (.checkcast 311, 3) := by decide +kernel
theorem d44_24 : decode jdk_65_method_132_code 24 = .ok (.areturn, 1) := by decide +kernel
theorem pf44 : plainFor (⟨"java/util/Arrays", "copyOfRange", "([BII)[B"⟩ : MethodName) = true := by first | exact plainFor_of_name (by first | (simp [plainName, overriddenIn]; done) | decide +kernel) | decide +kernel
theorem ef_cpRange (m : MethodId) (z0 : Addr) (z1 : Int32) (z2 : Int32) : entryFrame m #[(.ref z0), (.int z1), (.int z2)] 3 = mkF m 0 #[.val (.ref z0), .val (.int z1), .val (.int z2)] [] := by first | rfl | (simp [entryFrame, mkF, argsToLocals, Value.category, *]; done) | rfl
set_option maxRecDepth 65536 in
set_option maxHeartbeats 40000000 in
theorem rm_cpRange {l : Launch} {Z : State} {a0 : Array Value} {n0 : Nat} (G : Gl Z a0 n0) {h0 : Heap} (O : Old Z n0 h0) (t : Addr) (vs : List Value) (n : Nat) (A : Ar Z h0 t .byte vs) (X : Exa Z h0 t "[B") (hn : n ≤ vs.length) (hnc : n ≤ 16) :
    Ct [] l Z n0 (⟨"java/util/Arrays", "copyOfRange", "([BII)[B"⟩ : MethodName) jdk_65_method_132_code 3 (some (.array .byte)) ({ frames := 2, cells := 1, slots := 16, locals := 34 } : Room) #[(.ref t), (.int (0 : Int32)), (.int (Int32.ofNat n))] h0 (fun v h => Keep h0 h [] ∧ ∃ u, v = some (.ref u) ∧ h0.size ≤ u ∧ Ar Z h u .byte (vs.take n)) := by
  refine Ct.intro pf44 ?_
  intro p e s m below meth c C
  refine AtW.cast ?_ (ef_cpRange m t (0 : Int32) (Int32.ofNat n))
  have hvl := A.1
  refine w_iloadN (q := 1) C rfl d44_0 rfl ?_
  refine w_if_ne_f (q := 4) C d44_1 rfl (by decide) ?_
  refine w_iloadN (q := 5) C rfl d44_4 rfl ?_
  refine w_aloadN (q := 6) C rfl rfl d44_5 rfl ?_
  refine w_len (q := 7) (z := (Int32.ofNat vs.length)) C A rfl d44_6 rfl ?_
  by_cases q1 : (Int32.ofNat n) = (Int32.ofNat vs.length)
  · refine w_icmp_eq_t (q := 17) C d44_7 (by decide) (by decide) q1 ?_
    rw [own_neq (by omega) hvl] at q1
    refine w_aloadN (q := 18) C rfl rfl d44_17 rfl ?_
    refine w_clone (q := 21) (cap := 16) (W := 0) (cells' := 1) (slots' := 16) C (G.1 _ (List.mem_of_getElem? (i := 274) rfl)) (G.1 _ (List.mem_of_getElem? (i := 275) rfl)) (G.1 _ (List.mem_of_getElem? (i := 279) rfl)) (G.1 _ (List.mem_of_getElem? (i := 277) rfl)) (G.1 _ (List.mem_of_getElem? (i := 278) rfl)) (G.1 _ (List.mem_of_getElem? (i := 280) rfl)) A X rfl (by decide) (own_leb rfl) (by decide) (by omega) rfl rfl (by decide) (by decide) d44_18 rfl ?_
    intro h88 u g_u Eh88 V_u X_u
    refine w_cast (q := 24) C (G.1 _ (List.mem_of_getElem? (i := 281) rfl)) (Ins.self X_u) d44_21 rfl ?_
    exact w_retA C rfl rfl rfl d44_24 (by decide) (by decide) ⟨Keep.of_ext Eh88, u, rfl, Nat.le_of_eq g_u.symm, by rw [q1, List.take_length]; exact V_u⟩
  · refine w_icmp_eq_f (q := 10) C d44_7 rfl q1 ?_
    refine w_aloadN (q := 11) C rfl rfl d44_10 rfl ?_
    refine w_iloadN (q := 12) C rfl d44_11 rfl ?_
    refine w_iloadN (q := 13) C rfl d44_12 rfl ?_
    refine w_callS (q := 16) (argsL := [(.ref t), (.int (0 : Int32)), (.int (Int32.ofNat n))]) (S := []) (W := 0) (cells' := 1) (slots' := 16) C (G.1 _ (List.mem_of_getElem? (i := 215) rfl)) (G.1 _ (List.mem_of_getElem? (i := 216) rfl)) (G.1 _ (List.mem_of_getElem? (i := 213) rfl)) (G.1 _ (List.mem_of_getElem? (i := 217) rfl)) (by decide) (rm_cpRangeB G O t vs n A (by omega) hnc) rfl (lenOf pd_36 rfl) rfl (by decide) (own_leb rfl) (by decide) rfl rfl (by decide) (by decide) d44_13 rfl ?_
    rintro _ h89 ⟨Kh89, u, rfl, hg, V⟩
    show AtW p l e _ s m _ below meth c n0 _ h89 1 16 (mkF m 16 #[.val (.ref t), .val (.int (0 : Int32)), .val (.int (Int32.ofNat n))] [(.ref u)])
    exact w_retA C rfl rfl rfl d44_16 (by decide) (by decide) ⟨Kh89, u, rfl, hg, V⟩
theorem d40_0 : decode jdk_42_method_150_code 0 = .ok (.aload_n 0, 1) := by decide +kernel
theorem d40_1 : decode jdk_42_method_150_code 1 = .ok (.invokespecial 1, 3) := by decide +kernel
theorem d40_4 : decode jdk_42_method_150_code 4 = .ok (.aload_n 1, 1) := by decide +kernel
theorem d40_5 : decode jdk_42_method_150_code 5 = .ok (.invokevirtual 552, 3) := by decide +kernel
theorem d40_8 : decode jdk_42_method_150_code 8 = .ok (.astore_n 3, 1) := by decide +kernel
theorem d40_9 : decode jdk_42_method_150_code 9 = .ok (.aload_n 1, 1) := by decide +kernel
theorem d40_10 : decode jdk_42_method_150_code 10 = .ok (.invokevirtual 549, 3) := by decide +kernel
theorem d40_13 : decode jdk_42_method_150_code 13 = .ok (.istore 4, 2) := by decide +kernel
theorem d40_15 : decode jdk_42_method_150_code 15 = .ok (.aload_n 1, 1) := by decide +kernel
theorem d40_16 : decode jdk_42_method_150_code 16 = .ok (.invokevirtual 1047, 3) := by decide +kernel
theorem d40_19 : decode jdk_42_method_150_code 19 = .ok (.ifCond .eq 22, 3) := by decide +kernel
theorem d40_22 : decode jdk_42_method_150_code 22 = .ok (.aload_n 0, 1) := by decide +kernel
theorem d40_23 : decode jdk_42_method_150_code 23 = .ok (.iconst 0, 1) := by decide +kernel
theorem d40_24 : decode jdk_42_method_150_code 24 = .ok (.putfield 15, 3) := by decide +kernel
theorem d40_27 : decode jdk_42_method_150_code 27 = .ok (.aload_n 0, 1) := by decide +kernel
theorem d40_28 : decode jdk_42_method_150_code 28 = .ok (.aload_n 3, 1) := by decide +kernel
theorem d40_29 : decode jdk_42_method_150_code 29 = .ok (.iconst 0, 1) := by decide +kernel
theorem d40_30 : decode jdk_42_method_150_code 30 = .ok (.iload 4, 2) := by decide +kernel
theorem d40_32 : decode jdk_42_method_150_code 32 = .ok (.invokestatic 54, 3) := by decide +kernel
theorem d40_35 : decode jdk_42_method_150_code 35 = .ok (.putfield 9, 3) := by decide +kernel
theorem d40_38 : decode jdk_42_method_150_code 38 = .ok (.goto 59, 3) := by decide +kernel
theorem d40_41 : decode jdk_42_method_150_code 41 = .ok (.getstatic 38, 3) := by decide +kernel
theorem d40_44 : decode jdk_42_method_150_code 44 = .ok (.ifCond .eq 35, 3) := by decide +kernel
theorem d40_47 : decode jdk_42_method_150_code 47 = .ok (.aload_n 1, 1) := by decide +kernel
theorem d40_48 : decode jdk_42_method_150_code 48 = .ok (.getfield 1048, 3) := by decide +kernel
theorem d40_51 : decode jdk_42_method_150_code 51 = .ok (.ifCond .eq 28, 3) := by decide +kernel
theorem d40_54 : decode jdk_42_method_150_code 54 = .ok (.aload_n 0, 1) := by decide +kernel
theorem d40_55 : decode jdk_42_method_150_code 55 = .ok (.aload_n 3, 1) := by decide +kernel
theorem d40_56 : decode jdk_42_method_150_code 56 = .ok (.iconst 0, 1) := by decide +kernel
theorem d40_57 : decode jdk_42_method_150_code 57 = .ok (.iload 4, 2) := by decide +kernel
theorem d40_59 : decode jdk_42_method_150_code 59 = .ok (.invokestatic 1051, 3) := by decide +kernel
theorem d40_62 : decode jdk_42_method_150_code 62 = .ok (.putfield 9, 3) := by decide +kernel
theorem d40_65 : decode jdk_42_method_150_code 65 = .ok (.aload_n 0, 1) := by decide +kernel
theorem d40_66 : decode jdk_42_method_150_code 66 = .ok (.aload_n 0, 1) := by decide +kernel
theorem d40_67 : decode jdk_42_method_150_code 67 = .ok (.getfield 9, 3) := by decide +kernel
theorem d40_70 : decode jdk_42_method_150_code 70 = .ok (.iload 4, 2) := by decide +kernel
theorem d40_72 : decode jdk_42_method_150_code 72 = .ok (.invokestatic 47, 3) := by decide +kernel
theorem d40_75 : decode jdk_42_method_150_code 75 = .ok (.putfield 15, 3) := by decide +kernel
theorem d40_78 : decode jdk_42_method_150_code 78 = .ok (.return_, 1) := by decide +kernel
theorem d40_79 : decode jdk_42_method_150_code 79 = .ok (.aload_n 0, 1) := by decide +kernel
theorem d40_80 : decode jdk_42_method_150_code 80 = .ok (.iconst 1, 1) := by decide +kernel
theorem d40_81 : decode jdk_42_method_150_code 81 = .ok (.putfield 15, 3) := by decide +kernel
theorem d40_84 : decode jdk_42_method_150_code 84 = .ok (.aload_n 0, 1) := by decide +kernel
theorem d40_85 : decode jdk_42_method_150_code 85 = .ok (.aload_n 3, 1) := by decide +kernel
theorem d40_86 : decode jdk_42_method_150_code 86 = .ok (.iconst 0, 1) := by decide +kernel
theorem d40_87 : decode jdk_42_method_150_code 87 = .ok (.iload 4, 2) := by decide +kernel
theorem d40_89 : decode jdk_42_method_150_code 89 = .ok (.iconst 1, 1) := by decide +kernel
theorem d40_90 : decode jdk_42_method_150_code 90 = .ok (.ishl, 1) := by decide +kernel
theorem d40_91 : decode jdk_42_method_150_code 91 = .ok (.invokestatic 54, 3) := by decide +kernel
theorem d40_94 : decode jdk_42_method_150_code 94 = .ok (.putfield 9, 3) := by decide +kernel
theorem d40_97 : decode jdk_42_method_150_code 97 = .ok (.return_, 1) := by decide +kernel
theorem pf40 : plainFor (⟨"java/lang/String", "<init>", "(Ljava/lang/AbstractStringBuilder;Ljava/lang/Void;)V"⟩ : MethodName) = true := by first | exact plainFor_of_name (by first | (simp [plainName, overriddenIn]; done) | decide +kernel) | decide +kernel
theorem ef_strinitASB (m : MethodId) (z0 : Addr) (z1 : Addr) : entryFrame m #[(.ref z0), (.ref z1), .null] 5 = mkF m 0 #[.val (.ref z0), .val (.ref z1), .val .null, .unset, .unset] [] := by first | rfl | (simp [entryFrame, mkF, argsToLocals, Value.category, *]; done) | rfl
set_option maxRecDepth 65536 in
set_option maxHeartbeats 40000000 in
theorem rm_strinitASB {l : Launch} {Z : State} {a0 : Array Value} {n0 : Nat} (G : Gl Z a0 n0) {h0 : Heap} (O : Old Z n0 h0) (a : Addr) (b : Addr) (t : Addr) (cs : List Int32) (cap : Nat) (E : Exa Z h0 a "java/lang/String") (FV : Fld Z h0 a "java/lang/String" "value" "[B" .null) (FC : Fld Z h0 a "java/lang/String" "coder" "B" (.int (0 : Int32))) (hge : n0 ≤ a) (B : Sb Z h0 b t cs cap) (htc : cs.length ≤ 16) :
    Ct [] l Z n0 (⟨"java/lang/String", "<init>", "(Ljava/lang/AbstractStringBuilder;Ljava/lang/Void;)V"⟩ : MethodName) jdk_42_method_150_code 5 none ({ frames := 3, cells := 1, slots := 16, locals := 49 } : Room) #[(.ref a), (.ref b), .null] h0 (fun v h => Keep h0 h [a] ∧ v = none ∧ Str Z h a cs) := by
  refine Ct.intro pf40 ?_
  intro p e s m below meth c C
  refine AtW.cast ?_ (ef_strinitASB m a b)
  obtain ⟨E', hr, hlc, FC', FN', FV', E2, A⟩ := id B
  have hcl := B.capl
  have hAlt := E.lt
  refine w_aloadN (q := 1) C rfl rfl d40_0 rfl ?_
  refine w_initO (q := 4) (W := 0) C (G.1 _ (List.mem_of_getElem? (i := 15) rfl)) (G.1 _ (List.mem_of_getElem? (i := 16) rfl)) (G.1 _ (List.mem_of_getElem? (i := 17) rfl)) rfl (by decide) (own_leb rfl) (by decide) d40_1 rfl ?_
  refine w_aloadN (q := 5) C rfl rfl d40_4 rfl ?_
  refine w_callV (q := 8) (argsL := []) (S := []) (W := 0) (cells' := 0) (slots' := 0) (a := b) C E' (G.1 _ (List.mem_of_getElem? (i := 197) rfl)) (G.1 _ (List.mem_of_getElem? (i := 198) rfl)) (w_nf C (G.1 _ (List.mem_of_getElem? (i := 200) rfl))) (G.1 _ (List.mem_of_getElem? (i := 200) rfl)) (G.1 _ (List.mem_of_getElem? (i := 199) rfl)) (G.1 _ (List.mem_of_getElem? (i := 124) rfl)) (G.1 _ (List.mem_of_getElem? (i := 201) rfl)) (by decide) (rm_asbValue G O b t cs cap B) rfl (lenOf pd_35 rfl) rfl (by decide) (own_leb rfl) (by decide) rfl rfl (by decide) (by decide) d40_5 rfl ?_
  rintro _ h90 ⟨eh91, rfl⟩
  rw [eh91]
  show AtW p l e _ s m _ below meth c n0 _ h0 0 0 (mkF m 8 #[.val (.ref a), .val (.ref b), .val .null, .unset, .unset] [(.ref t)])
  refine w_astoreN (q := 9) (L' := #[.val (.ref a), .val (.ref b), .val .null, .val (.ref t), .unset]) C rfl rfl d40_8 rfl ?_
  refine w_aloadN (q := 10) C rfl rfl d40_9 rfl ?_
  refine w_callV (q := 13) (argsL := []) (S := []) (W := 0) (cells' := 0) (slots' := 0) (a := b) C E' (G.1 _ (List.mem_of_getElem? (i := 202) rfl)) (G.1 _ (List.mem_of_getElem? (i := 203) rfl)) (NI.nf (NI.of_sel (args := #[]) (z := ({ cls := "java/lang/AbstractStringBuilder", name := "ensureCapacityInternal", desc := "(I)V" } : Jvm.MethodName)) (mvT C.2.2.2.1 (G.1 _ (List.mem_of_getElem? (i := 148) rfl))))) (G.1 _ (List.mem_of_getElem? (i := 205) rfl)) (G.1 _ (List.mem_of_getElem? (i := 206) rfl)) (G.1 _ (List.mem_of_getElem? (i := 116) rfl)) (G.1 _ (List.mem_of_getElem? (i := 207) rfl)) (by decide) (rm_sbLen G O b t cs cap B) rfl (lenOf pd_19 rfl) rfl (by decide) (own_leb rfl) (by decide) rfl rfl (by decide) (by decide) d40_10 rfl ?_
  rintro _ h92 ⟨eh93, rfl⟩
  rw [eh93]
  show AtW p l e _ s m _ below meth c n0 _ h0 0 0 (mkF m 13 #[.val (.ref a), .val (.ref b), .val .null, .val (.ref t), .unset] [(.int (Int32.ofNat cs.length))])
  refine w_istore (q := 15) (L' := #[.val (.ref a), .val (.ref b), .val .null, .val (.ref t), .val (.int (Int32.ofNat cs.length))]) C rfl d40_13 rfl ?_
  refine w_aloadN (q := 16) C rfl rfl d40_15 rfl ?_
  refine w_callV (q := 19) (argsL := []) (S := []) (W := 0) (cells' := 0) (slots' := 0) (a := b) C E' (G.1 _ (List.mem_of_getElem? (i := 210) rfl)) (G.1 _ (List.mem_of_getElem? (i := 180) rfl)) (w_nf C (G.1 _ (List.mem_of_getElem? (i := 182) rfl))) (G.1 _ (List.mem_of_getElem? (i := 182) rfl)) (G.1 _ (List.mem_of_getElem? (i := 181) rfl)) (G.1 _ (List.mem_of_getElem? (i := 124) rfl)) (G.1 _ (List.mem_of_getElem? (i := 183) rfl)) (by decide) (rm_asbLatin1 G O b t cs cap B) rfl (lenOf pd_18 rfl) rfl (by decide) (own_leb rfl) (by decide) rfl rfl (by decide) (by decide) d40_16 rfl ?_
  rintro _ h94 ⟨eh95, rfl⟩
  rw [eh95]
  show AtW p l e _ s m _ below meth c n0 _ h0 0 0 (mkF m 19 #[.val (.ref a), .val (.ref b), .val .null, .val (.ref t), .val (.int (Int32.ofNat cs.length))] [(.int (1 : Int32))])
  refine w_if_eq_f (q := 22) C d40_19 rfl (by decide) ?_
  refine w_aloadN (q := 23) C rfl rfl d40_22 rfl ?_
  refine w_iconst (q := 24) (v := (0 : Int32)) C (by rfl) d40_23 rfl ?_
  have hta : t ≠ a := Ne.symm (ne_exa E E2 (by decide))
  refine w_putF (q := 27) (host := "") (v' := (.int (0 : Int32))) C (G.1 _ (List.mem_of_getElem? (i := 30) rfl)) Via.refl FC E (Or.inr ⟨(G.1 _ (List.mem_of_getElem? (i := 31) rfl)), rfl, rfl⟩) (G.1 _ (List.mem_of_getElem? (i := 5) rfl)) (ty := .byte) (by decide) rfl rfl hge d40_24 rfl ?_
  intro h96 Wh96
  have K2 : Keep h0 h96 [a] := (Keep.refl h0 [a]).wr Wh96 (Or.inl (List.mem_cons_self ..))
  replace FC := FC.same Wh96
  replace FV := FV.other Wh96 (Or.inr (slot_ne (Or.inr (G.1 _ (List.mem_of_getElem? (i := 33) rfl))) (Or.inr (G.1 _ (List.mem_of_getElem? (i := 31) rfl))) (by decide) (t := .array .byte) (t' := .byte) (by decide) (by decide)))
  replace E := E.wr Wh96
  replace A := A.other Wh96 hta
  replace E2 := E2.wr Wh96
  replace O := O.wr Wh96 hge
  refine w_aloadN (q := 28) C rfl rfl d40_27 rfl ?_
  refine w_aloadN (q := 29) C rfl rfl d40_28 rfl ?_
  refine w_iconst (q := 30) (v := (0 : Int32)) C (by rfl) d40_29 rfl ?_
  refine w_iload (q := 32) C rfl d40_30 rfl ?_
  refine w_callS (q := 35) (argsL := [(.ref t), (.int (0 : Int32)), (.int (Int32.ofNat cs.length))]) (S := [(.ref a)]) (W := 1) (cells' := 1) (slots' := 16) C (G.1 _ (List.mem_of_getElem? (i := 211) rfl)) (G.1 _ (List.mem_of_getElem? (i := 212) rfl)) (G.1 _ (List.mem_of_getElem? (i := 213) rfl)) (G.1 _ (List.mem_of_getElem? (i := 214) rfl)) (by decide) (rm_cpRange G O t _ cs.length A E2 (by simp only [List.length_append, own_bs_len, List.length_replicate]; omega) htc) rfl (lenOf pd_36 rfl) rfl (by decide) (own_leb rfl) (by decide) rfl rfl (by decide) (by decide) d40_32 rfl ?_
  rintro _ h97 ⟨Kh97, u, rfl, hgu, V⟩
  show AtW p l e _ s m _ below meth c n0 _ h97 1 16 (mkF m 35 #[.val (.ref a), .val (.ref b), .val .null, .val (.ref t), .val (.int (Int32.ofNat cs.length))] [(.ref u), (.ref a)])
  rw [List.take_left' (own_bs_len cs)] at V
  replace E := Exa_k0 E Kh97
  replace FC := Fld_k0 FC Kh97
  replace FV := Fld_k0 FV Kh97
  have hua : u ≠ a := Ne.symm (Nat.ne_of_lt (Nat.lt_of_lt_of_le hAlt (Nat.le_trans K2.1 hgu)))
  refine w_putF (q := 38) (host := "") (v' := (.ref u)) C (G.1 _ (List.mem_of_getElem? (i := 32) rfl)) Via.refl FV E (Or.inr ⟨(G.1 _ (List.mem_of_getElem? (i := 33) rfl)), rfl, rfl⟩) (G.1 _ (List.mem_of_getElem? (i := 5) rfl)) (ty := (.array .byte)) (by decide) rfl rfl hge d40_35 rfl ?_
  intro h98 Wh98
  replace FV := FV.same Wh98
  replace FC := FC.other Wh98 (Or.inr (slot_ne (Or.inr (G.1 _ (List.mem_of_getElem? (i := 31) rfl))) (Or.inr (G.1 _ (List.mem_of_getElem? (i := 33) rfl))) (by decide) (t := .byte) (t' := .array .byte) (by decide) (by decide)))
  replace E := E.wr Wh98
  replace V := V.other Wh98 hua
  refine w_goto (q := 97) C d40_38 (by decide) (by decide) ?_
  exact w_retV C rfl d40_97 (by decide) (by decide) ⟨(own_K0 K2 Kh97).wr Wh98 (Or.inl (List.mem_cons_self ..)), rfl, E, hr, u, FC, FV, V⟩
theorem d39_0 : decode jdk_42_method_53_code 0 = .ok (.aload_n 0, 1) := by decide +kernel
theorem d39_1 : decode jdk_42_method_53_code 1 = .ok (.aload_n 1, 1) := by decide +kernel
theorem d39_2 : decode jdk_42_method_53_code 2 = .ok (.aconst_null, 1) := by decide +kernel
theorem d39_3 : decode jdk_42_method_53_code 3 = .ok (.invokespecial 489, 3) := by decide +kernel
theorem d39_6 : decode jdk_42_method_53_code 6 = .ok (.return_, 1) := by decide +kernel
theorem pf39 : plainFor (⟨"java/lang/String", "<init>", "(Ljava/lang/StringBuilder;)V"⟩ : MethodName) = true := by first | exact plainFor_of_name (by first | (simp [plainName, overriddenIn]; done) | decide +kernel) | decide +kernel
theorem ef_strinitSB (m : MethodId) (z0 : Addr) (z1 : Addr) : entryFrame m #[(.ref z0), (.ref z1)] 2 = mkF m 0 #[.val (.ref z0), .val (.ref z1)] [] := by first | rfl | (simp [entryFrame, mkF, argsToLocals, Value.category, *]; done) | rfl
set_option maxRecDepth 65536 in
set_option maxHeartbeats 40000000 in
theorem rm_strinitSB {l : Launch} {Z : State} {a0 : Array Value} {n0 : Nat} (G : Gl Z a0 n0) {h0 : Heap} (O : Old Z n0 h0) (a : Addr) (b : Addr) (t : Addr) (cs : List Int32) (cap : Nat) (E : Exa Z h0 a "java/lang/String") (FV : Fld Z h0 a "java/lang/String" "value" "[B" .null) (FC : Fld Z h0 a "java/lang/String" "coder" "B" (.int (0 : Int32))) (hge : n0 ≤ a) (B : Sb Z h0 b t cs cap) (htc : cs.length ≤ 16) :
    Ct [] l Z n0 (⟨"java/lang/String", "<init>", "(Ljava/lang/StringBuilder;)V"⟩ : MethodName) jdk_42_method_53_code 2 none ({ frames := 4, cells := 1, slots := 16, locals := 65 } : Room) #[(.ref a), (.ref b)] h0 (fun v h => Keep h0 h [a] ∧ v = none ∧ Str Z h a cs) := by
  refine Ct.intro pf39 ?_
  intro p e s m below meth c C
  refine AtW.cast ?_ (ef_strinitSB m a b)
  refine w_aloadN (q := 1) C rfl rfl d39_0 rfl ?_
  refine w_aloadN (q := 2) C rfl rfl d39_1 rfl ?_
  refine w_aconst_null (q := 3) C d39_2 rfl ?_
  refine w_callI (q := 6) (argsL := [(.ref b), .null]) (S := []) (W := 0) (cells' := 1) (slots' := 16) (a := a) C rfl (G.1 _ (List.mem_of_getElem? (i := 194) rfl)) (G.1 _ (List.mem_of_getElem? (i := 195) rfl)) (G.1 _ (List.mem_of_getElem? (i := 6) rfl)) (G.1 _ (List.mem_of_getElem? (i := 196) rfl)) (by decide) (rm_strinitASB G O a b t cs cap E FV FC hge B htc) rfl (lenOf pd_34 rfl) rfl (by decide) (own_leb rfl) (by decide) rfl rfl (by decide) (by decide) d39_3 rfl ?_
  rintro _ h99 ⟨Kh99, rfl, S⟩
  show AtW p l e _ s m _ below meth c n0 _ h99 1 16 (mkF m 6 #[.val (.ref a), .val (.ref b)] [])
  exact w_retV C rfl d39_6 (by decide) (by decide) ⟨Kh99, rfl, S⟩
theorem d38_0 : decode jdk_67_method_42_code 0 = .ok (.new 18, 3) := by decide +kernel
theorem d38_3 : decode jdk_67_method_42_code 3 = .ok (.dup, 1) := by decide +kernel
theorem d38_4 : decode jdk_67_method_42_code 4 = .ok (.aload_n 0, 1) := by decide +kernel
theorem d38_5 : decode jdk_67_method_42_code 5 = .ok (.invokespecial 137, 3) := by decide +kernel
theorem d38_8 : decode jdk_67_method_42_code 8 = .ok (.areturn, 1) := by decide +kernel
theorem pf38 : plainFor (⟨"java/lang/StringBuilder", "toString", "()Ljava/lang/String;"⟩ : MethodName) = true := by first | exact plainFor_of_name (by first | (simp [plainName, overriddenIn]; done) | decide +kernel) | decide +kernel
theorem ef_sbStr (m : MethodId) (z0 : Addr) : entryFrame m #[(.ref z0)] 1 = mkF m 0 #[.val (.ref z0)] [] := by first | rfl | (simp [entryFrame, mkF, argsToLocals, Value.category, *]; done) | rfl
set_option maxRecDepth 65536 in
set_option maxHeartbeats 40000000 in
theorem rm_sbStr {l : Launch} {Z : State} {a0 : Array Value} {n0 : Nat} (G : Gl Z a0 n0) {h0 : Heap} (O : Old Z n0 h0) (b : Addr) (t : Addr) (cs : List Int32) (cap : Nat) (B : Sb Z h0 b t cs cap) (htc : cs.length ≤ 16) :
    Ct [] l Z n0 (⟨"java/lang/StringBuilder", "toString", "()Ljava/lang/String;"⟩ : MethodName) jdk_67_method_42_code 1 (some (.object "java/lang/String")) ({ frames := 5, cells := 2, slots := 20, locals := 79 } : Room) #[(.ref b)] h0 (fun v h => Keep h0 h [] ∧ ∃ a, v = some (.ref a) ∧ h0.size ≤ a ∧ Str Z h a cs) := by
  refine Ct.intro pf38 ?_
  intro p e s m below meth c C
  refine AtW.cast ?_ (ef_sbStr m b)
  refine w_new (q := 3) (cells' := 1) (slots' := 4) C (G.1 _ (List.mem_of_getElem? (i := 190) rfl)) (G.1 _ (List.mem_of_getElem? (i := 5) rfl)) (G.1 _ (List.mem_of_getElem? (i := 6) rfl)) rfl rfl (by decide) (by decide) d38_0 rfl ?_
  intro h100 a g_a Eh100 A_a D_a
  have F_coder_a : Fld Z h100 a "java/lang/String" "coder" "B" (.int (0 : Int32)) := D_a (Or.inr (G.1 _ (List.mem_of_getElem? (i := 31) rfl))) (ty := .byte) (by decide)
  have F_value_a : Fld Z h100 a "java/lang/String" "value" "[B" .null := D_a (Or.inr (G.1 _ (List.mem_of_getElem? (i := 33) rfl))) (ty := (.array .byte)) (by decide)
  have hge : n0 ≤ a := by rw [g_a]; exact Old_le O
  have hg0 : h0.size ≤ a := Nat.le_of_eq g_a.symm
  have K1 : Keep h0 h100 [] := Keep.of_ext Eh100
  replace O := Old_k0 O K1
  refine w_dup (q := 4) C rfl d38_3 rfl ?_
  refine w_aloadN (q := 5) C rfl rfl d38_4 rfl ?_
  refine w_callI (q := 8) (argsL := [(.ref b)]) (S := [(.ref a)]) (W := 1) (cells' := 2) (slots' := 20) (a := a) C rfl (G.1 _ (List.mem_of_getElem? (i := 191) rfl)) (G.1 _ (List.mem_of_getElem? (i := 192) rfl)) (G.1 _ (List.mem_of_getElem? (i := 6) rfl)) (G.1 _ (List.mem_of_getElem? (i := 193) rfl)) (by decide) (rm_strinitSB G O a b t cs cap A_a F_value_a F_coder_a hge (Sb_k0 B K1) htc) rfl (lenOf pd_33 rfl) rfl (by decide) (own_leb rfl) (by decide) rfl rfl (by decide) (by decide) d38_5 rfl ?_
  rintro _ h101 ⟨Kh101, rfl, S⟩
  show AtW p l e _ s m _ below meth c n0 _ h101 2 20 (mkF m 8 #[.val (.ref b)] [(.ref a)])
  exact w_retA C rfl rfl rfl d38_8 (by decide) (by decide) ⟨own_K1 K1 Kh101 hg0, a, rfl, hg0, S⟩
theorem d15_0 : decode jdk_31_method_11_code 0 = .ok (.aload_n 0, 1) := by decide +kernel
theorem d15_1 : decode jdk_31_method_11_code 1 = .ok (.ifnonnull 12, 3) := by decide +kernel
theorem d15_4 : decode jdk_31_method_11_code 4 = .ok (.new 84, 3) := by decide +kernel
theorem d15_7 : decode jdk_31_method_11_code 7 = .ok (.dup, 1) := by decide +kernel
theorem d15_8 : decode jdk_31_method_11_code 8 = .ok (.aload_n 1, 1) := by decide +kernel
theorem d15_9 : decode jdk_31_method_11_code 9 = .ok (.invokespecial 87, 3) := by decide +kernel
theorem d15_12 : decode jdk_31_method_11_code 12 = .ok (.athrow, 1) := by decide +kernel
theorem d15_13 : decode jdk_31_method_11_code 13 = .ok (.aload_n 0, 1) := by decide +kernel
theorem d15_14 : decode jdk_31_method_11_code 14 = .ok (.areturn, 1) := by decide +kernel
theorem pf15 : plainFor (⟨"java/util/Objects", "requireNonNull", "(Ljava/lang/Object;Ljava/lang/String;)Ljava/lang/Object;"⟩ : MethodName) = true := by first | exact plainFor_of_name (by first | (simp [plainName, overriddenIn]; done) | decide +kernel) | decide +kernel
theorem ef_reqNN2 (m : MethodId) (z0 : Addr) (z1 : Addr) : entryFrame m #[(.ref z0), (.ref z1)] 2 = mkF m 0 #[.val (.ref z0), .val (.ref z1)] [] := by first | rfl | (simp [entryFrame, mkF, argsToLocals, Value.category, *]; done) | rfl
set_option maxRecDepth 65536 in
set_option maxHeartbeats 40000000 in
theorem rm_reqNN2 {l : Launch} {Z : State} {a0 : Array Value} {n0 : Nat} (G : Gl Z a0 n0) {h0 : Heap} (O : Old Z n0 h0) (a : Addr) (b : Addr) :
    Ct [] l Z n0 (⟨"java/util/Objects", "requireNonNull", "(Ljava/lang/Object;Ljava/lang/String;)Ljava/lang/Object;"⟩ : MethodName) jdk_31_method_11_code 2 (some (.object "java/lang/Object")) ({ frames := 0, cells := 0, slots := 0, locals := 0 } : Room) #[(.ref a), (.ref b)] h0 (fun v h => h = h0 ∧ v = some (.ref a)) := by
  refine Ct.intro pf15 ?_
  intro p e s m below meth c C
  refine AtW.cast ?_ (ef_reqNN2 m a b)
  refine w_aloadN (q := 1) C rfl rfl d15_0 rfl ?_
  refine w_ifnonnull_t (q := 13) C d15_1 (by decide) (by decide) ?_
  refine w_aloadN (q := 14) C rfl rfl d15_13 rfl ?_
  exact w_retA C rfl rfl rfl d15_14 (by decide) (by decide) ⟨rfl, rfl⟩
theorem d14_0 : decode prog_2_method_4_code 0 = .ok (.aload_n 0, 1) := by decide +kernel
theorem d14_1 : decode prog_2_method_4_code 1 = .ok (.ldc 73, 2) := by decide +kernel
theorem d14_3 : decode prog_2_method_4_code 3 = .ok (.invokestatic 40, 3) := by decide +kernel
theorem d14_6 : decode prog_2_method_4_code 6 = .ok (.pop, 1) := by decide +kernel
theorem d14_7 : decode prog_2_method_4_code 7 = .ok (.aload_n 0, 1) := by decide +kernel
theorem d14_8 : decode prog_2_method_4_code 8 = .ok (.bipush 123, 2) := by decide +kernel
theorem d14_10 : decode prog_2_method_4_code 10 = .ok (.invokevirtual 59, 3) := by decide +kernel
theorem d14_13 : decode prog_2_method_4_code 13 = .ok (.ifCond .ge 12, 3) := by decide +kernel
theorem d14_16 : decode prog_2_method_4_code 16 = .ok (.aload_n 0, 1) := by decide +kernel
theorem d14_17 : decode prog_2_method_4_code 17 = .ok (.bipush 125, 2) := by decide +kernel
theorem d14_19 : decode prog_2_method_4_code 19 = .ok (.invokevirtual 59, 3) := by decide +kernel
theorem d14_22 : decode prog_2_method_4_code 22 = .ok (.ifCond .lt 30, 3) := by decide +kernel
theorem d14_25 : decode prog_2_method_4_code 25 = .ok (.new 52, 3) := by decide +kernel
theorem d14_28 : decode prog_2_method_4_code 28 = .ok (.dup, 1) := by decide +kernel
theorem d14_29 : decode prog_2_method_4_code 29 = .ok (.new 13, 3) := by decide +kernel
theorem d14_32 : decode prog_2_method_4_code 32 = .ok (.dup, 1) := by decide +kernel
theorem d14_33 : decode prog_2_method_4_code 33 = .ok (.invokespecial 15, 3) := by decide +kernel
theorem d14_36 : decode prog_2_method_4_code 36 = .ok (.ldc 75, 2) := by decide +kernel
theorem d14_38 : decode prog_2_method_4_code 38 = .ok (.invokevirtual 16, 3) := by decide +kernel
theorem d14_41 : decode prog_2_method_4_code 41 = .ok (.aload_n 0, 1) := by decide +kernel
theorem d14_42 : decode prog_2_method_4_code 42 = .ok (.invokevirtual 16, 3) := by decide +kernel
theorem d14_45 : decode prog_2_method_4_code 45 = .ok (.invokevirtual 22, 3) := by decide +kernel
theorem d14_48 : decode prog_2_method_4_code 48 = .ok (.invokespecial 56, 3) := by decide +kernel
theorem d14_51 : decode prog_2_method_4_code 51 = .ok (.athrow, 1) := by decide +kernel
theorem d14_52 : decode prog_2_method_4_code 52 = .ok (.aload_n 0, 1) := by decide +kernel
theorem d14_53 : decode prog_2_method_4_code 53 = .ok (.areturn, 1) := by decide +kernel
theorem pf14 : plainFor (⟨"com/example/lease/lease/LockKeys", "checkedPrefix", "(Ljava/lang/String;)Ljava/lang/String;"⟩ : MethodName) = true := by first | exact plainFor_of_name (by first | (simp [plainName, overriddenIn]; done) | decide +kernel) | decide +kernel
theorem ef_checked (m : MethodId) (z0 : Addr) : entryFrame m #[(.ref z0)] 1 = mkF m 0 #[.val (.ref z0)] [] := by first | rfl | (simp [entryFrame, mkF, argsToLocals, Value.category, *]; done) | rfl
set_option maxRecDepth 65536 in
set_option maxHeartbeats 40000000 in
theorem rm_checked {l : Launch} {Z : State} {a0 : Array Value} {n0 : Nat} (G : Gl Z a0 n0) {h0 : Heap} (O : Old Z n0 h0) (a : Addr) (cs : List Int32) (S : Str Z h0 a cs) (n1 : (123 : Int32) ∉ cs) (n2 : (125 : Int32) ∉ cs) :
    Cs [] l Z consts_1 n0 (⟨"com/example/lease/lease/LockKeys", "checkedPrefix", "(Ljava/lang/String;)Ljava/lang/String;"⟩ : MethodName) prog_2_method_4_code 1 (some (.object "java/lang/String")) ({ frames := 4, cells := 2, slots := 40, locals := 59 } : Room) #[(.ref a)] h0 (fun v h => Keep h0 h [] ∧ v = some (.ref a)) := by
  refine Cs.intro pf14 ?_
  intro p e s m below meth c C
  refine AtS.cast ?_ (ef_checked m a)
  have hl := S.len
  refine s_aloadN (q := 1) C rfl rfl d14_0 rfl ?_
  refine s_ldc (q := 3) (n := 36) (cells' := 2) (slots' := 40) (vs := [(.int (107 : Int32)), (.int (101 : Int32)), (.int (121 : Int32)), (.int (80 : Int32)), (.int (114 : Int32)), (.int (101 : Int32)), (.int (102 : Int32)), (.int (105 : Int32)), (.int (120 : Int32))]) C G.el G.sa (G.1 _ (List.mem_of_getElem? (i := 58) rfl)) (by decide) (by decide +kernel) (by decide) (by decide +kernel) (by decide) rfl rfl (by decide) (by decide) d14_1 rfl ?_
  intro h102 s103 t104 Eh102 e1_s103 e2_s103 e3_s103 e4_s103 hne_s103
  have S_s103 : Str Z h102 s103 [(107 : Int32), (101 : Int32), (121 : Int32), (80 : Int32), (114 : Int32), (101 : Int32), (102 : Int32), (105 : Int32), (120 : Int32)] := ⟨e1_s103, (own_L1c (by decide) (own_L1c (by decide) (own_L1c (by decide) (own_L1c (by decide) (own_L1c (by decide) (own_L1c (by decide) (own_L1c (by decide) (own_L1c (by decide) (own_L1c (by decide) (fun c hc => absurd hc List.not_mem_nil)))))))))), t104, e2_s103, e3_s103, e4_s103⟩
  have K1 : Keep h0 h102 [] := Keep.of_ext Eh102
  replace S := Str_k0 S K1
  replace O := Old_k0 O K1
  refine s_callS1 (q := 6) (argsL := [(.ref a), (.ref s103)]) (S := []) (W := 0) (cells' := 2) (slots' := 40) C (G.1 _ (List.mem_of_getElem? (i := 61) rfl)) (G.1 _ (List.mem_of_getElem? (i := 62) rfl)) (G.1 _ (List.mem_of_getElem? (i := 63) rfl)) (G.1 _ (List.mem_of_getElem? (i := 64) rfl)) (by decide) (rm_reqNN2 G O a s103) rfl (lenOf pd_15 rfl) rfl (by decide) (own_leb rfl) (by decide) rfl rfl (by decide) (by decide) (wl := []) (fun _ _ q => by rw [q.1]; exact Keep.refl _ _) all0 d14_3 rfl ?_
  rintro _ h105 ⟨eh106, rfl⟩
  rw [eh106]
  show AtS p l e _ s m _ below meth c Z _ _ n0 _ _ _ h102 2 40 (mkF m 6 #[.val (.ref a)] [(.ref a)])
  refine s_pop (q := 7) C rfl d14_6 rfl ?_
  refine s_aloadN (q := 8) C rfl rfl d14_7 rfl ?_
  refine s_bipush (q := 10) (v := (123 : Int32)) C (by rfl) d14_8 rfl ?_
  refine s_callV1 (q := 13) (argsL := [(.int (123 : Int32))]) (S := []) (W := 0) (cells' := 2) (slots' := 40) (a := a) C S.1 (G.1 _ (List.mem_of_getElem? (i := 65) rfl)) (G.1 _ (List.mem_of_getElem? (i := 66) rfl)) (s_nf (G.1 _ (List.mem_of_getElem? (i := 68) rfl))) (G.1 _ (List.mem_of_getElem? (i := 68) rfl)) (G.1 _ (List.mem_of_getElem? (i := 67) rfl)) (G.1 _ (List.mem_of_getElem? (i := 6) rfl)) (G.1 _ (List.mem_of_getElem? (i := 69) rfl)) (by decide) (rm_idx1 G O a cs 123 S (by decide)) rfl (lenOf pd_16 rfl) rfl (by decide) (own_leb rfl) (by decide) rfl rfl (by decide) (by decide) (wl := []) (fun _ _ q => by rw [q.1]; exact Keep.refl _ _) all0 d14_10 rfl ?_
  rintro _ h107 ⟨eh108, rfl⟩
  rw [eh108]
  show AtS p l e _ s m _ below meth c Z _ _ n0 _ _ _ h102 2 40 (mkF m 13 #[.val (.ref a)] [(.int (own_ix 123 cs 0))])
  refine s_if_ge_f (q := 16) C d14_13 rfl ((own_ix_neg 123 cs 0 (by omega)).mpr n1) ?_
  refine s_aloadN (q := 17) C rfl rfl d14_16 rfl ?_
  refine s_bipush (q := 19) (v := (125 : Int32)) C (by rfl) d14_17 rfl ?_
  refine s_callV1 (q := 22) (argsL := [(.int (125 : Int32))]) (S := []) (W := 0) (cells' := 2) (slots' := 40) (a := a) C S.1 (G.1 _ (List.mem_of_getElem? (i := 65) rfl)) (G.1 _ (List.mem_of_getElem? (i := 66) rfl)) (s_nf (G.1 _ (List.mem_of_getElem? (i := 68) rfl))) (G.1 _ (List.mem_of_getElem? (i := 68) rfl)) (G.1 _ (List.mem_of_getElem? (i := 67) rfl)) (G.1 _ (List.mem_of_getElem? (i := 6) rfl)) (G.1 _ (List.mem_of_getElem? (i := 69) rfl)) (by decide) (rm_idx1 G O a cs 125 S (by decide)) rfl (lenOf pd_16 rfl) rfl (by decide) (own_leb rfl) (by decide) rfl rfl (by decide) (by decide) (wl := []) (fun _ _ q => by rw [q.1]; exact Keep.refl _ _) all0 d14_19 rfl ?_
  rintro _ h109 ⟨eh110, rfl⟩
  rw [eh110]
  show AtS p l e _ s m _ below meth c Z _ _ n0 _ _ _ h102 2 40 (mkF m 22 #[.val (.ref a)] [(.int (own_ix 125 cs 0))])
  refine s_if_lt_t (q := 52) C d14_22 (by decide) (by decide) ((own_ix_neg 125 cs 0 (by omega)).mpr n2) ?_
  refine s_aloadN (q := 53) C rfl rfl d14_52 rfl ?_
  exact s_retA C G.el rfl rfl rfl d14_53 (by decide) (by decide) ⟨K1, rfl⟩
theorem Str.wrO {Z : State} {h h' : Heap} {s a : Addr} {cs : List Int32} {C : String} {a0 : Array Value} {n sl : Nat} {v : Value} (F : Str Z h s cs) (E : Exa Z h a C) (hC : C ≠ "java/lang/String") (wi : (Jvm.Cond.instantiable C n).before a0 Z = true) (W : Wr h h' a sl v) : Str Z h' s cs := by
  obtain ⟨e, L, t, f1, f2, A⟩ := F
  have q1 : s ≠ a := ne_exa e E (Ne.symm hC)
  have q2 : t ≠ a := by obtain ⟨l, k, V⟩ := A; exact Ne.symm (E.neArv V wi)
  exact ⟨e.wr W, L, t, f1.other W (Or.inl q1), f2.other W (Or.inl q1), A.other W q2⟩
theorem d47_0 : decode prog_2_method_1_code 0 = .ok (.aload_n 0, 1) := by decide +kernel
theorem d47_1 : decode prog_2_method_1_code 1 = .ok (.invokespecial 1, 3) := by decide +kernel
theorem d47_4 : decode prog_2_method_1_code 4 = .ok (.aload_n 0, 1) := by decide +kernel
theorem d47_5 : decode prog_2_method_1_code 5 = .ok (.aload_n 1, 1) := by decide +kernel
theorem d47_6 : decode prog_2_method_1_code 6 = .ok (.putfield 7, 3) := by decide +kernel
theorem d47_9 : decode prog_2_method_1_code 9 = .ok (.aload_n 0, 1) := by decide +kernel
theorem d47_10 : decode prog_2_method_1_code 10 = .ok (.new 13, 3) := by decide +kernel
theorem d47_13 : decode prog_2_method_1_code 13 = .ok (.dup, 1) := by decide +kernel
theorem d47_14 : decode prog_2_method_1_code 14 = .ok (.invokespecial 15, 3) := by decide +kernel
theorem d47_17 : decode prog_2_method_1_code 17 = .ok (.aload_n 1, 1) := by decide +kernel
theorem d47_18 : decode prog_2_method_1_code 18 = .ok (.invokevirtual 16, 3) := by decide +kernel
theorem d47_21 : decode prog_2_method_1_code 21 = .ok (.ldc 20, 2) := by decide +kernel
theorem d47_23 : decode prog_2_method_1_code 23 = .ok (.invokevirtual 16, 3) := by decide +kernel
theorem d47_26 : decode prog_2_method_1_code 26 = .ok (.invokevirtual 22, 3) := by decide +kernel
theorem d47_29 : decode prog_2_method_1_code 29 = .ok (.putfield 26, 3) := by decide +kernel
theorem d47_32 : decode prog_2_method_1_code 32 = .ok (.aload_n 0, 1) := by decide +kernel
theorem d47_33 : decode prog_2_method_1_code 33 = .ok (.new 13, 3) := by decide +kernel
theorem d47_36 : decode prog_2_method_1_code 36 = .ok (.dup, 1) := by decide +kernel
theorem d47_37 : decode prog_2_method_1_code 37 = .ok (.invokespecial 15, 3) := by decide +kernel
theorem d47_40 : decode prog_2_method_1_code 40 = .ok (.aload_n 1, 1) := by decide +kernel
theorem d47_41 : decode prog_2_method_1_code 41 = .ok (.invokevirtual 16, 3) := by decide +kernel
theorem d47_44 : decode prog_2_method_1_code 44 = .ok (.ldc 29, 2) := by decide +kernel
theorem d47_46 : decode prog_2_method_1_code 46 = .ok (.invokevirtual 16, 3) := by decide +kernel
theorem d47_49 : decode prog_2_method_1_code 49 = .ok (.invokevirtual 22, 3) := by decide +kernel
theorem d47_52 : decode prog_2_method_1_code 52 = .ok (.putfield 31, 3) := by decide +kernel
theorem d47_55 : decode prog_2_method_1_code 55 = .ok (.return_, 1) := by decide +kernel
theorem pf47 : plainFor (⟨"com/example/lease/lease/LockKeys", "<init>", "(Ljava/lang/String;)V"⟩ : MethodName) = true := by first | exact plainFor_of_name (by first | (simp [plainName, overriddenIn]; done) | decide +kernel) | decide +kernel
theorem ef_lkinit (m : MethodId) (z0 : Addr) (z1 : Addr) : entryFrame m #[(.ref z0), (.ref z1)] 2 = mkF m 0 #[.val (.ref z0), .val (.ref z1)] [] := by first | rfl | (simp [entryFrame, mkF, argsToLocals, Value.category, *]; done) | rfl
set_option maxRecDepth 65536 in
set_option maxHeartbeats 40000000 in
theorem rm_lkinit {l : Launch} {Z : State} {a0 : Array Value} {n0 : Nat} (G : Gl Z a0 n0) {h0 : Heap} (O : Old Z n0 h0) (a : Addr) (s9 : Addr) (cs : List Int32) (E : Exa Z h0 a "com/example/lease/lease/LockKeys") (F_holdsKey : Fld Z h0 a "com/example/lease/lease/LockKeys" "holdsKey" "Ljava/lang/String;" .null) (F_fenceKey : Fld Z h0 a "com/example/lease/lease/LockKeys" "fenceKey" "Ljava/lang/String;" .null) (F_releasedChannel : Fld Z h0 a "com/example/lease/lease/LockKeys" "releasedChannel" "Ljava/lang/String;" .null) (hge : n0 ≤ a) (S : Str Z h0 s9 cs) (hlen : cs.length ≤ 7) :
    Cs [] l Z consts_1 n0 (⟨"com/example/lease/lease/LockKeys", "<init>", "(Ljava/lang/String;)V"⟩ : MethodName) prog_2_method_1_code 2 none ({ frames := 6, cells := 12, slots := 148, locals := 92 } : Room) #[(.ref a), (.ref s9)] h0 (fun v h => Keep h0 h [a] ∧ v = none ∧ Exa Z h a "com/example/lease/lease/LockKeys" ∧ Fld Z h a "com/example/lease/lease/LockKeys" "holdsKey" "Ljava/lang/String;" (.ref s9) ∧ Str Z h s9 cs ∧ (∃ r, Fld Z h a "com/example/lease/lease/LockKeys" "fenceKey" "Ljava/lang/String;" (.ref r) ∧ Str Z h r (cs ++ [(58 : Int32), (102 : Int32), (101 : Int32), (110 : Int32), (99 : Int32), (101 : Int32)])) ∧ ∃ r, Fld Z h a "com/example/lease/lease/LockKeys" "releasedChannel" "Ljava/lang/String;" (.ref r) ∧ Str Z h r (cs ++ [(58 : Int32), (114 : Int32), (101 : Int32), (108 : Int32), (101 : Int32), (97 : Int32), (115 : Int32), (101 : Int32), (100 : Int32)])) := by
  refine Cs.intro pf47 ?_
  intro p e s m below meth c C
  refine AtS.cast ?_ (ef_lkinit m a s9)
  have KA : Keep h0 h0 [a] := Keep.refl _ _
  refine s_aloadN (q := 1) C rfl rfl d47_0 rfl ?_
  refine s_initO (q := 4) (W := 0) C (G.1 _ (List.mem_of_getElem? (i := 226) rfl)) (G.1 _ (List.mem_of_getElem? (i := 16) rfl)) (G.1 _ (List.mem_of_getElem? (i := 17) rfl)) rfl (by decide) (own_leb rfl) (by decide) d47_1 rfl ?_
  refine s_aloadN (q := 5) C rfl rfl d47_4 rfl ?_
  refine s_aloadN (q := 6) C rfl rfl d47_5 rfl ?_
  refine s_putF (q := 9) (host := "") (v' := (.ref s9)) C (G.1 _ (List.mem_of_getElem? (i := 227) rfl)) Via.refl F_holdsKey E (Or.inr ⟨(G.1 _ (List.mem_of_getElem? (i := 228) rfl)), rfl, rfl⟩) (G.1 _ (List.mem_of_getElem? (i := 113) rfl)) (ty := (.object "java/lang/String")) (by decide) rfl rfl hge (SfOk.exa E (by decide)) d47_6 rfl ?_
  intro h111 Wh111
  have K112 := KA.wr Wh111 (Or.inl (List.mem_cons_self ..))
  replace F_holdsKey := F_holdsKey.same Wh111
  replace F_fenceKey := F_fenceKey.other Wh111 (Or.inr (slot_ne (Or.inr (G.1 _ (List.mem_of_getElem? (i := 231) rfl))) (Or.inr (G.1 _ (List.mem_of_getElem? (i := 228) rfl))) (by decide) (t := (.object "java/lang/String")) (t' := (.object "java/lang/String")) (by decide) (by decide)))
  replace F_releasedChannel := F_releasedChannel.other Wh111 (Or.inr (slot_ne (Or.inr (G.1 _ (List.mem_of_getElem? (i := 234) rfl))) (Or.inr (G.1 _ (List.mem_of_getElem? (i := 228) rfl))) (by decide) (t := (.object "java/lang/String")) (t' := (.object "java/lang/String")) (by decide) (by decide)))
  replace S := S.wrO E (by decide) (G.1 _ (List.mem_of_getElem? (i := 113) rfl)) Wh111
  replace E := E.wr Wh111
  replace O := O.wr Wh111 hge
  refine s_aloadN (q := 10) C rfl rfl d47_9 rfl ?_
  refine s_new (q := 13) (cells' := 1) (slots' := 4) C (G.1 _ (List.mem_of_getElem? (i := 114) rfl)) (G.1 _ (List.mem_of_getElem? (i := 115) rfl)) (G.1 _ (List.mem_of_getElem? (i := 116) rfl)) rfl rfl (by decide) (by decide) d47_10 rfl ?_
  intro h113 o114 g_o114 Eh113 A_o114 D_o114
  have F_value_o114 : Fld Z h113 o114 "java/lang/AbstractStringBuilder" "value" "[B" .null := D_o114 (Or.inl (G.1 _ (List.mem_of_getElem? (i := 129) rfl))) (ty := (.array .byte)) (by decide)
  have F_coder_o114 : Fld Z h113 o114 "java/lang/AbstractStringBuilder" "coder" "B" (.int (0 : Int32)) := D_o114 (Or.inl (G.1 _ (List.mem_of_getElem? (i := 131) rfl))) (ty := .byte) (by decide)
  have F_count_o114 : Fld Z h113 o114 "java/lang/AbstractStringBuilder" "count" "I" (.int (0 : Int32)) := D_o114 (Or.inl (G.1 _ (List.mem_of_getElem? (i := 144) rfl))) (ty := .int) (by decide)
  have ge_o114 : n0 ≤ o114 := by rw [g_o114]; exact Old_le O
  have sz_o114 : h111.size ≤ o114 := Nat.le_of_eq g_o114.symm
  have K115 : Keep h111 h113 [] := Keep.of_ext Eh113
  have O116 := Old_k0 O K115
  refine s_dup (q := 14) C rfl d47_13 rfl ?_
  refine AtS.mark ?_
  refine s_callI1 (q := 17) (argsL := []) (S := [(.ref o114), (.ref a)]) (W := 2) (cells' := 2) (slots' := 20) (a := o114) C rfl (G.1 _ (List.mem_of_getElem? (i := 117) rfl)) (G.1 _ (List.mem_of_getElem? (i := 118) rfl)) (G.1 _ (List.mem_of_getElem? (i := 116) rfl)) (G.1 _ (List.mem_of_getElem? (i := 119) rfl)) (by decide) (rm_sbinit G O116 o114 A_o114 F_value_o114 F_coder_o114 F_count_o114 ge_o114) rfl (lenOf pd_4 rfl) rfl (by decide) (own_leb rfl) (by decide) rfl rfl (by decide) (by decide) (wl := [o114]) (fun _ _ q => q.1) (allS (SfOk.exa A_o114 (by decide)) (all0)) d47_14 rfl ?_
  rintro _ h119 ⟨Kh119, rfl, t117, hg_t117, B118⟩
  show AtS p l e _ s m _ below meth c Z _ _ n0 _ _ _ h119 2 20 (mkF m 17 #[.val (.ref a), .val (.ref s9)] [(.ref o114), (.ref a)])
  have K120 : Keep h111 h119 [] := own_K1 K115 Kh119 sz_o114
  have O121 := Old_k0 O K120
  have sz_t117 : h111.size ≤ t117 := Nat.le_trans K115.1 hg_t117
  have ge_t117 : n0 ≤ t117 := Nat.le_trans (Old_le O) sz_t117
  refine AtS.add (x := t117) hg_t117 B118.tlt ?_
  show AtS p l e _ s m _ below meth c Z _ _ n0 _ _ _ h119 2 20 (mkF m 17 #[.val (.ref a), .val (.ref s9)] [(.ref o114), (.ref a)])
  refine s_aloadN (q := 18) C rfl rfl d47_17 rfl ?_
  refine s_callV1 (q := 21) (argsL := [(.ref s9)]) (S := [(.ref a)]) (W := 1) (cells' := 2) (slots' := 20) (a := o114) C B118.1 (G.1 _ (List.mem_of_getElem? (i := 132) rfl)) (G.1 _ (List.mem_of_getElem? (i := 133) rfl)) (s_nf (G.1 _ (List.mem_of_getElem? (i := 135) rfl))) (G.1 _ (List.mem_of_getElem? (i := 135) rfl)) (G.1 _ (List.mem_of_getElem? (i := 134) rfl)) (G.1 _ (List.mem_of_getElem? (i := 116) rfl)) (G.1 _ (List.mem_of_getElem? (i := 136) rfl)) (by decide) (rm_sbApp G O121 o114 t117 [] 16 s9 cs B118 (Str_k0 S K120) (by first | omega | (simp only [List.length_append, List.length_cons, List.length_nil]; omega)) ge_o114 ge_t117) rfl (lenOf pd_24 rfl) rfl (by decide) (own_leb rfl) (by decide) rfl rfl (by decide) (by decide) (wl := [o114, t117]) (fun _ _ q => q.1) (allS (SfOk.exa B118.1 (by decide)) (allS (SfOk.mem (by simp)) (all0))) d47_18 rfl ?_
  rintro _ h123 ⟨Kh123, rfl, B122⟩
  show AtS p l e _ s m _ below meth c Z _ _ n0 _ _ _ h123 2 20 (mkF m 21 #[.val (.ref a), .val (.ref s9)] [(.ref o114), (.ref a)])
  have K124 : Keep h111 h123 [] := K120.trans Kh123 (allS (P := fun x => x ∈ [] ∨ h111.size ≤ x) (Or.inr sz_o114) (allS (Or.inr sz_t117) all0))
  have O125 := Old_k0 O K124
  replace B122 : Sb Z h123 o114 t117 cs 16 := B122
  refine s_ldc (q := 23) (n := 24) (cells' := 4) (slots' := 48) (vs := [(.int (58 : Int32)), (.int (102 : Int32)), (.int (101 : Int32)), (.int (110 : Int32)), (.int (99 : Int32)), (.int (101 : Int32))]) C G.el G.sa (G.1 _ (List.mem_of_getElem? (i := 229) rfl)) (by decide) (by decide +kernel) (by decide) (by decide +kernel) (by decide) rfl rfl (by decide) (by decide) d47_21 rfl ?_
  intro h126 s127 t128 Eh126 e1_s127 e2_s127 e3_s127 e4_s127 hne_s127
  have S_s127 : Str Z h126 s127 [(58 : Int32), (102 : Int32), (101 : Int32), (110 : Int32), (99 : Int32), (101 : Int32)] := ⟨e1_s127, (own_L1c (by decide) (own_L1c (by decide) (own_L1c (by decide) (own_L1c (by decide) (own_L1c (by decide) (own_L1c (by decide) (fun c hc => absurd hc List.not_mem_nil))))))), t128, e2_s127, e3_s127, e4_s127⟩
  have K129 : Keep h111 h126 [] := own_K0 K124 (Keep.of_ext Eh126)
  have O130 := Old_k0 O K129
  have B131 := Sb_k0 B122 (Keep.of_ext Eh126)
  refine s_callV1 (q := 26) (argsL := [(.ref s127)]) (S := [(.ref a)]) (W := 1) (cells' := 4) (slots' := 48) (a := o114) C B131.1 (G.1 _ (List.mem_of_getElem? (i := 132) rfl)) (G.1 _ (List.mem_of_getElem? (i := 133) rfl)) (s_nf (G.1 _ (List.mem_of_getElem? (i := 135) rfl))) (G.1 _ (List.mem_of_getElem? (i := 135) rfl)) (G.1 _ (List.mem_of_getElem? (i := 134) rfl)) (G.1 _ (List.mem_of_getElem? (i := 116) rfl)) (G.1 _ (List.mem_of_getElem? (i := 136) rfl)) (by decide) (rm_sbApp G O130 o114 t117 cs 16 s127 [(58 : Int32), (102 : Int32), (101 : Int32), (110 : Int32), (99 : Int32), (101 : Int32)] B131 S_s127 (by first | omega | (simp only [List.length_append, List.length_cons, List.length_nil]; omega)) ge_o114 ge_t117) rfl (lenOf pd_24 rfl) rfl (by decide) (own_leb rfl) (by decide) rfl rfl (by decide) (by decide) (wl := [o114, t117]) (fun _ _ q => q.1) (allS (SfOk.exa B131.1 (by decide)) (allS (SfOk.mem (by simp)) (all0))) d47_23 rfl ?_
  rintro _ h133 ⟨Kh133, rfl, B132⟩
  show AtS p l e _ s m _ below meth c Z _ _ n0 _ _ _ h133 4 48 (mkF m 26 #[.val (.ref a), .val (.ref s9)] [(.ref o114), (.ref a)])
  have K134 : Keep h111 h133 [] := K129.trans Kh133 (allS (P := fun x => x ∈ [] ∨ h111.size ≤ x) (Or.inr sz_o114) (allS (Or.inr sz_t117) all0))
  have O135 := Old_k0 O K134
  replace B132 : Sb Z h133 o114 t117 (cs ++ [(58 : Int32), (102 : Int32), (101 : Int32), (110 : Int32), (99 : Int32), (101 : Int32)]) 16 := B132
  refine s_callV1 (q := 29) (argsL := []) (S := [(.ref a)]) (W := 1) (cells' := 6) (slots' := 68) (a := o114) C B132.1 (G.1 _ (List.mem_of_getElem? (i := 185) rfl)) (G.1 _ (List.mem_of_getElem? (i := 186) rfl)) (s_nf (G.1 _ (List.mem_of_getElem? (i := 188) rfl))) (G.1 _ (List.mem_of_getElem? (i := 188) rfl)) (G.1 _ (List.mem_of_getElem? (i := 187) rfl)) (G.1 _ (List.mem_of_getElem? (i := 116) rfl)) (G.1 _ (List.mem_of_getElem? (i := 189) rfl)) (by decide) (rm_sbStr G O135 o114 t117 (cs ++ [(58 : Int32), (102 : Int32), (101 : Int32), (110 : Int32), (99 : Int32), (101 : Int32)]) 16 B132 (by first | omega | (simp only [List.length_append, List.length_cons, List.length_nil]; omega))) rfl (lenOf pd_32 rfl) rfl (by decide) (own_leb rfl) (by decide) rfl rfl (by decide) (by decide) (wl := []) (fun _ _ q => q.1) all0 d47_26 rfl ?_
  rintro _ h137 ⟨Kh137, r136, rfl, hg_r136, S1⟩
  show AtS p l e _ s m _ below meth c Z _ _ n0 _ _ _ h137 6 68 (mkF m 29 #[.val (.ref a), .val (.ref s9)] [(.ref r136), (.ref a)])
  have K138 : Keep h111 h137 [] := own_K0 K134 Kh137
  have sz_r136 : h111.size ≤ r136 := Nat.le_trans K134.1 hg_r136
  replace E := Exa_k0 E K138
  replace S := Str_k0 S K138
  replace F_holdsKey := Fld_k0 F_holdsKey K138
  replace F_fenceKey := Fld_k0 F_fenceKey K138
  replace F_releasedChannel := Fld_k0 F_releasedChannel K138
  replace O := Old_k0 O K138
  have KB := own_K0 K112 K138
  refine s_putF (q := 32) (host := "") (v' := (.ref r136)) C (G.1 _ (List.mem_of_getElem? (i := 230) rfl)) Via.refl F_fenceKey E (Or.inr ⟨(G.1 _ (List.mem_of_getElem? (i := 231) rfl)), rfl, rfl⟩) (G.1 _ (List.mem_of_getElem? (i := 113) rfl)) (ty := (.object "java/lang/String")) (by decide) rfl rfl hge (SfOk.exa E (by decide)) d47_29 rfl ?_
  intro h139 Wh139
  have K140 := KB.wr Wh139 (Or.inl (List.mem_cons_self ..))
  replace F_holdsKey := F_holdsKey.other Wh139 (Or.inr (slot_ne (Or.inr (G.1 _ (List.mem_of_getElem? (i := 228) rfl))) (Or.inr (G.1 _ (List.mem_of_getElem? (i := 231) rfl))) (by decide) (t := (.object "java/lang/String")) (t' := (.object "java/lang/String")) (by decide) (by decide)))
  replace F_fenceKey := F_fenceKey.same Wh139
  replace F_releasedChannel := F_releasedChannel.other Wh139 (Or.inr (slot_ne (Or.inr (G.1 _ (List.mem_of_getElem? (i := 234) rfl))) (Or.inr (G.1 _ (List.mem_of_getElem? (i := 231) rfl))) (by decide) (t := (.object "java/lang/String")) (t' := (.object "java/lang/String")) (by decide) (by decide)))
  replace S := S.wrO E (by decide) (G.1 _ (List.mem_of_getElem? (i := 113) rfl)) Wh139
  replace S1 := S1.wrO E (by decide) (G.1 _ (List.mem_of_getElem? (i := 113) rfl)) Wh139
  replace E := E.wr Wh139
  replace O := O.wr Wh139 hge
  refine s_aloadN (q := 33) C rfl rfl d47_32 rfl ?_
  refine s_new (q := 36) (cells' := 7) (slots' := 72) C (G.1 _ (List.mem_of_getElem? (i := 114) rfl)) (G.1 _ (List.mem_of_getElem? (i := 115) rfl)) (G.1 _ (List.mem_of_getElem? (i := 116) rfl)) rfl rfl (by decide) (by decide) d47_33 rfl ?_
  intro h141 o142 g_o142 Eh141 A_o142 D_o142
  have F_value_o142 : Fld Z h141 o142 "java/lang/AbstractStringBuilder" "value" "[B" .null := D_o142 (Or.inl (G.1 _ (List.mem_of_getElem? (i := 129) rfl))) (ty := (.array .byte)) (by decide)
  have F_coder_o142 : Fld Z h141 o142 "java/lang/AbstractStringBuilder" "coder" "B" (.int (0 : Int32)) := D_o142 (Or.inl (G.1 _ (List.mem_of_getElem? (i := 131) rfl))) (ty := .byte) (by decide)
  have F_count_o142 : Fld Z h141 o142 "java/lang/AbstractStringBuilder" "count" "I" (.int (0 : Int32)) := D_o142 (Or.inl (G.1 _ (List.mem_of_getElem? (i := 144) rfl))) (ty := .int) (by decide)
  have ge_o142 : n0 ≤ o142 := by rw [g_o142]; exact Old_le O
  have sz_o142 : h139.size ≤ o142 := Nat.le_of_eq g_o142.symm
  have K143 : Keep h139 h141 [] := Keep.of_ext Eh141
  have O144 := Old_k0 O K143
  refine s_dup (q := 37) C rfl d47_36 rfl ?_
  refine AtS.mark ?_
  refine s_callI1 (q := 40) (argsL := []) (S := [(.ref o142), (.ref a)]) (W := 2) (cells' := 8) (slots' := 88) (a := o142) C rfl (G.1 _ (List.mem_of_getElem? (i := 117) rfl)) (G.1 _ (List.mem_of_getElem? (i := 118) rfl)) (G.1 _ (List.mem_of_getElem? (i := 116) rfl)) (G.1 _ (List.mem_of_getElem? (i := 119) rfl)) (by decide) (rm_sbinit G O144 o142 A_o142 F_value_o142 F_coder_o142 F_count_o142 ge_o142) rfl (lenOf pd_4 rfl) rfl (by decide) (own_leb rfl) (by decide) rfl rfl (by decide) (by decide) (wl := [o142]) (fun _ _ q => q.1) (allS (SfOk.exa A_o142 (by decide)) (all0)) d47_37 rfl ?_
  rintro _ h147 ⟨Kh147, rfl, t145, hg_t145, B146⟩
  show AtS p l e _ s m _ below meth c Z _ _ n0 _ _ _ h147 8 88 (mkF m 40 #[.val (.ref a), .val (.ref s9)] [(.ref o142), (.ref a)])
  have K148 : Keep h139 h147 [] := own_K1 K143 Kh147 sz_o142
  have O149 := Old_k0 O K148
  have sz_t145 : h139.size ≤ t145 := Nat.le_trans K143.1 hg_t145
  have ge_t145 : n0 ≤ t145 := Nat.le_trans (Old_le O) sz_t145
  refine AtS.add (x := t145) hg_t145 B146.tlt ?_
  show AtS p l e _ s m _ below meth c Z _ _ n0 _ _ _ h147 8 88 (mkF m 40 #[.val (.ref a), .val (.ref s9)] [(.ref o142), (.ref a)])
  refine s_aloadN (q := 41) C rfl rfl d47_40 rfl ?_
  refine s_callV1 (q := 44) (argsL := [(.ref s9)]) (S := [(.ref a)]) (W := 1) (cells' := 8) (slots' := 88) (a := o142) C B146.1 (G.1 _ (List.mem_of_getElem? (i := 132) rfl)) (G.1 _ (List.mem_of_getElem? (i := 133) rfl)) (s_nf (G.1 _ (List.mem_of_getElem? (i := 135) rfl))) (G.1 _ (List.mem_of_getElem? (i := 135) rfl)) (G.1 _ (List.mem_of_getElem? (i := 134) rfl)) (G.1 _ (List.mem_of_getElem? (i := 116) rfl)) (G.1 _ (List.mem_of_getElem? (i := 136) rfl)) (by decide) (rm_sbApp G O149 o142 t145 [] 16 s9 cs B146 (Str_k0 S K148) (by first | omega | (simp only [List.length_append, List.length_cons, List.length_nil]; omega)) ge_o142 ge_t145) rfl (lenOf pd_24 rfl) rfl (by decide) (own_leb rfl) (by decide) rfl rfl (by decide) (by decide) (wl := [o142, t145]) (fun _ _ q => q.1) (allS (SfOk.exa B146.1 (by decide)) (allS (SfOk.mem (by simp)) (all0))) d47_41 rfl ?_
  rintro _ h151 ⟨Kh151, rfl, B150⟩
  show AtS p l e _ s m _ below meth c Z _ _ n0 _ _ _ h151 8 88 (mkF m 44 #[.val (.ref a), .val (.ref s9)] [(.ref o142), (.ref a)])
  have K152 : Keep h139 h151 [] := K148.trans Kh151 (allS (P := fun x => x ∈ [] ∨ h139.size ≤ x) (Or.inr sz_o142) (allS (Or.inr sz_t145) all0))
  have O153 := Old_k0 O K152
  replace B150 : Sb Z h151 o142 t145 cs 16 := B150
  refine s_ldc (q := 46) (n := 36) (cells' := 10) (slots' := 128) (vs := [(.int (58 : Int32)), (.int (114 : Int32)), (.int (101 : Int32)), (.int (108 : Int32)), (.int (101 : Int32)), (.int (97 : Int32)), (.int (115 : Int32)), (.int (101 : Int32)), (.int (100 : Int32))]) C G.el G.sa (G.1 _ (List.mem_of_getElem? (i := 232) rfl)) (by decide) (by decide +kernel) (by decide) (by decide +kernel) (by decide) rfl rfl (by decide) (by decide) d47_44 rfl ?_
  intro h154 s155 t156 Eh154 e1_s155 e2_s155 e3_s155 e4_s155 hne_s155
  have S_s155 : Str Z h154 s155 [(58 : Int32), (114 : Int32), (101 : Int32), (108 : Int32), (101 : Int32), (97 : Int32), (115 : Int32), (101 : Int32), (100 : Int32)] := ⟨e1_s155, (own_L1c (by decide) (own_L1c (by decide) (own_L1c (by decide) (own_L1c (by decide) (own_L1c (by decide) (own_L1c (by decide) (own_L1c (by decide) (own_L1c (by decide) (own_L1c (by decide) (fun c hc => absurd hc List.not_mem_nil)))))))))), t156, e2_s155, e3_s155, e4_s155⟩
  have K157 : Keep h139 h154 [] := own_K0 K152 (Keep.of_ext Eh154)
  have O158 := Old_k0 O K157
  have B159 := Sb_k0 B150 (Keep.of_ext Eh154)
  refine s_callV1 (q := 49) (argsL := [(.ref s155)]) (S := [(.ref a)]) (W := 1) (cells' := 10) (slots' := 128) (a := o142) C B159.1 (G.1 _ (List.mem_of_getElem? (i := 132) rfl)) (G.1 _ (List.mem_of_getElem? (i := 133) rfl)) (s_nf (G.1 _ (List.mem_of_getElem? (i := 135) rfl))) (G.1 _ (List.mem_of_getElem? (i := 135) rfl)) (G.1 _ (List.mem_of_getElem? (i := 134) rfl)) (G.1 _ (List.mem_of_getElem? (i := 116) rfl)) (G.1 _ (List.mem_of_getElem? (i := 136) rfl)) (by decide) (rm_sbApp G O158 o142 t145 cs 16 s155 [(58 : Int32), (114 : Int32), (101 : Int32), (108 : Int32), (101 : Int32), (97 : Int32), (115 : Int32), (101 : Int32), (100 : Int32)] B159 S_s155 (by first | omega | (simp only [List.length_append, List.length_cons, List.length_nil]; omega)) ge_o142 ge_t145) rfl (lenOf pd_24 rfl) rfl (by decide) (own_leb rfl) (by decide) rfl rfl (by decide) (by decide) (wl := [o142, t145]) (fun _ _ q => q.1) (allS (SfOk.exa B159.1 (by decide)) (allS (SfOk.mem (by simp)) (all0))) d47_46 rfl ?_
  rintro _ h161 ⟨Kh161, rfl, B160⟩
  show AtS p l e _ s m _ below meth c Z _ _ n0 _ _ _ h161 10 128 (mkF m 49 #[.val (.ref a), .val (.ref s9)] [(.ref o142), (.ref a)])
  have K162 : Keep h139 h161 [] := K157.trans Kh161 (allS (P := fun x => x ∈ [] ∨ h139.size ≤ x) (Or.inr sz_o142) (allS (Or.inr sz_t145) all0))
  have O163 := Old_k0 O K162
  replace B160 : Sb Z h161 o142 t145 (cs ++ [(58 : Int32), (114 : Int32), (101 : Int32), (108 : Int32), (101 : Int32), (97 : Int32), (115 : Int32), (101 : Int32), (100 : Int32)]) 16 := B160
  refine s_callV1 (q := 52) (argsL := []) (S := [(.ref a)]) (W := 1) (cells' := 12) (slots' := 148) (a := o142) C B160.1 (G.1 _ (List.mem_of_getElem? (i := 185) rfl)) (G.1 _ (List.mem_of_getElem? (i := 186) rfl)) (s_nf (G.1 _ (List.mem_of_getElem? (i := 188) rfl))) (G.1 _ (List.mem_of_getElem? (i := 188) rfl)) (G.1 _ (List.mem_of_getElem? (i := 187) rfl)) (G.1 _ (List.mem_of_getElem? (i := 116) rfl)) (G.1 _ (List.mem_of_getElem? (i := 189) rfl)) (by decide) (rm_sbStr G O163 o142 t145 (cs ++ [(58 : Int32), (114 : Int32), (101 : Int32), (108 : Int32), (101 : Int32), (97 : Int32), (115 : Int32), (101 : Int32), (100 : Int32)]) 16 B160 (by first | omega | (simp only [List.length_append, List.length_cons, List.length_nil]; omega))) rfl (lenOf pd_32 rfl) rfl (by decide) (own_leb rfl) (by decide) rfl rfl (by decide) (by decide) (wl := []) (fun _ _ q => q.1) all0 d47_49 rfl ?_
  rintro _ h165 ⟨Kh165, r164, rfl, hg_r164, S2⟩
  show AtS p l e _ s m _ below meth c Z _ _ n0 _ _ _ h165 12 148 (mkF m 52 #[.val (.ref a), .val (.ref s9)] [(.ref r164), (.ref a)])
  have K166 : Keep h139 h165 [] := own_K0 K162 Kh165
  have sz_r164 : h139.size ≤ r164 := Nat.le_trans K162.1 hg_r164
  replace E := Exa_k0 E K166
  replace S := Str_k0 S K166
  replace F_holdsKey := Fld_k0 F_holdsKey K166
  replace F_fenceKey := Fld_k0 F_fenceKey K166
  replace F_releasedChannel := Fld_k0 F_releasedChannel K166
  replace S1 := Str_k0 S1 K166
  replace O := Old_k0 O K166
  have KC := own_K0 K140 K166
  refine s_putF (q := 55) (host := "") (v' := (.ref r164)) C (G.1 _ (List.mem_of_getElem? (i := 233) rfl)) Via.refl F_releasedChannel E (Or.inr ⟨(G.1 _ (List.mem_of_getElem? (i := 234) rfl)), rfl, rfl⟩) (G.1 _ (List.mem_of_getElem? (i := 113) rfl)) (ty := (.object "java/lang/String")) (by decide) rfl rfl hge (SfOk.exa E (by decide)) d47_52 rfl ?_
  intro h167 Wh167
  have K168 := KC.wr Wh167 (Or.inl (List.mem_cons_self ..))
  replace F_holdsKey := F_holdsKey.other Wh167 (Or.inr (slot_ne (Or.inr (G.1 _ (List.mem_of_getElem? (i := 228) rfl))) (Or.inr (G.1 _ (List.mem_of_getElem? (i := 234) rfl))) (by decide) (t := (.object "java/lang/String")) (t' := (.object "java/lang/String")) (by decide) (by decide)))
  replace F_fenceKey := F_fenceKey.other Wh167 (Or.inr (slot_ne (Or.inr (G.1 _ (List.mem_of_getElem? (i := 231) rfl))) (Or.inr (G.1 _ (List.mem_of_getElem? (i := 234) rfl))) (by decide) (t := (.object "java/lang/String")) (t' := (.object "java/lang/String")) (by decide) (by decide)))
  replace F_releasedChannel := F_releasedChannel.same Wh167
  replace S := S.wrO E (by decide) (G.1 _ (List.mem_of_getElem? (i := 113) rfl)) Wh167
  replace S1 := S1.wrO E (by decide) (G.1 _ (List.mem_of_getElem? (i := 113) rfl)) Wh167
  replace S2 := S2.wrO E (by decide) (G.1 _ (List.mem_of_getElem? (i := 113) rfl)) Wh167
  replace E := E.wr Wh167
  replace O := O.wr Wh167 hge
  exact s_retV C G.el rfl d47_55 (by decide) (by decide) ⟨K168, rfl, E, F_holdsKey, S, ⟨r136, F_fenceKey, S1⟩, r164, F_releasedChannel, S2⟩
theorem d48_0 : decode prog_2_method_5_code 0 = .ok (.aload_n 0, 1) := by decide +kernel
theorem d48_1 : decode prog_2_method_5_code 1 = .ok (.getfield 7, 3) := by decide +kernel
theorem d48_4 : decode prog_2_method_5_code 4 = .ok (.areturn, 1) := by decide +kernel
theorem pf48 : plainFor (⟨"com/example/lease/lease/LockKeys", "holdsKey", "()Ljava/lang/String;"⟩ : MethodName) = true := by first | exact plainFor_of_name (by first | (simp [plainName, overriddenIn]; done) | decide +kernel) | decide +kernel
theorem ef_holds (m : MethodId) (z0 : Addr) : entryFrame m #[(.ref z0)] 1 = mkF m 0 #[.val (.ref z0)] [] := by first | rfl | (simp [entryFrame, mkF, argsToLocals, Value.category, *]; done) | rfl
set_option maxRecDepth 65536 in
set_option maxHeartbeats 40000000 in
theorem rm_holds {l : Launch} {Z : State} {a0 : Array Value} {n0 : Nat} (G : Gl Z a0 n0) {h0 : Heap} (O : Old Z n0 h0) (a : Addr) (r : Addr) (F : Fld Z h0 a "com/example/lease/lease/LockKeys" "holdsKey" "Ljava/lang/String;" (.ref r)) :
    Ct [] l Z n0 (⟨"com/example/lease/lease/LockKeys", "holdsKey", "()Ljava/lang/String;"⟩ : MethodName) prog_2_method_5_code 1 (some (.object "java/lang/String")) ({ frames := 0, cells := 0, slots := 0, locals := 0 } : Room) #[(.ref a)] h0 (fun v h => h = h0 ∧ v = some (.ref r)) := by
  refine Ct.intro pf48 ?_
  intro p e s m below meth c C
  refine AtW.cast ?_ (ef_holds m a)
  refine w_aloadN (q := 1) C rfl rfl d48_0 rfl ?_
  refine w_getF (q := 4) (host := "") C (Or.inl (G.1 _ (List.mem_of_getElem? (i := 227) rfl))) Via.refl F d48_1 rfl ?_
  exact w_retA C rfl rfl rfl d48_4 (by decide) (by decide) ⟨rfl, rfl⟩
theorem d55_0 : decode prog_2_method_6_code 0 = .ok (.aload_n 0, 1) := by decide +kernel
theorem d55_1 : decode prog_2_method_6_code 1 = .ok (.getfield 26, 3) := by decide +kernel
theorem d55_4 : decode prog_2_method_6_code 4 = .ok (.areturn, 1) := by decide +kernel
theorem pf55 : plainFor (⟨"com/example/lease/lease/LockKeys", "fenceKey", "()Ljava/lang/String;"⟩ : MethodName) = true := by first | exact plainFor_of_name (by first | (simp [plainName, overriddenIn]; done) | decide +kernel) | decide +kernel
theorem ef_fence (m : MethodId) (z0 : Addr) : entryFrame m #[(.ref z0)] 1 = mkF m 0 #[.val (.ref z0)] [] := by first | rfl | (simp [entryFrame, mkF, argsToLocals, Value.category, *]; done) | rfl
set_option maxRecDepth 65536 in
set_option maxHeartbeats 40000000 in
theorem rm_fence {l : Launch} {Z : State} {a0 : Array Value} {n0 : Nat} (G : Gl Z a0 n0) {h0 : Heap} (O : Old Z n0 h0) (a : Addr) (r : Addr) (F : Fld Z h0 a "com/example/lease/lease/LockKeys" "fenceKey" "Ljava/lang/String;" (.ref r)) :
    Ct [] l Z n0 (⟨"com/example/lease/lease/LockKeys", "fenceKey", "()Ljava/lang/String;"⟩ : MethodName) prog_2_method_6_code 1 (some (.object "java/lang/String")) ({ frames := 0, cells := 0, slots := 0, locals := 0 } : Room) #[(.ref a)] h0 (fun v h => h = h0 ∧ v = some (.ref r)) := by
  refine Ct.intro pf55 ?_
  intro p e s m below meth c C
  refine AtW.cast ?_ (ef_fence m a)
  refine w_aloadN (q := 1) C rfl rfl d55_0 rfl ?_
  refine w_getF (q := 4) (host := "") C (Or.inl (G.1 _ (List.mem_of_getElem? (i := 230) rfl))) Via.refl F d55_1 rfl ?_
  exact w_retA C rfl rfl rfl d55_4 (by decide) (by decide) ⟨rfl, rfl⟩
theorem d56_0 : decode prog_2_method_7_code 0 = .ok (.aload_n 0, 1) := by decide +kernel
theorem d56_1 : decode prog_2_method_7_code 1 = .ok (.getfield 31, 3) := by decide +kernel
theorem d56_4 : decode prog_2_method_7_code 4 = .ok (.areturn, 1) := by decide +kernel
theorem pf56 : plainFor (⟨"com/example/lease/lease/LockKeys", "releasedChannel", "()Ljava/lang/String;"⟩ : MethodName) = true := by first | exact plainFor_of_name (by first | (simp [plainName, overriddenIn]; done) | decide +kernel) | decide +kernel
theorem ef_relch (m : MethodId) (z0 : Addr) : entryFrame m #[(.ref z0)] 1 = mkF m 0 #[.val (.ref z0)] [] := by first | rfl | (simp [entryFrame, mkF, argsToLocals, Value.category, *]; done) | rfl
set_option maxRecDepth 65536 in
set_option maxHeartbeats 40000000 in
theorem rm_relch {l : Launch} {Z : State} {a0 : Array Value} {n0 : Nat} (G : Gl Z a0 n0) {h0 : Heap} (O : Old Z n0 h0) (a : Addr) (r : Addr) (F : Fld Z h0 a "com/example/lease/lease/LockKeys" "releasedChannel" "Ljava/lang/String;" (.ref r)) :
    Ct [] l Z n0 (⟨"com/example/lease/lease/LockKeys", "releasedChannel", "()Ljava/lang/String;"⟩ : MethodName) prog_2_method_7_code 1 (some (.object "java/lang/String")) ({ frames := 0, cells := 0, slots := 0, locals := 0 } : Room) #[(.ref a)] h0 (fun v h => h = h0 ∧ v = some (.ref r)) := by
  refine Ct.intro pf56 ?_
  intro p e s m below meth c C
  refine AtW.cast ?_ (ef_relch m a)
  refine w_aloadN (q := 1) C rfl rfl d56_0 rfl ?_
  refine w_getF (q := 4) (host := "") C (Or.inl (G.1 _ (List.mem_of_getElem? (i := 233) rfl))) Via.refl F d56_1 rfl ?_
  exact w_retA C rfl rfl rfl d56_4 (by decide) (by decide) ⟨rfl, rfl⟩
theorem own_ch1 : ¬ (251 : Int32) < 0 ∧ ¬ 255 < (251 : Int32) ∧ (251 : Int32) ≠ 123 ∧ (251 : Int32) ≠ 125 := by decide
theorem own_ch2 : ¬ (253 : Int32) < 0 ∧ ¬ 255 < (253 : Int32) ∧ (253 : Int32) ≠ 123 ∧ (253 : Int32) ≠ 125 := by decide
theorem d1_0 : decode method_2_code 0 = .ok (.iload_n 0, 1) := by decide +kernel
theorem d1_1 : decode method_2_code 1 = .ok (.sipush 255, 3) := by decide +kernel
theorem d1_4 : decode method_2_code 4 = .ok (.iand, 1) := by decide +kernel
theorem d1_5 : decode method_2_code 5 = .ok (.istore_n 1, 1) := by decide +kernel
theorem d1_6 : decode method_2_code 6 = .ok (.iload_n 1, 1) := by decide +kernel
theorem d1_7 : decode method_2_code 7 = .ok (.bipush 123, 2) := by decide +kernel
theorem d1_9 : decode method_2_code 9 = .ok (.if_icmp .eq 9, 3) := by decide +kernel
theorem d1_12 : decode method_2_code 12 = .ok (.iload_n 1, 1) := by decide +kernel
theorem d1_13 : decode method_2_code 13 = .ok (.bipush 125, 2) := by decide +kernel
theorem d1_15 : decode method_2_code 15 = .ok (.if_icmp .ne 9, 3) := by decide +kernel
theorem d1_18 : decode method_2_code 18 = .ok (.iload_n 1, 1) := by decide +kernel
theorem d1_19 : decode method_2_code 19 = .ok (.sipush 128, 3) := by decide +kernel
theorem d1_22 : decode method_2_code 22 = .ok (.ixor, 1) := by decide +kernel
theorem d1_23 : decode method_2_code 23 = .ok (.istore_n 1, 1) := by decide +kernel
theorem d1_24 : decode method_2_code 24 = .ok (.iload_n 1, 1) := by decide +kernel
theorem d1_25 : decode method_2_code 25 = .ok (.i2c, 1) := by decide +kernel
theorem d1_26 : decode method_2_code 26 = .ok (.ireturn, 1) := by decide +kernel
theorem pf1 : plainFor (⟨"com/example/lease/lease/LockKeysOfPinLaw", "ch", "(I)C"⟩ : MethodName) = true := by first | exact plainFor_of_name (by first | (simp [plainName, overriddenIn]; done) | decide +kernel) | decide +kernel
theorem ef_chf (m : MethodId) (z0 : Int32) : entryFrame m #[(.int z0)] 2 = mkF m 0 #[.val (.int z0), .unset] [] := by first | rfl | (simp [entryFrame, mkF, argsToLocals, Value.category, *]; done) | rfl
set_option maxRecDepth 65536 in
set_option maxHeartbeats 40000000 in
theorem rm_chf {l : Launch} {Z : State} {a0 : Array Value} {n0 : Nat} (G : Gl Z a0 n0) {h0 : Heap} (O : Old Z n0 h0) (x : Int32) :
    Ct [] l Z n0 (⟨"com/example/lease/lease/LockKeysOfPinLaw", "ch", "(I)C"⟩ : MethodName) method_2_code 2 (some .char) ({ frames := 0, cells := 0, slots := 0, locals := 0 } : Room) #[(.int x)] h0 (fun v h => h = h0 ∧ ∃ c : Int32, v = some (.int c) ∧ ¬ c < 0 ∧ ¬ 255 < c ∧ c ≠ 123 ∧ c ≠ 125) := by
  refine Ct.intro pf1 ?_
  intro p e s m below meth c C
  refine AtW.cast ?_ (ef_chf m x)
  refine w_iloadN (q := 1) C rfl d1_0 rfl ?_
  refine w_sipush (q := 4) (v := (255 : Int32)) C (by rfl) d1_1 rfl ?_
  refine w_iand (q := 5) C rfl d1_4 rfl ?_
  generalize hc : (x &&& (255 : Int32)) = c
  have hr : ¬ c < 0 ∧ ¬ 255 < c := by rw [← hc]; exact own_255 x
  refine w_istoreN (q := 6) (L' := #[.val (.int x), .val (.int c)]) C rfl d1_5 rfl ?_
  refine w_iloadN (q := 7) C rfl d1_6 rfl ?_
  refine w_bipush (q := 9) (v := (123 : Int32)) C (by rfl) d1_7 rfl ?_
  by_cases q1 : c = (123 : Int32)
  · refine w_icmp_eq_t (q := 18) C d1_9 (by decide) (by decide) q1 ?_
    subst q1
    refine w_iloadN (q := 19) C rfl d1_18 rfl ?_
    refine w_sipush (q := 22) (v := (128 : Int32)) C (by rfl) d1_19 rfl ?_
    refine w_ixor (q := 23) (z := (251 : Int32)) C (by decide) d1_22 rfl ?_
    refine w_istoreN (q := 24) (L' := #[.val (.int x), .val (.int (251 : Int32))]) C rfl d1_23 rfl ?_
    refine w_iloadN (q := 25) C rfl d1_24 rfl ?_
    refine w_i2c (q := 26) (z := (251 : Int32)) C (by decide) d1_25 rfl ?_
    exact w_retZ (z := (251 : Int32)) C (t := .char) rfl (by simp) (by decide) d1_26 (by decide) (by decide) ⟨rfl, 251, rfl, own_ch1⟩
  · refine w_icmp_eq_f (q := 12) C d1_9 rfl q1 ?_
    refine w_iloadN (q := 13) C rfl d1_12 rfl ?_
    refine w_bipush (q := 15) (v := (125 : Int32)) C (by rfl) d1_13 rfl ?_
    by_cases q2 : c = (125 : Int32)
    · refine w_icmp_ne_f (q := 18) C d1_15 rfl q2 ?_
      subst q2
      refine w_iloadN (q := 19) C rfl d1_18 rfl ?_
      refine w_sipush (q := 22) (v := (128 : Int32)) C (by rfl) d1_19 rfl ?_
      refine w_ixor (q := 23) (z := (253 : Int32)) C (by decide) d1_22 rfl ?_
      refine w_istoreN (q := 24) (L' := #[.val (.int x), .val (.int (253 : Int32))]) C rfl d1_23 rfl ?_
      refine w_iloadN (q := 25) C rfl d1_24 rfl ?_
      refine w_i2c (q := 26) (z := (253 : Int32)) C (by decide) d1_25 rfl ?_
      exact w_retZ (z := (253 : Int32)) C (t := .char) rfl (by simp) (by decide) d1_26 (by decide) (by decide) ⟨rfl, 253, rfl, own_ch2⟩
    · refine w_icmp_ne_t (q := 24) C d1_15 (by decide) (by decide) q2 ?_
      refine w_iloadN (q := 25) C rfl d1_24 rfl ?_
      refine w_i2c (q := 26) C rfl d1_25 rfl ?_
      rw [show (c.toUInt32.toUInt16.toUInt32.toInt32) = c from own_i2c hr]
      exact w_retZ (z := c) C (t := .char) rfl (by simp) (own_nar hr.1 hr.2) d1_26 (by decide) (by decide) ⟨rfl, c, rfl, hr.1, hr.2, q1, q2⟩
def own_hd (k j : Nat) (p0 p1 n0c n1c n2c : Int32) : List Int32 := [p0, p1].take k ++ [(123 : Int32)] ++ [n0c, n1c, n2c].take (j + 1) ++ [(125 : Int32)]
theorem d12_0 : decode method_3_code 0 = .ok (.iconst 0, 1) := by decide +kernel
theorem d12_1 : decode method_3_code 1 = .ok (.istore 8, 2) := by decide +kernel
theorem d12_3 : decode method_3_code 3 = .ok (.iload_n 1, 1) := by decide +kernel
theorem d12_4 : decode method_3_code 4 = .ok (.iconst 1, 1) := by decide +kernel
theorem d12_5 : decode method_3_code 5 = .ok (.if_icmp .lt 11, 3) := by decide +kernel
theorem d12_8 : decode method_3_code 8 = .ok (.aload_n 0, 1) := by decide +kernel
theorem d12_9 : decode method_3_code 9 = .ok (.iload 8, 2) := by decide +kernel
theorem d12_11 : decode method_3_code 11 = .ok (.iload_n 3, 1) := by decide +kernel
theorem d12_12 : decode method_3_code 12 = .ok (.castore, 1) := by decide +kernel
theorem d12_13 : decode method_3_code 13 = .ok (.iinc 8 1, 3) := by decide +kernel
theorem d12_16 : decode method_3_code 16 = .ok (.iload_n 1, 1) := by decide +kernel
theorem d12_17 : decode method_3_code 17 = .ok (.iconst 2, 1) := by decide +kernel
theorem d12_18 : decode method_3_code 18 = .ok (.if_icmp .lt 12, 3) := by decide +kernel
theorem d12_21 : decode method_3_code 21 = .ok (.aload_n 0, 1) := by decide +kernel
theorem d12_22 : decode method_3_code 22 = .ok (.iload 8, 2) := by decide +kernel
theorem d12_24 : decode method_3_code 24 = .ok (.iload 4, 2) := by decide +kernel
theorem d12_26 : decode method_3_code 26 = .ok (.castore, 1) := by decide +kernel
theorem d12_27 : decode method_3_code 27 = .ok (.iinc 8 1, 3) := by decide +kernel
theorem d12_30 : decode method_3_code 30 = .ok (.aload_n 0, 1) := by decide +kernel
theorem d12_31 : decode method_3_code 31 = .ok (.iload 8, 2) := by decide +kernel
theorem d12_33 : decode method_3_code 33 = .ok (.bipush 123, 2) := by decide +kernel
theorem d12_35 : decode method_3_code 35 = .ok (.castore, 1) := by decide +kernel
theorem d12_36 : decode method_3_code 36 = .ok (.iinc 8 1, 3) := by decide +kernel
theorem d12_39 : decode method_3_code 39 = .ok (.aload_n 0, 1) := by decide +kernel
theorem d12_40 : decode method_3_code 40 = .ok (.iload 8, 2) := by decide +kernel
theorem d12_42 : decode method_3_code 42 = .ok (.iload 5, 2) := by decide +kernel
theorem d12_44 : decode method_3_code 44 = .ok (.castore, 1) := by decide +kernel
theorem d12_45 : decode method_3_code 45 = .ok (.iinc 8 1, 3) := by decide +kernel
theorem d12_48 : decode method_3_code 48 = .ok (.iload_n 2, 1) := by decide +kernel
theorem d12_49 : decode method_3_code 49 = .ok (.iconst 2, 1) := by decide +kernel
theorem d12_50 : decode method_3_code 50 = .ok (.if_icmp .lt 12, 3) := by decide +kernel
theorem d12_53 : decode method_3_code 53 = .ok (.aload_n 0, 1) := by decide +kernel
theorem d12_54 : decode method_3_code 54 = .ok (.iload 8, 2) := by decide +kernel
theorem d12_56 : decode method_3_code 56 = .ok (.iload 6, 2) := by decide +kernel
theorem d12_58 : decode method_3_code 58 = .ok (.castore, 1) := by decide +kernel
theorem d12_59 : decode method_3_code 59 = .ok (.iinc 8 1, 3) := by decide +kernel
theorem d12_62 : decode method_3_code 62 = .ok (.iload_n 2, 1) := by decide +kernel
theorem d12_63 : decode method_3_code 63 = .ok (.iconst 3, 1) := by decide +kernel
theorem d12_64 : decode method_3_code 64 = .ok (.if_icmp .lt 12, 3) := by decide +kernel
theorem d12_67 : decode method_3_code 67 = .ok (.aload_n 0, 1) := by decide +kernel
theorem d12_68 : decode method_3_code 68 = .ok (.iload 8, 2) := by decide +kernel
theorem d12_70 : decode method_3_code 70 = .ok (.iload 7, 2) := by decide +kernel
theorem d12_72 : decode method_3_code 72 = .ok (.castore, 1) := by decide +kernel
theorem d12_73 : decode method_3_code 73 = .ok (.iinc 8 1, 3) := by decide +kernel
theorem d12_76 : decode method_3_code 76 = .ok (.aload_n 0, 1) := by decide +kernel
theorem d12_77 : decode method_3_code 77 = .ok (.iload 8, 2) := by decide +kernel
theorem d12_79 : decode method_3_code 79 = .ok (.bipush 125, 2) := by decide +kernel
theorem d12_81 : decode method_3_code 81 = .ok (.castore, 1) := by decide +kernel
theorem d12_82 : decode method_3_code 82 = .ok (.iinc 8 1, 3) := by decide +kernel
theorem d12_85 : decode method_3_code 85 = .ok (.iload 8, 2) := by decide +kernel
theorem d12_87 : decode method_3_code 87 = .ok (.ireturn, 1) := by decide +kernel
theorem pf12 : plainFor (⟨"com/example/lease/lease/LockKeysOfPinLaw", "head", "([CIICCCCC)I"⟩ : MethodName) = true := by first | exact plainFor_of_name (by first | (simp [plainName, overriddenIn]; done) | decide +kernel) | decide +kernel
theorem ef_headf (m : MethodId) (z0 : Addr) (z1 : Int32) (z2 : Int32) (z3 : Int32) (z4 : Int32) (z5 : Int32) (z6 : Int32) (z7 : Int32) : entryFrame m #[(.ref z0), (.int z1), (.int z2), (.int z3), (.int z4), (.int z5), (.int z6), (.int z7)] 9 = mkF m 0 #[.val (.ref z0), .val (.int z1), .val (.int z2), .val (.int z3), .val (.int z4), .val (.int z5), .val (.int z6), .val (.int z7), .unset] [] := by first | rfl | (simp [entryFrame, mkF, argsToLocals, Value.category, *]; done) | rfl
set_option maxRecDepth 65536 in
set_option maxHeartbeats 40000000 in
theorem rm_headf {l : Launch} {Z : State} {a0 : Array Value} {n0 : Nat} (G : Gl Z a0 n0) {h0 : Heap} (O : Old Z n0 h0) (e0 : Addr) (k : Nat) (j : Nat) (p0 : Int32) (p1 : Int32) (n0c : Int32) (n1c : Int32) (n2c : Int32) (V : Ar Z h0 e0 .char (List.replicate 16 (Value.int (0 : Int32)))) (hk : k ≤ 2) (hj : j ≤ 2) (hge : n0 ≤ e0) (hp0 : ¬ p0 < 0 ∧ ¬ 255 < p0) (hp1 : ¬ p1 < 0 ∧ ¬ 255 < p1) (hn0c : ¬ n0c < 0 ∧ ¬ 255 < n0c) (hn1c : ¬ n1c < 0 ∧ ¬ 255 < n1c) (hn2c : ¬ n2c < 0 ∧ ¬ 255 < n2c) :
    Ct [] l Z n0 (⟨"com/example/lease/lease/LockKeysOfPinLaw", "head", "([CIICCCCC)I"⟩ : MethodName) method_3_code 9 (some .int) ({ frames := 0, cells := 0, slots := 0, locals := 0 } : Room) #[(.ref e0), (.int (Int32.ofNat k)), (.int (Int32.ofNat (j + 1))), (.int p0), (.int p1), (.int n0c), (.int n1c), (.int n2c)] h0 (fun v h => Keep h0 h [e0] ∧ v = some (.int (Int32.ofNat (own_hd k j p0 p1 n0c n1c n2c).length)) ∧ Ar Z h e0 .char (List.map Value.int (own_hd k j p0 p1 n0c n1c n2c) ++ List.replicate (16 - (own_hd k j p0 p1 n0c n1c n2c).length) (Value.int (0 : Int32)))) := by
  refine Ct.intro pf12 ?_
  intro p e s m below meth c C
  refine AtW.cast ?_ (ef_headf m e0 (Int32.ofNat k) (Int32.ofNat (j + 1)) p0 p1 n0c n1c n2c)
  replace V : Ar Z h0 e0 .char [(.int (0 : Int32)), (.int (0 : Int32)), (.int (0 : Int32)), (.int (0 : Int32)), (.int (0 : Int32)), (.int (0 : Int32)), (.int (0 : Int32)), (.int (0 : Int32)), (.int (0 : Int32)), (.int (0 : Int32)), (.int (0 : Int32)), (.int (0 : Int32)), (.int (0 : Int32)), (.int (0 : Int32)), (.int (0 : Int32)), (.int (0 : Int32))] := V
  rcases k with _ | _ | _ | k
  · rcases j with _ | _ | _ | j
    · show AtW p l e _ s m _ below meth c n0 _ h0 0 0 (mkF m 0 #[.val (.ref e0), .val (.int (0 : Int32)), .val (.int (1 : Int32)), .val (.int p0), .val (.int p1), .val (.int n0c), .val (.int n1c), .val (.int n2c), .unset] [])
      refine w_iconst (q := 1) (v := (0 : Int32)) C (by rfl) d12_0 rfl ?_
      refine w_istore (q := 3) (L' := #[.val (.ref e0), .val (.int (0 : Int32)), .val (.int (1 : Int32)), .val (.int p0), .val (.int p1), .val (.int n0c), .val (.int n1c), .val (.int n2c), .val (.int (0 : Int32))]) C rfl d12_1 rfl ?_
      refine w_iloadN (q := 4) C rfl d12_3 rfl ?_
      refine w_iconst (q := 5) (v := (1 : Int32)) C (by rfl) d12_4 rfl ?_
      refine w_icmp_lt_t (q := 16) C d12_5 (by decide) (by decide) (by decide) ?_
      refine w_iloadN (q := 17) C rfl d12_16 rfl ?_
      refine w_iconst (q := 18) (v := (2 : Int32)) C (by rfl) d12_17 rfl ?_
      refine w_icmp_lt_t (q := 30) C d12_18 (by decide) (by decide) (by decide) ?_
      refine w_aloadN (q := 31) C rfl rfl d12_30 rfl ?_
      refine w_iload (q := 33) C rfl d12_31 rfl ?_
      refine w_bipush (q := 35) (v := (123 : Int32)) C (by rfl) d12_33 rfl ?_
      refine w_castore (q := 36) (z := (123 : Int32)) (i := 0) C (by decide) V rfl (own_ltb rfl) hge d12_35 rfl ?_
      intro h169 Wh169 Vh169
      have K170 := (Keep.refl h0 [e0]).wr Wh169 (Or.inl (List.mem_cons_self ..))
      refine w_iinc (q := 39) (L' := #[.val (.ref e0), .val (.int (0 : Int32)), .val (.int (1 : Int32)), .val (.int p0), .val (.int p1), .val (.int n0c), .val (.int n1c), .val (.int n2c), .val (.int (1 : Int32))]) C rfl (by decide) rfl d12_36 rfl ?_
      refine w_aloadN (q := 40) C rfl rfl d12_39 rfl ?_
      refine w_iload (q := 42) C rfl d12_40 rfl ?_
      refine w_iload (q := 44) C rfl d12_42 rfl ?_
      refine w_castore (q := 45) (z := n0c) (i := 1) C (own_nar hn0c.1 hn0c.2) Vh169 rfl (own_ltb rfl) hge d12_44 rfl ?_
      intro h171 Wh171 Vh171
      have K172 := K170.wr Wh171 (Or.inl (List.mem_cons_self ..))
      refine w_iinc (q := 48) (L' := #[.val (.ref e0), .val (.int (0 : Int32)), .val (.int (1 : Int32)), .val (.int p0), .val (.int p1), .val (.int n0c), .val (.int n1c), .val (.int n2c), .val (.int (2 : Int32))]) C rfl (by decide) rfl d12_45 rfl ?_
      refine w_iloadN (q := 49) C rfl d12_48 rfl ?_
      refine w_iconst (q := 50) (v := (2 : Int32)) C (by rfl) d12_49 rfl ?_
      refine w_icmp_lt_t (q := 62) C d12_50 (by decide) (by decide) (by decide) ?_
      refine w_iloadN (q := 63) C rfl d12_62 rfl ?_
      refine w_iconst (q := 64) (v := (3 : Int32)) C (by rfl) d12_63 rfl ?_
      refine w_icmp_lt_t (q := 76) C d12_64 (by decide) (by decide) (by decide) ?_
      refine w_aloadN (q := 77) C rfl rfl d12_76 rfl ?_
      refine w_iload (q := 79) C rfl d12_77 rfl ?_
      refine w_bipush (q := 81) (v := (125 : Int32)) C (by rfl) d12_79 rfl ?_
      refine w_castore (q := 82) (z := (125 : Int32)) (i := 2) C (by decide) Vh171 rfl (own_ltb rfl) hge d12_81 rfl ?_
      intro h173 Wh173 Vh173
      have K174 := K172.wr Wh173 (Or.inl (List.mem_cons_self ..))
      refine w_iinc (q := 85) (L' := #[.val (.ref e0), .val (.int (0 : Int32)), .val (.int (1 : Int32)), .val (.int p0), .val (.int p1), .val (.int n0c), .val (.int n1c), .val (.int n2c), .val (.int (3 : Int32))]) C rfl (by decide) rfl d12_82 rfl ?_
      refine w_iload (q := 87) C rfl d12_85 rfl ?_
      exact w_retI C rfl d12_87 (by decide) (by decide) ⟨K174, rfl, Vh173⟩
    · show AtW p l e _ s m _ below meth c n0 _ h0 0 0 (mkF m 0 #[.val (.ref e0), .val (.int (0 : Int32)), .val (.int (2 : Int32)), .val (.int p0), .val (.int p1), .val (.int n0c), .val (.int n1c), .val (.int n2c), .unset] [])
      refine w_iconst (q := 1) (v := (0 : Int32)) C (by rfl) d12_0 rfl ?_
      refine w_istore (q := 3) (L' := #[.val (.ref e0), .val (.int (0 : Int32)), .val (.int (2 : Int32)), .val (.int p0), .val (.int p1), .val (.int n0c), .val (.int n1c), .val (.int n2c), .val (.int (0 : Int32))]) C rfl d12_1 rfl ?_
      refine w_iloadN (q := 4) C rfl d12_3 rfl ?_
      refine w_iconst (q := 5) (v := (1 : Int32)) C (by rfl) d12_4 rfl ?_
      refine w_icmp_lt_t (q := 16) C d12_5 (by decide) (by decide) (by decide) ?_
      refine w_iloadN (q := 17) C rfl d12_16 rfl ?_
      refine w_iconst (q := 18) (v := (2 : Int32)) C (by rfl) d12_17 rfl ?_
      refine w_icmp_lt_t (q := 30) C d12_18 (by decide) (by decide) (by decide) ?_
      refine w_aloadN (q := 31) C rfl rfl d12_30 rfl ?_
      refine w_iload (q := 33) C rfl d12_31 rfl ?_
      refine w_bipush (q := 35) (v := (123 : Int32)) C (by rfl) d12_33 rfl ?_
      refine w_castore (q := 36) (z := (123 : Int32)) (i := 0) C (by decide) V rfl (own_ltb rfl) hge d12_35 rfl ?_
      intro h175 Wh175 Vh175
      have K176 := (Keep.refl h0 [e0]).wr Wh175 (Or.inl (List.mem_cons_self ..))
      refine w_iinc (q := 39) (L' := #[.val (.ref e0), .val (.int (0 : Int32)), .val (.int (2 : Int32)), .val (.int p0), .val (.int p1), .val (.int n0c), .val (.int n1c), .val (.int n2c), .val (.int (1 : Int32))]) C rfl (by decide) rfl d12_36 rfl ?_
      refine w_aloadN (q := 40) C rfl rfl d12_39 rfl ?_
      refine w_iload (q := 42) C rfl d12_40 rfl ?_
      refine w_iload (q := 44) C rfl d12_42 rfl ?_
      refine w_castore (q := 45) (z := n0c) (i := 1) C (own_nar hn0c.1 hn0c.2) Vh175 rfl (own_ltb rfl) hge d12_44 rfl ?_
      intro h177 Wh177 Vh177
      have K178 := K176.wr Wh177 (Or.inl (List.mem_cons_self ..))
      refine w_iinc (q := 48) (L' := #[.val (.ref e0), .val (.int (0 : Int32)), .val (.int (2 : Int32)), .val (.int p0), .val (.int p1), .val (.int n0c), .val (.int n1c), .val (.int n2c), .val (.int (2 : Int32))]) C rfl (by decide) rfl d12_45 rfl ?_
      refine w_iloadN (q := 49) C rfl d12_48 rfl ?_
      refine w_iconst (q := 50) (v := (2 : Int32)) C (by rfl) d12_49 rfl ?_
      refine w_icmp_lt_f (q := 53) C d12_50 rfl (by decide) ?_
      refine w_aloadN (q := 54) C rfl rfl d12_53 rfl ?_
      refine w_iload (q := 56) C rfl d12_54 rfl ?_
      refine w_iload (q := 58) C rfl d12_56 rfl ?_
      refine w_castore (q := 59) (z := n1c) (i := 2) C (own_nar hn1c.1 hn1c.2) Vh177 rfl (own_ltb rfl) hge d12_58 rfl ?_
      intro h179 Wh179 Vh179
      have K180 := K178.wr Wh179 (Or.inl (List.mem_cons_self ..))
      refine w_iinc (q := 62) (L' := #[.val (.ref e0), .val (.int (0 : Int32)), .val (.int (2 : Int32)), .val (.int p0), .val (.int p1), .val (.int n0c), .val (.int n1c), .val (.int n2c), .val (.int (3 : Int32))]) C rfl (by decide) rfl d12_59 rfl ?_
      refine w_iloadN (q := 63) C rfl d12_62 rfl ?_
      refine w_iconst (q := 64) (v := (3 : Int32)) C (by rfl) d12_63 rfl ?_
      refine w_icmp_lt_t (q := 76) C d12_64 (by decide) (by decide) (by decide) ?_
      refine w_aloadN (q := 77) C rfl rfl d12_76 rfl ?_
      refine w_iload (q := 79) C rfl d12_77 rfl ?_
      refine w_bipush (q := 81) (v := (125 : Int32)) C (by rfl) d12_79 rfl ?_
      refine w_castore (q := 82) (z := (125 : Int32)) (i := 3) C (by decide) Vh179 rfl (own_ltb rfl) hge d12_81 rfl ?_
      intro h181 Wh181 Vh181
      have K182 := K180.wr Wh181 (Or.inl (List.mem_cons_self ..))
      refine w_iinc (q := 85) (L' := #[.val (.ref e0), .val (.int (0 : Int32)), .val (.int (2 : Int32)), .val (.int p0), .val (.int p1), .val (.int n0c), .val (.int n1c), .val (.int n2c), .val (.int (4 : Int32))]) C rfl (by decide) rfl d12_82 rfl ?_
      refine w_iload (q := 87) C rfl d12_85 rfl ?_
      exact w_retI C rfl d12_87 (by decide) (by decide) ⟨K182, rfl, Vh181⟩
    · show AtW p l e _ s m _ below meth c n0 _ h0 0 0 (mkF m 0 #[.val (.ref e0), .val (.int (0 : Int32)), .val (.int (3 : Int32)), .val (.int p0), .val (.int p1), .val (.int n0c), .val (.int n1c), .val (.int n2c), .unset] [])
      refine w_iconst (q := 1) (v := (0 : Int32)) C (by rfl) d12_0 rfl ?_
      refine w_istore (q := 3) (L' := #[.val (.ref e0), .val (.int (0 : Int32)), .val (.int (3 : Int32)), .val (.int p0), .val (.int p1), .val (.int n0c), .val (.int n1c), .val (.int n2c), .val (.int (0 : Int32))]) C rfl d12_1 rfl ?_
      refine w_iloadN (q := 4) C rfl d12_3 rfl ?_
      refine w_iconst (q := 5) (v := (1 : Int32)) C (by rfl) d12_4 rfl ?_
      refine w_icmp_lt_t (q := 16) C d12_5 (by decide) (by decide) (by decide) ?_
      refine w_iloadN (q := 17) C rfl d12_16 rfl ?_
      refine w_iconst (q := 18) (v := (2 : Int32)) C (by rfl) d12_17 rfl ?_
      refine w_icmp_lt_t (q := 30) C d12_18 (by decide) (by decide) (by decide) ?_
      refine w_aloadN (q := 31) C rfl rfl d12_30 rfl ?_
      refine w_iload (q := 33) C rfl d12_31 rfl ?_
      refine w_bipush (q := 35) (v := (123 : Int32)) C (by rfl) d12_33 rfl ?_
      refine w_castore (q := 36) (z := (123 : Int32)) (i := 0) C (by decide) V rfl (own_ltb rfl) hge d12_35 rfl ?_
      intro h183 Wh183 Vh183
      have K184 := (Keep.refl h0 [e0]).wr Wh183 (Or.inl (List.mem_cons_self ..))
      refine w_iinc (q := 39) (L' := #[.val (.ref e0), .val (.int (0 : Int32)), .val (.int (3 : Int32)), .val (.int p0), .val (.int p1), .val (.int n0c), .val (.int n1c), .val (.int n2c), .val (.int (1 : Int32))]) C rfl (by decide) rfl d12_36 rfl ?_
      refine w_aloadN (q := 40) C rfl rfl d12_39 rfl ?_
      refine w_iload (q := 42) C rfl d12_40 rfl ?_
      refine w_iload (q := 44) C rfl d12_42 rfl ?_
      refine w_castore (q := 45) (z := n0c) (i := 1) C (own_nar hn0c.1 hn0c.2) Vh183 rfl (own_ltb rfl) hge d12_44 rfl ?_
      intro h185 Wh185 Vh185
      have K186 := K184.wr Wh185 (Or.inl (List.mem_cons_self ..))
      refine w_iinc (q := 48) (L' := #[.val (.ref e0), .val (.int (0 : Int32)), .val (.int (3 : Int32)), .val (.int p0), .val (.int p1), .val (.int n0c), .val (.int n1c), .val (.int n2c), .val (.int (2 : Int32))]) C rfl (by decide) rfl d12_45 rfl ?_
      refine w_iloadN (q := 49) C rfl d12_48 rfl ?_
      refine w_iconst (q := 50) (v := (2 : Int32)) C (by rfl) d12_49 rfl ?_
      refine w_icmp_lt_f (q := 53) C d12_50 rfl (by decide) ?_
      refine w_aloadN (q := 54) C rfl rfl d12_53 rfl ?_
      refine w_iload (q := 56) C rfl d12_54 rfl ?_
      refine w_iload (q := 58) C rfl d12_56 rfl ?_
      refine w_castore (q := 59) (z := n1c) (i := 2) C (own_nar hn1c.1 hn1c.2) Vh185 rfl (own_ltb rfl) hge d12_58 rfl ?_
      intro h187 Wh187 Vh187
      have K188 := K186.wr Wh187 (Or.inl (List.mem_cons_self ..))
      refine w_iinc (q := 62) (L' := #[.val (.ref e0), .val (.int (0 : Int32)), .val (.int (3 : Int32)), .val (.int p0), .val (.int p1), .val (.int n0c), .val (.int n1c), .val (.int n2c), .val (.int (3 : Int32))]) C rfl (by decide) rfl d12_59 rfl ?_
      refine w_iloadN (q := 63) C rfl d12_62 rfl ?_
      refine w_iconst (q := 64) (v := (3 : Int32)) C (by rfl) d12_63 rfl ?_
      refine w_icmp_lt_f (q := 67) C d12_64 rfl (by decide) ?_
      refine w_aloadN (q := 68) C rfl rfl d12_67 rfl ?_
      refine w_iload (q := 70) C rfl d12_68 rfl ?_
      refine w_iload (q := 72) C rfl d12_70 rfl ?_
      refine w_castore (q := 73) (z := n2c) (i := 3) C (own_nar hn2c.1 hn2c.2) Vh187 rfl (own_ltb rfl) hge d12_72 rfl ?_
      intro h189 Wh189 Vh189
      have K190 := K188.wr Wh189 (Or.inl (List.mem_cons_self ..))
      refine w_iinc (q := 76) (L' := #[.val (.ref e0), .val (.int (0 : Int32)), .val (.int (3 : Int32)), .val (.int p0), .val (.int p1), .val (.int n0c), .val (.int n1c), .val (.int n2c), .val (.int (4 : Int32))]) C rfl (by decide) rfl d12_73 rfl ?_
      refine w_aloadN (q := 77) C rfl rfl d12_76 rfl ?_
      refine w_iload (q := 79) C rfl d12_77 rfl ?_
      refine w_bipush (q := 81) (v := (125 : Int32)) C (by rfl) d12_79 rfl ?_
      refine w_castore (q := 82) (z := (125 : Int32)) (i := 4) C (by decide) Vh189 rfl (own_ltb rfl) hge d12_81 rfl ?_
      intro h191 Wh191 Vh191
      have K192 := K190.wr Wh191 (Or.inl (List.mem_cons_self ..))
      refine w_iinc (q := 85) (L' := #[.val (.ref e0), .val (.int (0 : Int32)), .val (.int (3 : Int32)), .val (.int p0), .val (.int p1), .val (.int n0c), .val (.int n1c), .val (.int n2c), .val (.int (5 : Int32))]) C rfl (by decide) rfl d12_82 rfl ?_
      refine w_iload (q := 87) C rfl d12_85 rfl ?_
      exact w_retI C rfl d12_87 (by decide) (by decide) ⟨K192, rfl, Vh191⟩
    · exact absurd hj (by omega)
  · rcases j with _ | _ | _ | j
    · show AtW p l e _ s m _ below meth c n0 _ h0 0 0 (mkF m 0 #[.val (.ref e0), .val (.int (1 : Int32)), .val (.int (1 : Int32)), .val (.int p0), .val (.int p1), .val (.int n0c), .val (.int n1c), .val (.int n2c), .unset] [])
      refine w_iconst (q := 1) (v := (0 : Int32)) C (by rfl) d12_0 rfl ?_
      refine w_istore (q := 3) (L' := #[.val (.ref e0), .val (.int (1 : Int32)), .val (.int (1 : Int32)), .val (.int p0), .val (.int p1), .val (.int n0c), .val (.int n1c), .val (.int n2c), .val (.int (0 : Int32))]) C rfl d12_1 rfl ?_
      refine w_iloadN (q := 4) C rfl d12_3 rfl ?_
      refine w_iconst (q := 5) (v := (1 : Int32)) C (by rfl) d12_4 rfl ?_
      refine w_icmp_lt_f (q := 8) C d12_5 rfl (by decide) ?_
      refine w_aloadN (q := 9) C rfl rfl d12_8 rfl ?_
      refine w_iload (q := 11) C rfl d12_9 rfl ?_
      refine w_iloadN (q := 12) C rfl d12_11 rfl ?_
      refine w_castore (q := 13) (z := p0) (i := 0) C (own_nar hp0.1 hp0.2) V rfl (own_ltb rfl) hge d12_12 rfl ?_
      intro h193 Wh193 Vh193
      have K194 := (Keep.refl h0 [e0]).wr Wh193 (Or.inl (List.mem_cons_self ..))
      refine w_iinc (q := 16) (L' := #[.val (.ref e0), .val (.int (1 : Int32)), .val (.int (1 : Int32)), .val (.int p0), .val (.int p1), .val (.int n0c), .val (.int n1c), .val (.int n2c), .val (.int (1 : Int32))]) C rfl (by decide) rfl d12_13 rfl ?_
      refine w_iloadN (q := 17) C rfl d12_16 rfl ?_
      refine w_iconst (q := 18) (v := (2 : Int32)) C (by rfl) d12_17 rfl ?_
      refine w_icmp_lt_t (q := 30) C d12_18 (by decide) (by decide) (by decide) ?_
      refine w_aloadN (q := 31) C rfl rfl d12_30 rfl ?_
      refine w_iload (q := 33) C rfl d12_31 rfl ?_
      refine w_bipush (q := 35) (v := (123 : Int32)) C (by rfl) d12_33 rfl ?_
      refine w_castore (q := 36) (z := (123 : Int32)) (i := 1) C (by decide) Vh193 rfl (own_ltb rfl) hge d12_35 rfl ?_
      intro h195 Wh195 Vh195
      have K196 := K194.wr Wh195 (Or.inl (List.mem_cons_self ..))
      refine w_iinc (q := 39) (L' := #[.val (.ref e0), .val (.int (1 : Int32)), .val (.int (1 : Int32)), .val (.int p0), .val (.int p1), .val (.int n0c), .val (.int n1c), .val (.int n2c), .val (.int (2 : Int32))]) C rfl (by decide) rfl d12_36 rfl ?_
      refine w_aloadN (q := 40) C rfl rfl d12_39 rfl ?_
      refine w_iload (q := 42) C rfl d12_40 rfl ?_
      refine w_iload (q := 44) C rfl d12_42 rfl ?_
      refine w_castore (q := 45) (z := n0c) (i := 2) C (own_nar hn0c.1 hn0c.2) Vh195 rfl (own_ltb rfl) hge d12_44 rfl ?_
      intro h197 Wh197 Vh197
      have K198 := K196.wr Wh197 (Or.inl (List.mem_cons_self ..))
      refine w_iinc (q := 48) (L' := #[.val (.ref e0), .val (.int (1 : Int32)), .val (.int (1 : Int32)), .val (.int p0), .val (.int p1), .val (.int n0c), .val (.int n1c), .val (.int n2c), .val (.int (3 : Int32))]) C rfl (by decide) rfl d12_45 rfl ?_
      refine w_iloadN (q := 49) C rfl d12_48 rfl ?_
      refine w_iconst (q := 50) (v := (2 : Int32)) C (by rfl) d12_49 rfl ?_
      refine w_icmp_lt_t (q := 62) C d12_50 (by decide) (by decide) (by decide) ?_
      refine w_iloadN (q := 63) C rfl d12_62 rfl ?_
      refine w_iconst (q := 64) (v := (3 : Int32)) C (by rfl) d12_63 rfl ?_
      refine w_icmp_lt_t (q := 76) C d12_64 (by decide) (by decide) (by decide) ?_
      refine w_aloadN (q := 77) C rfl rfl d12_76 rfl ?_
      refine w_iload (q := 79) C rfl d12_77 rfl ?_
      refine w_bipush (q := 81) (v := (125 : Int32)) C (by rfl) d12_79 rfl ?_
      refine w_castore (q := 82) (z := (125 : Int32)) (i := 3) C (by decide) Vh197 rfl (own_ltb rfl) hge d12_81 rfl ?_
      intro h199 Wh199 Vh199
      have K200 := K198.wr Wh199 (Or.inl (List.mem_cons_self ..))
      refine w_iinc (q := 85) (L' := #[.val (.ref e0), .val (.int (1 : Int32)), .val (.int (1 : Int32)), .val (.int p0), .val (.int p1), .val (.int n0c), .val (.int n1c), .val (.int n2c), .val (.int (4 : Int32))]) C rfl (by decide) rfl d12_82 rfl ?_
      refine w_iload (q := 87) C rfl d12_85 rfl ?_
      exact w_retI C rfl d12_87 (by decide) (by decide) ⟨K200, rfl, Vh199⟩
    · show AtW p l e _ s m _ below meth c n0 _ h0 0 0 (mkF m 0 #[.val (.ref e0), .val (.int (1 : Int32)), .val (.int (2 : Int32)), .val (.int p0), .val (.int p1), .val (.int n0c), .val (.int n1c), .val (.int n2c), .unset] [])
      refine w_iconst (q := 1) (v := (0 : Int32)) C (by rfl) d12_0 rfl ?_
      refine w_istore (q := 3) (L' := #[.val (.ref e0), .val (.int (1 : Int32)), .val (.int (2 : Int32)), .val (.int p0), .val (.int p1), .val (.int n0c), .val (.int n1c), .val (.int n2c), .val (.int (0 : Int32))]) C rfl d12_1 rfl ?_
      refine w_iloadN (q := 4) C rfl d12_3 rfl ?_
      refine w_iconst (q := 5) (v := (1 : Int32)) C (by rfl) d12_4 rfl ?_
      refine w_icmp_lt_f (q := 8) C d12_5 rfl (by decide) ?_
      refine w_aloadN (q := 9) C rfl rfl d12_8 rfl ?_
      refine w_iload (q := 11) C rfl d12_9 rfl ?_
      refine w_iloadN (q := 12) C rfl d12_11 rfl ?_
      refine w_castore (q := 13) (z := p0) (i := 0) C (own_nar hp0.1 hp0.2) V rfl (own_ltb rfl) hge d12_12 rfl ?_
      intro h201 Wh201 Vh201
      have K202 := (Keep.refl h0 [e0]).wr Wh201 (Or.inl (List.mem_cons_self ..))
      refine w_iinc (q := 16) (L' := #[.val (.ref e0), .val (.int (1 : Int32)), .val (.int (2 : Int32)), .val (.int p0), .val (.int p1), .val (.int n0c), .val (.int n1c), .val (.int n2c), .val (.int (1 : Int32))]) C rfl (by decide) rfl d12_13 rfl ?_
      refine w_iloadN (q := 17) C rfl d12_16 rfl ?_
      refine w_iconst (q := 18) (v := (2 : Int32)) C (by rfl) d12_17 rfl ?_
      refine w_icmp_lt_t (q := 30) C d12_18 (by decide) (by decide) (by decide) ?_
      refine w_aloadN (q := 31) C rfl rfl d12_30 rfl ?_
      refine w_iload (q := 33) C rfl d12_31 rfl ?_
      refine w_bipush (q := 35) (v := (123 : Int32)) C (by rfl) d12_33 rfl ?_
      refine w_castore (q := 36) (z := (123 : Int32)) (i := 1) C (by decide) Vh201 rfl (own_ltb rfl) hge d12_35 rfl ?_
      intro h203 Wh203 Vh203
      have K204 := K202.wr Wh203 (Or.inl (List.mem_cons_self ..))
      refine w_iinc (q := 39) (L' := #[.val (.ref e0), .val (.int (1 : Int32)), .val (.int (2 : Int32)), .val (.int p0), .val (.int p1), .val (.int n0c), .val (.int n1c), .val (.int n2c), .val (.int (2 : Int32))]) C rfl (by decide) rfl d12_36 rfl ?_
      refine w_aloadN (q := 40) C rfl rfl d12_39 rfl ?_
      refine w_iload (q := 42) C rfl d12_40 rfl ?_
      refine w_iload (q := 44) C rfl d12_42 rfl ?_
      refine w_castore (q := 45) (z := n0c) (i := 2) C (own_nar hn0c.1 hn0c.2) Vh203 rfl (own_ltb rfl) hge d12_44 rfl ?_
      intro h205 Wh205 Vh205
      have K206 := K204.wr Wh205 (Or.inl (List.mem_cons_self ..))
      refine w_iinc (q := 48) (L' := #[.val (.ref e0), .val (.int (1 : Int32)), .val (.int (2 : Int32)), .val (.int p0), .val (.int p1), .val (.int n0c), .val (.int n1c), .val (.int n2c), .val (.int (3 : Int32))]) C rfl (by decide) rfl d12_45 rfl ?_
      refine w_iloadN (q := 49) C rfl d12_48 rfl ?_
      refine w_iconst (q := 50) (v := (2 : Int32)) C (by rfl) d12_49 rfl ?_
      refine w_icmp_lt_f (q := 53) C d12_50 rfl (by decide) ?_
      refine w_aloadN (q := 54) C rfl rfl d12_53 rfl ?_
      refine w_iload (q := 56) C rfl d12_54 rfl ?_
      refine w_iload (q := 58) C rfl d12_56 rfl ?_
      refine w_castore (q := 59) (z := n1c) (i := 3) C (own_nar hn1c.1 hn1c.2) Vh205 rfl (own_ltb rfl) hge d12_58 rfl ?_
      intro h207 Wh207 Vh207
      have K208 := K206.wr Wh207 (Or.inl (List.mem_cons_self ..))
      refine w_iinc (q := 62) (L' := #[.val (.ref e0), .val (.int (1 : Int32)), .val (.int (2 : Int32)), .val (.int p0), .val (.int p1), .val (.int n0c), .val (.int n1c), .val (.int n2c), .val (.int (4 : Int32))]) C rfl (by decide) rfl d12_59 rfl ?_
      refine w_iloadN (q := 63) C rfl d12_62 rfl ?_
      refine w_iconst (q := 64) (v := (3 : Int32)) C (by rfl) d12_63 rfl ?_
      refine w_icmp_lt_t (q := 76) C d12_64 (by decide) (by decide) (by decide) ?_
      refine w_aloadN (q := 77) C rfl rfl d12_76 rfl ?_
      refine w_iload (q := 79) C rfl d12_77 rfl ?_
      refine w_bipush (q := 81) (v := (125 : Int32)) C (by rfl) d12_79 rfl ?_
      refine w_castore (q := 82) (z := (125 : Int32)) (i := 4) C (by decide) Vh207 rfl (own_ltb rfl) hge d12_81 rfl ?_
      intro h209 Wh209 Vh209
      have K210 := K208.wr Wh209 (Or.inl (List.mem_cons_self ..))
      refine w_iinc (q := 85) (L' := #[.val (.ref e0), .val (.int (1 : Int32)), .val (.int (2 : Int32)), .val (.int p0), .val (.int p1), .val (.int n0c), .val (.int n1c), .val (.int n2c), .val (.int (5 : Int32))]) C rfl (by decide) rfl d12_82 rfl ?_
      refine w_iload (q := 87) C rfl d12_85 rfl ?_
      exact w_retI C rfl d12_87 (by decide) (by decide) ⟨K210, rfl, Vh209⟩
    · show AtW p l e _ s m _ below meth c n0 _ h0 0 0 (mkF m 0 #[.val (.ref e0), .val (.int (1 : Int32)), .val (.int (3 : Int32)), .val (.int p0), .val (.int p1), .val (.int n0c), .val (.int n1c), .val (.int n2c), .unset] [])
      refine w_iconst (q := 1) (v := (0 : Int32)) C (by rfl) d12_0 rfl ?_
      refine w_istore (q := 3) (L' := #[.val (.ref e0), .val (.int (1 : Int32)), .val (.int (3 : Int32)), .val (.int p0), .val (.int p1), .val (.int n0c), .val (.int n1c), .val (.int n2c), .val (.int (0 : Int32))]) C rfl d12_1 rfl ?_
      refine w_iloadN (q := 4) C rfl d12_3 rfl ?_
      refine w_iconst (q := 5) (v := (1 : Int32)) C (by rfl) d12_4 rfl ?_
      refine w_icmp_lt_f (q := 8) C d12_5 rfl (by decide) ?_
      refine w_aloadN (q := 9) C rfl rfl d12_8 rfl ?_
      refine w_iload (q := 11) C rfl d12_9 rfl ?_
      refine w_iloadN (q := 12) C rfl d12_11 rfl ?_
      refine w_castore (q := 13) (z := p0) (i := 0) C (own_nar hp0.1 hp0.2) V rfl (own_ltb rfl) hge d12_12 rfl ?_
      intro h211 Wh211 Vh211
      have K212 := (Keep.refl h0 [e0]).wr Wh211 (Or.inl (List.mem_cons_self ..))
      refine w_iinc (q := 16) (L' := #[.val (.ref e0), .val (.int (1 : Int32)), .val (.int (3 : Int32)), .val (.int p0), .val (.int p1), .val (.int n0c), .val (.int n1c), .val (.int n2c), .val (.int (1 : Int32))]) C rfl (by decide) rfl d12_13 rfl ?_
      refine w_iloadN (q := 17) C rfl d12_16 rfl ?_
      refine w_iconst (q := 18) (v := (2 : Int32)) C (by rfl) d12_17 rfl ?_
      refine w_icmp_lt_t (q := 30) C d12_18 (by decide) (by decide) (by decide) ?_
      refine w_aloadN (q := 31) C rfl rfl d12_30 rfl ?_
      refine w_iload (q := 33) C rfl d12_31 rfl ?_
      refine w_bipush (q := 35) (v := (123 : Int32)) C (by rfl) d12_33 rfl ?_
      refine w_castore (q := 36) (z := (123 : Int32)) (i := 1) C (by decide) Vh211 rfl (own_ltb rfl) hge d12_35 rfl ?_
      intro h213 Wh213 Vh213
      have K214 := K212.wr Wh213 (Or.inl (List.mem_cons_self ..))
      refine w_iinc (q := 39) (L' := #[.val (.ref e0), .val (.int (1 : Int32)), .val (.int (3 : Int32)), .val (.int p0), .val (.int p1), .val (.int n0c), .val (.int n1c), .val (.int n2c), .val (.int (2 : Int32))]) C rfl (by decide) rfl d12_36 rfl ?_
      refine w_aloadN (q := 40) C rfl rfl d12_39 rfl ?_
      refine w_iload (q := 42) C rfl d12_40 rfl ?_
      refine w_iload (q := 44) C rfl d12_42 rfl ?_
      refine w_castore (q := 45) (z := n0c) (i := 2) C (own_nar hn0c.1 hn0c.2) Vh213 rfl (own_ltb rfl) hge d12_44 rfl ?_
      intro h215 Wh215 Vh215
      have K216 := K214.wr Wh215 (Or.inl (List.mem_cons_self ..))
      refine w_iinc (q := 48) (L' := #[.val (.ref e0), .val (.int (1 : Int32)), .val (.int (3 : Int32)), .val (.int p0), .val (.int p1), .val (.int n0c), .val (.int n1c), .val (.int n2c), .val (.int (3 : Int32))]) C rfl (by decide) rfl d12_45 rfl ?_
      refine w_iloadN (q := 49) C rfl d12_48 rfl ?_
      refine w_iconst (q := 50) (v := (2 : Int32)) C (by rfl) d12_49 rfl ?_
      refine w_icmp_lt_f (q := 53) C d12_50 rfl (by decide) ?_
      refine w_aloadN (q := 54) C rfl rfl d12_53 rfl ?_
      refine w_iload (q := 56) C rfl d12_54 rfl ?_
      refine w_iload (q := 58) C rfl d12_56 rfl ?_
      refine w_castore (q := 59) (z := n1c) (i := 3) C (own_nar hn1c.1 hn1c.2) Vh215 rfl (own_ltb rfl) hge d12_58 rfl ?_
      intro h217 Wh217 Vh217
      have K218 := K216.wr Wh217 (Or.inl (List.mem_cons_self ..))
      refine w_iinc (q := 62) (L' := #[.val (.ref e0), .val (.int (1 : Int32)), .val (.int (3 : Int32)), .val (.int p0), .val (.int p1), .val (.int n0c), .val (.int n1c), .val (.int n2c), .val (.int (4 : Int32))]) C rfl (by decide) rfl d12_59 rfl ?_
      refine w_iloadN (q := 63) C rfl d12_62 rfl ?_
      refine w_iconst (q := 64) (v := (3 : Int32)) C (by rfl) d12_63 rfl ?_
      refine w_icmp_lt_f (q := 67) C d12_64 rfl (by decide) ?_
      refine w_aloadN (q := 68) C rfl rfl d12_67 rfl ?_
      refine w_iload (q := 70) C rfl d12_68 rfl ?_
      refine w_iload (q := 72) C rfl d12_70 rfl ?_
      refine w_castore (q := 73) (z := n2c) (i := 4) C (own_nar hn2c.1 hn2c.2) Vh217 rfl (own_ltb rfl) hge d12_72 rfl ?_
      intro h219 Wh219 Vh219
      have K220 := K218.wr Wh219 (Or.inl (List.mem_cons_self ..))
      refine w_iinc (q := 76) (L' := #[.val (.ref e0), .val (.int (1 : Int32)), .val (.int (3 : Int32)), .val (.int p0), .val (.int p1), .val (.int n0c), .val (.int n1c), .val (.int n2c), .val (.int (5 : Int32))]) C rfl (by decide) rfl d12_73 rfl ?_
      refine w_aloadN (q := 77) C rfl rfl d12_76 rfl ?_
      refine w_iload (q := 79) C rfl d12_77 rfl ?_
      refine w_bipush (q := 81) (v := (125 : Int32)) C (by rfl) d12_79 rfl ?_
      refine w_castore (q := 82) (z := (125 : Int32)) (i := 5) C (by decide) Vh219 rfl (own_ltb rfl) hge d12_81 rfl ?_
      intro h221 Wh221 Vh221
      have K222 := K220.wr Wh221 (Or.inl (List.mem_cons_self ..))
      refine w_iinc (q := 85) (L' := #[.val (.ref e0), .val (.int (1 : Int32)), .val (.int (3 : Int32)), .val (.int p0), .val (.int p1), .val (.int n0c), .val (.int n1c), .val (.int n2c), .val (.int (6 : Int32))]) C rfl (by decide) rfl d12_82 rfl ?_
      refine w_iload (q := 87) C rfl d12_85 rfl ?_
      exact w_retI C rfl d12_87 (by decide) (by decide) ⟨K222, rfl, Vh221⟩
    · exact absurd hj (by omega)
  · rcases j with _ | _ | _ | j
    · show AtW p l e _ s m _ below meth c n0 _ h0 0 0 (mkF m 0 #[.val (.ref e0), .val (.int (2 : Int32)), .val (.int (1 : Int32)), .val (.int p0), .val (.int p1), .val (.int n0c), .val (.int n1c), .val (.int n2c), .unset] [])
      refine w_iconst (q := 1) (v := (0 : Int32)) C (by rfl) d12_0 rfl ?_
      refine w_istore (q := 3) (L' := #[.val (.ref e0), .val (.int (2 : Int32)), .val (.int (1 : Int32)), .val (.int p0), .val (.int p1), .val (.int n0c), .val (.int n1c), .val (.int n2c), .val (.int (0 : Int32))]) C rfl d12_1 rfl ?_
      refine w_iloadN (q := 4) C rfl d12_3 rfl ?_
      refine w_iconst (q := 5) (v := (1 : Int32)) C (by rfl) d12_4 rfl ?_
      refine w_icmp_lt_f (q := 8) C d12_5 rfl (by decide) ?_
      refine w_aloadN (q := 9) C rfl rfl d12_8 rfl ?_
      refine w_iload (q := 11) C rfl d12_9 rfl ?_
      refine w_iloadN (q := 12) C rfl d12_11 rfl ?_
      refine w_castore (q := 13) (z := p0) (i := 0) C (own_nar hp0.1 hp0.2) V rfl (own_ltb rfl) hge d12_12 rfl ?_
      intro h223 Wh223 Vh223
      have K224 := (Keep.refl h0 [e0]).wr Wh223 (Or.inl (List.mem_cons_self ..))
      refine w_iinc (q := 16) (L' := #[.val (.ref e0), .val (.int (2 : Int32)), .val (.int (1 : Int32)), .val (.int p0), .val (.int p1), .val (.int n0c), .val (.int n1c), .val (.int n2c), .val (.int (1 : Int32))]) C rfl (by decide) rfl d12_13 rfl ?_
      refine w_iloadN (q := 17) C rfl d12_16 rfl ?_
      refine w_iconst (q := 18) (v := (2 : Int32)) C (by rfl) d12_17 rfl ?_
      refine w_icmp_lt_f (q := 21) C d12_18 rfl (by decide) ?_
      refine w_aloadN (q := 22) C rfl rfl d12_21 rfl ?_
      refine w_iload (q := 24) C rfl d12_22 rfl ?_
      refine w_iload (q := 26) C rfl d12_24 rfl ?_
      refine w_castore (q := 27) (z := p1) (i := 1) C (own_nar hp1.1 hp1.2) Vh223 rfl (own_ltb rfl) hge d12_26 rfl ?_
      intro h225 Wh225 Vh225
      have K226 := K224.wr Wh225 (Or.inl (List.mem_cons_self ..))
      refine w_iinc (q := 30) (L' := #[.val (.ref e0), .val (.int (2 : Int32)), .val (.int (1 : Int32)), .val (.int p0), .val (.int p1), .val (.int n0c), .val (.int n1c), .val (.int n2c), .val (.int (2 : Int32))]) C rfl (by decide) rfl d12_27 rfl ?_
      refine w_aloadN (q := 31) C rfl rfl d12_30 rfl ?_
      refine w_iload (q := 33) C rfl d12_31 rfl ?_
      refine w_bipush (q := 35) (v := (123 : Int32)) C (by rfl) d12_33 rfl ?_
      refine w_castore (q := 36) (z := (123 : Int32)) (i := 2) C (by decide) Vh225 rfl (own_ltb rfl) hge d12_35 rfl ?_
      intro h227 Wh227 Vh227
      have K228 := K226.wr Wh227 (Or.inl (List.mem_cons_self ..))
      refine w_iinc (q := 39) (L' := #[.val (.ref e0), .val (.int (2 : Int32)), .val (.int (1 : Int32)), .val (.int p0), .val (.int p1), .val (.int n0c), .val (.int n1c), .val (.int n2c), .val (.int (3 : Int32))]) C rfl (by decide) rfl d12_36 rfl ?_
      refine w_aloadN (q := 40) C rfl rfl d12_39 rfl ?_
      refine w_iload (q := 42) C rfl d12_40 rfl ?_
      refine w_iload (q := 44) C rfl d12_42 rfl ?_
      refine w_castore (q := 45) (z := n0c) (i := 3) C (own_nar hn0c.1 hn0c.2) Vh227 rfl (own_ltb rfl) hge d12_44 rfl ?_
      intro h229 Wh229 Vh229
      have K230 := K228.wr Wh229 (Or.inl (List.mem_cons_self ..))
      refine w_iinc (q := 48) (L' := #[.val (.ref e0), .val (.int (2 : Int32)), .val (.int (1 : Int32)), .val (.int p0), .val (.int p1), .val (.int n0c), .val (.int n1c), .val (.int n2c), .val (.int (4 : Int32))]) C rfl (by decide) rfl d12_45 rfl ?_
      refine w_iloadN (q := 49) C rfl d12_48 rfl ?_
      refine w_iconst (q := 50) (v := (2 : Int32)) C (by rfl) d12_49 rfl ?_
      refine w_icmp_lt_t (q := 62) C d12_50 (by decide) (by decide) (by decide) ?_
      refine w_iloadN (q := 63) C rfl d12_62 rfl ?_
      refine w_iconst (q := 64) (v := (3 : Int32)) C (by rfl) d12_63 rfl ?_
      refine w_icmp_lt_t (q := 76) C d12_64 (by decide) (by decide) (by decide) ?_
      refine w_aloadN (q := 77) C rfl rfl d12_76 rfl ?_
      refine w_iload (q := 79) C rfl d12_77 rfl ?_
      refine w_bipush (q := 81) (v := (125 : Int32)) C (by rfl) d12_79 rfl ?_
      refine w_castore (q := 82) (z := (125 : Int32)) (i := 4) C (by decide) Vh229 rfl (own_ltb rfl) hge d12_81 rfl ?_
      intro h231 Wh231 Vh231
      have K232 := K230.wr Wh231 (Or.inl (List.mem_cons_self ..))
      refine w_iinc (q := 85) (L' := #[.val (.ref e0), .val (.int (2 : Int32)), .val (.int (1 : Int32)), .val (.int p0), .val (.int p1), .val (.int n0c), .val (.int n1c), .val (.int n2c), .val (.int (5 : Int32))]) C rfl (by decide) rfl d12_82 rfl ?_
      refine w_iload (q := 87) C rfl d12_85 rfl ?_
      exact w_retI C rfl d12_87 (by decide) (by decide) ⟨K232, rfl, Vh231⟩
    · show AtW p l e _ s m _ below meth c n0 _ h0 0 0 (mkF m 0 #[.val (.ref e0), .val (.int (2 : Int32)), .val (.int (2 : Int32)), .val (.int p0), .val (.int p1), .val (.int n0c), .val (.int n1c), .val (.int n2c), .unset] [])
      refine w_iconst (q := 1) (v := (0 : Int32)) C (by rfl) d12_0 rfl ?_
      refine w_istore (q := 3) (L' := #[.val (.ref e0), .val (.int (2 : Int32)), .val (.int (2 : Int32)), .val (.int p0), .val (.int p1), .val (.int n0c), .val (.int n1c), .val (.int n2c), .val (.int (0 : Int32))]) C rfl d12_1 rfl ?_
      refine w_iloadN (q := 4) C rfl d12_3 rfl ?_
      refine w_iconst (q := 5) (v := (1 : Int32)) C (by rfl) d12_4 rfl ?_
      refine w_icmp_lt_f (q := 8) C d12_5 rfl (by decide) ?_
      refine w_aloadN (q := 9) C rfl rfl d12_8 rfl ?_
      refine w_iload (q := 11) C rfl d12_9 rfl ?_
      refine w_iloadN (q := 12) C rfl d12_11 rfl ?_
      refine w_castore (q := 13) (z := p0) (i := 0) C (own_nar hp0.1 hp0.2) V rfl (own_ltb rfl) hge d12_12 rfl ?_
      intro h233 Wh233 Vh233
      have K234 := (Keep.refl h0 [e0]).wr Wh233 (Or.inl (List.mem_cons_self ..))
      refine w_iinc (q := 16) (L' := #[.val (.ref e0), .val (.int (2 : Int32)), .val (.int (2 : Int32)), .val (.int p0), .val (.int p1), .val (.int n0c), .val (.int n1c), .val (.int n2c), .val (.int (1 : Int32))]) C rfl (by decide) rfl d12_13 rfl ?_
      refine w_iloadN (q := 17) C rfl d12_16 rfl ?_
      refine w_iconst (q := 18) (v := (2 : Int32)) C (by rfl) d12_17 rfl ?_
      refine w_icmp_lt_f (q := 21) C d12_18 rfl (by decide) ?_
      refine w_aloadN (q := 22) C rfl rfl d12_21 rfl ?_
      refine w_iload (q := 24) C rfl d12_22 rfl ?_
      refine w_iload (q := 26) C rfl d12_24 rfl ?_
      refine w_castore (q := 27) (z := p1) (i := 1) C (own_nar hp1.1 hp1.2) Vh233 rfl (own_ltb rfl) hge d12_26 rfl ?_
      intro h235 Wh235 Vh235
      have K236 := K234.wr Wh235 (Or.inl (List.mem_cons_self ..))
      refine w_iinc (q := 30) (L' := #[.val (.ref e0), .val (.int (2 : Int32)), .val (.int (2 : Int32)), .val (.int p0), .val (.int p1), .val (.int n0c), .val (.int n1c), .val (.int n2c), .val (.int (2 : Int32))]) C rfl (by decide) rfl d12_27 rfl ?_
      refine w_aloadN (q := 31) C rfl rfl d12_30 rfl ?_
      refine w_iload (q := 33) C rfl d12_31 rfl ?_
      refine w_bipush (q := 35) (v := (123 : Int32)) C (by rfl) d12_33 rfl ?_
      refine w_castore (q := 36) (z := (123 : Int32)) (i := 2) C (by decide) Vh235 rfl (own_ltb rfl) hge d12_35 rfl ?_
      intro h237 Wh237 Vh237
      have K238 := K236.wr Wh237 (Or.inl (List.mem_cons_self ..))
      refine w_iinc (q := 39) (L' := #[.val (.ref e0), .val (.int (2 : Int32)), .val (.int (2 : Int32)), .val (.int p0), .val (.int p1), .val (.int n0c), .val (.int n1c), .val (.int n2c), .val (.int (3 : Int32))]) C rfl (by decide) rfl d12_36 rfl ?_
      refine w_aloadN (q := 40) C rfl rfl d12_39 rfl ?_
      refine w_iload (q := 42) C rfl d12_40 rfl ?_
      refine w_iload (q := 44) C rfl d12_42 rfl ?_
      refine w_castore (q := 45) (z := n0c) (i := 3) C (own_nar hn0c.1 hn0c.2) Vh237 rfl (own_ltb rfl) hge d12_44 rfl ?_
      intro h239 Wh239 Vh239
      have K240 := K238.wr Wh239 (Or.inl (List.mem_cons_self ..))
      refine w_iinc (q := 48) (L' := #[.val (.ref e0), .val (.int (2 : Int32)), .val (.int (2 : Int32)), .val (.int p0), .val (.int p1), .val (.int n0c), .val (.int n1c), .val (.int n2c), .val (.int (4 : Int32))]) C rfl (by decide) rfl d12_45 rfl ?_
      refine w_iloadN (q := 49) C rfl d12_48 rfl ?_
      refine w_iconst (q := 50) (v := (2 : Int32)) C (by rfl) d12_49 rfl ?_
      refine w_icmp_lt_f (q := 53) C d12_50 rfl (by decide) ?_
      refine w_aloadN (q := 54) C rfl rfl d12_53 rfl ?_
      refine w_iload (q := 56) C rfl d12_54 rfl ?_
      refine w_iload (q := 58) C rfl d12_56 rfl ?_
      refine w_castore (q := 59) (z := n1c) (i := 4) C (own_nar hn1c.1 hn1c.2) Vh239 rfl (own_ltb rfl) hge d12_58 rfl ?_
      intro h241 Wh241 Vh241
      have K242 := K240.wr Wh241 (Or.inl (List.mem_cons_self ..))
      refine w_iinc (q := 62) (L' := #[.val (.ref e0), .val (.int (2 : Int32)), .val (.int (2 : Int32)), .val (.int p0), .val (.int p1), .val (.int n0c), .val (.int n1c), .val (.int n2c), .val (.int (5 : Int32))]) C rfl (by decide) rfl d12_59 rfl ?_
      refine w_iloadN (q := 63) C rfl d12_62 rfl ?_
      refine w_iconst (q := 64) (v := (3 : Int32)) C (by rfl) d12_63 rfl ?_
      refine w_icmp_lt_t (q := 76) C d12_64 (by decide) (by decide) (by decide) ?_
      refine w_aloadN (q := 77) C rfl rfl d12_76 rfl ?_
      refine w_iload (q := 79) C rfl d12_77 rfl ?_
      refine w_bipush (q := 81) (v := (125 : Int32)) C (by rfl) d12_79 rfl ?_
      refine w_castore (q := 82) (z := (125 : Int32)) (i := 5) C (by decide) Vh241 rfl (own_ltb rfl) hge d12_81 rfl ?_
      intro h243 Wh243 Vh243
      have K244 := K242.wr Wh243 (Or.inl (List.mem_cons_self ..))
      refine w_iinc (q := 85) (L' := #[.val (.ref e0), .val (.int (2 : Int32)), .val (.int (2 : Int32)), .val (.int p0), .val (.int p1), .val (.int n0c), .val (.int n1c), .val (.int n2c), .val (.int (6 : Int32))]) C rfl (by decide) rfl d12_82 rfl ?_
      refine w_iload (q := 87) C rfl d12_85 rfl ?_
      exact w_retI C rfl d12_87 (by decide) (by decide) ⟨K244, rfl, Vh243⟩
    · show AtW p l e _ s m _ below meth c n0 _ h0 0 0 (mkF m 0 #[.val (.ref e0), .val (.int (2 : Int32)), .val (.int (3 : Int32)), .val (.int p0), .val (.int p1), .val (.int n0c), .val (.int n1c), .val (.int n2c), .unset] [])
      refine w_iconst (q := 1) (v := (0 : Int32)) C (by rfl) d12_0 rfl ?_
      refine w_istore (q := 3) (L' := #[.val (.ref e0), .val (.int (2 : Int32)), .val (.int (3 : Int32)), .val (.int p0), .val (.int p1), .val (.int n0c), .val (.int n1c), .val (.int n2c), .val (.int (0 : Int32))]) C rfl d12_1 rfl ?_
      refine w_iloadN (q := 4) C rfl d12_3 rfl ?_
      refine w_iconst (q := 5) (v := (1 : Int32)) C (by rfl) d12_4 rfl ?_
      refine w_icmp_lt_f (q := 8) C d12_5 rfl (by decide) ?_
      refine w_aloadN (q := 9) C rfl rfl d12_8 rfl ?_
      refine w_iload (q := 11) C rfl d12_9 rfl ?_
      refine w_iloadN (q := 12) C rfl d12_11 rfl ?_
      refine w_castore (q := 13) (z := p0) (i := 0) C (own_nar hp0.1 hp0.2) V rfl (own_ltb rfl) hge d12_12 rfl ?_
      intro h245 Wh245 Vh245
      have K246 := (Keep.refl h0 [e0]).wr Wh245 (Or.inl (List.mem_cons_self ..))
      refine w_iinc (q := 16) (L' := #[.val (.ref e0), .val (.int (2 : Int32)), .val (.int (3 : Int32)), .val (.int p0), .val (.int p1), .val (.int n0c), .val (.int n1c), .val (.int n2c), .val (.int (1 : Int32))]) C rfl (by decide) rfl d12_13 rfl ?_
      refine w_iloadN (q := 17) C rfl d12_16 rfl ?_
      refine w_iconst (q := 18) (v := (2 : Int32)) C (by rfl) d12_17 rfl ?_
      refine w_icmp_lt_f (q := 21) C d12_18 rfl (by decide) ?_
      refine w_aloadN (q := 22) C rfl rfl d12_21 rfl ?_
      refine w_iload (q := 24) C rfl d12_22 rfl ?_
      refine w_iload (q := 26) C rfl d12_24 rfl ?_
      refine w_castore (q := 27) (z := p1) (i := 1) C (own_nar hp1.1 hp1.2) Vh245 rfl (own_ltb rfl) hge d12_26 rfl ?_
      intro h247 Wh247 Vh247
      have K248 := K246.wr Wh247 (Or.inl (List.mem_cons_self ..))
      refine w_iinc (q := 30) (L' := #[.val (.ref e0), .val (.int (2 : Int32)), .val (.int (3 : Int32)), .val (.int p0), .val (.int p1), .val (.int n0c), .val (.int n1c), .val (.int n2c), .val (.int (2 : Int32))]) C rfl (by decide) rfl d12_27 rfl ?_
      refine w_aloadN (q := 31) C rfl rfl d12_30 rfl ?_
      refine w_iload (q := 33) C rfl d12_31 rfl ?_
      refine w_bipush (q := 35) (v := (123 : Int32)) C (by rfl) d12_33 rfl ?_
      refine w_castore (q := 36) (z := (123 : Int32)) (i := 2) C (by decide) Vh247 rfl (own_ltb rfl) hge d12_35 rfl ?_
      intro h249 Wh249 Vh249
      have K250 := K248.wr Wh249 (Or.inl (List.mem_cons_self ..))
      refine w_iinc (q := 39) (L' := #[.val (.ref e0), .val (.int (2 : Int32)), .val (.int (3 : Int32)), .val (.int p0), .val (.int p1), .val (.int n0c), .val (.int n1c), .val (.int n2c), .val (.int (3 : Int32))]) C rfl (by decide) rfl d12_36 rfl ?_
      refine w_aloadN (q := 40) C rfl rfl d12_39 rfl ?_
      refine w_iload (q := 42) C rfl d12_40 rfl ?_
      refine w_iload (q := 44) C rfl d12_42 rfl ?_
      refine w_castore (q := 45) (z := n0c) (i := 3) C (own_nar hn0c.1 hn0c.2) Vh249 rfl (own_ltb rfl) hge d12_44 rfl ?_
      intro h251 Wh251 Vh251
      have K252 := K250.wr Wh251 (Or.inl (List.mem_cons_self ..))
      refine w_iinc (q := 48) (L' := #[.val (.ref e0), .val (.int (2 : Int32)), .val (.int (3 : Int32)), .val (.int p0), .val (.int p1), .val (.int n0c), .val (.int n1c), .val (.int n2c), .val (.int (4 : Int32))]) C rfl (by decide) rfl d12_45 rfl ?_
      refine w_iloadN (q := 49) C rfl d12_48 rfl ?_
      refine w_iconst (q := 50) (v := (2 : Int32)) C (by rfl) d12_49 rfl ?_
      refine w_icmp_lt_f (q := 53) C d12_50 rfl (by decide) ?_
      refine w_aloadN (q := 54) C rfl rfl d12_53 rfl ?_
      refine w_iload (q := 56) C rfl d12_54 rfl ?_
      refine w_iload (q := 58) C rfl d12_56 rfl ?_
      refine w_castore (q := 59) (z := n1c) (i := 4) C (own_nar hn1c.1 hn1c.2) Vh251 rfl (own_ltb rfl) hge d12_58 rfl ?_
      intro h253 Wh253 Vh253
      have K254 := K252.wr Wh253 (Or.inl (List.mem_cons_self ..))
      refine w_iinc (q := 62) (L' := #[.val (.ref e0), .val (.int (2 : Int32)), .val (.int (3 : Int32)), .val (.int p0), .val (.int p1), .val (.int n0c), .val (.int n1c), .val (.int n2c), .val (.int (5 : Int32))]) C rfl (by decide) rfl d12_59 rfl ?_
      refine w_iloadN (q := 63) C rfl d12_62 rfl ?_
      refine w_iconst (q := 64) (v := (3 : Int32)) C (by rfl) d12_63 rfl ?_
      refine w_icmp_lt_f (q := 67) C d12_64 rfl (by decide) ?_
      refine w_aloadN (q := 68) C rfl rfl d12_67 rfl ?_
      refine w_iload (q := 70) C rfl d12_68 rfl ?_
      refine w_iload (q := 72) C rfl d12_70 rfl ?_
      refine w_castore (q := 73) (z := n2c) (i := 5) C (own_nar hn2c.1 hn2c.2) Vh253 rfl (own_ltb rfl) hge d12_72 rfl ?_
      intro h255 Wh255 Vh255
      have K256 := K254.wr Wh255 (Or.inl (List.mem_cons_self ..))
      refine w_iinc (q := 76) (L' := #[.val (.ref e0), .val (.int (2 : Int32)), .val (.int (3 : Int32)), .val (.int p0), .val (.int p1), .val (.int n0c), .val (.int n1c), .val (.int n2c), .val (.int (6 : Int32))]) C rfl (by decide) rfl d12_73 rfl ?_
      refine w_aloadN (q := 77) C rfl rfl d12_76 rfl ?_
      refine w_iload (q := 79) C rfl d12_77 rfl ?_
      refine w_bipush (q := 81) (v := (125 : Int32)) C (by rfl) d12_79 rfl ?_
      refine w_castore (q := 82) (z := (125 : Int32)) (i := 6) C (by decide) Vh255 rfl (own_ltb rfl) hge d12_81 rfl ?_
      intro h257 Wh257 Vh257
      have K258 := K256.wr Wh257 (Or.inl (List.mem_cons_self ..))
      refine w_iinc (q := 85) (L' := #[.val (.ref e0), .val (.int (2 : Int32)), .val (.int (3 : Int32)), .val (.int p0), .val (.int p1), .val (.int n0c), .val (.int n1c), .val (.int n2c), .val (.int (7 : Int32))]) C rfl (by decide) rfl d12_82 rfl ?_
      refine w_iload (q := 87) C rfl d12_85 rfl ?_
      exact w_retI C rfl d12_87 (by decide) (by decide) ⟨K258, rfl, Vh257⟩
    · exact absurd hj (by omega)
  · exact absurd hk (by omega)
theorem d50_0 : decode method_4_code 0 = .ok (.iload_n 3, 1) := by decide +kernel
theorem d50_1 : decode method_4_code 1 = .ok (.iload_n 2, 1) := by decide +kernel
theorem d50_2 : decode method_4_code 2 = .ok (.if_icmp .ge 14, 3) := by decide +kernel
theorem d50_5 : decode method_4_code 5 = .ok (.aload_n 0, 1) := by decide +kernel
theorem d50_6 : decode method_4_code 6 = .ok (.iload_n 3, 1) := by decide +kernel
theorem d50_7 : decode method_4_code 7 = .ok (.invokevirtual 7, 3) := by decide +kernel
theorem d50_10 : decode method_4_code 10 = .ok (.aload_n 1, 1) := by decide +kernel
theorem d50_11 : decode method_4_code 11 = .ok (.iload_n 3, 1) := by decide +kernel
theorem d50_12 : decode method_4_code 12 = .ok (.caload, 1) := by decide +kernel
theorem d50_13 : decode method_4_code 13 = .ok (.if_icmp .ne 7, 3) := by decide +kernel
theorem d50_16 : decode method_4_code 16 = .ok (.iconst 1, 1) := by decide +kernel
theorem d50_17 : decode method_4_code 17 = .ok (.goto 4, 3) := by decide +kernel
theorem d50_20 : decode method_4_code 20 = .ok (.iconst 0, 1) := by decide +kernel
theorem d50_21 : decode method_4_code 21 = .ok (.ireturn, 1) := by decide +kernel
theorem pf50 : plainFor (⟨"com/example/lease/lease/LockKeysOfPinLaw", "at", "(Ljava/lang/String;[CII)Z"⟩ : MethodName) = true := by first | exact plainFor_of_name (by first | (simp [plainName, overriddenIn]; done) | decide +kernel) | decide +kernel
theorem ef_atc (m : MethodId) (z0 : Addr) (z1 : Addr) (z2 : Int32) (z3 : Int32) : entryFrame m #[(.ref z0), (.ref z1), (.int z2), (.int z3)] 4 = mkF m 0 #[.val (.ref z0), .val (.ref z1), .val (.int z2), .val (.int z3)] [] := by first | rfl | (simp [entryFrame, mkF, argsToLocals, Value.category, *]; done) | rfl
set_option maxRecDepth 65536 in
set_option maxHeartbeats 40000000 in
theorem rm_atc {l : Launch} {Z : State} {a0 : Array Value} {n0 : Nat} (G : Gl Z a0 n0) {h0 : Heap} (O : Old Z n0 h0) (s0 : Addr) (e0 : Addr) (cs : List Int32) (rs : List Value) (i : Nat) (S : Str Z h0 s0 cs) (V : Ar Z h0 e0 .char (List.map Value.int cs ++ rs)) (hi : i < 16) :
    Ct [] l Z n0 (⟨"com/example/lease/lease/LockKeysOfPinLaw", "at", "(Ljava/lang/String;[CII)Z"⟩ : MethodName) method_4_code 4 (some .boolean) ({ frames := 4, cells := 0, slots := 0, locals := 53 } : Room) #[(.ref s0), (.ref e0), (.int (Int32.ofNat cs.length)), (.int (Int32.ofNat i))] h0 (fun v h => h = h0 ∧ v = some (.int 1)) := by
  refine Ct.intro pf50 ?_
  intro p e s m below meth c C
  refine AtW.cast ?_ (ef_atc m s0 e0 (Int32.ofNat cs.length) (Int32.ofNat i))
  have hl := S.len
  refine w_iloadN (q := 1) C rfl d50_0 rfl ?_
  refine w_iloadN (q := 2) C rfl d50_1 rfl ?_
  by_cases q1 : (Int32.ofNat i) < (Int32.ofNat cs.length)
  · refine w_icmp_ge_f (q := 5) C d50_2 rfl q1 ?_
    rw [own_nlt (by omega) hl] at q1
    obtain ⟨c1, e1⟩ : ∃ c, cs[i]? = some c := ⟨_, List.getElem?_eq_getElem q1⟩
    refine w_aloadN (q := 6) C rfl rfl d50_5 rfl ?_
    refine w_iloadN (q := 7) C rfl d50_6 rfl ?_
    refine w_callV (q := 10) (argsL := [(.int (Int32.ofNat i))]) (S := []) (W := 0) (cells' := 0) (slots' := 0) (a := s0) C S.1 (G.1 _ (List.mem_of_getElem? (i := 247) rfl)) (G.1 _ (List.mem_of_getElem? (i := 248) rfl)) (w_nf C (G.1 _ (List.mem_of_getElem? (i := 250) rfl))) (G.1 _ (List.mem_of_getElem? (i := 250) rfl)) (G.1 _ (List.mem_of_getElem? (i := 249) rfl)) (G.1 _ (List.mem_of_getElem? (i := 6) rfl)) (G.1 _ (List.mem_of_getElem? (i := 251) rfl)) (by decide) (rm_charAt G O s0 cs i c1 S e1) rfl (lenOf pd_1 rfl) rfl (by decide) (own_leb rfl) (by decide) rfl rfl (by decide) (by decide) d50_7 rfl ?_
    rintro _ h259 ⟨eh260, rfl⟩
    rw [eh260]
    show AtW p l e _ s m _ below meth c n0 _ h0 0 0 (mkF m 10 #[.val (.ref s0), .val (.ref e0), .val (.int (Int32.ofNat cs.length)), .val (.int (Int32.ofNat i))] [(.int c1)])
    refine w_aloadN (q := 11) C rfl rfl d50_10 rfl ?_
    refine w_iloadN (q := 12) C rfl d50_11 rfl ?_
    refine w_caload (q := 13) (i := i) (v := (.int c1)) C V rfl (by rw [List.getElem?_append_left (by rw [List.length_map]; exact q1), List.getElem?_map, e1]; rfl) d50_12 rfl ?_
    refine w_icmp_ne_f (q := 16) C d50_13 rfl rfl ?_
    refine w_iconst (q := 17) (v := (1 : Int32)) C (by rfl) d50_16 rfl ?_
    refine w_goto (q := 21) C d50_17 (by decide) (by decide) ?_
    exact w_retZ (z := (1 : Int32)) C (t := .boolean) rfl (by simp) (by decide) d50_21 (by decide) (by decide) ⟨rfl, rfl⟩
  · refine w_icmp_ge_t (q := 16) C d50_2 (by decide) (by decide) q1 ?_
    refine w_iconst (q := 17) (v := (1 : Int32)) C (by rfl) d50_16 rfl ?_
    refine w_goto (q := 21) C d50_17 (by decide) (by decide) ?_
    exact w_retZ (z := (1 : Int32)) C (t := .boolean) rfl (by simp) (by decide) d50_21 (by decide) (by decide) ⟨rfl, rfl⟩
theorem d49_0 : decode method_5_code 0 = .ok (.aload_n 0, 1) := by decide +kernel
theorem d49_1 : decode method_5_code 1 = .ok (.ifnull 11, 3) := by decide +kernel
theorem d49_4 : decode method_5_code 4 = .ok (.aload_n 0, 1) := by decide +kernel
theorem d49_5 : decode method_5_code 5 = .ok (.invokevirtual 13, 3) := by decide +kernel
theorem d49_8 : decode method_5_code 8 = .ok (.iload_n 2, 1) := by decide +kernel
theorem d49_9 : decode method_5_code 9 = .ok (.if_icmp .eq 5, 3) := by decide +kernel
theorem d49_12 : decode method_5_code 12 = .ok (.iconst 0, 1) := by decide +kernel
theorem d49_13 : decode method_5_code 13 = .ok (.ireturn, 1) := by decide +kernel
theorem d49_14 : decode method_5_code 14 = .ok (.aload_n 0, 1) := by decide +kernel
theorem d49_15 : decode method_5_code 15 = .ok (.aload_n 1, 1) := by decide +kernel
theorem d49_16 : decode method_5_code 16 = .ok (.iload_n 2, 1) := by decide +kernel
theorem d49_17 : decode method_5_code 17 = .ok (.iconst 0, 1) := by decide +kernel
theorem d49_18 : decode method_5_code 18 = .ok (.invokestatic 17, 3) := by decide +kernel
theorem d49_21 : decode method_5_code 21 = .ok (.ifCond .eq 167, 3) := by decide +kernel
theorem d49_24 : decode method_5_code 24 = .ok (.aload_n 0, 1) := by decide +kernel
theorem d49_25 : decode method_5_code 25 = .ok (.aload_n 1, 1) := by decide +kernel
theorem d49_26 : decode method_5_code 26 = .ok (.iload_n 2, 1) := by decide +kernel
theorem d49_27 : decode method_5_code 27 = .ok (.iconst 1, 1) := by decide +kernel
theorem d49_28 : decode method_5_code 28 = .ok (.invokestatic 17, 3) := by decide +kernel
theorem d49_31 : decode method_5_code 31 = .ok (.ifCond .eq 157, 3) := by decide +kernel
theorem d49_34 : decode method_5_code 34 = .ok (.aload_n 0, 1) := by decide +kernel
theorem d49_35 : decode method_5_code 35 = .ok (.aload_n 1, 1) := by decide +kernel
theorem d49_36 : decode method_5_code 36 = .ok (.iload_n 2, 1) := by decide +kernel
theorem d49_37 : decode method_5_code 37 = .ok (.iconst 2, 1) := by decide +kernel
theorem d49_38 : decode method_5_code 38 = .ok (.invokestatic 17, 3) := by decide +kernel
theorem d49_41 : decode method_5_code 41 = .ok (.ifCond .eq 147, 3) := by decide +kernel
theorem d49_44 : decode method_5_code 44 = .ok (.aload_n 0, 1) := by decide +kernel
theorem d49_45 : decode method_5_code 45 = .ok (.aload_n 1, 1) := by decide +kernel
theorem d49_46 : decode method_5_code 46 = .ok (.iload_n 2, 1) := by decide +kernel
theorem d49_47 : decode method_5_code 47 = .ok (.iconst 3, 1) := by decide +kernel
theorem d49_48 : decode method_5_code 48 = .ok (.invokestatic 17, 3) := by decide +kernel
theorem d49_51 : decode method_5_code 51 = .ok (.ifCond .eq 137, 3) := by decide +kernel
theorem d49_54 : decode method_5_code 54 = .ok (.aload_n 0, 1) := by decide +kernel
theorem d49_55 : decode method_5_code 55 = .ok (.aload_n 1, 1) := by decide +kernel
theorem d49_56 : decode method_5_code 56 = .ok (.iload_n 2, 1) := by decide +kernel
theorem d49_57 : decode method_5_code 57 = .ok (.iconst 4, 1) := by decide +kernel
theorem d49_58 : decode method_5_code 58 = .ok (.invokestatic 17, 3) := by decide +kernel
theorem d49_61 : decode method_5_code 61 = .ok (.ifCond .eq 127, 3) := by decide +kernel
theorem d49_64 : decode method_5_code 64 = .ok (.aload_n 0, 1) := by decide +kernel
theorem d49_65 : decode method_5_code 65 = .ok (.aload_n 1, 1) := by decide +kernel
theorem d49_66 : decode method_5_code 66 = .ok (.iload_n 2, 1) := by decide +kernel
theorem d49_67 : decode method_5_code 67 = .ok (.iconst 5, 1) := by decide +kernel
theorem d49_68 : decode method_5_code 68 = .ok (.invokestatic 17, 3) := by decide +kernel
theorem d49_71 : decode method_5_code 71 = .ok (.ifCond .eq 117, 3) := by decide +kernel
theorem d49_74 : decode method_5_code 74 = .ok (.aload_n 0, 1) := by decide +kernel
theorem d49_75 : decode method_5_code 75 = .ok (.aload_n 1, 1) := by decide +kernel
theorem d49_76 : decode method_5_code 76 = .ok (.iload_n 2, 1) := by decide +kernel
theorem d49_77 : decode method_5_code 77 = .ok (.bipush 6, 2) := by decide +kernel
theorem d49_79 : decode method_5_code 79 = .ok (.invokestatic 17, 3) := by decide +kernel
theorem d49_82 : decode method_5_code 82 = .ok (.ifCond .eq 106, 3) := by decide +kernel
theorem d49_85 : decode method_5_code 85 = .ok (.aload_n 0, 1) := by decide +kernel
theorem d49_86 : decode method_5_code 86 = .ok (.aload_n 1, 1) := by decide +kernel
theorem d49_87 : decode method_5_code 87 = .ok (.iload_n 2, 1) := by decide +kernel
theorem d49_88 : decode method_5_code 88 = .ok (.bipush 7, 2) := by decide +kernel
theorem d49_90 : decode method_5_code 90 = .ok (.invokestatic 17, 3) := by decide +kernel
theorem d49_93 : decode method_5_code 93 = .ok (.ifCond .eq 95, 3) := by decide +kernel
theorem d49_96 : decode method_5_code 96 = .ok (.aload_n 0, 1) := by decide +kernel
theorem d49_97 : decode method_5_code 97 = .ok (.aload_n 1, 1) := by decide +kernel
theorem d49_98 : decode method_5_code 98 = .ok (.iload_n 2, 1) := by decide +kernel
theorem d49_99 : decode method_5_code 99 = .ok (.bipush 8, 2) := by decide +kernel
theorem d49_101 : decode method_5_code 101 = .ok (.invokestatic 17, 3) := by decide +kernel
theorem d49_104 : decode method_5_code 104 = .ok (.ifCond .eq 84, 3) := by decide +kernel
theorem d49_107 : decode method_5_code 107 = .ok (.aload_n 0, 1) := by decide +kernel
theorem d49_108 : decode method_5_code 108 = .ok (.aload_n 1, 1) := by decide +kernel
theorem d49_109 : decode method_5_code 109 = .ok (.iload_n 2, 1) := by decide +kernel
theorem d49_110 : decode method_5_code 110 = .ok (.bipush 9, 2) := by decide +kernel
theorem d49_112 : decode method_5_code 112 = .ok (.invokestatic 17, 3) := by decide +kernel
theorem d49_115 : decode method_5_code 115 = .ok (.ifCond .eq 73, 3) := by decide +kernel
theorem d49_118 : decode method_5_code 118 = .ok (.aload_n 0, 1) := by decide +kernel
theorem d49_119 : decode method_5_code 119 = .ok (.aload_n 1, 1) := by decide +kernel
theorem d49_120 : decode method_5_code 120 = .ok (.iload_n 2, 1) := by decide +kernel
theorem d49_121 : decode method_5_code 121 = .ok (.bipush 10, 2) := by decide +kernel
theorem d49_123 : decode method_5_code 123 = .ok (.invokestatic 17, 3) := by decide +kernel
theorem d49_126 : decode method_5_code 126 = .ok (.ifCond .eq 62, 3) := by decide +kernel
theorem d49_129 : decode method_5_code 129 = .ok (.aload_n 0, 1) := by decide +kernel
theorem d49_130 : decode method_5_code 130 = .ok (.aload_n 1, 1) := by decide +kernel
theorem d49_131 : decode method_5_code 131 = .ok (.iload_n 2, 1) := by decide +kernel
theorem d49_132 : decode method_5_code 132 = .ok (.bipush 11, 2) := by decide +kernel
theorem d49_134 : decode method_5_code 134 = .ok (.invokestatic 17, 3) := by decide +kernel
theorem d49_137 : decode method_5_code 137 = .ok (.ifCond .eq 51, 3) := by decide +kernel
theorem d49_140 : decode method_5_code 140 = .ok (.aload_n 0, 1) := by decide +kernel
theorem d49_141 : decode method_5_code 141 = .ok (.aload_n 1, 1) := by decide +kernel
theorem d49_142 : decode method_5_code 142 = .ok (.iload_n 2, 1) := by decide +kernel
theorem d49_143 : decode method_5_code 143 = .ok (.bipush 12, 2) := by decide +kernel
theorem d49_145 : decode method_5_code 145 = .ok (.invokestatic 17, 3) := by decide +kernel
theorem d49_148 : decode method_5_code 148 = .ok (.ifCond .eq 40, 3) := by decide +kernel
theorem d49_151 : decode method_5_code 151 = .ok (.aload_n 0, 1) := by decide +kernel
theorem d49_152 : decode method_5_code 152 = .ok (.aload_n 1, 1) := by decide +kernel
theorem d49_153 : decode method_5_code 153 = .ok (.iload_n 2, 1) := by decide +kernel
theorem d49_154 : decode method_5_code 154 = .ok (.bipush 13, 2) := by decide +kernel
theorem d49_156 : decode method_5_code 156 = .ok (.invokestatic 17, 3) := by decide +kernel
theorem d49_159 : decode method_5_code 159 = .ok (.ifCond .eq 29, 3) := by decide +kernel
theorem d49_162 : decode method_5_code 162 = .ok (.aload_n 0, 1) := by decide +kernel
theorem d49_163 : decode method_5_code 163 = .ok (.aload_n 1, 1) := by decide +kernel
theorem d49_164 : decode method_5_code 164 = .ok (.iload_n 2, 1) := by decide +kernel
theorem d49_165 : decode method_5_code 165 = .ok (.bipush 14, 2) := by decide +kernel
theorem d49_167 : decode method_5_code 167 = .ok (.invokestatic 17, 3) := by decide +kernel
theorem d49_170 : decode method_5_code 170 = .ok (.ifCond .eq 18, 3) := by decide +kernel
theorem d49_173 : decode method_5_code 173 = .ok (.aload_n 0, 1) := by decide +kernel
theorem d49_174 : decode method_5_code 174 = .ok (.aload_n 1, 1) := by decide +kernel
theorem d49_175 : decode method_5_code 175 = .ok (.iload_n 2, 1) := by decide +kernel
theorem d49_176 : decode method_5_code 176 = .ok (.bipush 15, 2) := by decide +kernel
theorem d49_178 : decode method_5_code 178 = .ok (.invokestatic 17, 3) := by decide +kernel
theorem d49_181 : decode method_5_code 181 = .ok (.ifCond .eq 7, 3) := by decide +kernel
theorem d49_184 : decode method_5_code 184 = .ok (.iconst 1, 1) := by decide +kernel
theorem d49_185 : decode method_5_code 185 = .ok (.goto 4, 3) := by decide +kernel
theorem d49_188 : decode method_5_code 188 = .ok (.iconst 0, 1) := by decide +kernel
theorem d49_189 : decode method_5_code 189 = .ok (.ireturn, 1) := by decide +kernel
theorem pf49 : plainFor (⟨"com/example/lease/lease/LockKeysOfPinLaw", "matches", "(Ljava/lang/String;[CI)Z"⟩ : MethodName) = true := by first | exact plainFor_of_name (by first | (simp [plainName, overriddenIn]; done) | decide +kernel) | decide +kernel
theorem ef_matchf (m : MethodId) (z0 : Addr) (z1 : Addr) (z2 : Int32) : entryFrame m #[(.ref z0), (.ref z1), (.int z2)] 3 = mkF m 0 #[.val (.ref z0), .val (.ref z1), .val (.int z2)] [] := by first | rfl | (simp [entryFrame, mkF, argsToLocals, Value.category, *]; done) | rfl
set_option maxRecDepth 65536 in
set_option maxHeartbeats 40000000 in
theorem rm_matchf {l : Launch} {Z : State} {a0 : Array Value} {n0 : Nat} (G : Gl Z a0 n0) {h0 : Heap} (O : Old Z n0 h0) (s0 : Addr) (e0 : Addr) (cs : List Int32) (rs : List Value) (S : Str Z h0 s0 cs) (V : Ar Z h0 e0 .char (List.map Value.int cs ++ rs)) :
    Ct [] l Z n0 (⟨"com/example/lease/lease/LockKeysOfPinLaw", "matches", "(Ljava/lang/String;[CI)Z"⟩ : MethodName) method_5_code 3 (some .boolean) ({ frames := 5, cells := 0, slots := 0, locals := 68 } : Room) #[(.ref s0), (.ref e0), (.int (Int32.ofNat cs.length))] h0 (fun v h => h = h0 ∧ v = some (.int 1)) := by
  refine Ct.intro pf49 ?_
  intro p e s m below meth c C
  refine AtW.cast ?_ (ef_matchf m s0 e0 (Int32.ofNat cs.length))
  refine w_aloadN (q := 1) C rfl rfl d49_0 rfl ?_
  refine w_ifnull_f (q := 4) C d49_1 rfl ?_
  refine w_aloadN (q := 5) C rfl rfl d49_4 rfl ?_
  refine w_callV (q := 8) (argsL := []) (S := []) (W := 0) (cells' := 0) (slots' := 0) (a := s0) C S.1 (G.1 _ (List.mem_of_getElem? (i := 243) rfl)) (G.1 _ (List.mem_of_getElem? (i := 81) rfl)) (w_nf C (G.1 _ (List.mem_of_getElem? (i := 83) rfl))) (G.1 _ (List.mem_of_getElem? (i := 83) rfl)) (G.1 _ (List.mem_of_getElem? (i := 82) rfl)) (G.1 _ (List.mem_of_getElem? (i := 6) rfl)) (G.1 _ (List.mem_of_getElem? (i := 84) rfl)) (by decide) (rm_length G O s0 cs S) rfl (lenOf pd_19 rfl) rfl (by decide) (own_leb rfl) (by decide) rfl rfl (by decide) (by decide) d49_5 rfl ?_
  rintro _ h261 ⟨eh262, rfl⟩
  rw [eh262]
  show AtW p l e _ s m _ below meth c n0 _ h0 0 0 (mkF m 8 #[.val (.ref s0), .val (.ref e0), .val (.int (Int32.ofNat cs.length))] [(.int (Int32.ofNat cs.length))])
  refine w_iloadN (q := 9) C rfl d49_8 rfl ?_
  refine w_icmp_eq_t (q := 14) C d49_9 (by decide) (by decide) rfl ?_
  refine w_aloadN (q := 15) C rfl rfl d49_14 rfl ?_
  refine w_aloadN (q := 16) C rfl rfl d49_15 rfl ?_
  refine w_iloadN (q := 17) C rfl d49_16 rfl ?_
  refine w_iconst (q := 18) (v := (0 : Int32)) C (by rfl) d49_17 rfl ?_
  refine w_callS (q := 21) (argsL := [(.ref s0), (.ref e0), (.int (Int32.ofNat cs.length)), (.int (0 : Int32))]) (S := []) (W := 0) (cells' := 0) (slots' := 0) C (G.1 _ (List.mem_of_getElem? (i := 244) rfl)) (G.1 _ (List.mem_of_getElem? (i := 245) rfl)) (G.1 _ (List.mem_of_getElem? (i := 2) rfl)) (G.1 _ (List.mem_of_getElem? (i := 246) rfl)) (by decide) (rm_atc G O s0 e0 cs rs 0 S V (by decide)) rfl (lenOf pd_39 rfl) rfl (by decide) (own_leb rfl) (by decide) rfl rfl (by decide) (by decide) d49_18 rfl ?_
  rintro _ h263 ⟨eh264, rfl⟩
  rw [eh264]
  show AtW p l e _ s m _ below meth c n0 _ h0 0 0 (mkF m 21 #[.val (.ref s0), .val (.ref e0), .val (.int (Int32.ofNat cs.length))] [(.int (1 : Int32))])
  refine w_if_eq_f (q := 24) C d49_21 rfl (by decide) ?_
  refine w_aloadN (q := 25) C rfl rfl d49_24 rfl ?_
  refine w_aloadN (q := 26) C rfl rfl d49_25 rfl ?_
  refine w_iloadN (q := 27) C rfl d49_26 rfl ?_
  refine w_iconst (q := 28) (v := (1 : Int32)) C (by rfl) d49_27 rfl ?_
  refine w_callS (q := 31) (argsL := [(.ref s0), (.ref e0), (.int (Int32.ofNat cs.length)), (.int (1 : Int32))]) (S := []) (W := 0) (cells' := 0) (slots' := 0) C (G.1 _ (List.mem_of_getElem? (i := 244) rfl)) (G.1 _ (List.mem_of_getElem? (i := 245) rfl)) (G.1 _ (List.mem_of_getElem? (i := 2) rfl)) (G.1 _ (List.mem_of_getElem? (i := 246) rfl)) (by decide) (rm_atc G O s0 e0 cs rs 1 S V (by decide)) rfl (lenOf pd_39 rfl) rfl (by decide) (own_leb rfl) (by decide) rfl rfl (by decide) (by decide) d49_28 rfl ?_
  rintro _ h265 ⟨eh266, rfl⟩
  rw [eh266]
  show AtW p l e _ s m _ below meth c n0 _ h0 0 0 (mkF m 31 #[.val (.ref s0), .val (.ref e0), .val (.int (Int32.ofNat cs.length))] [(.int (1 : Int32))])
  refine w_if_eq_f (q := 34) C d49_31 rfl (by decide) ?_
  refine w_aloadN (q := 35) C rfl rfl d49_34 rfl ?_
  refine w_aloadN (q := 36) C rfl rfl d49_35 rfl ?_
  refine w_iloadN (q := 37) C rfl d49_36 rfl ?_
  refine w_iconst (q := 38) (v := (2 : Int32)) C (by rfl) d49_37 rfl ?_
  refine w_callS (q := 41) (argsL := [(.ref s0), (.ref e0), (.int (Int32.ofNat cs.length)), (.int (2 : Int32))]) (S := []) (W := 0) (cells' := 0) (slots' := 0) C (G.1 _ (List.mem_of_getElem? (i := 244) rfl)) (G.1 _ (List.mem_of_getElem? (i := 245) rfl)) (G.1 _ (List.mem_of_getElem? (i := 2) rfl)) (G.1 _ (List.mem_of_getElem? (i := 246) rfl)) (by decide) (rm_atc G O s0 e0 cs rs 2 S V (by decide)) rfl (lenOf pd_39 rfl) rfl (by decide) (own_leb rfl) (by decide) rfl rfl (by decide) (by decide) d49_38 rfl ?_
  rintro _ h267 ⟨eh268, rfl⟩
  rw [eh268]
  show AtW p l e _ s m _ below meth c n0 _ h0 0 0 (mkF m 41 #[.val (.ref s0), .val (.ref e0), .val (.int (Int32.ofNat cs.length))] [(.int (1 : Int32))])
  refine w_if_eq_f (q := 44) C d49_41 rfl (by decide) ?_
  refine w_aloadN (q := 45) C rfl rfl d49_44 rfl ?_
  refine w_aloadN (q := 46) C rfl rfl d49_45 rfl ?_
  refine w_iloadN (q := 47) C rfl d49_46 rfl ?_
  refine w_iconst (q := 48) (v := (3 : Int32)) C (by rfl) d49_47 rfl ?_
  refine w_callS (q := 51) (argsL := [(.ref s0), (.ref e0), (.int (Int32.ofNat cs.length)), (.int (3 : Int32))]) (S := []) (W := 0) (cells' := 0) (slots' := 0) C (G.1 _ (List.mem_of_getElem? (i := 244) rfl)) (G.1 _ (List.mem_of_getElem? (i := 245) rfl)) (G.1 _ (List.mem_of_getElem? (i := 2) rfl)) (G.1 _ (List.mem_of_getElem? (i := 246) rfl)) (by decide) (rm_atc G O s0 e0 cs rs 3 S V (by decide)) rfl (lenOf pd_39 rfl) rfl (by decide) (own_leb rfl) (by decide) rfl rfl (by decide) (by decide) d49_48 rfl ?_
  rintro _ h269 ⟨eh270, rfl⟩
  rw [eh270]
  show AtW p l e _ s m _ below meth c n0 _ h0 0 0 (mkF m 51 #[.val (.ref s0), .val (.ref e0), .val (.int (Int32.ofNat cs.length))] [(.int (1 : Int32))])
  refine w_if_eq_f (q := 54) C d49_51 rfl (by decide) ?_
  refine w_aloadN (q := 55) C rfl rfl d49_54 rfl ?_
  refine w_aloadN (q := 56) C rfl rfl d49_55 rfl ?_
  refine w_iloadN (q := 57) C rfl d49_56 rfl ?_
  refine w_iconst (q := 58) (v := (4 : Int32)) C (by rfl) d49_57 rfl ?_
  refine w_callS (q := 61) (argsL := [(.ref s0), (.ref e0), (.int (Int32.ofNat cs.length)), (.int (4 : Int32))]) (S := []) (W := 0) (cells' := 0) (slots' := 0) C (G.1 _ (List.mem_of_getElem? (i := 244) rfl)) (G.1 _ (List.mem_of_getElem? (i := 245) rfl)) (G.1 _ (List.mem_of_getElem? (i := 2) rfl)) (G.1 _ (List.mem_of_getElem? (i := 246) rfl)) (by decide) (rm_atc G O s0 e0 cs rs 4 S V (by decide)) rfl (lenOf pd_39 rfl) rfl (by decide) (own_leb rfl) (by decide) rfl rfl (by decide) (by decide) d49_58 rfl ?_
  rintro _ h271 ⟨eh272, rfl⟩
  rw [eh272]
  show AtW p l e _ s m _ below meth c n0 _ h0 0 0 (mkF m 61 #[.val (.ref s0), .val (.ref e0), .val (.int (Int32.ofNat cs.length))] [(.int (1 : Int32))])
  refine w_if_eq_f (q := 64) C d49_61 rfl (by decide) ?_
  refine w_aloadN (q := 65) C rfl rfl d49_64 rfl ?_
  refine w_aloadN (q := 66) C rfl rfl d49_65 rfl ?_
  refine w_iloadN (q := 67) C rfl d49_66 rfl ?_
  refine w_iconst (q := 68) (v := (5 : Int32)) C (by rfl) d49_67 rfl ?_
  refine w_callS (q := 71) (argsL := [(.ref s0), (.ref e0), (.int (Int32.ofNat cs.length)), (.int (5 : Int32))]) (S := []) (W := 0) (cells' := 0) (slots' := 0) C (G.1 _ (List.mem_of_getElem? (i := 244) rfl)) (G.1 _ (List.mem_of_getElem? (i := 245) rfl)) (G.1 _ (List.mem_of_getElem? (i := 2) rfl)) (G.1 _ (List.mem_of_getElem? (i := 246) rfl)) (by decide) (rm_atc G O s0 e0 cs rs 5 S V (by decide)) rfl (lenOf pd_39 rfl) rfl (by decide) (own_leb rfl) (by decide) rfl rfl (by decide) (by decide) d49_68 rfl ?_
  rintro _ h273 ⟨eh274, rfl⟩
  rw [eh274]
  show AtW p l e _ s m _ below meth c n0 _ h0 0 0 (mkF m 71 #[.val (.ref s0), .val (.ref e0), .val (.int (Int32.ofNat cs.length))] [(.int (1 : Int32))])
  refine w_if_eq_f (q := 74) C d49_71 rfl (by decide) ?_
  refine w_aloadN (q := 75) C rfl rfl d49_74 rfl ?_
  refine w_aloadN (q := 76) C rfl rfl d49_75 rfl ?_
  refine w_iloadN (q := 77) C rfl d49_76 rfl ?_
  refine w_bipush (q := 79) (v := (6 : Int32)) C (by rfl) d49_77 rfl ?_
  refine w_callS (q := 82) (argsL := [(.ref s0), (.ref e0), (.int (Int32.ofNat cs.length)), (.int (6 : Int32))]) (S := []) (W := 0) (cells' := 0) (slots' := 0) C (G.1 _ (List.mem_of_getElem? (i := 244) rfl)) (G.1 _ (List.mem_of_getElem? (i := 245) rfl)) (G.1 _ (List.mem_of_getElem? (i := 2) rfl)) (G.1 _ (List.mem_of_getElem? (i := 246) rfl)) (by decide) (rm_atc G O s0 e0 cs rs 6 S V (by decide)) rfl (lenOf pd_39 rfl) rfl (by decide) (own_leb rfl) (by decide) rfl rfl (by decide) (by decide) d49_79 rfl ?_
  rintro _ h275 ⟨eh276, rfl⟩
  rw [eh276]
  show AtW p l e _ s m _ below meth c n0 _ h0 0 0 (mkF m 82 #[.val (.ref s0), .val (.ref e0), .val (.int (Int32.ofNat cs.length))] [(.int (1 : Int32))])
  refine w_if_eq_f (q := 85) C d49_82 rfl (by decide) ?_
  refine w_aloadN (q := 86) C rfl rfl d49_85 rfl ?_
  refine w_aloadN (q := 87) C rfl rfl d49_86 rfl ?_
  refine w_iloadN (q := 88) C rfl d49_87 rfl ?_
  refine w_bipush (q := 90) (v := (7 : Int32)) C (by rfl) d49_88 rfl ?_
  refine w_callS (q := 93) (argsL := [(.ref s0), (.ref e0), (.int (Int32.ofNat cs.length)), (.int (7 : Int32))]) (S := []) (W := 0) (cells' := 0) (slots' := 0) C (G.1 _ (List.mem_of_getElem? (i := 244) rfl)) (G.1 _ (List.mem_of_getElem? (i := 245) rfl)) (G.1 _ (List.mem_of_getElem? (i := 2) rfl)) (G.1 _ (List.mem_of_getElem? (i := 246) rfl)) (by decide) (rm_atc G O s0 e0 cs rs 7 S V (by decide)) rfl (lenOf pd_39 rfl) rfl (by decide) (own_leb rfl) (by decide) rfl rfl (by decide) (by decide) d49_90 rfl ?_
  rintro _ h277 ⟨eh278, rfl⟩
  rw [eh278]
  show AtW p l e _ s m _ below meth c n0 _ h0 0 0 (mkF m 93 #[.val (.ref s0), .val (.ref e0), .val (.int (Int32.ofNat cs.length))] [(.int (1 : Int32))])
  refine w_if_eq_f (q := 96) C d49_93 rfl (by decide) ?_
  refine w_aloadN (q := 97) C rfl rfl d49_96 rfl ?_
  refine w_aloadN (q := 98) C rfl rfl d49_97 rfl ?_
  refine w_iloadN (q := 99) C rfl d49_98 rfl ?_
  refine w_bipush (q := 101) (v := (8 : Int32)) C (by rfl) d49_99 rfl ?_
  refine w_callS (q := 104) (argsL := [(.ref s0), (.ref e0), (.int (Int32.ofNat cs.length)), (.int (8 : Int32))]) (S := []) (W := 0) (cells' := 0) (slots' := 0) C (G.1 _ (List.mem_of_getElem? (i := 244) rfl)) (G.1 _ (List.mem_of_getElem? (i := 245) rfl)) (G.1 _ (List.mem_of_getElem? (i := 2) rfl)) (G.1 _ (List.mem_of_getElem? (i := 246) rfl)) (by decide) (rm_atc G O s0 e0 cs rs 8 S V (by decide)) rfl (lenOf pd_39 rfl) rfl (by decide) (own_leb rfl) (by decide) rfl rfl (by decide) (by decide) d49_101 rfl ?_
  rintro _ h279 ⟨eh280, rfl⟩
  rw [eh280]
  show AtW p l e _ s m _ below meth c n0 _ h0 0 0 (mkF m 104 #[.val (.ref s0), .val (.ref e0), .val (.int (Int32.ofNat cs.length))] [(.int (1 : Int32))])
  refine w_if_eq_f (q := 107) C d49_104 rfl (by decide) ?_
  refine w_aloadN (q := 108) C rfl rfl d49_107 rfl ?_
  refine w_aloadN (q := 109) C rfl rfl d49_108 rfl ?_
  refine w_iloadN (q := 110) C rfl d49_109 rfl ?_
  refine w_bipush (q := 112) (v := (9 : Int32)) C (by rfl) d49_110 rfl ?_
  refine w_callS (q := 115) (argsL := [(.ref s0), (.ref e0), (.int (Int32.ofNat cs.length)), (.int (9 : Int32))]) (S := []) (W := 0) (cells' := 0) (slots' := 0) C (G.1 _ (List.mem_of_getElem? (i := 244) rfl)) (G.1 _ (List.mem_of_getElem? (i := 245) rfl)) (G.1 _ (List.mem_of_getElem? (i := 2) rfl)) (G.1 _ (List.mem_of_getElem? (i := 246) rfl)) (by decide) (rm_atc G O s0 e0 cs rs 9 S V (by decide)) rfl (lenOf pd_39 rfl) rfl (by decide) (own_leb rfl) (by decide) rfl rfl (by decide) (by decide) d49_112 rfl ?_
  rintro _ h281 ⟨eh282, rfl⟩
  rw [eh282]
  show AtW p l e _ s m _ below meth c n0 _ h0 0 0 (mkF m 115 #[.val (.ref s0), .val (.ref e0), .val (.int (Int32.ofNat cs.length))] [(.int (1 : Int32))])
  refine w_if_eq_f (q := 118) C d49_115 rfl (by decide) ?_
  refine w_aloadN (q := 119) C rfl rfl d49_118 rfl ?_
  refine w_aloadN (q := 120) C rfl rfl d49_119 rfl ?_
  refine w_iloadN (q := 121) C rfl d49_120 rfl ?_
  refine w_bipush (q := 123) (v := (10 : Int32)) C (by rfl) d49_121 rfl ?_
  refine w_callS (q := 126) (argsL := [(.ref s0), (.ref e0), (.int (Int32.ofNat cs.length)), (.int (10 : Int32))]) (S := []) (W := 0) (cells' := 0) (slots' := 0) C (G.1 _ (List.mem_of_getElem? (i := 244) rfl)) (G.1 _ (List.mem_of_getElem? (i := 245) rfl)) (G.1 _ (List.mem_of_getElem? (i := 2) rfl)) (G.1 _ (List.mem_of_getElem? (i := 246) rfl)) (by decide) (rm_atc G O s0 e0 cs rs 10 S V (by decide)) rfl (lenOf pd_39 rfl) rfl (by decide) (own_leb rfl) (by decide) rfl rfl (by decide) (by decide) d49_123 rfl ?_
  rintro _ h283 ⟨eh284, rfl⟩
  rw [eh284]
  show AtW p l e _ s m _ below meth c n0 _ h0 0 0 (mkF m 126 #[.val (.ref s0), .val (.ref e0), .val (.int (Int32.ofNat cs.length))] [(.int (1 : Int32))])
  refine w_if_eq_f (q := 129) C d49_126 rfl (by decide) ?_
  refine w_aloadN (q := 130) C rfl rfl d49_129 rfl ?_
  refine w_aloadN (q := 131) C rfl rfl d49_130 rfl ?_
  refine w_iloadN (q := 132) C rfl d49_131 rfl ?_
  refine w_bipush (q := 134) (v := (11 : Int32)) C (by rfl) d49_132 rfl ?_
  refine w_callS (q := 137) (argsL := [(.ref s0), (.ref e0), (.int (Int32.ofNat cs.length)), (.int (11 : Int32))]) (S := []) (W := 0) (cells' := 0) (slots' := 0) C (G.1 _ (List.mem_of_getElem? (i := 244) rfl)) (G.1 _ (List.mem_of_getElem? (i := 245) rfl)) (G.1 _ (List.mem_of_getElem? (i := 2) rfl)) (G.1 _ (List.mem_of_getElem? (i := 246) rfl)) (by decide) (rm_atc G O s0 e0 cs rs 11 S V (by decide)) rfl (lenOf pd_39 rfl) rfl (by decide) (own_leb rfl) (by decide) rfl rfl (by decide) (by decide) d49_134 rfl ?_
  rintro _ h285 ⟨eh286, rfl⟩
  rw [eh286]
  show AtW p l e _ s m _ below meth c n0 _ h0 0 0 (mkF m 137 #[.val (.ref s0), .val (.ref e0), .val (.int (Int32.ofNat cs.length))] [(.int (1 : Int32))])
  refine w_if_eq_f (q := 140) C d49_137 rfl (by decide) ?_
  refine w_aloadN (q := 141) C rfl rfl d49_140 rfl ?_
  refine w_aloadN (q := 142) C rfl rfl d49_141 rfl ?_
  refine w_iloadN (q := 143) C rfl d49_142 rfl ?_
  refine w_bipush (q := 145) (v := (12 : Int32)) C (by rfl) d49_143 rfl ?_
  refine w_callS (q := 148) (argsL := [(.ref s0), (.ref e0), (.int (Int32.ofNat cs.length)), (.int (12 : Int32))]) (S := []) (W := 0) (cells' := 0) (slots' := 0) C (G.1 _ (List.mem_of_getElem? (i := 244) rfl)) (G.1 _ (List.mem_of_getElem? (i := 245) rfl)) (G.1 _ (List.mem_of_getElem? (i := 2) rfl)) (G.1 _ (List.mem_of_getElem? (i := 246) rfl)) (by decide) (rm_atc G O s0 e0 cs rs 12 S V (by decide)) rfl (lenOf pd_39 rfl) rfl (by decide) (own_leb rfl) (by decide) rfl rfl (by decide) (by decide) d49_145 rfl ?_
  rintro _ h287 ⟨eh288, rfl⟩
  rw [eh288]
  show AtW p l e _ s m _ below meth c n0 _ h0 0 0 (mkF m 148 #[.val (.ref s0), .val (.ref e0), .val (.int (Int32.ofNat cs.length))] [(.int (1 : Int32))])
  refine w_if_eq_f (q := 151) C d49_148 rfl (by decide) ?_
  refine w_aloadN (q := 152) C rfl rfl d49_151 rfl ?_
  refine w_aloadN (q := 153) C rfl rfl d49_152 rfl ?_
  refine w_iloadN (q := 154) C rfl d49_153 rfl ?_
  refine w_bipush (q := 156) (v := (13 : Int32)) C (by rfl) d49_154 rfl ?_
  refine w_callS (q := 159) (argsL := [(.ref s0), (.ref e0), (.int (Int32.ofNat cs.length)), (.int (13 : Int32))]) (S := []) (W := 0) (cells' := 0) (slots' := 0) C (G.1 _ (List.mem_of_getElem? (i := 244) rfl)) (G.1 _ (List.mem_of_getElem? (i := 245) rfl)) (G.1 _ (List.mem_of_getElem? (i := 2) rfl)) (G.1 _ (List.mem_of_getElem? (i := 246) rfl)) (by decide) (rm_atc G O s0 e0 cs rs 13 S V (by decide)) rfl (lenOf pd_39 rfl) rfl (by decide) (own_leb rfl) (by decide) rfl rfl (by decide) (by decide) d49_156 rfl ?_
  rintro _ h289 ⟨eh290, rfl⟩
  rw [eh290]
  show AtW p l e _ s m _ below meth c n0 _ h0 0 0 (mkF m 159 #[.val (.ref s0), .val (.ref e0), .val (.int (Int32.ofNat cs.length))] [(.int (1 : Int32))])
  refine w_if_eq_f (q := 162) C d49_159 rfl (by decide) ?_
  refine w_aloadN (q := 163) C rfl rfl d49_162 rfl ?_
  refine w_aloadN (q := 164) C rfl rfl d49_163 rfl ?_
  refine w_iloadN (q := 165) C rfl d49_164 rfl ?_
  refine w_bipush (q := 167) (v := (14 : Int32)) C (by rfl) d49_165 rfl ?_
  refine w_callS (q := 170) (argsL := [(.ref s0), (.ref e0), (.int (Int32.ofNat cs.length)), (.int (14 : Int32))]) (S := []) (W := 0) (cells' := 0) (slots' := 0) C (G.1 _ (List.mem_of_getElem? (i := 244) rfl)) (G.1 _ (List.mem_of_getElem? (i := 245) rfl)) (G.1 _ (List.mem_of_getElem? (i := 2) rfl)) (G.1 _ (List.mem_of_getElem? (i := 246) rfl)) (by decide) (rm_atc G O s0 e0 cs rs 14 S V (by decide)) rfl (lenOf pd_39 rfl) rfl (by decide) (own_leb rfl) (by decide) rfl rfl (by decide) (by decide) d49_167 rfl ?_
  rintro _ h291 ⟨eh292, rfl⟩
  rw [eh292]
  show AtW p l e _ s m _ below meth c n0 _ h0 0 0 (mkF m 170 #[.val (.ref s0), .val (.ref e0), .val (.int (Int32.ofNat cs.length))] [(.int (1 : Int32))])
  refine w_if_eq_f (q := 173) C d49_170 rfl (by decide) ?_
  refine w_aloadN (q := 174) C rfl rfl d49_173 rfl ?_
  refine w_aloadN (q := 175) C rfl rfl d49_174 rfl ?_
  refine w_iloadN (q := 176) C rfl d49_175 rfl ?_
  refine w_bipush (q := 178) (v := (15 : Int32)) C (by rfl) d49_176 rfl ?_
  refine w_callS (q := 181) (argsL := [(.ref s0), (.ref e0), (.int (Int32.ofNat cs.length)), (.int (15 : Int32))]) (S := []) (W := 0) (cells' := 0) (slots' := 0) C (G.1 _ (List.mem_of_getElem? (i := 244) rfl)) (G.1 _ (List.mem_of_getElem? (i := 245) rfl)) (G.1 _ (List.mem_of_getElem? (i := 2) rfl)) (G.1 _ (List.mem_of_getElem? (i := 246) rfl)) (by decide) (rm_atc G O s0 e0 cs rs 15 S V (by decide)) rfl (lenOf pd_39 rfl) rfl (by decide) (own_leb rfl) (by decide) rfl rfl (by decide) (by decide) d49_178 rfl ?_
  rintro _ h293 ⟨eh294, rfl⟩
  rw [eh294]
  show AtW p l e _ s m _ below meth c n0 _ h0 0 0 (mkF m 181 #[.val (.ref s0), .val (.ref e0), .val (.int (Int32.ofNat cs.length))] [(.int (1 : Int32))])
  refine w_if_eq_f (q := 184) C d49_181 rfl (by decide) ?_
  refine w_iconst (q := 185) (v := (1 : Int32)) C (by rfl) d49_184 rfl ?_
  refine w_goto (q := 189) C d49_185 (by decide) (by decide) ?_
  exact w_retZ (z := (1 : Int32)) C (t := .boolean) rfl (by simp) (by decide) d49_189 (by decide) (by decide) ⟨rfl, rfl⟩
theorem d13_0 : decode prog_2_method_2_code 0 = .ok (.aload_n 0, 1) := by decide +kernel
theorem d13_1 : decode prog_2_method_2_code 1 = .ok (.invokestatic 34, 3) := by decide +kernel
theorem d13_4 : decode prog_2_method_2_code 4 = .ok (.pop, 1) := by decide +kernel
theorem d13_5 : decode prog_2_method_2_code 5 = .ok (.aload_n 1, 1) := by decide +kernel
theorem d13_6 : decode prog_2_method_2_code 6 = .ok (.ldc 38, 2) := by decide +kernel
theorem d13_8 : decode prog_2_method_2_code 8 = .ok (.invokestatic 40, 3) := by decide +kernel
theorem d13_11 : decode prog_2_method_2_code 11 = .ok (.pop, 1) := by decide +kernel
theorem d13_12 : decode prog_2_method_2_code 12 = .ok (.aload_n 1, 1) := by decide +kernel
theorem d13_13 : decode prog_2_method_2_code 13 = .ok (.invokevirtual 46, 3) := by decide +kernel
theorem d13_16 : decode prog_2_method_2_code 16 = .ok (.ifCond .eq 13, 3) := by decide +kernel
theorem d13_19 : decode prog_2_method_2_code 19 = .ok (.new 52, 3) := by decide +kernel
theorem d13_22 : decode prog_2_method_2_code 22 = .ok (.dup, 1) := by decide +kernel
theorem d13_23 : decode prog_2_method_2_code 23 = .ok (.ldc 54, 2) := by decide +kernel
theorem d13_25 : decode prog_2_method_2_code 25 = .ok (.invokespecial 56, 3) := by decide +kernel
theorem d13_28 : decode prog_2_method_2_code 28 = .ok (.athrow, 1) := by decide +kernel
theorem d13_29 : decode prog_2_method_2_code 29 = .ok (.aload_n 1, 1) := by decide +kernel
theorem d13_30 : decode prog_2_method_2_code 30 = .ok (.bipush 123, 2) := by decide +kernel
theorem d13_32 : decode prog_2_method_2_code 32 = .ok (.invokevirtual 59, 3) := by decide +kernel
theorem d13_35 : decode prog_2_method_2_code 35 = .ok (.ifCond .ge 12, 3) := by decide +kernel
theorem d13_38 : decode prog_2_method_2_code 38 = .ok (.aload_n 1, 1) := by decide +kernel
theorem d13_39 : decode prog_2_method_2_code 39 = .ok (.bipush 125, 2) := by decide +kernel
theorem d13_41 : decode prog_2_method_2_code 41 = .ok (.invokevirtual 59, 3) := by decide +kernel
theorem d13_44 : decode prog_2_method_2_code 44 = .ok (.ifCond .lt 30, 3) := by decide +kernel
theorem d13_47 : decode prog_2_method_2_code 47 = .ok (.new 52, 3) := by decide +kernel
theorem d13_50 : decode prog_2_method_2_code 50 = .ok (.dup, 1) := by decide +kernel
theorem d13_51 : decode prog_2_method_2_code 51 = .ok (.new 13, 3) := by decide +kernel
theorem d13_54 : decode prog_2_method_2_code 54 = .ok (.dup, 1) := by decide +kernel
theorem d13_55 : decode prog_2_method_2_code 55 = .ok (.invokespecial 15, 3) := by decide +kernel
theorem d13_58 : decode prog_2_method_2_code 58 = .ok (.ldc 63, 2) := by decide +kernel
theorem d13_60 : decode prog_2_method_2_code 60 = .ok (.invokevirtual 16, 3) := by decide +kernel
theorem d13_63 : decode prog_2_method_2_code 63 = .ok (.aload_n 1, 1) := by decide +kernel
theorem d13_64 : decode prog_2_method_2_code 64 = .ok (.invokevirtual 16, 3) := by decide +kernel
theorem d13_67 : decode prog_2_method_2_code 67 = .ok (.invokevirtual 22, 3) := by decide +kernel
theorem d13_70 : decode prog_2_method_2_code 70 = .ok (.invokespecial 56, 3) := by decide +kernel
theorem d13_73 : decode prog_2_method_2_code 73 = .ok (.athrow, 1) := by decide +kernel
theorem d13_74 : decode prog_2_method_2_code 74 = .ok (.new 8, 3) := by decide +kernel
theorem d13_77 : decode prog_2_method_2_code 77 = .ok (.dup, 1) := by decide +kernel
theorem d13_78 : decode prog_2_method_2_code 78 = .ok (.new 13, 3) := by decide +kernel
theorem d13_81 : decode prog_2_method_2_code 81 = .ok (.dup, 1) := by decide +kernel
theorem d13_82 : decode prog_2_method_2_code 82 = .ok (.invokespecial 15, 3) := by decide +kernel
theorem d13_85 : decode prog_2_method_2_code 85 = .ok (.aload_n 0, 1) := by decide +kernel
theorem d13_86 : decode prog_2_method_2_code 86 = .ok (.invokevirtual 16, 3) := by decide +kernel
theorem d13_89 : decode prog_2_method_2_code 89 = .ok (.bipush 123, 2) := by decide +kernel
theorem d13_91 : decode prog_2_method_2_code 91 = .ok (.invokevirtual 65, 3) := by decide +kernel
theorem d13_94 : decode prog_2_method_2_code 94 = .ok (.aload_n 1, 1) := by decide +kernel
theorem d13_95 : decode prog_2_method_2_code 95 = .ok (.invokevirtual 16, 3) := by decide +kernel
theorem d13_98 : decode prog_2_method_2_code 98 = .ok (.bipush 125, 2) := by decide +kernel
theorem d13_100 : decode prog_2_method_2_code 100 = .ok (.invokevirtual 65, 3) := by decide +kernel
theorem d13_103 : decode prog_2_method_2_code 103 = .ok (.invokevirtual 22, 3) := by decide +kernel
theorem d13_106 : decode prog_2_method_2_code 106 = .ok (.invokespecial 68, 3) := by decide +kernel
theorem d13_109 : decode prog_2_method_2_code 109 = .ok (.areturn, 1) := by decide +kernel
theorem pf13 : plainFor (⟨"com/example/lease/lease/LockKeys", "of", "(Ljava/lang/String;Ljava/lang/String;)Lcom/example/lease/lease/LockKeys;"⟩ : MethodName) = true := by first | exact plainFor_of_name (by first | (simp [plainName, overriddenIn]; done) | decide +kernel) | decide +kernel
theorem ef_lkof (m : MethodId) (z0 : Addr) (z1 : Addr) : entryFrame m #[(.ref z0), (.ref z1)] 2 = mkF m 0 #[.val (.ref z0), .val (.ref z1)] [] := by first | rfl | (simp [entryFrame, mkF, argsToLocals, Value.category, *]; done) | rfl
set_option maxRecDepth 65536 in
set_option maxHeartbeats 40000000 in
theorem rm_lkof {l : Launch} {Z : State} {a0 : Array Value} {n0 : Nat} (G : Gl Z a0 n0) {h0 : Heap} (O : Old Z n0 h0) (a : Addr) (b : Addr) (ps : List Int32) (ns : List Int32) (S1 : Str Z h0 a ps) (S2 : Str Z h0 b ns) (n1 : (123 : Int32) ∉ ps) (n2 : (125 : Int32) ∉ ps) (n3 : (123 : Int32) ∉ ns) (n4 : (125 : Int32) ∉ ns) (l1 : ps.length ≤ 2) (l2 : ns.length ≤ 3) (l3 : ns.length ≠ 0) :
    Cs [] l Z consts_1 n0 (⟨"com/example/lease/lease/LockKeys", "of", "(Ljava/lang/String;Ljava/lang/String;)Lcom/example/lease/lease/LockKeys;"⟩ : MethodName) prog_2_method_2_code 2 (some (.object "com/example/lease/lease/LockKeys")) ({ frames := 7, cells := 21, slots := 267, locals := 106 } : Room) #[(.ref a), (.ref b)] h0 (fun v h => Keep h0 h [] ∧ ∃ o, v = some (.ref o) ∧ Exa Z h o "com/example/lease/lease/LockKeys" ∧ (∃ r, Fld Z h o "com/example/lease/lease/LockKeys" "holdsKey" "Ljava/lang/String;" (.ref r) ∧ Str Z h r (((ps ++ [(123 : Int32)]) ++ ns) ++ [(125 : Int32)])) ∧ (∃ r, Fld Z h o "com/example/lease/lease/LockKeys" "fenceKey" "Ljava/lang/String;" (.ref r) ∧ Str Z h r ((((ps ++ [(123 : Int32)]) ++ ns) ++ [(125 : Int32)]) ++ [(58 : Int32), (102 : Int32), (101 : Int32), (110 : Int32), (99 : Int32), (101 : Int32)])) ∧ ∃ r, Fld Z h o "com/example/lease/lease/LockKeys" "releasedChannel" "Ljava/lang/String;" (.ref r) ∧ Str Z h r ((((ps ++ [(123 : Int32)]) ++ ns) ++ [(125 : Int32)]) ++ [(58 : Int32), (114 : Int32), (101 : Int32), (108 : Int32), (101 : Int32), (97 : Int32), (115 : Int32), (101 : Int32), (100 : Int32)])) := by
  refine Cs.intro pf13 ?_
  intro p e s m below meth c C
  refine AtS.cast ?_ (ef_lkof m a b)
  have hl := S2.len
  refine s_aloadN (q := 1) C rfl rfl d13_0 rfl ?_
  refine s_callS2 (q := 4) (argsL := [(.ref a)]) (S := []) (W := 0) (cells' := 2) (slots' := 40) C G.el (G.1 _ (List.mem_of_getElem? (i := 55) rfl)) (G.1 _ (List.mem_of_getElem? (i := 56) rfl)) (G.1 _ (List.mem_of_getElem? (i := 53) rfl)) (G.1 _ (List.mem_of_getElem? (i := 57) rfl)) (by decide) (rm_checked G O a ps S1 n1 n2) rfl (lenOf pd_14 rfl) rfl (by decide) (own_leb rfl) (by decide) rfl rfl (by decide) (by decide) d13_1 rfl ?_
  rintro _ h295 ⟨Kh295, rfl⟩
  show AtS p l e _ s m _ below meth c Z _ _ n0 _ _ _ h295 2 40 (mkF m 4 #[.val (.ref a), .val (.ref b)] [(.ref a)])
  replace S1 := Str_k0 S1 Kh295
  replace S2 := Str_k0 S2 Kh295
  replace O := Old_k0 O Kh295
  have KA := Kh295
  refine s_pop (q := 5) C rfl d13_4 rfl ?_
  refine s_aloadN (q := 6) C rfl rfl d13_5 rfl ?_
  refine s_ldc (q := 8) (n := 32) (cells' := 4) (slots' := 76) (vs := [(.int (108 : Int32)), (.int (111 : Int32)), (.int (99 : Int32)), (.int (107 : Int32)), (.int (78 : Int32)), (.int (97 : Int32)), (.int (109 : Int32)), (.int (101 : Int32))]) C G.el G.sa (G.1 _ (List.mem_of_getElem? (i := 106) rfl)) (by decide) (by decide +kernel) (by decide) (by decide +kernel) (by decide) rfl rfl (by decide) (by decide) d13_6 rfl ?_
  intro h296 s297 t298 Eh296 e1_s297 e2_s297 e3_s297 e4_s297 hne_s297
  have S_s297 : Str Z h296 s297 [(108 : Int32), (111 : Int32), (99 : Int32), (107 : Int32), (78 : Int32), (97 : Int32), (109 : Int32), (101 : Int32)] := ⟨e1_s297, (own_L1c (by decide) (own_L1c (by decide) (own_L1c (by decide) (own_L1c (by decide) (own_L1c (by decide) (own_L1c (by decide) (own_L1c (by decide) (own_L1c (by decide) (fun c hc => absurd hc List.not_mem_nil))))))))), t298, e2_s297, e3_s297, e4_s297⟩
  have K1 : Keep h295 h296 [] := Keep.of_ext Eh296
  have KB : Keep h0 h296 [] := own_K0 KA K1
  replace S1 := Str_k0 S1 K1
  replace S2 := Str_k0 S2 K1
  replace O := Old_k0 O K1
  refine s_callS1 (q := 11) (argsL := [(.ref b), (.ref s297)]) (S := []) (W := 0) (cells' := 4) (slots' := 76) C (G.1 _ (List.mem_of_getElem? (i := 61) rfl)) (G.1 _ (List.mem_of_getElem? (i := 62) rfl)) (G.1 _ (List.mem_of_getElem? (i := 63) rfl)) (G.1 _ (List.mem_of_getElem? (i := 64) rfl)) (by decide) (rm_reqNN2 G O b s297) rfl (lenOf pd_15 rfl) rfl (by decide) (own_leb rfl) (by decide) rfl rfl (by decide) (by decide) (wl := []) (fun _ _ q => by rw [q.1]; exact Keep.refl _ _) all0 d13_8 rfl ?_
  rintro _ h299 ⟨eh300, rfl⟩
  rw [eh300]
  show AtS p l e _ s m _ below meth c Z _ _ n0 _ _ _ h296 4 76 (mkF m 11 #[.val (.ref a), .val (.ref b)] [(.ref b)])
  refine s_pop (q := 12) C rfl d13_11 rfl ?_
  refine s_aloadN (q := 13) C rfl rfl d13_12 rfl ?_
  refine s_callV1 (q := 16) (argsL := []) (S := []) (W := 0) (cells' := 4) (slots' := 76) (a := b) C S2.1 (G.1 _ (List.mem_of_getElem? (i := 107) rfl)) (G.1 _ (List.mem_of_getElem? (i := 108) rfl)) (s_nf (G.1 _ (List.mem_of_getElem? (i := 110) rfl))) (G.1 _ (List.mem_of_getElem? (i := 110) rfl)) (G.1 _ (List.mem_of_getElem? (i := 109) rfl)) (G.1 _ (List.mem_of_getElem? (i := 6) rfl)) (G.1 _ (List.mem_of_getElem? (i := 111) rfl)) (by decide) (rm_isEmpty G O b ns S2) rfl (lenOf pd_18 rfl) rfl (by decide) (own_leb rfl) (by decide) rfl rfl (by decide) (by decide) (wl := []) (fun _ _ q => by rw [q.1]; exact Keep.refl _ _) all0 d13_13 rfl ?_
  rintro _ h301 ⟨eh302, rfl⟩
  rw [eh302]
  show AtS p l e _ s m _ below meth c Z _ _ n0 _ _ _ h296 4 76 (mkF m 16 #[.val (.ref a), .val (.ref b)] [(.int (if ns.length = 0 then 1 else 0))])
  rw [show (if ns.length = 0 then 1 else 0) = (0 : Int32) from if_neg l3]
  refine s_if_eq_t (q := 29) C d13_16 (by decide) (by decide) (by decide) ?_
  refine s_aloadN (q := 30) C rfl rfl d13_29 rfl ?_
  refine s_bipush (q := 32) (v := (123 : Int32)) C (by rfl) d13_30 rfl ?_
  refine s_callV1 (q := 35) (argsL := [(.int (123 : Int32))]) (S := []) (W := 0) (cells' := 4) (slots' := 76) (a := b) C S2.1 (G.1 _ (List.mem_of_getElem? (i := 65) rfl)) (G.1 _ (List.mem_of_getElem? (i := 66) rfl)) (s_nf (G.1 _ (List.mem_of_getElem? (i := 68) rfl))) (G.1 _ (List.mem_of_getElem? (i := 68) rfl)) (G.1 _ (List.mem_of_getElem? (i := 67) rfl)) (G.1 _ (List.mem_of_getElem? (i := 6) rfl)) (G.1 _ (List.mem_of_getElem? (i := 69) rfl)) (by decide) (rm_idx1 G O b ns 123 S2 (by decide)) rfl (lenOf pd_16 rfl) rfl (by decide) (own_leb rfl) (by decide) rfl rfl (by decide) (by decide) (wl := []) (fun _ _ q => by rw [q.1]; exact Keep.refl _ _) all0 d13_32 rfl ?_
  rintro _ h303 ⟨eh304, rfl⟩
  rw [eh304]
  show AtS p l e _ s m _ below meth c Z _ _ n0 _ _ _ h296 4 76 (mkF m 35 #[.val (.ref a), .val (.ref b)] [(.int (own_ix 123 ns 0))])
  refine s_if_ge_f (q := 38) C d13_35 rfl ((own_ix_neg 123 ns 0 (by omega)).mpr n3) ?_
  refine s_aloadN (q := 39) C rfl rfl d13_38 rfl ?_
  refine s_bipush (q := 41) (v := (125 : Int32)) C (by rfl) d13_39 rfl ?_
  refine s_callV1 (q := 44) (argsL := [(.int (125 : Int32))]) (S := []) (W := 0) (cells' := 4) (slots' := 76) (a := b) C S2.1 (G.1 _ (List.mem_of_getElem? (i := 65) rfl)) (G.1 _ (List.mem_of_getElem? (i := 66) rfl)) (s_nf (G.1 _ (List.mem_of_getElem? (i := 68) rfl))) (G.1 _ (List.mem_of_getElem? (i := 68) rfl)) (G.1 _ (List.mem_of_getElem? (i := 67) rfl)) (G.1 _ (List.mem_of_getElem? (i := 6) rfl)) (G.1 _ (List.mem_of_getElem? (i := 69) rfl)) (by decide) (rm_idx1 G O b ns 125 S2 (by decide)) rfl (lenOf pd_16 rfl) rfl (by decide) (own_leb rfl) (by decide) rfl rfl (by decide) (by decide) (wl := []) (fun _ _ q => by rw [q.1]; exact Keep.refl _ _) all0 d13_41 rfl ?_
  rintro _ h305 ⟨eh306, rfl⟩
  rw [eh306]
  show AtS p l e _ s m _ below meth c Z _ _ n0 _ _ _ h296 4 76 (mkF m 44 #[.val (.ref a), .val (.ref b)] [(.int (own_ix 125 ns 0))])
  refine s_if_lt_t (q := 74) C d13_44 (by decide) (by decide) ((own_ix_neg 125 ns 0 (by omega)).mpr n4) ?_
  refine s_new (q := 77) (cells' := 5) (slots' := 79) C (G.1 _ (List.mem_of_getElem? (i := 112) rfl)) (G.1 _ (List.mem_of_getElem? (i := 113) rfl)) (G.1 _ (List.mem_of_getElem? (i := 53) rfl)) rfl rfl (by decide) (by decide) d13_74 rfl ?_
  intro h307 o308 g_o308 Eh307 A_o308 D_o308
  have F_holdsKey_o308 : Fld Z h307 o308 "com/example/lease/lease/LockKeys" "holdsKey" "Ljava/lang/String;" .null := D_o308 (Or.inr (G.1 _ (List.mem_of_getElem? (i := 228) rfl))) (ty := (.object "java/lang/String")) (by decide)
  have F_fenceKey_o308 : Fld Z h307 o308 "com/example/lease/lease/LockKeys" "fenceKey" "Ljava/lang/String;" .null := D_o308 (Or.inr (G.1 _ (List.mem_of_getElem? (i := 231) rfl))) (ty := (.object "java/lang/String")) (by decide)
  have F_releasedChannel_o308 : Fld Z h307 o308 "com/example/lease/lease/LockKeys" "releasedChannel" "Ljava/lang/String;" .null := D_o308 (Or.inr (G.1 _ (List.mem_of_getElem? (i := 234) rfl))) (ty := (.object "java/lang/String")) (by decide)
  have ge_o308 : n0 ≤ o308 := by rw [g_o308]; exact Old_le O
  have sz_o308 : h0.size ≤ o308 := Nat.le_trans KB.1 (Nat.le_of_eq g_o308.symm)
  have K2 : Keep h296 h307 [] := Keep.of_ext Eh307
  have KC : Keep h0 h307 [] := own_K0 KB K2
  replace S1 := Str_k0 S1 K2
  replace S2 := Str_k0 S2 K2
  replace O := Old_k0 O K2
  refine s_dup (q := 78) C rfl d13_77 rfl ?_
  refine s_new (q := 81) (cells' := 6) (slots' := 83) C (G.1 _ (List.mem_of_getElem? (i := 114) rfl)) (G.1 _ (List.mem_of_getElem? (i := 115) rfl)) (G.1 _ (List.mem_of_getElem? (i := 116) rfl)) rfl rfl (by decide) (by decide) d13_78 rfl ?_
  intro h309 o310 g_o310 Eh309 A_o310 D_o310
  have F_value_o310 : Fld Z h309 o310 "java/lang/AbstractStringBuilder" "value" "[B" .null := D_o310 (Or.inl (G.1 _ (List.mem_of_getElem? (i := 129) rfl))) (ty := (.array .byte)) (by decide)
  have F_coder_o310 : Fld Z h309 o310 "java/lang/AbstractStringBuilder" "coder" "B" (.int (0 : Int32)) := D_o310 (Or.inl (G.1 _ (List.mem_of_getElem? (i := 131) rfl))) (ty := .byte) (by decide)
  have F_count_o310 : Fld Z h309 o310 "java/lang/AbstractStringBuilder" "count" "I" (.int (0 : Int32)) := D_o310 (Or.inl (G.1 _ (List.mem_of_getElem? (i := 144) rfl))) (ty := .int) (by decide)
  have ge_o310 : n0 ≤ o310 := by rw [g_o310]; exact Old_le O
  have sz_o310 : h307.size ≤ o310 := Nat.le_of_eq g_o310.symm
  have K311 : Keep h307 h309 [] := Keep.of_ext Eh309
  have O312 := Old_k0 O K311
  refine s_dup (q := 82) C rfl d13_81 rfl ?_
  refine AtS.mark ?_
  refine s_callI1 (q := 85) (argsL := []) (S := [(.ref o310), (.ref o308), (.ref o308)]) (W := 3) (cells' := 7) (slots' := 99) (a := o310) C rfl (G.1 _ (List.mem_of_getElem? (i := 117) rfl)) (G.1 _ (List.mem_of_getElem? (i := 118) rfl)) (G.1 _ (List.mem_of_getElem? (i := 116) rfl)) (G.1 _ (List.mem_of_getElem? (i := 119) rfl)) (by decide) (rm_sbinit G O312 o310 A_o310 F_value_o310 F_coder_o310 F_count_o310 ge_o310) rfl (lenOf pd_4 rfl) rfl (by decide) (own_leb rfl) (by decide) rfl rfl (by decide) (by decide) (wl := [o310]) (fun _ _ q => q.1) (allS (SfOk.exa A_o310 (by decide)) (all0)) d13_82 rfl ?_
  rintro _ h315 ⟨Kh315, rfl, t313, hg_t313, B314⟩
  show AtS p l e _ s m _ below meth c Z _ _ n0 _ _ _ h315 7 99 (mkF m 85 #[.val (.ref a), .val (.ref b)] [(.ref o310), (.ref o308), (.ref o308)])
  have K316 : Keep h307 h315 [] := own_K1 K311 Kh315 sz_o310
  have O317 := Old_k0 O K316
  have sz_t313 : h307.size ≤ t313 := Nat.le_trans K311.1 hg_t313
  have ge_t313 : n0 ≤ t313 := Nat.le_trans (Old_le O) sz_t313
  refine AtS.add (x := t313) hg_t313 B314.tlt ?_
  show AtS p l e _ s m _ below meth c Z _ _ n0 _ _ _ h315 7 99 (mkF m 85 #[.val (.ref a), .val (.ref b)] [(.ref o310), (.ref o308), (.ref o308)])
  refine s_aloadN (q := 86) C rfl rfl d13_85 rfl ?_
  refine s_callV1 (q := 89) (argsL := [(.ref a)]) (S := [(.ref o308), (.ref o308)]) (W := 2) (cells' := 7) (slots' := 99) (a := o310) C B314.1 (G.1 _ (List.mem_of_getElem? (i := 132) rfl)) (G.1 _ (List.mem_of_getElem? (i := 133) rfl)) (s_nf (G.1 _ (List.mem_of_getElem? (i := 135) rfl))) (G.1 _ (List.mem_of_getElem? (i := 135) rfl)) (G.1 _ (List.mem_of_getElem? (i := 134) rfl)) (G.1 _ (List.mem_of_getElem? (i := 116) rfl)) (G.1 _ (List.mem_of_getElem? (i := 136) rfl)) (by decide) (rm_sbApp G O317 o310 t313 [] 16 a ps B314 (Str_k0 S1 K316) (by first | omega | (simp only [List.length_append, List.length_cons, List.length_nil]; omega)) ge_o310 ge_t313) rfl (lenOf pd_24 rfl) rfl (by decide) (own_leb rfl) (by decide) rfl rfl (by decide) (by decide) (wl := [o310, t313]) (fun _ _ q => q.1) (allS (SfOk.exa B314.1 (by decide)) (allS (SfOk.mem (by simp)) (all0))) d13_86 rfl ?_
  rintro _ h319 ⟨Kh319, rfl, B318⟩
  show AtS p l e _ s m _ below meth c Z _ _ n0 _ _ _ h319 7 99 (mkF m 89 #[.val (.ref a), .val (.ref b)] [(.ref o310), (.ref o308), (.ref o308)])
  have K320 : Keep h307 h319 [] := K316.trans Kh319 (allS (P := fun x => x ∈ [] ∨ h307.size ≤ x) (Or.inr sz_o310) (allS (Or.inr sz_t313) all0))
  have O321 := Old_k0 O K320
  replace B318 : Sb Z h319 o310 t313 ps 16 := B318
  refine s_bipush (q := 91) (v := (123 : Int32)) C (by rfl) d13_89 rfl ?_
  refine s_callV1 (q := 94) (argsL := [(.int (123 : Int32))]) (S := [(.ref o308), (.ref o308)]) (W := 2) (cells' := 7) (slots' := 99) (a := o310) C B318.1 (G.1 _ (List.mem_of_getElem? (i := 170) rfl)) (G.1 _ (List.mem_of_getElem? (i := 171) rfl)) (s_nf (G.1 _ (List.mem_of_getElem? (i := 173) rfl))) (G.1 _ (List.mem_of_getElem? (i := 173) rfl)) (G.1 _ (List.mem_of_getElem? (i := 172) rfl)) (G.1 _ (List.mem_of_getElem? (i := 116) rfl)) (G.1 _ (List.mem_of_getElem? (i := 174) rfl)) (by decide) (rm_sbAppC G O321 o310 t313 ps 16 123 B318 (by decide) (by first | omega | (simp only [List.length_append, List.length_cons, List.length_nil]; omega)) ge_o310 ge_t313) rfl (lenOf pd_30 rfl) rfl (by decide) (own_leb rfl) (by decide) rfl rfl (by decide) (by decide) (wl := [o310, t313]) (fun _ _ q => q.1) (allS (SfOk.exa B318.1 (by decide)) (allS (SfOk.mem (by simp)) (all0))) d13_91 rfl ?_
  rintro _ h323 ⟨Kh323, rfl, B322⟩
  show AtS p l e _ s m _ below meth c Z _ _ n0 _ _ _ h323 7 99 (mkF m 94 #[.val (.ref a), .val (.ref b)] [(.ref o310), (.ref o308), (.ref o308)])
  have K324 : Keep h307 h323 [] := K320.trans Kh323 (allS (P := fun x => x ∈ [] ∨ h307.size ≤ x) (Or.inr sz_o310) (allS (Or.inr sz_t313) all0))
  have O325 := Old_k0 O K324
  replace B322 : Sb Z h323 o310 t313 (ps ++ [(123 : Int32)]) 16 := B322
  refine s_aloadN (q := 95) C rfl rfl d13_94 rfl ?_
  refine s_callV1 (q := 98) (argsL := [(.ref b)]) (S := [(.ref o308), (.ref o308)]) (W := 2) (cells' := 7) (slots' := 99) (a := o310) C B322.1 (G.1 _ (List.mem_of_getElem? (i := 132) rfl)) (G.1 _ (List.mem_of_getElem? (i := 133) rfl)) (s_nf (G.1 _ (List.mem_of_getElem? (i := 135) rfl))) (G.1 _ (List.mem_of_getElem? (i := 135) rfl)) (G.1 _ (List.mem_of_getElem? (i := 134) rfl)) (G.1 _ (List.mem_of_getElem? (i := 116) rfl)) (G.1 _ (List.mem_of_getElem? (i := 136) rfl)) (by decide) (rm_sbApp G O325 o310 t313 (ps ++ [(123 : Int32)]) 16 b ns B322 (Str_k0 S2 K324) (by first | omega | (simp only [List.length_append, List.length_cons, List.length_nil]; omega)) ge_o310 ge_t313) rfl (lenOf pd_24 rfl) rfl (by decide) (own_leb rfl) (by decide) rfl rfl (by decide) (by decide) (wl := [o310, t313]) (fun _ _ q => q.1) (allS (SfOk.exa B322.1 (by decide)) (allS (SfOk.mem (by simp)) (all0))) d13_95 rfl ?_
  rintro _ h327 ⟨Kh327, rfl, B326⟩
  show AtS p l e _ s m _ below meth c Z _ _ n0 _ _ _ h327 7 99 (mkF m 98 #[.val (.ref a), .val (.ref b)] [(.ref o310), (.ref o308), (.ref o308)])
  have K328 : Keep h307 h327 [] := K324.trans Kh327 (allS (P := fun x => x ∈ [] ∨ h307.size ≤ x) (Or.inr sz_o310) (allS (Or.inr sz_t313) all0))
  have O329 := Old_k0 O K328
  replace B326 : Sb Z h327 o310 t313 ((ps ++ [(123 : Int32)]) ++ ns) 16 := B326
  refine s_bipush (q := 100) (v := (125 : Int32)) C (by rfl) d13_98 rfl ?_
  refine s_callV1 (q := 103) (argsL := [(.int (125 : Int32))]) (S := [(.ref o308), (.ref o308)]) (W := 2) (cells' := 7) (slots' := 99) (a := o310) C B326.1 (G.1 _ (List.mem_of_getElem? (i := 170) rfl)) (G.1 _ (List.mem_of_getElem? (i := 171) rfl)) (s_nf (G.1 _ (List.mem_of_getElem? (i := 173) rfl))) (G.1 _ (List.mem_of_getElem? (i := 173) rfl)) (G.1 _ (List.mem_of_getElem? (i := 172) rfl)) (G.1 _ (List.mem_of_getElem? (i := 116) rfl)) (G.1 _ (List.mem_of_getElem? (i := 174) rfl)) (by decide) (rm_sbAppC G O329 o310 t313 ((ps ++ [(123 : Int32)]) ++ ns) 16 125 B326 (by decide) (by first | omega | (simp only [List.length_append, List.length_cons, List.length_nil]; omega)) ge_o310 ge_t313) rfl (lenOf pd_30 rfl) rfl (by decide) (own_leb rfl) (by decide) rfl rfl (by decide) (by decide) (wl := [o310, t313]) (fun _ _ q => q.1) (allS (SfOk.exa B326.1 (by decide)) (allS (SfOk.mem (by simp)) (all0))) d13_100 rfl ?_
  rintro _ h331 ⟨Kh331, rfl, B330⟩
  show AtS p l e _ s m _ below meth c Z _ _ n0 _ _ _ h331 7 99 (mkF m 103 #[.val (.ref a), .val (.ref b)] [(.ref o310), (.ref o308), (.ref o308)])
  have K332 : Keep h307 h331 [] := K328.trans Kh331 (allS (P := fun x => x ∈ [] ∨ h307.size ≤ x) (Or.inr sz_o310) (allS (Or.inr sz_t313) all0))
  have O333 := Old_k0 O K332
  replace B330 : Sb Z h331 o310 t313 (((ps ++ [(123 : Int32)]) ++ ns) ++ [(125 : Int32)]) 16 := B330
  refine s_callV1 (q := 106) (argsL := []) (S := [(.ref o308), (.ref o308)]) (W := 2) (cells' := 9) (slots' := 119) (a := o310) C B330.1 (G.1 _ (List.mem_of_getElem? (i := 185) rfl)) (G.1 _ (List.mem_of_getElem? (i := 186) rfl)) (s_nf (G.1 _ (List.mem_of_getElem? (i := 188) rfl))) (G.1 _ (List.mem_of_getElem? (i := 188) rfl)) (G.1 _ (List.mem_of_getElem? (i := 187) rfl)) (G.1 _ (List.mem_of_getElem? (i := 116) rfl)) (G.1 _ (List.mem_of_getElem? (i := 189) rfl)) (by decide) (rm_sbStr G O333 o310 t313 (((ps ++ [(123 : Int32)]) ++ ns) ++ [(125 : Int32)]) 16 B330 (by first | omega | (simp only [List.length_append, List.length_cons, List.length_nil]; omega))) rfl (lenOf pd_32 rfl) rfl (by decide) (own_leb rfl) (by decide) rfl rfl (by decide) (by decide) (wl := []) (fun _ _ q => q.1) all0 d13_103 rfl ?_
  rintro _ h335 ⟨Kh335, r334, rfl, hg_r334, S3⟩
  show AtS p l e _ s m _ below meth c Z _ _ n0 _ _ _ h335 9 119 (mkF m 106 #[.val (.ref a), .val (.ref b)] [(.ref r334), (.ref o308), (.ref o308)])
  have K336 : Keep h307 h335 [] := own_K0 K332 Kh335
  have sz_r334 : h307.size ≤ r334 := Nat.le_trans K332.1 hg_r334
  replace S1 := Str_k0 S1 K336
  replace S2 := Str_k0 S2 K336
  replace A_o308 := Exa_k0 A_o308 K336
  replace F_holdsKey_o308 := Fld_k0 F_holdsKey_o308 K336
  replace F_fenceKey_o308 := Fld_k0 F_fenceKey_o308 K336
  replace F_releasedChannel_o308 := Fld_k0 F_releasedChannel_o308 K336
  replace O := Old_k0 O K336
  have KD := own_K0 KC K336
  refine s_callI2 (q := 109) (argsL := [(.ref r334)]) (S := [(.ref o308)]) (W := 1) (cells' := 21) (slots' := 267) (a := o308) C G.el rfl (G.1 _ (List.mem_of_getElem? (i := 223) rfl)) (G.1 _ (List.mem_of_getElem? (i := 224) rfl)) (G.1 _ (List.mem_of_getElem? (i := 53) rfl)) (G.1 _ (List.mem_of_getElem? (i := 225) rfl)) (by decide) (rm_lkinit G O o308 r334 (((ps ++ [(123 : Int32)]) ++ ns) ++ [(125 : Int32)]) A_o308 F_holdsKey_o308 F_fenceKey_o308 F_releasedChannel_o308 ge_o308 S3 (by first | omega | (simp only [List.length_append, List.length_cons, List.length_nil]; omega))) rfl (lenOf pd_27 rfl) rfl (by decide) (own_leb rfl) (by decide) rfl rfl (by decide) (by decide) d13_106 rfl ?_
  rintro _ h337 ⟨Kh337, rfl, E3, F4, S4, F5, F6⟩
  show AtS p l e _ s m _ below meth c Z _ _ n0 _ _ _ h337 21 267 (mkF m 109 #[.val (.ref a), .val (.ref b)] [(.ref o308)])
  exact s_retA C G.el rfl rfl rfl d13_109 (by decide) (by decide) ⟨own_K1 KD Kh337 sz_o308, o308, rfl, E3, ⟨r334, F4, S4⟩, F5, F6⟩
theorem own_m3 (x : Int32) : ∃ k : Nat, k ≤ 2 ∧ (x &&& (3 : Int32)) % (3 : Int32) = Int32.ofNat k := by
  obtain ⟨j, hj, e⟩ := own_maskN x 3 2 (by decide) (by decide)
  have t : ∀ k : Fin 4, ∃ q : Fin 3, (Int32.ofNat k.val) % (3 : Int32) = Int32.ofNat q.val := by decide +kernel
  obtain ⟨q, hq⟩ := t ⟨j, hj⟩
  exact ⟨q.val, by omega, by rw [e]; exact hq⟩
theorem own_put16 (L : List Int32) (c : Int32) (h : L.length < 16) : (List.map Value.int L ++ List.replicate (16 - L.length) (Value.int (0 : Int32))).set L.length (.int c) = List.map Value.int (L ++ [c]) ++ List.replicate (16 - (L ++ [c]).length) (Value.int (0 : Int32)) := by
  rw [List.set_append_right _ _ (by rw [List.length_map]; exact Nat.le_refl _), List.length_map, Nat.sub_self, show 16 - L.length = 16 - (L ++ [c]).length + 1 by simp; omega, List.replicate_succ, List.set_cons_zero, List.map_append, List.append_assoc]
  rfl
theorem own_hdl (k j : Nat) (p0 p1 n0c n1c n2c : Int32) : (own_hd k j p0 p1 n0c n1c n2c).length ≤ 7 := by
  simp only [own_hd, List.length_append, List.length_take, List.length_cons, List.length_nil]; omega
-- CUT
theorem pf0 : plainFor (⟨"com/example/lease/lease/LockKeysOfPinLaw", "law", "(III)Z"⟩ : MethodName) = true := by first | exact plainFor_of_name (by first | (simp [plainName, overriddenIn]; done) | decide +kernel) | decide +kernel
theorem ef_law (m : MethodId) (z0 : Int32) (z1 : Int32) (z2 : Int32) : entryFrame m #[(.int z0), (.int z1), (.int z2)] maxLocals = mkF m 0 #[.val (.int z0), .val (.int z1), .val (.int z2), .unset, .unset, .unset, .unset, .unset, .unset, .unset, .unset, .unset, .unset, .unset, .unset, .unset, .unset, .unset, .unset] [] := by first | (simp [entryFrame, mkF, argsToLocals, Value.category, *, maxLocals]; done) | rfl
set_option maxRecDepth 65536 in
set_option maxHeartbeats 40000000 in
theorem rm_law {l : Launch} {Z : State} {a0 : Array Value} {n0 : Nat} (G : Gl Z a0 n0) {h0 : Heap} (O : Old Z n0 h0) (i0 : Int32) (i1 : Int32) (ln : Int32) :
    Cs tables_1 l Z consts_1 n0 x code maxLocals ret room_1 #[(.int i0), (.int i1), (.int ln)] h0 (fun v h => v = some (.int 1)) := by
  refine Cs.intro pf0 ?_
  intro p e s m below meth c C
  refine AtS.cast ?_ (ef_law m i0 i1 ln)
  refine s_iloadN (q := 1) C rfl at_0 rfl ?_
  refine s_iconst (q := 2) (v := (3 : Int32)) C (by rfl) at_1 rfl ?_
  refine s_iand (q := 3) C rfl at_2 rfl ?_
  refine s_iconst (q := 4) (v := (3 : Int32)) C (by rfl) at_3 rfl ?_
  refine s_irem (q := 5) C (by decide) rfl at_4 rfl ?_
  obtain ⟨k, hk, ek⟩ := own_m3 ln
  rw [show ((ln &&& (3 : Int32)) % (3 : Int32)) = (Int32.ofNat k) from ek]
  refine s_istoreN (q := 6) (L' := #[.val (.int i0), .val (.int i1), .val (.int ln), .val (.int (Int32.ofNat k)), .unset, .unset, .unset, .unset, .unset, .unset, .unset, .unset, .unset, .unset, .unset, .unset, .unset, .unset, .unset]) C rfl at_5 rfl ?_
  refine s_iconst (q := 7) (v := (1 : Int32)) C (by rfl) at_6 rfl ?_
  refine s_iloadN (q := 8) C rfl at_7 rfl ?_
  refine s_iconst (q := 9) (v := (2 : Int32)) C (by rfl) at_8 rfl ?_
  refine s_iushr (q := 10) C rfl at_9 rfl ?_
  refine s_iconst (q := 11) (v := (3 : Int32)) C (by rfl) at_10 rfl ?_
  refine s_iand (q := 12) C rfl at_11 rfl ?_
  refine s_iconst (q := 13) (v := (3 : Int32)) C (by rfl) at_12 rfl ?_
  refine s_irem (q := 14) C (by decide) rfl at_13 rfl ?_
  obtain ⟨j, hj, ej⟩ := own_m3 ((ln.toUInt32 >>> ((2 : Int32) &&& 31).toUInt32).toInt32)
  rw [show ((((ln.toUInt32 >>> ((2 : Int32) &&& 31).toUInt32).toInt32) &&& (3 : Int32)) % (3 : Int32)) = (Int32.ofNat j) from ej]
  refine s_iadd (q := 15) C rfl at_14 rfl ?_
  rw [show ((1 : Int32) + (Int32.ofNat j)) = (Int32.ofNat (j + 1)) from by rw [Int32.add_comm]; exact own_one j]
  refine s_istore (q := 17) (L' := #[.val (.int i0), .val (.int i1), .val (.int ln), .val (.int (Int32.ofNat k)), .val (.int (Int32.ofNat (j + 1))), .unset, .unset, .unset, .unset, .unset, .unset, .unset, .unset, .unset, .unset, .unset, .unset, .unset, .unset]) C rfl at_15 rfl ?_
  refine s_iloadN (q := 18) C rfl at_17 rfl ?_
  refine s_callS1 (q := 21) (argsL := [(.int i0)]) (S := []) (W := 0) (cells' := 0) (slots' := 0) C (G.1 _ (List.mem_of_getElem? (i := 0) rfl)) (G.1 _ (List.mem_of_getElem? (i := 1) rfl)) (G.1 _ (List.mem_of_getElem? (i := 2) rfl)) (G.1 _ (List.mem_of_getElem? (i := 3) rfl)) (by decide) (rm_chf G O _) rfl (lenOf pd_1 rfl) rfl (by decide) (own_leb rfl) (by decide) rfl rfl (by decide) (by decide) (wl := []) (fun _ _ q => by rw [q.1]; exact Keep.refl _ _) all0 at_18 rfl ?_
  rintro _ h338 ⟨eh339, p0, rfl, q0p0, q1p0, bp0⟩
  rw [eh339]
  show AtS p l e _ s m _ below meth c Z _ _ n0 _ _ _ h0 0 0 (mkF m 21 #[.val (.int i0), .val (.int i1), .val (.int ln), .val (.int (Int32.ofNat k)), .val (.int (Int32.ofNat (j + 1))), .unset, .unset, .unset, .unset, .unset, .unset, .unset, .unset, .unset, .unset, .unset, .unset, .unset, .unset] [(.int p0)])
  have hp0 : ¬ p0 < 0 ∧ ¬ 255 < p0 := ⟨q0p0, q1p0⟩
  refine s_istore (q := 23) (L' := #[.val (.int i0), .val (.int i1), .val (.int ln), .val (.int (Int32.ofNat k)), .val (.int (Int32.ofNat (j + 1))), .val (.int p0), .unset, .unset, .unset, .unset, .unset, .unset, .unset, .unset, .unset, .unset, .unset, .unset, .unset]) C rfl at_21 rfl ?_
  refine s_iloadN (q := 24) C rfl at_23 rfl ?_
  refine s_bipush (q := 26) (v := (8 : Int32)) C (by rfl) at_24 rfl ?_
  refine s_iushr (q := 27) C rfl at_26 rfl ?_
  refine s_callS1 (q := 30) (argsL := [(.int ((i0.toUInt32 >>> ((8 : Int32) &&& 31).toUInt32).toInt32))]) (S := []) (W := 0) (cells' := 0) (slots' := 0) C (G.1 _ (List.mem_of_getElem? (i := 0) rfl)) (G.1 _ (List.mem_of_getElem? (i := 1) rfl)) (G.1 _ (List.mem_of_getElem? (i := 2) rfl)) (G.1 _ (List.mem_of_getElem? (i := 3) rfl)) (by decide) (rm_chf G O _) rfl (lenOf pd_1 rfl) rfl (by decide) (own_leb rfl) (by decide) rfl rfl (by decide) (by decide) (wl := []) (fun _ _ q => by rw [q.1]; exact Keep.refl _ _) all0 at_27 rfl ?_
  rintro _ h340 ⟨eh341, p1, rfl, q0p1, q1p1, bp1⟩
  rw [eh341]
  show AtS p l e _ s m _ below meth c Z _ _ n0 _ _ _ h0 0 0 (mkF m 30 #[.val (.int i0), .val (.int i1), .val (.int ln), .val (.int (Int32.ofNat k)), .val (.int (Int32.ofNat (j + 1))), .val (.int p0), .unset, .unset, .unset, .unset, .unset, .unset, .unset, .unset, .unset, .unset, .unset, .unset, .unset] [(.int p1)])
  have hp1 : ¬ p1 < 0 ∧ ¬ 255 < p1 := ⟨q0p1, q1p1⟩
  refine s_istore (q := 32) (L' := #[.val (.int i0), .val (.int i1), .val (.int ln), .val (.int (Int32.ofNat k)), .val (.int (Int32.ofNat (j + 1))), .val (.int p0), .val (.int p1), .unset, .unset, .unset, .unset, .unset, .unset, .unset, .unset, .unset, .unset, .unset, .unset]) C rfl at_30 rfl ?_
  refine s_iloadN (q := 33) C rfl at_32 rfl ?_
  refine s_callS1 (q := 36) (argsL := [(.int i1)]) (S := []) (W := 0) (cells' := 0) (slots' := 0) C (G.1 _ (List.mem_of_getElem? (i := 0) rfl)) (G.1 _ (List.mem_of_getElem? (i := 1) rfl)) (G.1 _ (List.mem_of_getElem? (i := 2) rfl)) (G.1 _ (List.mem_of_getElem? (i := 3) rfl)) (by decide) (rm_chf G O _) rfl (lenOf pd_1 rfl) rfl (by decide) (own_leb rfl) (by decide) rfl rfl (by decide) (by decide) (wl := []) (fun _ _ q => by rw [q.1]; exact Keep.refl _ _) all0 at_33 rfl ?_
  rintro _ h342 ⟨eh343, n0c, rfl, q0n0c, q1n0c, bn0c⟩
  rw [eh343]
  show AtS p l e _ s m _ below meth c Z _ _ n0 _ _ _ h0 0 0 (mkF m 36 #[.val (.int i0), .val (.int i1), .val (.int ln), .val (.int (Int32.ofNat k)), .val (.int (Int32.ofNat (j + 1))), .val (.int p0), .val (.int p1), .unset, .unset, .unset, .unset, .unset, .unset, .unset, .unset, .unset, .unset, .unset, .unset] [(.int n0c)])
  have hn0c : ¬ n0c < 0 ∧ ¬ 255 < n0c := ⟨q0n0c, q1n0c⟩
  refine s_istore (q := 38) (L' := #[.val (.int i0), .val (.int i1), .val (.int ln), .val (.int (Int32.ofNat k)), .val (.int (Int32.ofNat (j + 1))), .val (.int p0), .val (.int p1), .val (.int n0c), .unset, .unset, .unset, .unset, .unset, .unset, .unset, .unset, .unset, .unset, .unset]) C rfl at_36 rfl ?_
  refine s_iloadN (q := 39) C rfl at_38 rfl ?_
  refine s_bipush (q := 41) (v := (8 : Int32)) C (by rfl) at_39 rfl ?_
  refine s_iushr (q := 42) C rfl at_41 rfl ?_
  refine s_callS1 (q := 45) (argsL := [(.int ((i1.toUInt32 >>> ((8 : Int32) &&& 31).toUInt32).toInt32))]) (S := []) (W := 0) (cells' := 0) (slots' := 0) C (G.1 _ (List.mem_of_getElem? (i := 0) rfl)) (G.1 _ (List.mem_of_getElem? (i := 1) rfl)) (G.1 _ (List.mem_of_getElem? (i := 2) rfl)) (G.1 _ (List.mem_of_getElem? (i := 3) rfl)) (by decide) (rm_chf G O _) rfl (lenOf pd_1 rfl) rfl (by decide) (own_leb rfl) (by decide) rfl rfl (by decide) (by decide) (wl := []) (fun _ _ q => by rw [q.1]; exact Keep.refl _ _) all0 at_42 rfl ?_
  rintro _ h344 ⟨eh345, n1c, rfl, q0n1c, q1n1c, bn1c⟩
  rw [eh345]
  show AtS p l e _ s m _ below meth c Z _ _ n0 _ _ _ h0 0 0 (mkF m 45 #[.val (.int i0), .val (.int i1), .val (.int ln), .val (.int (Int32.ofNat k)), .val (.int (Int32.ofNat (j + 1))), .val (.int p0), .val (.int p1), .val (.int n0c), .unset, .unset, .unset, .unset, .unset, .unset, .unset, .unset, .unset, .unset, .unset] [(.int n1c)])
  have hn1c : ¬ n1c < 0 ∧ ¬ 255 < n1c := ⟨q0n1c, q1n1c⟩
  refine s_istore (q := 47) (L' := #[.val (.int i0), .val (.int i1), .val (.int ln), .val (.int (Int32.ofNat k)), .val (.int (Int32.ofNat (j + 1))), .val (.int p0), .val (.int p1), .val (.int n0c), .val (.int n1c), .unset, .unset, .unset, .unset, .unset, .unset, .unset, .unset, .unset, .unset]) C rfl at_45 rfl ?_
  refine s_iloadN (q := 48) C rfl at_47 rfl ?_
  refine s_bipush (q := 50) (v := (16 : Int32)) C (by rfl) at_48 rfl ?_
  refine s_iushr (q := 51) C rfl at_50 rfl ?_
  refine s_callS1 (q := 54) (argsL := [(.int ((i1.toUInt32 >>> ((16 : Int32) &&& 31).toUInt32).toInt32))]) (S := []) (W := 0) (cells' := 0) (slots' := 0) C (G.1 _ (List.mem_of_getElem? (i := 0) rfl)) (G.1 _ (List.mem_of_getElem? (i := 1) rfl)) (G.1 _ (List.mem_of_getElem? (i := 2) rfl)) (G.1 _ (List.mem_of_getElem? (i := 3) rfl)) (by decide) (rm_chf G O _) rfl (lenOf pd_1 rfl) rfl (by decide) (own_leb rfl) (by decide) rfl rfl (by decide) (by decide) (wl := []) (fun _ _ q => by rw [q.1]; exact Keep.refl _ _) all0 at_51 rfl ?_
  rintro _ h346 ⟨eh347, n2c, rfl, q0n2c, q1n2c, bn2c⟩
  rw [eh347]
  show AtS p l e _ s m _ below meth c Z _ _ n0 _ _ _ h0 0 0 (mkF m 54 #[.val (.int i0), .val (.int i1), .val (.int ln), .val (.int (Int32.ofNat k)), .val (.int (Int32.ofNat (j + 1))), .val (.int p0), .val (.int p1), .val (.int n0c), .val (.int n1c), .unset, .unset, .unset, .unset, .unset, .unset, .unset, .unset, .unset, .unset] [(.int n2c)])
  have hn2c : ¬ n2c < 0 ∧ ¬ 255 < n2c := ⟨q0n2c, q1n2c⟩
  refine s_istore (q := 56) (L' := #[.val (.int i0), .val (.int i1), .val (.int ln), .val (.int (Int32.ofNat k)), .val (.int (Int32.ofNat (j + 1))), .val (.int p0), .val (.int p1), .val (.int n0c), .val (.int n1c), .val (.int n2c), .unset, .unset, .unset, .unset, .unset, .unset, .unset, .unset, .unset]) C rfl at_54 rfl ?_
  have hdl := own_hdl k j p0 p1 n0c n1c n2c
  have hb1 : (123 : Int32) ∉ ([p0, p1].take k) := fun q => by
    have q := List.mem_of_mem_take q
    simp [Ne.symm bp0.1, Ne.symm bp1.1] at q
  have hb2 : (125 : Int32) ∉ ([p0, p1].take k) := fun q => by
    have q := List.mem_of_mem_take q
    simp [Ne.symm bp0.2, Ne.symm bp1.2] at q
  have hb3 : (123 : Int32) ∉ ([n0c, n1c, n2c].take (j + 1)) := fun q => by
    have q := List.mem_of_mem_take q
    simp [Ne.symm bn0c.1, Ne.symm bn1c.1, Ne.symm bn2c.1] at q
  have hb4 : (125 : Int32) ∉ ([n0c, n1c, n2c].take (j + 1)) := fun q => by
    have q := List.mem_of_mem_take q
    simp [Ne.symm bn0c.2, Ne.symm bn1c.2, Ne.symm bn2c.2] at q
  have J1 : ∀ (hJ1 : Heap) (a1 : Addr), Keep h0 hJ1 [] → Str Z hJ1 a1 ([p0, p1].take k) → AtS p l e room_1 s m #[(.int i0), (.int i1), (.int ln)] below meth c Z consts_1 "com/example/lease/lease/LockKeysOfPinLaw" n0 (fun v h => v = some (.int 1)) hJ1.size [] hJ1 6 12 (mkF m 112 #[.val (.int i0), .val (.int i1), .val (.int ln), .val (.int (Int32.ofNat k)), .val (.int (Int32.ofNat (j + 1))), .val (.int p0), .val (.int p1), .val (.int n0c), .val (.int n1c), .val (.int n2c), .val (.ref a1), .unset, .unset, .unset, .unset, .unset, .unset, .unset, .unset] []) := by
    intro hJ1 a1 KJ1 S1
    have O369 := Old_k0 O KJ1
    have J2 : ∀ (hJ2 : Heap) (a2 : Addr), Keep hJ1 hJ2 [] → Str Z hJ2 a2 ([n0c, n1c, n2c].take (j + 1)) → AtS p l e room_1 s m #[(.int i0), (.int i1), (.int ln)] below meth c Z consts_1 "com/example/lease/lease/LockKeysOfPinLaw" n0 (fun v h => v = some (.int 1)) hJ2.size [] hJ2 9 22 (mkF m 186 #[.val (.int i0), .val (.int i1), .val (.int ln), .val (.int (Int32.ofNat k)), .val (.int (Int32.ofNat (j + 1))), .val (.int p0), .val (.int p1), .val (.int n0c), .val (.int n1c), .val (.int n2c), .val (.ref a1), .val (.ref a2), .unset, .unset, .unset, .unset, .unset, .unset, .unset] []) := by
      intro hJ2 a2 KJ2 S2
      have O397 := Old_k0 O369 KJ2
      replace S1 := Str_k0 S1 KJ2
      refine s_bipush (q := 188) (v := (16 : Int32)) C (by rfl) at_186 rfl ?_
      refine s_newArr (q := 190) (cap := 16) (cells' := 10) (slots' := 38) C (G.1 _ (List.mem_of_getElem? (i := 7) rfl)) rfl (by decide) (by decide) (by decide) rfl rfl (by decide) (by decide) at_188 rfl ?_
      intro h398 o399 g_o399 Eh398 V_o399
      replace V_o399 : Ar Z h398 o399 .char [(.int (0 : Int32)), (.int (0 : Int32)), (.int (0 : Int32)), (.int (0 : Int32)), (.int (0 : Int32)), (.int (0 : Int32)), (.int (0 : Int32)), (.int (0 : Int32)), (.int (0 : Int32)), (.int (0 : Int32)), (.int (0 : Int32)), (.int (0 : Int32)), (.int (0 : Int32)), (.int (0 : Int32)), (.int (0 : Int32)), (.int (0 : Int32))] := V_o399
      have ge_o399 : n0 ≤ o399 := by rw [g_o399]; exact Old_le O397
      have sz_o399 : hJ2.size ≤ o399 := Nat.le_of_eq g_o399.symm
      have K400 : Keep hJ2 h398 [] := Keep.of_ext Eh398
      have O401 := Old_k0 O397 K400
      refine s_astore (q := 192) (L' := #[.val (.int i0), .val (.int i1), .val (.int ln), .val (.int (Int32.ofNat k)), .val (.int (Int32.ofNat (j + 1))), .val (.int p0), .val (.int p1), .val (.int n0c), .val (.int n1c), .val (.int n2c), .val (.ref a1), .val (.ref a2), .val (.ref o399), .unset, .unset, .unset, .unset, .unset, .unset]) C rfl rfl at_190 rfl ?_
      refine s_aload (q := 194) C rfl rfl at_192 rfl ?_
      refine s_iloadN (q := 195) C rfl at_194 rfl ?_
      refine s_iload (q := 197) C rfl at_195 rfl ?_
      refine s_iload (q := 199) C rfl at_197 rfl ?_
      refine s_iload (q := 201) C rfl at_199 rfl ?_
      refine s_iload (q := 203) C rfl at_201 rfl ?_
      refine s_iload (q := 205) C rfl at_203 rfl ?_
      refine s_iload (q := 207) C rfl at_205 rfl ?_
      refine s_callS1 (q := 210) (argsL := [(.ref o399), (.int (Int32.ofNat k)), (.int (Int32.ofNat (j + 1))), (.int p0), (.int p1), (.int n0c), (.int n1c), (.int n2c)]) (S := []) (W := 0) (cells' := 10) (slots' := 38) C (G.1 _ (List.mem_of_getElem? (i := 48) rfl)) (G.1 _ (List.mem_of_getElem? (i := 49) rfl)) (G.1 _ (List.mem_of_getElem? (i := 2) rfl)) (G.1 _ (List.mem_of_getElem? (i := 50) rfl)) (by decide) (rm_headf G O401 o399 k j p0 p1 n0c n1c n2c V_o399 hk hj ge_o399 hp0 hp1 hn0c hn1c hn2c) rfl (lenOf pd_12 rfl) rfl (by decide) (own_leb rfl) (by decide) rfl rfl (by decide) (by decide) (wl := [o399]) (fun _ _ q => q.1) (allS (SfOk.arr V_o399 (by decide)) (all0)) at_207 rfl ?_
      rintro _ h402 ⟨Kh402, rfl, VH⟩
      show AtS p l e _ s m _ below meth c Z _ _ n0 _ _ _ h402 10 38 (mkF m 210 #[.val (.int i0), .val (.int i1), .val (.int ln), .val (.int (Int32.ofNat k)), .val (.int (Int32.ofNat (j + 1))), .val (.int p0), .val (.int p1), .val (.int n0c), .val (.int n1c), .val (.int n2c), .val (.ref a1), .val (.ref a2), .val (.ref o399), .unset, .unset, .unset, .unset, .unset, .unset] [(.int (Int32.ofNat (own_hd k j p0 p1 n0c n1c n2c).length))])
      have K403 : Keep hJ2 h402 [] := own_K1 K400 Kh402 sz_o399
      replace S1 := Str_k0 S1 K403
      replace S2 := Str_k0 S2 K403
      replace O397 := Old_k0 O397 K403
      refine s_istore (q := 212) (L' := #[.val (.int i0), .val (.int i1), .val (.int ln), .val (.int (Int32.ofNat k)), .val (.int (Int32.ofNat (j + 1))), .val (.int p0), .val (.int p1), .val (.int n0c), .val (.int n1c), .val (.int n2c), .val (.ref a1), .val (.ref a2), .val (.ref o399), .val (.int (Int32.ofNat (own_hd k j p0 p1 n0c n1c n2c).length)), .unset, .unset, .unset, .unset, .unset]) C rfl at_210 rfl ?_
      refine s_bipush (q := 214) (v := (16 : Int32)) C (by rfl) at_212 rfl ?_
      refine s_newArr (q := 216) (cap := 16) (cells' := 11) (slots' := 54) C (G.1 _ (List.mem_of_getElem? (i := 7) rfl)) rfl (by decide) (by decide) (by decide) rfl rfl (by decide) (by decide) at_214 rfl ?_
      intro h404 o405 g_o405 Eh404 V_o405
      replace V_o405 : Ar Z h404 o405 .char [(.int (0 : Int32)), (.int (0 : Int32)), (.int (0 : Int32)), (.int (0 : Int32)), (.int (0 : Int32)), (.int (0 : Int32)), (.int (0 : Int32)), (.int (0 : Int32)), (.int (0 : Int32)), (.int (0 : Int32)), (.int (0 : Int32)), (.int (0 : Int32)), (.int (0 : Int32)), (.int (0 : Int32)), (.int (0 : Int32)), (.int (0 : Int32))] := V_o405
      have ge_o405 : n0 ≤ o405 := by rw [g_o405]; exact Old_le O397
      have sz_o405 : h402.size ≤ o405 := Nat.le_of_eq g_o405.symm
      have K406 : Keep h402 h404 [] := Keep.of_ext Eh404
      have O407 := Old_k0 O397 K406
      refine s_astore (q := 218) (L' := #[.val (.int i0), .val (.int i1), .val (.int ln), .val (.int (Int32.ofNat k)), .val (.int (Int32.ofNat (j + 1))), .val (.int p0), .val (.int p1), .val (.int n0c), .val (.int n1c), .val (.int n2c), .val (.ref a1), .val (.ref a2), .val (.ref o399), .val (.int (Int32.ofNat (own_hd k j p0 p1 n0c n1c n2c).length)), .val (.ref o405), .unset, .unset, .unset, .unset]) C rfl rfl at_216 rfl ?_
      refine s_aload (q := 220) C rfl rfl at_218 rfl ?_
      refine s_iloadN (q := 221) C rfl at_220 rfl ?_
      refine s_iload (q := 223) C rfl at_221 rfl ?_
      refine s_iload (q := 225) C rfl at_223 rfl ?_
      refine s_iload (q := 227) C rfl at_225 rfl ?_
      refine s_iload (q := 229) C rfl at_227 rfl ?_
      refine s_iload (q := 231) C rfl at_229 rfl ?_
      refine s_iload (q := 233) C rfl at_231 rfl ?_
      refine s_callS1 (q := 236) (argsL := [(.ref o405), (.int (Int32.ofNat k)), (.int (Int32.ofNat (j + 1))), (.int p0), (.int p1), (.int n0c), (.int n1c), (.int n2c)]) (S := []) (W := 0) (cells' := 11) (slots' := 54) C (G.1 _ (List.mem_of_getElem? (i := 48) rfl)) (G.1 _ (List.mem_of_getElem? (i := 49) rfl)) (G.1 _ (List.mem_of_getElem? (i := 2) rfl)) (G.1 _ (List.mem_of_getElem? (i := 50) rfl)) (by decide) (rm_headf G O407 o405 k j p0 p1 n0c n1c n2c V_o405 hk hj ge_o405 hp0 hp1 hn0c hn1c hn2c) rfl (lenOf pd_12 rfl) rfl (by decide) (own_leb rfl) (by decide) rfl rfl (by decide) (by decide) (wl := [o405]) (fun _ _ q => q.1) (allS (SfOk.arr V_o405 (by decide)) (all0)) at_233 rfl ?_
      rintro _ h408 ⟨Kh408, rfl, VF⟩
      show AtS p l e _ s m _ below meth c Z _ _ n0 _ _ _ h408 11 54 (mkF m 236 #[.val (.int i0), .val (.int i1), .val (.int ln), .val (.int (Int32.ofNat k)), .val (.int (Int32.ofNat (j + 1))), .val (.int p0), .val (.int p1), .val (.int n0c), .val (.int n1c), .val (.int n2c), .val (.ref a1), .val (.ref a2), .val (.ref o399), .val (.int (Int32.ofNat (own_hd k j p0 p1 n0c n1c n2c).length)), .val (.ref o405), .unset, .unset, .unset, .unset] [(.int (Int32.ofNat (own_hd k j p0 p1 n0c n1c n2c).length))])
      have K409 : Keep h402 h408 [] := own_K1 K406 Kh408 sz_o405
      refine s_istore (q := 238) (L' := #[.val (.int i0), .val (.int i1), .val (.int ln), .val (.int (Int32.ofNat k)), .val (.int (Int32.ofNat (j + 1))), .val (.int p0), .val (.int p1), .val (.int n0c), .val (.int n1c), .val (.int n2c), .val (.ref a1), .val (.ref a2), .val (.ref o399), .val (.int (Int32.ofNat (own_hd k j p0 p1 n0c n1c n2c).length)), .val (.ref o405), .val (.int (Int32.ofNat (own_hd k j p0 p1 n0c n1c n2c).length)), .unset, .unset, .unset]) C rfl at_236 rfl ?_
      refine s_aload (q := 240) C rfl rfl at_238 rfl ?_
      refine s_iload (q := 242) C rfl at_240 rfl ?_
      refine s_bipush (q := 244) (v := (58 : Int32)) C (by rfl) at_242 rfl ?_
      refine s_castore (q := 245) (z := (58 : Int32)) (i := (own_hd k j p0 p1 n0c n1c n2c).length) C (by decide) VF rfl (by simp only [List.length_append, List.length_map, List.length_replicate, List.length_cons, List.length_nil]; omega) ge_o405 at_244 rfl ?_
      intro h410 Wh410 Vh410
      rw [own_put16 (own_hd k j p0 p1 n0c n1c n2c) 58 (by first | omega | (simp only [List.length_append, List.length_cons, List.length_nil]; omega))] at Vh410
      have K411 := K409.wr Wh410 (Or.inr sz_o405)
      refine s_aload (q := 247) C rfl rfl at_245 rfl ?_
      refine s_iload (q := 249) C rfl at_247 rfl ?_
      refine s_iconst (q := 250) (v := (1 : Int32)) C (by rfl) at_249 rfl ?_
      refine s_iadd (q := 251) C rfl at_250 rfl ?_
      refine s_bipush (q := 253) (v := (102 : Int32)) C (by rfl) at_251 rfl ?_
      rw [show ((Int32.ofNat (own_hd k j p0 p1 n0c n1c n2c).length) + (1 : Int32)) = (Int32.ofNat ((own_hd k j p0 p1 n0c n1c n2c) ++ [(58 : Int32)]).length) from (Int32.ofNat_add _ 1).symm.trans (by simp only [List.length_append, List.length_cons, List.length_nil])]
      refine s_castore (q := 254) (z := (102 : Int32)) (i := ((own_hd k j p0 p1 n0c n1c n2c) ++ [(58 : Int32)]).length) C (by decide) Vh410 rfl (by simp only [List.length_append, List.length_map, List.length_replicate, List.length_cons, List.length_nil]; omega) ge_o405 at_253 rfl ?_
      intro h412 Wh412 Vh412
      rw [own_put16 ((own_hd k j p0 p1 n0c n1c n2c) ++ [(58 : Int32)]) 102 (by first | omega | (simp only [List.length_append, List.length_cons, List.length_nil]; omega))] at Vh412
      have K413 := K411.wr Wh412 (Or.inr sz_o405)
      refine s_aload (q := 256) C rfl rfl at_254 rfl ?_
      refine s_iload (q := 258) C rfl at_256 rfl ?_
      refine s_iconst (q := 259) (v := (2 : Int32)) C (by rfl) at_258 rfl ?_
      refine s_iadd (q := 260) C rfl at_259 rfl ?_
      refine s_bipush (q := 262) (v := (101 : Int32)) C (by rfl) at_260 rfl ?_
      rw [show ((Int32.ofNat (own_hd k j p0 p1 n0c n1c n2c).length) + (2 : Int32)) = (Int32.ofNat (((own_hd k j p0 p1 n0c n1c n2c) ++ [(58 : Int32)]) ++ [(102 : Int32)]).length) from (Int32.ofNat_add _ 2).symm.trans (by simp only [List.length_append, List.length_cons, List.length_nil])]
      refine s_castore (q := 263) (z := (101 : Int32)) (i := (((own_hd k j p0 p1 n0c n1c n2c) ++ [(58 : Int32)]) ++ [(102 : Int32)]).length) C (by decide) Vh412 rfl (by simp only [List.length_append, List.length_map, List.length_replicate, List.length_cons, List.length_nil]; omega) ge_o405 at_262 rfl ?_
      intro h414 Wh414 Vh414
      rw [own_put16 (((own_hd k j p0 p1 n0c n1c n2c) ++ [(58 : Int32)]) ++ [(102 : Int32)]) 101 (by first | omega | (simp only [List.length_append, List.length_cons, List.length_nil]; omega))] at Vh414
      have K415 := K413.wr Wh414 (Or.inr sz_o405)
      refine s_aload (q := 265) C rfl rfl at_263 rfl ?_
      refine s_iload (q := 267) C rfl at_265 rfl ?_
      refine s_iconst (q := 268) (v := (3 : Int32)) C (by rfl) at_267 rfl ?_
      refine s_iadd (q := 269) C rfl at_268 rfl ?_
      refine s_bipush (q := 271) (v := (110 : Int32)) C (by rfl) at_269 rfl ?_
      rw [show ((Int32.ofNat (own_hd k j p0 p1 n0c n1c n2c).length) + (3 : Int32)) = (Int32.ofNat ((((own_hd k j p0 p1 n0c n1c n2c) ++ [(58 : Int32)]) ++ [(102 : Int32)]) ++ [(101 : Int32)]).length) from (Int32.ofNat_add _ 3).symm.trans (by simp only [List.length_append, List.length_cons, List.length_nil])]
      refine s_castore (q := 272) (z := (110 : Int32)) (i := ((((own_hd k j p0 p1 n0c n1c n2c) ++ [(58 : Int32)]) ++ [(102 : Int32)]) ++ [(101 : Int32)]).length) C (by decide) Vh414 rfl (by simp only [List.length_append, List.length_map, List.length_replicate, List.length_cons, List.length_nil]; omega) ge_o405 at_271 rfl ?_
      intro h416 Wh416 Vh416
      rw [own_put16 ((((own_hd k j p0 p1 n0c n1c n2c) ++ [(58 : Int32)]) ++ [(102 : Int32)]) ++ [(101 : Int32)]) 110 (by first | omega | (simp only [List.length_append, List.length_cons, List.length_nil]; omega))] at Vh416
      have K417 := K415.wr Wh416 (Or.inr sz_o405)
      refine s_aload (q := 274) C rfl rfl at_272 rfl ?_
      refine s_iload (q := 276) C rfl at_274 rfl ?_
      refine s_iconst (q := 277) (v := (4 : Int32)) C (by rfl) at_276 rfl ?_
      refine s_iadd (q := 278) C rfl at_277 rfl ?_
      refine s_bipush (q := 280) (v := (99 : Int32)) C (by rfl) at_278 rfl ?_
      rw [show ((Int32.ofNat (own_hd k j p0 p1 n0c n1c n2c).length) + (4 : Int32)) = (Int32.ofNat (((((own_hd k j p0 p1 n0c n1c n2c) ++ [(58 : Int32)]) ++ [(102 : Int32)]) ++ [(101 : Int32)]) ++ [(110 : Int32)]).length) from (Int32.ofNat_add _ 4).symm.trans (by simp only [List.length_append, List.length_cons, List.length_nil])]
      refine s_castore (q := 281) (z := (99 : Int32)) (i := (((((own_hd k j p0 p1 n0c n1c n2c) ++ [(58 : Int32)]) ++ [(102 : Int32)]) ++ [(101 : Int32)]) ++ [(110 : Int32)]).length) C (by decide) Vh416 rfl (by simp only [List.length_append, List.length_map, List.length_replicate, List.length_cons, List.length_nil]; omega) ge_o405 at_280 rfl ?_
      intro h418 Wh418 Vh418
      rw [own_put16 (((((own_hd k j p0 p1 n0c n1c n2c) ++ [(58 : Int32)]) ++ [(102 : Int32)]) ++ [(101 : Int32)]) ++ [(110 : Int32)]) 99 (by first | omega | (simp only [List.length_append, List.length_cons, List.length_nil]; omega))] at Vh418
      have K419 := K417.wr Wh418 (Or.inr sz_o405)
      refine s_aload (q := 283) C rfl rfl at_281 rfl ?_
      refine s_iload (q := 285) C rfl at_283 rfl ?_
      refine s_iconst (q := 286) (v := (5 : Int32)) C (by rfl) at_285 rfl ?_
      refine s_iadd (q := 287) C rfl at_286 rfl ?_
      refine s_bipush (q := 289) (v := (101 : Int32)) C (by rfl) at_287 rfl ?_
      rw [show ((Int32.ofNat (own_hd k j p0 p1 n0c n1c n2c).length) + (5 : Int32)) = (Int32.ofNat ((((((own_hd k j p0 p1 n0c n1c n2c) ++ [(58 : Int32)]) ++ [(102 : Int32)]) ++ [(101 : Int32)]) ++ [(110 : Int32)]) ++ [(99 : Int32)]).length) from (Int32.ofNat_add _ 5).symm.trans (by simp only [List.length_append, List.length_cons, List.length_nil])]
      refine s_castore (q := 290) (z := (101 : Int32)) (i := ((((((own_hd k j p0 p1 n0c n1c n2c) ++ [(58 : Int32)]) ++ [(102 : Int32)]) ++ [(101 : Int32)]) ++ [(110 : Int32)]) ++ [(99 : Int32)]).length) C (by decide) Vh418 rfl (by simp only [List.length_append, List.length_map, List.length_replicate, List.length_cons, List.length_nil]; omega) ge_o405 at_289 rfl ?_
      intro h420 Wh420 Vh420
      rw [own_put16 ((((((own_hd k j p0 p1 n0c n1c n2c) ++ [(58 : Int32)]) ++ [(102 : Int32)]) ++ [(101 : Int32)]) ++ [(110 : Int32)]) ++ [(99 : Int32)]) 101 (by first | omega | (simp only [List.length_append, List.length_cons, List.length_nil]; omega))] at Vh420
      have K421 := K419.wr Wh420 (Or.inr sz_o405)
      refine s_iload (q := 292) C rfl at_290 rfl ?_
      refine s_bipush (q := 294) (v := (6 : Int32)) C (by rfl) at_292 rfl ?_
      refine s_iadd (q := 295) C rfl at_294 rfl ?_
      rw [show ((Int32.ofNat (own_hd k j p0 p1 n0c n1c n2c).length) + (6 : Int32)) = (Int32.ofNat (((((((own_hd k j p0 p1 n0c n1c n2c) ++ [(58 : Int32)]) ++ [(102 : Int32)]) ++ [(101 : Int32)]) ++ [(110 : Int32)]) ++ [(99 : Int32)]) ++ [(101 : Int32)]).length) from (Int32.ofNat_add _ 6).symm.trans (by simp only [List.length_append, List.length_cons, List.length_nil])]
      have VF2 := Vh420
      replace S1 := Str_k0 S1 K421
      replace S2 := Str_k0 S2 K421
      replace VH := Ar_k0 VH K421
      replace O397 := Old_k0 O397 K421
      refine s_istore (q := 297) (L' := #[.val (.int i0), .val (.int i1), .val (.int ln), .val (.int (Int32.ofNat k)), .val (.int (Int32.ofNat (j + 1))), .val (.int p0), .val (.int p1), .val (.int n0c), .val (.int n1c), .val (.int n2c), .val (.ref a1), .val (.ref a2), .val (.ref o399), .val (.int (Int32.ofNat (own_hd k j p0 p1 n0c n1c n2c).length)), .val (.ref o405), .val (.int (Int32.ofNat (((((((own_hd k j p0 p1 n0c n1c n2c) ++ [(58 : Int32)]) ++ [(102 : Int32)]) ++ [(101 : Int32)]) ++ [(110 : Int32)]) ++ [(99 : Int32)]) ++ [(101 : Int32)]).length)), .unset, .unset, .unset]) C rfl at_295 rfl ?_
      refine s_bipush (q := 299) (v := (16 : Int32)) C (by rfl) at_297 rfl ?_
      refine s_newArr (q := 301) (cap := 16) (cells' := 12) (slots' := 70) C (G.1 _ (List.mem_of_getElem? (i := 7) rfl)) rfl (by decide) (by decide) (by decide) rfl rfl (by decide) (by decide) at_299 rfl ?_
      intro h422 o423 g_o423 Eh422 V_o423
      replace V_o423 : Ar Z h422 o423 .char [(.int (0 : Int32)), (.int (0 : Int32)), (.int (0 : Int32)), (.int (0 : Int32)), (.int (0 : Int32)), (.int (0 : Int32)), (.int (0 : Int32)), (.int (0 : Int32)), (.int (0 : Int32)), (.int (0 : Int32)), (.int (0 : Int32)), (.int (0 : Int32)), (.int (0 : Int32)), (.int (0 : Int32)), (.int (0 : Int32)), (.int (0 : Int32))] := V_o423
      have ge_o423 : n0 ≤ o423 := by rw [g_o423]; exact Old_le O397
      have sz_o423 : h420.size ≤ o423 := Nat.le_of_eq g_o423.symm
      have K424 : Keep h420 h422 [] := Keep.of_ext Eh422
      have O425 := Old_k0 O397 K424
      refine s_astore (q := 303) (L' := #[.val (.int i0), .val (.int i1), .val (.int ln), .val (.int (Int32.ofNat k)), .val (.int (Int32.ofNat (j + 1))), .val (.int p0), .val (.int p1), .val (.int n0c), .val (.int n1c), .val (.int n2c), .val (.ref a1), .val (.ref a2), .val (.ref o399), .val (.int (Int32.ofNat (own_hd k j p0 p1 n0c n1c n2c).length)), .val (.ref o405), .val (.int (Int32.ofNat (((((((own_hd k j p0 p1 n0c n1c n2c) ++ [(58 : Int32)]) ++ [(102 : Int32)]) ++ [(101 : Int32)]) ++ [(110 : Int32)]) ++ [(99 : Int32)]) ++ [(101 : Int32)]).length)), .val (.ref o423), .unset, .unset]) C rfl rfl at_301 rfl ?_
      refine s_aload (q := 305) C rfl rfl at_303 rfl ?_
      refine s_iloadN (q := 306) C rfl at_305 rfl ?_
      refine s_iload (q := 308) C rfl at_306 rfl ?_
      refine s_iload (q := 310) C rfl at_308 rfl ?_
      refine s_iload (q := 312) C rfl at_310 rfl ?_
      refine s_iload (q := 314) C rfl at_312 rfl ?_
      refine s_iload (q := 316) C rfl at_314 rfl ?_
      refine s_iload (q := 318) C rfl at_316 rfl ?_
      refine s_callS1 (q := 321) (argsL := [(.ref o423), (.int (Int32.ofNat k)), (.int (Int32.ofNat (j + 1))), (.int p0), (.int p1), (.int n0c), (.int n1c), (.int n2c)]) (S := []) (W := 0) (cells' := 12) (slots' := 70) C (G.1 _ (List.mem_of_getElem? (i := 48) rfl)) (G.1 _ (List.mem_of_getElem? (i := 49) rfl)) (G.1 _ (List.mem_of_getElem? (i := 2) rfl)) (G.1 _ (List.mem_of_getElem? (i := 50) rfl)) (by decide) (rm_headf G O425 o423 k j p0 p1 n0c n1c n2c V_o423 hk hj ge_o423 hp0 hp1 hn0c hn1c hn2c) rfl (lenOf pd_12 rfl) rfl (by decide) (own_leb rfl) (by decide) rfl rfl (by decide) (by decide) (wl := [o423]) (fun _ _ q => q.1) (allS (SfOk.arr V_o423 (by decide)) (all0)) at_318 rfl ?_
      rintro _ h426 ⟨Kh426, rfl, VR⟩
      show AtS p l e _ s m _ below meth c Z _ _ n0 _ _ _ h426 12 70 (mkF m 321 #[.val (.int i0), .val (.int i1), .val (.int ln), .val (.int (Int32.ofNat k)), .val (.int (Int32.ofNat (j + 1))), .val (.int p0), .val (.int p1), .val (.int n0c), .val (.int n1c), .val (.int n2c), .val (.ref a1), .val (.ref a2), .val (.ref o399), .val (.int (Int32.ofNat (own_hd k j p0 p1 n0c n1c n2c).length)), .val (.ref o405), .val (.int (Int32.ofNat (((((((own_hd k j p0 p1 n0c n1c n2c) ++ [(58 : Int32)]) ++ [(102 : Int32)]) ++ [(101 : Int32)]) ++ [(110 : Int32)]) ++ [(99 : Int32)]) ++ [(101 : Int32)]).length)), .val (.ref o423), .unset, .unset] [(.int (Int32.ofNat (own_hd k j p0 p1 n0c n1c n2c).length))])
      have K427 : Keep h420 h426 [] := own_K1 K424 Kh426 sz_o423
      refine s_istore (q := 323) (L' := #[.val (.int i0), .val (.int i1), .val (.int ln), .val (.int (Int32.ofNat k)), .val (.int (Int32.ofNat (j + 1))), .val (.int p0), .val (.int p1), .val (.int n0c), .val (.int n1c), .val (.int n2c), .val (.ref a1), .val (.ref a2), .val (.ref o399), .val (.int (Int32.ofNat (own_hd k j p0 p1 n0c n1c n2c).length)), .val (.ref o405), .val (.int (Int32.ofNat (((((((own_hd k j p0 p1 n0c n1c n2c) ++ [(58 : Int32)]) ++ [(102 : Int32)]) ++ [(101 : Int32)]) ++ [(110 : Int32)]) ++ [(99 : Int32)]) ++ [(101 : Int32)]).length)), .val (.ref o423), .val (.int (Int32.ofNat (own_hd k j p0 p1 n0c n1c n2c).length)), .unset]) C rfl at_321 rfl ?_
      refine s_aload (q := 325) C rfl rfl at_323 rfl ?_
      refine s_iload (q := 327) C rfl at_325 rfl ?_
      refine s_bipush (q := 329) (v := (58 : Int32)) C (by rfl) at_327 rfl ?_
      refine s_castore (q := 330) (z := (58 : Int32)) (i := (own_hd k j p0 p1 n0c n1c n2c).length) C (by decide) VR rfl (by simp only [List.length_append, List.length_map, List.length_replicate, List.length_cons, List.length_nil]; omega) ge_o423 at_329 rfl ?_
      intro h428 Wh428 Vh428
      rw [own_put16 (own_hd k j p0 p1 n0c n1c n2c) 58 (by first | omega | (simp only [List.length_append, List.length_cons, List.length_nil]; omega))] at Vh428
      have K429 := K427.wr Wh428 (Or.inr sz_o423)
      refine s_aload (q := 332) C rfl rfl at_330 rfl ?_
      refine s_iload (q := 334) C rfl at_332 rfl ?_
      refine s_iconst (q := 335) (v := (1 : Int32)) C (by rfl) at_334 rfl ?_
      refine s_iadd (q := 336) C rfl at_335 rfl ?_
      refine s_bipush (q := 338) (v := (114 : Int32)) C (by rfl) at_336 rfl ?_
      rw [show ((Int32.ofNat (own_hd k j p0 p1 n0c n1c n2c).length) + (1 : Int32)) = (Int32.ofNat ((own_hd k j p0 p1 n0c n1c n2c) ++ [(58 : Int32)]).length) from (Int32.ofNat_add _ 1).symm.trans (by simp only [List.length_append, List.length_cons, List.length_nil])]
      refine s_castore (q := 339) (z := (114 : Int32)) (i := ((own_hd k j p0 p1 n0c n1c n2c) ++ [(58 : Int32)]).length) C (by decide) Vh428 rfl (by simp only [List.length_append, List.length_map, List.length_replicate, List.length_cons, List.length_nil]; omega) ge_o423 at_338 rfl ?_
      intro h430 Wh430 Vh430
      rw [own_put16 ((own_hd k j p0 p1 n0c n1c n2c) ++ [(58 : Int32)]) 114 (by first | omega | (simp only [List.length_append, List.length_cons, List.length_nil]; omega))] at Vh430
      have K431 := K429.wr Wh430 (Or.inr sz_o423)
      refine s_aload (q := 341) C rfl rfl at_339 rfl ?_
      refine s_iload (q := 343) C rfl at_341 rfl ?_
      refine s_iconst (q := 344) (v := (2 : Int32)) C (by rfl) at_343 rfl ?_
      refine s_iadd (q := 345) C rfl at_344 rfl ?_
      refine s_bipush (q := 347) (v := (101 : Int32)) C (by rfl) at_345 rfl ?_
      rw [show ((Int32.ofNat (own_hd k j p0 p1 n0c n1c n2c).length) + (2 : Int32)) = (Int32.ofNat (((own_hd k j p0 p1 n0c n1c n2c) ++ [(58 : Int32)]) ++ [(114 : Int32)]).length) from (Int32.ofNat_add _ 2).symm.trans (by simp only [List.length_append, List.length_cons, List.length_nil])]
      refine s_castore (q := 348) (z := (101 : Int32)) (i := (((own_hd k j p0 p1 n0c n1c n2c) ++ [(58 : Int32)]) ++ [(114 : Int32)]).length) C (by decide) Vh430 rfl (by simp only [List.length_append, List.length_map, List.length_replicate, List.length_cons, List.length_nil]; omega) ge_o423 at_347 rfl ?_
      intro h432 Wh432 Vh432
      rw [own_put16 (((own_hd k j p0 p1 n0c n1c n2c) ++ [(58 : Int32)]) ++ [(114 : Int32)]) 101 (by first | omega | (simp only [List.length_append, List.length_cons, List.length_nil]; omega))] at Vh432
      have K433 := K431.wr Wh432 (Or.inr sz_o423)
      refine s_aload (q := 350) C rfl rfl at_348 rfl ?_
      refine s_iload (q := 352) C rfl at_350 rfl ?_
      refine s_iconst (q := 353) (v := (3 : Int32)) C (by rfl) at_352 rfl ?_
      refine s_iadd (q := 354) C rfl at_353 rfl ?_
      refine s_bipush (q := 356) (v := (108 : Int32)) C (by rfl) at_354 rfl ?_
      rw [show ((Int32.ofNat (own_hd k j p0 p1 n0c n1c n2c).length) + (3 : Int32)) = (Int32.ofNat ((((own_hd k j p0 p1 n0c n1c n2c) ++ [(58 : Int32)]) ++ [(114 : Int32)]) ++ [(101 : Int32)]).length) from (Int32.ofNat_add _ 3).symm.trans (by simp only [List.length_append, List.length_cons, List.length_nil])]
      refine s_castore (q := 357) (z := (108 : Int32)) (i := ((((own_hd k j p0 p1 n0c n1c n2c) ++ [(58 : Int32)]) ++ [(114 : Int32)]) ++ [(101 : Int32)]).length) C (by decide) Vh432 rfl (by simp only [List.length_append, List.length_map, List.length_replicate, List.length_cons, List.length_nil]; omega) ge_o423 at_356 rfl ?_
      intro h434 Wh434 Vh434
      rw [own_put16 ((((own_hd k j p0 p1 n0c n1c n2c) ++ [(58 : Int32)]) ++ [(114 : Int32)]) ++ [(101 : Int32)]) 108 (by first | omega | (simp only [List.length_append, List.length_cons, List.length_nil]; omega))] at Vh434
      have K435 := K433.wr Wh434 (Or.inr sz_o423)
      refine s_aload (q := 359) C rfl rfl at_357 rfl ?_
      refine s_iload (q := 361) C rfl at_359 rfl ?_
      refine s_iconst (q := 362) (v := (4 : Int32)) C (by rfl) at_361 rfl ?_
      refine s_iadd (q := 363) C rfl at_362 rfl ?_
      refine s_bipush (q := 365) (v := (101 : Int32)) C (by rfl) at_363 rfl ?_
      rw [show ((Int32.ofNat (own_hd k j p0 p1 n0c n1c n2c).length) + (4 : Int32)) = (Int32.ofNat (((((own_hd k j p0 p1 n0c n1c n2c) ++ [(58 : Int32)]) ++ [(114 : Int32)]) ++ [(101 : Int32)]) ++ [(108 : Int32)]).length) from (Int32.ofNat_add _ 4).symm.trans (by simp only [List.length_append, List.length_cons, List.length_nil])]
      refine s_castore (q := 366) (z := (101 : Int32)) (i := (((((own_hd k j p0 p1 n0c n1c n2c) ++ [(58 : Int32)]) ++ [(114 : Int32)]) ++ [(101 : Int32)]) ++ [(108 : Int32)]).length) C (by decide) Vh434 rfl (by simp only [List.length_append, List.length_map, List.length_replicate, List.length_cons, List.length_nil]; omega) ge_o423 at_365 rfl ?_
      intro h436 Wh436 Vh436
      rw [own_put16 (((((own_hd k j p0 p1 n0c n1c n2c) ++ [(58 : Int32)]) ++ [(114 : Int32)]) ++ [(101 : Int32)]) ++ [(108 : Int32)]) 101 (by first | omega | (simp only [List.length_append, List.length_cons, List.length_nil]; omega))] at Vh436
      have K437 := K435.wr Wh436 (Or.inr sz_o423)
      refine s_aload (q := 368) C rfl rfl at_366 rfl ?_
      refine s_iload (q := 370) C rfl at_368 rfl ?_
      refine s_iconst (q := 371) (v := (5 : Int32)) C (by rfl) at_370 rfl ?_
      refine s_iadd (q := 372) C rfl at_371 rfl ?_
      refine s_bipush (q := 374) (v := (97 : Int32)) C (by rfl) at_372 rfl ?_
      rw [show ((Int32.ofNat (own_hd k j p0 p1 n0c n1c n2c).length) + (5 : Int32)) = (Int32.ofNat ((((((own_hd k j p0 p1 n0c n1c n2c) ++ [(58 : Int32)]) ++ [(114 : Int32)]) ++ [(101 : Int32)]) ++ [(108 : Int32)]) ++ [(101 : Int32)]).length) from (Int32.ofNat_add _ 5).symm.trans (by simp only [List.length_append, List.length_cons, List.length_nil])]
      refine s_castore (q := 375) (z := (97 : Int32)) (i := ((((((own_hd k j p0 p1 n0c n1c n2c) ++ [(58 : Int32)]) ++ [(114 : Int32)]) ++ [(101 : Int32)]) ++ [(108 : Int32)]) ++ [(101 : Int32)]).length) C (by decide) Vh436 rfl (by simp only [List.length_append, List.length_map, List.length_replicate, List.length_cons, List.length_nil]; omega) ge_o423 at_374 rfl ?_
      intro h438 Wh438 Vh438
      rw [own_put16 ((((((own_hd k j p0 p1 n0c n1c n2c) ++ [(58 : Int32)]) ++ [(114 : Int32)]) ++ [(101 : Int32)]) ++ [(108 : Int32)]) ++ [(101 : Int32)]) 97 (by first | omega | (simp only [List.length_append, List.length_cons, List.length_nil]; omega))] at Vh438
      have K439 := K437.wr Wh438 (Or.inr sz_o423)
      refine s_aload (q := 377) C rfl rfl at_375 rfl ?_
      refine s_iload (q := 379) C rfl at_377 rfl ?_
      refine s_bipush (q := 381) (v := (6 : Int32)) C (by rfl) at_379 rfl ?_
      refine s_iadd (q := 382) C rfl at_381 rfl ?_
      refine s_bipush (q := 384) (v := (115 : Int32)) C (by rfl) at_382 rfl ?_
      rw [show ((Int32.ofNat (own_hd k j p0 p1 n0c n1c n2c).length) + (6 : Int32)) = (Int32.ofNat (((((((own_hd k j p0 p1 n0c n1c n2c) ++ [(58 : Int32)]) ++ [(114 : Int32)]) ++ [(101 : Int32)]) ++ [(108 : Int32)]) ++ [(101 : Int32)]) ++ [(97 : Int32)]).length) from (Int32.ofNat_add _ 6).symm.trans (by simp only [List.length_append, List.length_cons, List.length_nil])]
      refine s_castore (q := 385) (z := (115 : Int32)) (i := (((((((own_hd k j p0 p1 n0c n1c n2c) ++ [(58 : Int32)]) ++ [(114 : Int32)]) ++ [(101 : Int32)]) ++ [(108 : Int32)]) ++ [(101 : Int32)]) ++ [(97 : Int32)]).length) C (by decide) Vh438 rfl (by simp only [List.length_append, List.length_map, List.length_replicate, List.length_cons, List.length_nil]; omega) ge_o423 at_384 rfl ?_
      intro h440 Wh440 Vh440
      rw [own_put16 (((((((own_hd k j p0 p1 n0c n1c n2c) ++ [(58 : Int32)]) ++ [(114 : Int32)]) ++ [(101 : Int32)]) ++ [(108 : Int32)]) ++ [(101 : Int32)]) ++ [(97 : Int32)]) 115 (by first | omega | (simp only [List.length_append, List.length_cons, List.length_nil]; omega))] at Vh440
      have K441 := K439.wr Wh440 (Or.inr sz_o423)
      refine s_aload (q := 387) C rfl rfl at_385 rfl ?_
      refine s_iload (q := 389) C rfl at_387 rfl ?_
      refine s_bipush (q := 391) (v := (7 : Int32)) C (by rfl) at_389 rfl ?_
      refine s_iadd (q := 392) C rfl at_391 rfl ?_
      refine s_bipush (q := 394) (v := (101 : Int32)) C (by rfl) at_392 rfl ?_
      rw [show ((Int32.ofNat (own_hd k j p0 p1 n0c n1c n2c).length) + (7 : Int32)) = (Int32.ofNat ((((((((own_hd k j p0 p1 n0c n1c n2c) ++ [(58 : Int32)]) ++ [(114 : Int32)]) ++ [(101 : Int32)]) ++ [(108 : Int32)]) ++ [(101 : Int32)]) ++ [(97 : Int32)]) ++ [(115 : Int32)]).length) from (Int32.ofNat_add _ 7).symm.trans (by simp only [List.length_append, List.length_cons, List.length_nil])]
      refine s_castore (q := 395) (z := (101 : Int32)) (i := ((((((((own_hd k j p0 p1 n0c n1c n2c) ++ [(58 : Int32)]) ++ [(114 : Int32)]) ++ [(101 : Int32)]) ++ [(108 : Int32)]) ++ [(101 : Int32)]) ++ [(97 : Int32)]) ++ [(115 : Int32)]).length) C (by decide) Vh440 rfl (by simp only [List.length_append, List.length_map, List.length_replicate, List.length_cons, List.length_nil]; omega) ge_o423 at_394 rfl ?_
      intro h442 Wh442 Vh442
      rw [own_put16 ((((((((own_hd k j p0 p1 n0c n1c n2c) ++ [(58 : Int32)]) ++ [(114 : Int32)]) ++ [(101 : Int32)]) ++ [(108 : Int32)]) ++ [(101 : Int32)]) ++ [(97 : Int32)]) ++ [(115 : Int32)]) 101 (by first | omega | (simp only [List.length_append, List.length_cons, List.length_nil]; omega))] at Vh442
      have K443 := K441.wr Wh442 (Or.inr sz_o423)
      refine s_aload (q := 397) C rfl rfl at_395 rfl ?_
      refine s_iload (q := 399) C rfl at_397 rfl ?_
      refine s_bipush (q := 401) (v := (8 : Int32)) C (by rfl) at_399 rfl ?_
      refine s_iadd (q := 402) C rfl at_401 rfl ?_
      refine s_bipush (q := 404) (v := (100 : Int32)) C (by rfl) at_402 rfl ?_
      rw [show ((Int32.ofNat (own_hd k j p0 p1 n0c n1c n2c).length) + (8 : Int32)) = (Int32.ofNat (((((((((own_hd k j p0 p1 n0c n1c n2c) ++ [(58 : Int32)]) ++ [(114 : Int32)]) ++ [(101 : Int32)]) ++ [(108 : Int32)]) ++ [(101 : Int32)]) ++ [(97 : Int32)]) ++ [(115 : Int32)]) ++ [(101 : Int32)]).length) from (Int32.ofNat_add _ 8).symm.trans (by simp only [List.length_append, List.length_cons, List.length_nil])]
      refine s_castore (q := 405) (z := (100 : Int32)) (i := (((((((((own_hd k j p0 p1 n0c n1c n2c) ++ [(58 : Int32)]) ++ [(114 : Int32)]) ++ [(101 : Int32)]) ++ [(108 : Int32)]) ++ [(101 : Int32)]) ++ [(97 : Int32)]) ++ [(115 : Int32)]) ++ [(101 : Int32)]).length) C (by decide) Vh442 rfl (by simp only [List.length_append, List.length_map, List.length_replicate, List.length_cons, List.length_nil]; omega) ge_o423 at_404 rfl ?_
      intro h444 Wh444 Vh444
      rw [own_put16 (((((((((own_hd k j p0 p1 n0c n1c n2c) ++ [(58 : Int32)]) ++ [(114 : Int32)]) ++ [(101 : Int32)]) ++ [(108 : Int32)]) ++ [(101 : Int32)]) ++ [(97 : Int32)]) ++ [(115 : Int32)]) ++ [(101 : Int32)]) 100 (by first | omega | (simp only [List.length_append, List.length_cons, List.length_nil]; omega))] at Vh444
      have K445 := K443.wr Wh444 (Or.inr sz_o423)
      refine s_iload (q := 407) C rfl at_405 rfl ?_
      refine s_bipush (q := 409) (v := (9 : Int32)) C (by rfl) at_407 rfl ?_
      refine s_iadd (q := 410) C rfl at_409 rfl ?_
      rw [show ((Int32.ofNat (own_hd k j p0 p1 n0c n1c n2c).length) + (9 : Int32)) = (Int32.ofNat ((((((((((own_hd k j p0 p1 n0c n1c n2c) ++ [(58 : Int32)]) ++ [(114 : Int32)]) ++ [(101 : Int32)]) ++ [(108 : Int32)]) ++ [(101 : Int32)]) ++ [(97 : Int32)]) ++ [(115 : Int32)]) ++ [(101 : Int32)]) ++ [(100 : Int32)]).length) from (Int32.ofNat_add _ 9).symm.trans (by simp only [List.length_append, List.length_cons, List.length_nil])]
      have VR2 := Vh444
      replace S1 := Str_k0 S1 K445
      replace S2 := Str_k0 S2 K445
      replace VH := Ar_k0 VH K445
      replace VF2 := Ar_k0 VF2 K445
      replace O397 := Old_k0 O397 K445
      refine s_istore (q := 412) (L' := #[.val (.int i0), .val (.int i1), .val (.int ln), .val (.int (Int32.ofNat k)), .val (.int (Int32.ofNat (j + 1))), .val (.int p0), .val (.int p1), .val (.int n0c), .val (.int n1c), .val (.int n2c), .val (.ref a1), .val (.ref a2), .val (.ref o399), .val (.int (Int32.ofNat (own_hd k j p0 p1 n0c n1c n2c).length)), .val (.ref o405), .val (.int (Int32.ofNat (((((((own_hd k j p0 p1 n0c n1c n2c) ++ [(58 : Int32)]) ++ [(102 : Int32)]) ++ [(101 : Int32)]) ++ [(110 : Int32)]) ++ [(99 : Int32)]) ++ [(101 : Int32)]).length)), .val (.ref o423), .val (.int (Int32.ofNat ((((((((((own_hd k j p0 p1 n0c n1c n2c) ++ [(58 : Int32)]) ++ [(114 : Int32)]) ++ [(101 : Int32)]) ++ [(108 : Int32)]) ++ [(101 : Int32)]) ++ [(97 : Int32)]) ++ [(115 : Int32)]) ++ [(101 : Int32)]) ++ [(100 : Int32)]).length)), .unset]) C rfl at_410 rfl ?_
      refine s_aload (q := 414) C rfl rfl at_412 rfl ?_
      refine s_aload (q := 416) C rfl rfl at_414 rfl ?_
      refine s_callS2 (q := 419) (argsL := [(.ref a1), (.ref a2)]) (S := []) (W := 0) (cells' := 33) (slots' := 337) C G.el (G.1 _ (List.mem_of_getElem? (i := 51) rfl)) (G.1 _ (List.mem_of_getElem? (i := 52) rfl)) (G.1 _ (List.mem_of_getElem? (i := 53) rfl)) (G.1 _ (List.mem_of_getElem? (i := 54) rfl)) (by decide) (rm_lkof G O397 a1 a2 ([p0, p1].take k) ([n0c, n1c, n2c].take (j + 1)) S1 S2 hb1 hb2 hb3 hb4 (by simp only [List.length_take, List.length_cons, List.length_nil]; omega) (by simp only [List.length_take, List.length_cons, List.length_nil]; omega) (by simp only [List.length_take, List.length_cons, List.length_nil]; omega)) rfl (lenOf pd_13 rfl) rfl (by decide) (own_leb rfl) (by decide) rfl rfl (by decide) (by decide) at_416 rfl ?_
      rintro _ h446 ⟨Kh446, o9, rfl, E9, ⟨r1, F1, T1⟩, ⟨r2, F2, T2⟩, r3, F3, T3⟩
      show AtS p l e _ s m _ below meth c Z _ _ n0 _ _ _ h446 33 337 (mkF m 419 #[.val (.int i0), .val (.int i1), .val (.int ln), .val (.int (Int32.ofNat k)), .val (.int (Int32.ofNat (j + 1))), .val (.int p0), .val (.int p1), .val (.int n0c), .val (.int n1c), .val (.int n2c), .val (.ref a1), .val (.ref a2), .val (.ref o399), .val (.int (Int32.ofNat (own_hd k j p0 p1 n0c n1c n2c).length)), .val (.ref o405), .val (.int (Int32.ofNat (((((((own_hd k j p0 p1 n0c n1c n2c) ++ [(58 : Int32)]) ++ [(102 : Int32)]) ++ [(101 : Int32)]) ++ [(110 : Int32)]) ++ [(99 : Int32)]) ++ [(101 : Int32)]).length)), .val (.ref o423), .val (.int (Int32.ofNat ((((((((((own_hd k j p0 p1 n0c n1c n2c) ++ [(58 : Int32)]) ++ [(114 : Int32)]) ++ [(101 : Int32)]) ++ [(108 : Int32)]) ++ [(101 : Int32)]) ++ [(97 : Int32)]) ++ [(115 : Int32)]) ++ [(101 : Int32)]) ++ [(100 : Int32)]).length)), .unset] [(.ref o9)])
      replace S1 := Str_k0 S1 Kh446
      replace S2 := Str_k0 S2 Kh446
      replace VH := Ar_k0 VH Kh446
      replace VF2 := Ar_k0 VF2 Kh446
      replace VR2 := Ar_k0 VR2 Kh446
      replace O397 := Old_k0 O397 Kh446
      refine s_astore (q := 421) (L' := #[.val (.int i0), .val (.int i1), .val (.int ln), .val (.int (Int32.ofNat k)), .val (.int (Int32.ofNat (j + 1))), .val (.int p0), .val (.int p1), .val (.int n0c), .val (.int n1c), .val (.int n2c), .val (.ref a1), .val (.ref a2), .val (.ref o399), .val (.int (Int32.ofNat (own_hd k j p0 p1 n0c n1c n2c).length)), .val (.ref o405), .val (.int (Int32.ofNat (((((((own_hd k j p0 p1 n0c n1c n2c) ++ [(58 : Int32)]) ++ [(102 : Int32)]) ++ [(101 : Int32)]) ++ [(110 : Int32)]) ++ [(99 : Int32)]) ++ [(101 : Int32)]).length)), .val (.ref o423), .val (.int (Int32.ofNat ((((((((((own_hd k j p0 p1 n0c n1c n2c) ++ [(58 : Int32)]) ++ [(114 : Int32)]) ++ [(101 : Int32)]) ++ [(108 : Int32)]) ++ [(101 : Int32)]) ++ [(97 : Int32)]) ++ [(115 : Int32)]) ++ [(101 : Int32)]) ++ [(100 : Int32)]).length)), .val (.ref o9)]) C rfl rfl at_419 rfl ?_
      refine s_aload (q := 423) C rfl rfl at_421 rfl ?_
      refine s_ifnonnull_t (q := 428) C at_423 (by decide) (by decide) ?_
      refine s_aload (q := 430) C rfl rfl at_428 rfl ?_
      refine s_callV1 (q := 433) (argsL := []) (S := []) (W := 0) (cells' := 33) (slots' := 337) (a := o9) C E9 (G.1 _ (List.mem_of_getElem? (i := 235) rfl)) (G.1 _ (List.mem_of_getElem? (i := 236) rfl)) (s_nf (G.1 _ (List.mem_of_getElem? (i := 238) rfl))) (G.1 _ (List.mem_of_getElem? (i := 238) rfl)) (G.1 _ (List.mem_of_getElem? (i := 237) rfl)) (G.1 _ (List.mem_of_getElem? (i := 53) rfl)) (G.1 _ (List.mem_of_getElem? (i := 239) rfl)) (by decide) (rm_holds G O397 o9 r1 F1) rfl (lenOf pd_32 rfl) rfl (by decide) (own_leb rfl) (by decide) rfl rfl (by decide) (by decide) (wl := []) (fun _ _ q => by rw [q.1]; exact Keep.refl _ _) all0 at_430 rfl ?_
      rintro _ h447 ⟨eh448, rfl⟩
      rw [eh448]
      show AtS p l e _ s m _ below meth c Z _ _ n0 _ _ _ h446 33 337 (mkF m 433 #[.val (.int i0), .val (.int i1), .val (.int ln), .val (.int (Int32.ofNat k)), .val (.int (Int32.ofNat (j + 1))), .val (.int p0), .val (.int p1), .val (.int n0c), .val (.int n1c), .val (.int n2c), .val (.ref a1), .val (.ref a2), .val (.ref o399), .val (.int (Int32.ofNat (own_hd k j p0 p1 n0c n1c n2c).length)), .val (.ref o405), .val (.int (Int32.ofNat (((((((own_hd k j p0 p1 n0c n1c n2c) ++ [(58 : Int32)]) ++ [(102 : Int32)]) ++ [(101 : Int32)]) ++ [(110 : Int32)]) ++ [(99 : Int32)]) ++ [(101 : Int32)]).length)), .val (.ref o423), .val (.int (Int32.ofNat ((((((((((own_hd k j p0 p1 n0c n1c n2c) ++ [(58 : Int32)]) ++ [(114 : Int32)]) ++ [(101 : Int32)]) ++ [(108 : Int32)]) ++ [(101 : Int32)]) ++ [(97 : Int32)]) ++ [(115 : Int32)]) ++ [(101 : Int32)]) ++ [(100 : Int32)]).length)), .val (.ref o9)] [(.ref r1)])
      refine s_aload (q := 435) C rfl rfl at_433 rfl ?_
      refine s_iload (q := 437) C rfl at_435 rfl ?_
      refine s_callS1 (q := 440) (argsL := [(.ref r1), (.ref o399), (.int (Int32.ofNat (own_hd k j p0 p1 n0c n1c n2c).length))]) (S := []) (W := 0) (cells' := 33) (slots' := 337) C (G.1 _ (List.mem_of_getElem? (i := 240) rfl)) (G.1 _ (List.mem_of_getElem? (i := 241) rfl)) (G.1 _ (List.mem_of_getElem? (i := 2) rfl)) (G.1 _ (List.mem_of_getElem? (i := 242) rfl)) (by decide) (rm_matchf G O397 r1 o399 (own_hd k j p0 p1 n0c n1c n2c) _ (by simpa [own_hd] using T1) VH) rfl (lenOf pd_38 rfl) rfl (by decide) (own_leb rfl) (by decide) rfl rfl (by decide) (by decide) (wl := []) (fun _ _ q => by rw [q.1]; exact Keep.refl _ _) all0 at_437 rfl ?_
      rintro _ h449 ⟨eh450, rfl⟩
      rw [eh450]
      show AtS p l e _ s m _ below meth c Z _ _ n0 _ _ _ h446 33 337 (mkF m 440 #[.val (.int i0), .val (.int i1), .val (.int ln), .val (.int (Int32.ofNat k)), .val (.int (Int32.ofNat (j + 1))), .val (.int p0), .val (.int p1), .val (.int n0c), .val (.int n1c), .val (.int n2c), .val (.ref a1), .val (.ref a2), .val (.ref o399), .val (.int (Int32.ofNat (own_hd k j p0 p1 n0c n1c n2c).length)), .val (.ref o405), .val (.int (Int32.ofNat (((((((own_hd k j p0 p1 n0c n1c n2c) ++ [(58 : Int32)]) ++ [(102 : Int32)]) ++ [(101 : Int32)]) ++ [(110 : Int32)]) ++ [(99 : Int32)]) ++ [(101 : Int32)]).length)), .val (.ref o423), .val (.int (Int32.ofNat ((((((((((own_hd k j p0 p1 n0c n1c n2c) ++ [(58 : Int32)]) ++ [(114 : Int32)]) ++ [(101 : Int32)]) ++ [(108 : Int32)]) ++ [(101 : Int32)]) ++ [(97 : Int32)]) ++ [(115 : Int32)]) ++ [(101 : Int32)]) ++ [(100 : Int32)]).length)), .val (.ref o9)] [(.int (1 : Int32))])
      refine s_if_eq_f (q := 443) C at_440 rfl (by decide) ?_
      refine s_aload (q := 445) C rfl rfl at_443 rfl ?_
      refine s_callV1 (q := 448) (argsL := []) (S := []) (W := 0) (cells' := 33) (slots' := 337) (a := o9) C E9 (G.1 _ (List.mem_of_getElem? (i := 263) rfl)) (G.1 _ (List.mem_of_getElem? (i := 264) rfl)) (s_nf (G.1 _ (List.mem_of_getElem? (i := 266) rfl))) (G.1 _ (List.mem_of_getElem? (i := 266) rfl)) (G.1 _ (List.mem_of_getElem? (i := 265) rfl)) (G.1 _ (List.mem_of_getElem? (i := 53) rfl)) (G.1 _ (List.mem_of_getElem? (i := 267) rfl)) (by decide) (rm_fence G O397 o9 r2 F2) rfl (lenOf pd_32 rfl) rfl (by decide) (own_leb rfl) (by decide) rfl rfl (by decide) (by decide) (wl := []) (fun _ _ q => by rw [q.1]; exact Keep.refl _ _) all0 at_445 rfl ?_
      rintro _ h451 ⟨eh452, rfl⟩
      rw [eh452]
      show AtS p l e _ s m _ below meth c Z _ _ n0 _ _ _ h446 33 337 (mkF m 448 #[.val (.int i0), .val (.int i1), .val (.int ln), .val (.int (Int32.ofNat k)), .val (.int (Int32.ofNat (j + 1))), .val (.int p0), .val (.int p1), .val (.int n0c), .val (.int n1c), .val (.int n2c), .val (.ref a1), .val (.ref a2), .val (.ref o399), .val (.int (Int32.ofNat (own_hd k j p0 p1 n0c n1c n2c).length)), .val (.ref o405), .val (.int (Int32.ofNat (((((((own_hd k j p0 p1 n0c n1c n2c) ++ [(58 : Int32)]) ++ [(102 : Int32)]) ++ [(101 : Int32)]) ++ [(110 : Int32)]) ++ [(99 : Int32)]) ++ [(101 : Int32)]).length)), .val (.ref o423), .val (.int (Int32.ofNat ((((((((((own_hd k j p0 p1 n0c n1c n2c) ++ [(58 : Int32)]) ++ [(114 : Int32)]) ++ [(101 : Int32)]) ++ [(108 : Int32)]) ++ [(101 : Int32)]) ++ [(97 : Int32)]) ++ [(115 : Int32)]) ++ [(101 : Int32)]) ++ [(100 : Int32)]).length)), .val (.ref o9)] [(.ref r2)])
      refine s_aload (q := 450) C rfl rfl at_448 rfl ?_
      refine s_iload (q := 452) C rfl at_450 rfl ?_
      refine s_callS1 (q := 455) (argsL := [(.ref r2), (.ref o405), (.int (Int32.ofNat (((((((own_hd k j p0 p1 n0c n1c n2c) ++ [(58 : Int32)]) ++ [(102 : Int32)]) ++ [(101 : Int32)]) ++ [(110 : Int32)]) ++ [(99 : Int32)]) ++ [(101 : Int32)]).length))]) (S := []) (W := 0) (cells' := 33) (slots' := 337) C (G.1 _ (List.mem_of_getElem? (i := 240) rfl)) (G.1 _ (List.mem_of_getElem? (i := 241) rfl)) (G.1 _ (List.mem_of_getElem? (i := 2) rfl)) (G.1 _ (List.mem_of_getElem? (i := 242) rfl)) (by decide) (rm_matchf G O397 r2 o405 (((((((own_hd k j p0 p1 n0c n1c n2c) ++ [(58 : Int32)]) ++ [(102 : Int32)]) ++ [(101 : Int32)]) ++ [(110 : Int32)]) ++ [(99 : Int32)]) ++ [(101 : Int32)]) _ (by simpa [own_hd] using T2) VF2) rfl (lenOf pd_38 rfl) rfl (by decide) (own_leb rfl) (by decide) rfl rfl (by decide) (by decide) (wl := []) (fun _ _ q => by rw [q.1]; exact Keep.refl _ _) all0 at_452 rfl ?_
      rintro _ h453 ⟨eh454, rfl⟩
      rw [eh454]
      show AtS p l e _ s m _ below meth c Z _ _ n0 _ _ _ h446 33 337 (mkF m 455 #[.val (.int i0), .val (.int i1), .val (.int ln), .val (.int (Int32.ofNat k)), .val (.int (Int32.ofNat (j + 1))), .val (.int p0), .val (.int p1), .val (.int n0c), .val (.int n1c), .val (.int n2c), .val (.ref a1), .val (.ref a2), .val (.ref o399), .val (.int (Int32.ofNat (own_hd k j p0 p1 n0c n1c n2c).length)), .val (.ref o405), .val (.int (Int32.ofNat (((((((own_hd k j p0 p1 n0c n1c n2c) ++ [(58 : Int32)]) ++ [(102 : Int32)]) ++ [(101 : Int32)]) ++ [(110 : Int32)]) ++ [(99 : Int32)]) ++ [(101 : Int32)]).length)), .val (.ref o423), .val (.int (Int32.ofNat ((((((((((own_hd k j p0 p1 n0c n1c n2c) ++ [(58 : Int32)]) ++ [(114 : Int32)]) ++ [(101 : Int32)]) ++ [(108 : Int32)]) ++ [(101 : Int32)]) ++ [(97 : Int32)]) ++ [(115 : Int32)]) ++ [(101 : Int32)]) ++ [(100 : Int32)]).length)), .val (.ref o9)] [(.int (1 : Int32))])
      refine s_if_eq_f (q := 458) C at_455 rfl (by decide) ?_
      refine s_aload (q := 460) C rfl rfl at_458 rfl ?_
      refine s_callV1 (q := 463) (argsL := []) (S := []) (W := 0) (cells' := 33) (slots' := 337) (a := o9) C E9 (G.1 _ (List.mem_of_getElem? (i := 268) rfl)) (G.1 _ (List.mem_of_getElem? (i := 269) rfl)) (s_nf (G.1 _ (List.mem_of_getElem? (i := 271) rfl))) (G.1 _ (List.mem_of_getElem? (i := 271) rfl)) (G.1 _ (List.mem_of_getElem? (i := 270) rfl)) (G.1 _ (List.mem_of_getElem? (i := 53) rfl)) (G.1 _ (List.mem_of_getElem? (i := 272) rfl)) (by decide) (rm_relch G O397 o9 r3 F3) rfl (lenOf pd_32 rfl) rfl (by decide) (own_leb rfl) (by decide) rfl rfl (by decide) (by decide) (wl := []) (fun _ _ q => by rw [q.1]; exact Keep.refl _ _) all0 at_460 rfl ?_
      rintro _ h455 ⟨eh456, rfl⟩
      rw [eh456]
      show AtS p l e _ s m _ below meth c Z _ _ n0 _ _ _ h446 33 337 (mkF m 463 #[.val (.int i0), .val (.int i1), .val (.int ln), .val (.int (Int32.ofNat k)), .val (.int (Int32.ofNat (j + 1))), .val (.int p0), .val (.int p1), .val (.int n0c), .val (.int n1c), .val (.int n2c), .val (.ref a1), .val (.ref a2), .val (.ref o399), .val (.int (Int32.ofNat (own_hd k j p0 p1 n0c n1c n2c).length)), .val (.ref o405), .val (.int (Int32.ofNat (((((((own_hd k j p0 p1 n0c n1c n2c) ++ [(58 : Int32)]) ++ [(102 : Int32)]) ++ [(101 : Int32)]) ++ [(110 : Int32)]) ++ [(99 : Int32)]) ++ [(101 : Int32)]).length)), .val (.ref o423), .val (.int (Int32.ofNat ((((((((((own_hd k j p0 p1 n0c n1c n2c) ++ [(58 : Int32)]) ++ [(114 : Int32)]) ++ [(101 : Int32)]) ++ [(108 : Int32)]) ++ [(101 : Int32)]) ++ [(97 : Int32)]) ++ [(115 : Int32)]) ++ [(101 : Int32)]) ++ [(100 : Int32)]).length)), .val (.ref o9)] [(.ref r3)])
      refine s_aload (q := 465) C rfl rfl at_463 rfl ?_
      refine s_iload (q := 467) C rfl at_465 rfl ?_
      refine s_callS1 (q := 470) (argsL := [(.ref r3), (.ref o423), (.int (Int32.ofNat ((((((((((own_hd k j p0 p1 n0c n1c n2c) ++ [(58 : Int32)]) ++ [(114 : Int32)]) ++ [(101 : Int32)]) ++ [(108 : Int32)]) ++ [(101 : Int32)]) ++ [(97 : Int32)]) ++ [(115 : Int32)]) ++ [(101 : Int32)]) ++ [(100 : Int32)]).length))]) (S := []) (W := 0) (cells' := 33) (slots' := 337) C (G.1 _ (List.mem_of_getElem? (i := 240) rfl)) (G.1 _ (List.mem_of_getElem? (i := 241) rfl)) (G.1 _ (List.mem_of_getElem? (i := 2) rfl)) (G.1 _ (List.mem_of_getElem? (i := 242) rfl)) (by decide) (rm_matchf G O397 r3 o423 ((((((((((own_hd k j p0 p1 n0c n1c n2c) ++ [(58 : Int32)]) ++ [(114 : Int32)]) ++ [(101 : Int32)]) ++ [(108 : Int32)]) ++ [(101 : Int32)]) ++ [(97 : Int32)]) ++ [(115 : Int32)]) ++ [(101 : Int32)]) ++ [(100 : Int32)]) _ (by simpa [own_hd] using T3) VR2) rfl (lenOf pd_38 rfl) rfl (by decide) (own_leb rfl) (by decide) rfl rfl (by decide) (by decide) (wl := []) (fun _ _ q => by rw [q.1]; exact Keep.refl _ _) all0 at_467 rfl ?_
      rintro _ h457 ⟨eh458, rfl⟩
      rw [eh458]
      show AtS p l e _ s m _ below meth c Z _ _ n0 _ _ _ h446 33 337 (mkF m 470 #[.val (.int i0), .val (.int i1), .val (.int ln), .val (.int (Int32.ofNat k)), .val (.int (Int32.ofNat (j + 1))), .val (.int p0), .val (.int p1), .val (.int n0c), .val (.int n1c), .val (.int n2c), .val (.ref a1), .val (.ref a2), .val (.ref o399), .val (.int (Int32.ofNat (own_hd k j p0 p1 n0c n1c n2c).length)), .val (.ref o405), .val (.int (Int32.ofNat (((((((own_hd k j p0 p1 n0c n1c n2c) ++ [(58 : Int32)]) ++ [(102 : Int32)]) ++ [(101 : Int32)]) ++ [(110 : Int32)]) ++ [(99 : Int32)]) ++ [(101 : Int32)]).length)), .val (.ref o423), .val (.int (Int32.ofNat ((((((((((own_hd k j p0 p1 n0c n1c n2c) ++ [(58 : Int32)]) ++ [(114 : Int32)]) ++ [(101 : Int32)]) ++ [(108 : Int32)]) ++ [(101 : Int32)]) ++ [(97 : Int32)]) ++ [(115 : Int32)]) ++ [(101 : Int32)]) ++ [(100 : Int32)]).length)), .val (.ref o9)] [(.int (1 : Int32))])
      refine s_if_eq_f (q := 473) C at_470 rfl (by decide) ?_
      refine s_iconst (q := 474) (v := (1 : Int32)) C (by rfl) at_473 rfl ?_
      refine s_goto (q := 478) C at_474 (by decide) (by decide) ?_
      exact s_retZ (z := (1 : Int32)) C G.el (t := .boolean) rfl (by simp) (by decide) at_478 (by decide) (by decide) rfl
    rcases j with _ | _ | _ | j
    · show AtS p l e _ s m _ below meth c Z _ _ n0 _ _ _ hJ1 6 12 (mkF m 112 #[.val (.int i0), .val (.int i1), .val (.int ln), .val (.int (Int32.ofNat k)), .val (.int (1 : Int32)), .val (.int p0), .val (.int p1), .val (.int n0c), .val (.int n1c), .val (.int n2c), .val (.ref a1), .unset, .unset, .unset, .unset, .unset, .unset, .unset, .unset] [])
      refine s_iload (q := 114) C rfl at_112 rfl ?_
      refine s_iconst (q := 115) (v := (1 : Int32)) C (by rfl) at_114 rfl ?_
      refine s_icmp_ne_f (q := 118) C at_115 rfl (by decide) ?_
      refine s_iload (q := 120) C rfl at_118 rfl ?_
      refine s_callS1 (q := 123) (argsL := [(.int n0c)]) (S := []) (W := 0) (cells' := 8) (slots' := 17) C (G.1 _ (List.mem_of_getElem? (i := 34) rfl)) (G.1 _ (List.mem_of_getElem? (i := 35) rfl)) (G.1 _ (List.mem_of_getElem? (i := 6) rfl)) (G.1 _ (List.mem_of_getElem? (i := 36) rfl)) (by decide) (rm_valueOfC G O369 n0c hn0c) rfl (lenOf pd_8 rfl) rfl (by decide) (own_leb rfl) (by decide) rfl rfl (by decide) (by decide) (wl := []) (fun _ _ q => q.1) all0 at_120 rfl ?_
      rintro _ h370 ⟨Kh370, a2, rfl, S2⟩
      show AtS p l e _ s m _ below meth c Z _ _ n0 _ _ _ h370 8 17 (mkF m 123 #[.val (.int i0), .val (.int i1), .val (.int ln), .val (.int (Int32.ofNat k)), .val (.int (1 : Int32)), .val (.int p0), .val (.int p1), .val (.int n0c), .val (.int n1c), .val (.int n2c), .val (.ref a1), .unset, .unset, .unset, .unset, .unset, .unset, .unset, .unset] [(.ref a2)])
      replace S1 := Str_k0 S1 Kh370
      replace O369 := Old_k0 O369 Kh370
      refine s_astore (q := 125) (L' := #[.val (.int i0), .val (.int i1), .val (.int ln), .val (.int (Int32.ofNat k)), .val (.int (1 : Int32)), .val (.int p0), .val (.int p1), .val (.int n0c), .val (.int n1c), .val (.int n2c), .val (.ref a1), .val (.ref a2), .unset, .unset, .unset, .unset, .unset, .unset, .unset]) C rfl rfl at_123 rfl ?_
      refine s_goto (q := 186) C at_125 (by decide) (by decide) ?_
      exact AtS.mono (AtS.mark (AtS.weak (J2 h370 a2 Kh370 S2) (Nat.le_refl _) (fun x hx => absurd hx List.not_mem_nil))) (by decide) (by decide)
    · show AtS p l e _ s m _ below meth c Z _ _ n0 _ _ _ hJ1 6 12 (mkF m 112 #[.val (.int i0), .val (.int i1), .val (.int ln), .val (.int (Int32.ofNat k)), .val (.int (2 : Int32)), .val (.int p0), .val (.int p1), .val (.int n0c), .val (.int n1c), .val (.int n2c), .val (.ref a1), .unset, .unset, .unset, .unset, .unset, .unset, .unset, .unset] [])
      refine s_iload (q := 114) C rfl at_112 rfl ?_
      refine s_iconst (q := 115) (v := (1 : Int32)) C (by rfl) at_114 rfl ?_
      refine s_icmp_ne_t (q := 128) C at_115 (by decide) (by decide) (by decide) ?_
      refine s_iload (q := 130) C rfl at_128 rfl ?_
      refine s_iconst (q := 131) (v := (2 : Int32)) C (by rfl) at_130 rfl ?_
      refine s_icmp_ne_f (q := 134) C at_131 rfl (by decide) ?_
      refine s_new (q := 137) (cells' := 7) (slots' := 16) C (G.1 _ (List.mem_of_getElem? (i := 4) rfl)) (G.1 _ (List.mem_of_getElem? (i := 5) rfl)) (G.1 _ (List.mem_of_getElem? (i := 6) rfl)) rfl rfl (by decide) (by decide) at_134 rfl ?_
      intro h371 o372 g_o372 Eh371 A_o372 D_o372
      have F_coder_o372 : Fld Z h371 o372 "java/lang/String" "coder" "B" (.int (0 : Int32)) := D_o372 (Or.inr (G.1 _ (List.mem_of_getElem? (i := 31) rfl))) (ty := .byte) (by decide)
      have F_value_o372 : Fld Z h371 o372 "java/lang/String" "value" "[B" .null := D_o372 (Or.inr (G.1 _ (List.mem_of_getElem? (i := 33) rfl))) (ty := (.array .byte)) (by decide)
      have ge_o372 : n0 ≤ o372 := by rw [g_o372]; exact Old_le O369
      refine s_dup (q := 138) C rfl at_137 rfl ?_
      refine s_iconst (q := 139) (v := (2 : Int32)) C (by rfl) at_138 rfl ?_
      refine s_newArr (q := 141) (cap := 2) (cells' := 8) (slots' := 18) C (G.1 _ (List.mem_of_getElem? (i := 7) rfl)) rfl (by decide) (by decide) (by decide) rfl rfl (by decide) (by decide) at_139 rfl ?_
      intro h373 o374 g_o374 Eh373 V_o374
      replace V_o374 : Ar Z h373 o374 .char [(.int (0 : Int32)), (.int (0 : Int32))] := V_o374
      have ge_o374 : n0 ≤ o374 := by rw [g_o374]; exact Nat.le_trans (Old_le O369) Eh371.1
      have ne_o372 : o372 ≠ o374 := Nat.ne_of_lt (by rw [g_o374]; exact A_o372.lt)
      have sz_o374 : hJ1.size ≤ o374 := by rw [g_o374]; exact Eh371.1
      have K375 : Keep hJ1 h373 [] := (Keep.of_ext Eh371).ext Eh373
      replace A_o372 := A_o372.ext Eh373
      replace F_value_o372 := F_value_o372.ext Eh373
      replace F_coder_o372 := F_coder_o372.ext Eh373
      refine s_dup (q := 142) C rfl at_141 rfl ?_
      refine s_iconst (q := 143) (v := (0 : Int32)) C (by rfl) at_142 rfl ?_
      refine s_iload (q := 145) C rfl at_143 rfl ?_
      refine s_castore (q := 146) (z := n0c) (i := 0) C (own_nar hn0c.1 hn0c.2) V_o374 rfl (own_ltb rfl) ge_o374 at_145 rfl ?_
      intro h376 Wh376 Vh376
      replace A_o372 := A_o372.wr Wh376
      replace F_value_o372 := F_value_o372.other Wh376 (Or.inl ne_o372)
      replace F_coder_o372 := F_coder_o372.other Wh376 (Or.inl ne_o372)
      have K377 := K375.wr Wh376 (Or.inr sz_o374)
      refine s_dup (q := 147) C rfl at_146 rfl ?_
      refine s_iconst (q := 148) (v := (1 : Int32)) C (by rfl) at_147 rfl ?_
      refine s_iload (q := 150) C rfl at_148 rfl ?_
      refine s_castore (q := 151) (z := n1c) (i := 1) C (own_nar hn1c.1 hn1c.2) Vh376 rfl (own_ltb rfl) ge_o374 at_150 rfl ?_
      intro h378 Wh378 Vh378
      replace A_o372 := A_o372.wr Wh378
      replace F_value_o372 := F_value_o372.other Wh378 (Or.inl ne_o372)
      replace F_coder_o372 := F_coder_o372.other Wh378 (Or.inl ne_o372)
      have K379 := K377.wr Wh378 (Or.inr sz_o374)
      have O380 := Old_k0 O369 K379
      have hL_S2 : L1 [n0c, n1c] := (own_L1c hn0c (own_L1c hn1c (fun c hc => absurd hc List.not_mem_nil)))
      have hA_S2 : Ar Z h378 o374 .char (List.map Value.int [n0c, n1c]) := Vh378
      refine s_callI1 (q := 154) (argsL := [(.ref o374)]) (S := [(.ref o372)]) (W := 1) (cells' := 9) (slots' := 21) (a := o372) C rfl (G.1 _ (List.mem_of_getElem? (i := 8) rfl)) (G.1 _ (List.mem_of_getElem? (i := 9) rfl)) (G.1 _ (List.mem_of_getElem? (i := 6) rfl)) (G.1 _ (List.mem_of_getElem? (i := 10) rfl)) (by decide) (rm_strinit G O380 o372 o374 [n0c, n1c] A_o372 F_value_o372 F_coder_o372 ge_o372 hA_S2 hL_S2 (own_leb rfl) (by simp)) rfl (lenOf pd_2 rfl) rfl (by decide) (own_leb rfl) (by decide) rfl rfl (by decide) (by decide) (wl := [o372]) (fun _ _ q => q.1) (allS (SfOk.mem (by simp)) (all0)) at_151 rfl ?_
      rintro _ h381 ⟨Kh381, rfl, S2⟩
      show AtS p l e _ s m _ below meth c Z _ _ n0 _ _ _ h381 9 21 (mkF m 154 #[.val (.int i0), .val (.int i1), .val (.int ln), .val (.int (Int32.ofNat k)), .val (.int (2 : Int32)), .val (.int p0), .val (.int p1), .val (.int n0c), .val (.int n1c), .val (.int n2c), .val (.ref a1), .unset, .unset, .unset, .unset, .unset, .unset, .unset, .unset] [(.ref o372)])
      have K382 : Keep hJ1 h381 [] := own_K1 K379 Kh381 (Nat.le_of_eq g_o372.symm)
      replace S1 := Str_k0 S1 K382
      replace O369 := Old_k0 O369 K382
      refine s_astore (q := 156) (L' := #[.val (.int i0), .val (.int i1), .val (.int ln), .val (.int (Int32.ofNat k)), .val (.int (2 : Int32)), .val (.int p0), .val (.int p1), .val (.int n0c), .val (.int n1c), .val (.int n2c), .val (.ref a1), .val (.ref o372), .unset, .unset, .unset, .unset, .unset, .unset, .unset]) C rfl rfl at_154 rfl ?_
      refine s_goto (q := 186) C at_156 (by decide) (by decide) ?_
      exact AtS.mono (AtS.mark (AtS.weak (J2 h381 o372 K382 S2) (Nat.le_refl _) (fun x hx => absurd hx List.not_mem_nil))) (by decide) (by decide)
    · show AtS p l e _ s m _ below meth c Z _ _ n0 _ _ _ hJ1 6 12 (mkF m 112 #[.val (.int i0), .val (.int i1), .val (.int ln), .val (.int (Int32.ofNat k)), .val (.int (3 : Int32)), .val (.int p0), .val (.int p1), .val (.int n0c), .val (.int n1c), .val (.int n2c), .val (.ref a1), .unset, .unset, .unset, .unset, .unset, .unset, .unset, .unset] [])
      refine s_iload (q := 114) C rfl at_112 rfl ?_
      refine s_iconst (q := 115) (v := (1 : Int32)) C (by rfl) at_114 rfl ?_
      refine s_icmp_ne_t (q := 128) C at_115 (by decide) (by decide) (by decide) ?_
      refine s_iload (q := 130) C rfl at_128 rfl ?_
      refine s_iconst (q := 131) (v := (2 : Int32)) C (by rfl) at_130 rfl ?_
      refine s_icmp_ne_t (q := 159) C at_131 (by decide) (by decide) (by decide) ?_
      refine s_new (q := 162) (cells' := 7) (slots' := 16) C (G.1 _ (List.mem_of_getElem? (i := 4) rfl)) (G.1 _ (List.mem_of_getElem? (i := 5) rfl)) (G.1 _ (List.mem_of_getElem? (i := 6) rfl)) rfl rfl (by decide) (by decide) at_159 rfl ?_
      intro h383 o384 g_o384 Eh383 A_o384 D_o384
      have F_coder_o384 : Fld Z h383 o384 "java/lang/String" "coder" "B" (.int (0 : Int32)) := D_o384 (Or.inr (G.1 _ (List.mem_of_getElem? (i := 31) rfl))) (ty := .byte) (by decide)
      have F_value_o384 : Fld Z h383 o384 "java/lang/String" "value" "[B" .null := D_o384 (Or.inr (G.1 _ (List.mem_of_getElem? (i := 33) rfl))) (ty := (.array .byte)) (by decide)
      have ge_o384 : n0 ≤ o384 := by rw [g_o384]; exact Old_le O369
      refine s_dup (q := 163) C rfl at_162 rfl ?_
      refine s_iconst (q := 164) (v := (3 : Int32)) C (by rfl) at_163 rfl ?_
      refine s_newArr (q := 166) (cap := 3) (cells' := 8) (slots' := 19) C (G.1 _ (List.mem_of_getElem? (i := 7) rfl)) rfl (by decide) (by decide) (by decide) rfl rfl (by decide) (by decide) at_164 rfl ?_
      intro h385 o386 g_o386 Eh385 V_o386
      replace V_o386 : Ar Z h385 o386 .char [(.int (0 : Int32)), (.int (0 : Int32)), (.int (0 : Int32))] := V_o386
      have ge_o386 : n0 ≤ o386 := by rw [g_o386]; exact Nat.le_trans (Old_le O369) Eh383.1
      have ne_o384 : o384 ≠ o386 := Nat.ne_of_lt (by rw [g_o386]; exact A_o384.lt)
      have sz_o386 : hJ1.size ≤ o386 := by rw [g_o386]; exact Eh383.1
      have K387 : Keep hJ1 h385 [] := (Keep.of_ext Eh383).ext Eh385
      replace A_o384 := A_o384.ext Eh385
      replace F_value_o384 := F_value_o384.ext Eh385
      replace F_coder_o384 := F_coder_o384.ext Eh385
      refine s_dup (q := 167) C rfl at_166 rfl ?_
      refine s_iconst (q := 168) (v := (0 : Int32)) C (by rfl) at_167 rfl ?_
      refine s_iload (q := 170) C rfl at_168 rfl ?_
      refine s_castore (q := 171) (z := n0c) (i := 0) C (own_nar hn0c.1 hn0c.2) V_o386 rfl (own_ltb rfl) ge_o386 at_170 rfl ?_
      intro h388 Wh388 Vh388
      replace A_o384 := A_o384.wr Wh388
      replace F_value_o384 := F_value_o384.other Wh388 (Or.inl ne_o384)
      replace F_coder_o384 := F_coder_o384.other Wh388 (Or.inl ne_o384)
      have K389 := K387.wr Wh388 (Or.inr sz_o386)
      refine s_dup (q := 172) C rfl at_171 rfl ?_
      refine s_iconst (q := 173) (v := (1 : Int32)) C (by rfl) at_172 rfl ?_
      refine s_iload (q := 175) C rfl at_173 rfl ?_
      refine s_castore (q := 176) (z := n1c) (i := 1) C (own_nar hn1c.1 hn1c.2) Vh388 rfl (own_ltb rfl) ge_o386 at_175 rfl ?_
      intro h390 Wh390 Vh390
      replace A_o384 := A_o384.wr Wh390
      replace F_value_o384 := F_value_o384.other Wh390 (Or.inl ne_o384)
      replace F_coder_o384 := F_coder_o384.other Wh390 (Or.inl ne_o384)
      have K391 := K389.wr Wh390 (Or.inr sz_o386)
      refine s_dup (q := 177) C rfl at_176 rfl ?_
      refine s_iconst (q := 178) (v := (2 : Int32)) C (by rfl) at_177 rfl ?_
      refine s_iload (q := 180) C rfl at_178 rfl ?_
      refine s_castore (q := 181) (z := n2c) (i := 2) C (own_nar hn2c.1 hn2c.2) Vh390 rfl (own_ltb rfl) ge_o386 at_180 rfl ?_
      intro h392 Wh392 Vh392
      replace A_o384 := A_o384.wr Wh392
      replace F_value_o384 := F_value_o384.other Wh392 (Or.inl ne_o384)
      replace F_coder_o384 := F_coder_o384.other Wh392 (Or.inl ne_o384)
      have K393 := K391.wr Wh392 (Or.inr sz_o386)
      have O394 := Old_k0 O369 K393
      have hL_S2 : L1 [n0c, n1c, n2c] := (own_L1c hn0c (own_L1c hn1c (own_L1c hn2c (fun c hc => absurd hc List.not_mem_nil))))
      have hA_S2 : Ar Z h392 o386 .char (List.map Value.int [n0c, n1c, n2c]) := Vh392
      refine s_callI1 (q := 184) (argsL := [(.ref o386)]) (S := [(.ref o384)]) (W := 1) (cells' := 9) (slots' := 22) (a := o384) C rfl (G.1 _ (List.mem_of_getElem? (i := 8) rfl)) (G.1 _ (List.mem_of_getElem? (i := 9) rfl)) (G.1 _ (List.mem_of_getElem? (i := 6) rfl)) (G.1 _ (List.mem_of_getElem? (i := 10) rfl)) (by decide) (rm_strinit G O394 o384 o386 [n0c, n1c, n2c] A_o384 F_value_o384 F_coder_o384 ge_o384 hA_S2 hL_S2 (own_leb rfl) (by simp)) rfl (lenOf pd_2 rfl) rfl (by decide) (own_leb rfl) (by decide) rfl rfl (by decide) (by decide) (wl := [o384]) (fun _ _ q => q.1) (allS (SfOk.mem (by simp)) (all0)) at_181 rfl ?_
      rintro _ h395 ⟨Kh395, rfl, S2⟩
      show AtS p l e _ s m _ below meth c Z _ _ n0 _ _ _ h395 9 22 (mkF m 184 #[.val (.int i0), .val (.int i1), .val (.int ln), .val (.int (Int32.ofNat k)), .val (.int (3 : Int32)), .val (.int p0), .val (.int p1), .val (.int n0c), .val (.int n1c), .val (.int n2c), .val (.ref a1), .unset, .unset, .unset, .unset, .unset, .unset, .unset, .unset] [(.ref o384)])
      have K396 : Keep hJ1 h395 [] := own_K1 K393 Kh395 (Nat.le_of_eq g_o384.symm)
      replace S1 := Str_k0 S1 K396
      replace O369 := Old_k0 O369 K396
      refine s_astore (q := 186) (L' := #[.val (.int i0), .val (.int i1), .val (.int ln), .val (.int (Int32.ofNat k)), .val (.int (3 : Int32)), .val (.int p0), .val (.int p1), .val (.int n0c), .val (.int n1c), .val (.int n2c), .val (.ref a1), .val (.ref o384), .unset, .unset, .unset, .unset, .unset, .unset, .unset]) C rfl rfl at_184 rfl ?_
      exact AtS.mono (AtS.mark (AtS.weak (J2 h395 o384 K396 S2) (Nat.le_refl _) (fun x hx => absurd hx List.not_mem_nil))) (by decide) (by decide)
    · exact absurd hj (by omega)
  rcases k with _ | _ | _ | k
  · show AtS p l e _ s m _ below meth c Z _ _ n0 _ _ _ h0 0 0 (mkF m 56 #[.val (.int i0), .val (.int i1), .val (.int ln), .val (.int (0 : Int32)), .val (.int (Int32.ofNat (j + 1))), .val (.int p0), .val (.int p1), .val (.int n0c), .val (.int n1c), .val (.int n2c), .unset, .unset, .unset, .unset, .unset, .unset, .unset, .unset, .unset] [])
    refine s_iloadN (q := 57) C rfl at_56 rfl ?_
    refine s_if_ne_f (q := 60) C at_57 rfl (by decide) ?_
    refine s_new (q := 63) (cells' := 1) (slots' := 4) C (G.1 _ (List.mem_of_getElem? (i := 4) rfl)) (G.1 _ (List.mem_of_getElem? (i := 5) rfl)) (G.1 _ (List.mem_of_getElem? (i := 6) rfl)) rfl rfl (by decide) (by decide) at_60 rfl ?_
    intro h348 o349 g_o349 Eh348 A_o349 D_o349
    have F_coder_o349 : Fld Z h348 o349 "java/lang/String" "coder" "B" (.int (0 : Int32)) := D_o349 (Or.inr (G.1 _ (List.mem_of_getElem? (i := 31) rfl))) (ty := .byte) (by decide)
    have F_value_o349 : Fld Z h348 o349 "java/lang/String" "value" "[B" .null := D_o349 (Or.inr (G.1 _ (List.mem_of_getElem? (i := 33) rfl))) (ty := (.array .byte)) (by decide)
    have ge_o349 : n0 ≤ o349 := by rw [g_o349]; exact Old_le O
    refine s_dup (q := 64) C rfl at_63 rfl ?_
    refine s_iconst (q := 65) (v := (0 : Int32)) C (by rfl) at_64 rfl ?_
    refine s_newArr (q := 67) (cap := 0) (cells' := 2) (slots' := 4) C (G.1 _ (List.mem_of_getElem? (i := 7) rfl)) rfl (by decide) (by decide) (by decide) rfl rfl (by decide) (by decide) at_65 rfl ?_
    intro h350 o351 g_o351 Eh350 V_o351
    replace V_o351 : Ar Z h350 o351 .char [] := V_o351
    have ge_o351 : n0 ≤ o351 := by rw [g_o351]; exact Nat.le_trans (Old_le O) Eh348.1
    have ne_o349 : o349 ≠ o351 := Nat.ne_of_lt (by rw [g_o351]; exact A_o349.lt)
    have sz_o351 : h0.size ≤ o351 := by rw [g_o351]; exact Eh348.1
    have K352 : Keep h0 h350 [] := (Keep.of_ext Eh348).ext Eh350
    replace A_o349 := A_o349.ext Eh350
    replace F_value_o349 := F_value_o349.ext Eh350
    replace F_coder_o349 := F_coder_o349.ext Eh350
    have O353 := Old_k0 O K352
    refine s_callI2 (q := 70) (argsL := [(.ref o351)]) (S := [(.ref o349)]) (W := 1) (cells' := 6) (slots' := 12) (a := o349) C G.el rfl (G.1 _ (List.mem_of_getElem? (i := 8) rfl)) (G.1 _ (List.mem_of_getElem? (i := 9) rfl)) (G.1 _ (List.mem_of_getElem? (i := 6) rfl)) (G.1 _ (List.mem_of_getElem? (i := 10) rfl)) (by decide) (rm_strinite G O353 o349 o351 A_o349 F_value_o349 F_coder_o349 ge_o349 V_o351) rfl (lenOf pd_2 rfl) rfl (by decide) (own_leb rfl) (by decide) rfl rfl (by decide) (by decide) at_67 rfl ?_
    rintro _ h354 ⟨Kh354, rfl, S1⟩
    show AtS p l e _ s m _ below meth c Z _ _ n0 _ _ _ h354 6 12 (mkF m 70 #[.val (.int i0), .val (.int i1), .val (.int ln), .val (.int (0 : Int32)), .val (.int (Int32.ofNat (j + 1))), .val (.int p0), .val (.int p1), .val (.int n0c), .val (.int n1c), .val (.int n2c), .unset, .unset, .unset, .unset, .unset, .unset, .unset, .unset, .unset] [(.ref o349)])
    have K355 : Keep h0 h354 [] := own_K1 K352 Kh354 (Nat.le_of_eq g_o349.symm)
    replace O := Old_k0 O K355
    refine s_astore (q := 72) (L' := #[.val (.int i0), .val (.int i1), .val (.int ln), .val (.int (0 : Int32)), .val (.int (Int32.ofNat (j + 1))), .val (.int p0), .val (.int p1), .val (.int n0c), .val (.int n1c), .val (.int n2c), .val (.ref o349), .unset, .unset, .unset, .unset, .unset, .unset, .unset, .unset]) C rfl rfl at_70 rfl ?_
    refine s_goto (q := 112) C at_72 (by decide) (by decide) ?_
    exact AtS.mono (AtS.mark (AtS.weak (J1 h354 o349 K355 S1) (Nat.le_refl _) (fun x hx => absurd hx List.not_mem_nil))) (by decide) (by decide)
  · show AtS p l e _ s m _ below meth c Z _ _ n0 _ _ _ h0 0 0 (mkF m 56 #[.val (.int i0), .val (.int i1), .val (.int ln), .val (.int (1 : Int32)), .val (.int (Int32.ofNat (j + 1))), .val (.int p0), .val (.int p1), .val (.int n0c), .val (.int n1c), .val (.int n2c), .unset, .unset, .unset, .unset, .unset, .unset, .unset, .unset, .unset] [])
    refine s_iloadN (q := 57) C rfl at_56 rfl ?_
    refine s_if_ne_t (q := 75) C at_57 (by decide) (by decide) (by decide) ?_
    refine s_iloadN (q := 76) C rfl at_75 rfl ?_
    refine s_iconst (q := 77) (v := (1 : Int32)) C (by rfl) at_76 rfl ?_
    refine s_icmp_ne_f (q := 80) C at_77 rfl (by decide) ?_
    refine s_iload (q := 82) C rfl at_80 rfl ?_
    refine s_callS1 (q := 85) (argsL := [(.int p0)]) (S := []) (W := 0) (cells' := 2) (slots' := 5) C (G.1 _ (List.mem_of_getElem? (i := 34) rfl)) (G.1 _ (List.mem_of_getElem? (i := 35) rfl)) (G.1 _ (List.mem_of_getElem? (i := 6) rfl)) (G.1 _ (List.mem_of_getElem? (i := 36) rfl)) (by decide) (rm_valueOfC G O p0 hp0) rfl (lenOf pd_8 rfl) rfl (by decide) (own_leb rfl) (by decide) rfl rfl (by decide) (by decide) (wl := []) (fun _ _ q => q.1) all0 at_82 rfl ?_
    rintro _ h356 ⟨Kh356, a1, rfl, S1⟩
    show AtS p l e _ s m _ below meth c Z _ _ n0 _ _ _ h356 2 5 (mkF m 85 #[.val (.int i0), .val (.int i1), .val (.int ln), .val (.int (1 : Int32)), .val (.int (Int32.ofNat (j + 1))), .val (.int p0), .val (.int p1), .val (.int n0c), .val (.int n1c), .val (.int n2c), .unset, .unset, .unset, .unset, .unset, .unset, .unset, .unset, .unset] [(.ref a1)])
    replace O := Old_k0 O Kh356
    refine s_astore (q := 87) (L' := #[.val (.int i0), .val (.int i1), .val (.int ln), .val (.int (1 : Int32)), .val (.int (Int32.ofNat (j + 1))), .val (.int p0), .val (.int p1), .val (.int n0c), .val (.int n1c), .val (.int n2c), .val (.ref a1), .unset, .unset, .unset, .unset, .unset, .unset, .unset, .unset]) C rfl rfl at_85 rfl ?_
    refine s_goto (q := 112) C at_87 (by decide) (by decide) ?_
    exact AtS.mono (AtS.mark (AtS.weak (J1 h356 a1 Kh356 S1) (Nat.le_refl _) (fun x hx => absurd hx List.not_mem_nil))) (by decide) (by decide)
  · show AtS p l e _ s m _ below meth c Z _ _ n0 _ _ _ h0 0 0 (mkF m 56 #[.val (.int i0), .val (.int i1), .val (.int ln), .val (.int (2 : Int32)), .val (.int (Int32.ofNat (j + 1))), .val (.int p0), .val (.int p1), .val (.int n0c), .val (.int n1c), .val (.int n2c), .unset, .unset, .unset, .unset, .unset, .unset, .unset, .unset, .unset] [])
    refine s_iloadN (q := 57) C rfl at_56 rfl ?_
    refine s_if_ne_t (q := 75) C at_57 (by decide) (by decide) (by decide) ?_
    refine s_iloadN (q := 76) C rfl at_75 rfl ?_
    refine s_iconst (q := 77) (v := (1 : Int32)) C (by rfl) at_76 rfl ?_
    refine s_icmp_ne_t (q := 90) C at_77 (by decide) (by decide) (by decide) ?_
    refine s_new (q := 93) (cells' := 1) (slots' := 4) C (G.1 _ (List.mem_of_getElem? (i := 4) rfl)) (G.1 _ (List.mem_of_getElem? (i := 5) rfl)) (G.1 _ (List.mem_of_getElem? (i := 6) rfl)) rfl rfl (by decide) (by decide) at_90 rfl ?_
    intro h357 o358 g_o358 Eh357 A_o358 D_o358
    have F_coder_o358 : Fld Z h357 o358 "java/lang/String" "coder" "B" (.int (0 : Int32)) := D_o358 (Or.inr (G.1 _ (List.mem_of_getElem? (i := 31) rfl))) (ty := .byte) (by decide)
    have F_value_o358 : Fld Z h357 o358 "java/lang/String" "value" "[B" .null := D_o358 (Or.inr (G.1 _ (List.mem_of_getElem? (i := 33) rfl))) (ty := (.array .byte)) (by decide)
    have ge_o358 : n0 ≤ o358 := by rw [g_o358]; exact Old_le O
    refine s_dup (q := 94) C rfl at_93 rfl ?_
    refine s_iconst (q := 95) (v := (2 : Int32)) C (by rfl) at_94 rfl ?_
    refine s_newArr (q := 97) (cap := 2) (cells' := 2) (slots' := 6) C (G.1 _ (List.mem_of_getElem? (i := 7) rfl)) rfl (by decide) (by decide) (by decide) rfl rfl (by decide) (by decide) at_95 rfl ?_
    intro h359 o360 g_o360 Eh359 V_o360
    replace V_o360 : Ar Z h359 o360 .char [(.int (0 : Int32)), (.int (0 : Int32))] := V_o360
    have ge_o360 : n0 ≤ o360 := by rw [g_o360]; exact Nat.le_trans (Old_le O) Eh357.1
    have ne_o358 : o358 ≠ o360 := Nat.ne_of_lt (by rw [g_o360]; exact A_o358.lt)
    have sz_o360 : h0.size ≤ o360 := by rw [g_o360]; exact Eh357.1
    have K361 : Keep h0 h359 [] := (Keep.of_ext Eh357).ext Eh359
    replace A_o358 := A_o358.ext Eh359
    replace F_value_o358 := F_value_o358.ext Eh359
    replace F_coder_o358 := F_coder_o358.ext Eh359
    refine s_dup (q := 98) C rfl at_97 rfl ?_
    refine s_iconst (q := 99) (v := (0 : Int32)) C (by rfl) at_98 rfl ?_
    refine s_iload (q := 101) C rfl at_99 rfl ?_
    refine s_castore (q := 102) (z := p0) (i := 0) C (own_nar hp0.1 hp0.2) V_o360 rfl (own_ltb rfl) ge_o360 at_101 rfl ?_
    intro h362 Wh362 Vh362
    replace A_o358 := A_o358.wr Wh362
    replace F_value_o358 := F_value_o358.other Wh362 (Or.inl ne_o358)
    replace F_coder_o358 := F_coder_o358.other Wh362 (Or.inl ne_o358)
    have K363 := K361.wr Wh362 (Or.inr sz_o360)
    refine s_dup (q := 103) C rfl at_102 rfl ?_
    refine s_iconst (q := 104) (v := (1 : Int32)) C (by rfl) at_103 rfl ?_
    refine s_iload (q := 106) C rfl at_104 rfl ?_
    refine s_castore (q := 107) (z := p1) (i := 1) C (own_nar hp1.1 hp1.2) Vh362 rfl (own_ltb rfl) ge_o360 at_106 rfl ?_
    intro h364 Wh364 Vh364
    replace A_o358 := A_o358.wr Wh364
    replace F_value_o358 := F_value_o358.other Wh364 (Or.inl ne_o358)
    replace F_coder_o358 := F_coder_o358.other Wh364 (Or.inl ne_o358)
    have K365 := K363.wr Wh364 (Or.inr sz_o360)
    have O366 := Old_k0 O K365
    have hL_S1 : L1 [p0, p1] := (own_L1c hp0 (own_L1c hp1 (fun c hc => absurd hc List.not_mem_nil)))
    have hA_S1 : Ar Z h364 o360 .char (List.map Value.int [p0, p1]) := Vh364
    refine s_callI1 (q := 110) (argsL := [(.ref o360)]) (S := [(.ref o358)]) (W := 1) (cells' := 3) (slots' := 9) (a := o358) C rfl (G.1 _ (List.mem_of_getElem? (i := 8) rfl)) (G.1 _ (List.mem_of_getElem? (i := 9) rfl)) (G.1 _ (List.mem_of_getElem? (i := 6) rfl)) (G.1 _ (List.mem_of_getElem? (i := 10) rfl)) (by decide) (rm_strinit G O366 o358 o360 [p0, p1] A_o358 F_value_o358 F_coder_o358 ge_o358 hA_S1 hL_S1 (own_leb rfl) (by simp)) rfl (lenOf pd_2 rfl) rfl (by decide) (own_leb rfl) (by decide) rfl rfl (by decide) (by decide) (wl := [o358]) (fun _ _ q => q.1) (allS (SfOk.mem (by simp)) (all0)) at_107 rfl ?_
    rintro _ h367 ⟨Kh367, rfl, S1⟩
    show AtS p l e _ s m _ below meth c Z _ _ n0 _ _ _ h367 3 9 (mkF m 110 #[.val (.int i0), .val (.int i1), .val (.int ln), .val (.int (2 : Int32)), .val (.int (Int32.ofNat (j + 1))), .val (.int p0), .val (.int p1), .val (.int n0c), .val (.int n1c), .val (.int n2c), .unset, .unset, .unset, .unset, .unset, .unset, .unset, .unset, .unset] [(.ref o358)])
    have K368 : Keep h0 h367 [] := own_K1 K365 Kh367 (Nat.le_of_eq g_o358.symm)
    replace O := Old_k0 O K368
    refine s_astore (q := 112) (L' := #[.val (.int i0), .val (.int i1), .val (.int ln), .val (.int (2 : Int32)), .val (.int (Int32.ofNat (j + 1))), .val (.int p0), .val (.int p1), .val (.int n0c), .val (.int n1c), .val (.int n2c), .val (.ref o358), .unset, .unset, .unset, .unset, .unset, .unset, .unset, .unset]) C rfl rfl at_110 rfl ?_
    exact AtS.mono (AtS.mark (AtS.weak (J1 h367 o358 K368 S1) (Nat.le_refl _) (fun x hx => absurd hx List.not_mem_nil))) (by decide) (by decide)
  · exact absurd hk (by omega)
set_option maxRecDepth 65536 in
set_option maxHeartbeats 40000000 in
theorem comes_1 {Post : Tables → Env → Array Value → State → Outcome → State → Prop} (hpost : ∀ tb e args s v u, (limb_1_1.after args s (.returned v) u = true ∧ limb_1_2.after args s (.returned v) u = true ∧ True) → ReturnedEndW s (.returned v) u (Jvm.fieldLocs frame_1_writes args s ++ Jvm.arrayLocs frame_1_arrays args s ++ Jvm.staticLocs frame_1_statics s) 64 5568 → Post tb e args s (.returned v) u) :
    ArmFor flags0 classFile x code maxLocals ret World_1 tables_1 room_1 Calls_1 rest_1 Pre_1 Post := by
  intro l hfl _ _ p e ha hc hk s m args below hf hA hF happ hP
  obtain ⟨hcalls, hrest, hpre⟩ := hP
  obtain ⟨-, -, -, hnamed, -, -, -, hat⟩ := (Spec.applies_iff hf).mp happ
  obtain ⟨hg, hn⟩ := and_e (Cond.before_iff.mp (show (Jvm.Cond.and given_1 narrow_1).before args s = true from hpre))
  obtain ⟨hcount, hg0⟩ := and_e hg
  obtain ⟨ha0, hg1⟩ := and_e hg0
  obtain ⟨ha1, hg2⟩ := and_e hg1
  have ha2 := hg2
  obtain ⟨w0, w1, w2, rfl⟩ : ∃ w0 w1 w2 : Value, args = #[w0, w1, w2] := by
    have hs : args.size = 3 := by simpa [Cond.value, given_1] using hcount
    obtain ⟨L⟩ := args
    match L, hs with
    | [w0, w1, w2], _ => exact ⟨w0, w1, w2, rfl⟩
  have hw := fun d (hd : d ∈ tables_1) => atoms_spec (ws := Jvm.Cond.code x code maxLocals ret :: tables_1) hat d (List.mem_cons_of_mem _ hd)
  have hfit : Fit s := fun {y c} hc i hi => by
    obtain ⟨ha, rfl⟩ := Array.getElem?_eq_some_iff.mp hc
    have q := List.all_eq_true.mp ((Array.all_eq_true_iff_forall_mem.mp hF) _ (Array.getElem_mem ha)) i (List.mem_range.mpr hi)
    simpa [Array.getElem?_eq_getElem hi] using q
  obtain ⟨i0, e0⟩ := is_v ha0
  obtain rfl : w0 = (.int i0) := Option.some.inj e0
  obtain ⟨i1, e1⟩ := is_v ha1
  obtain rfl : w1 = (.int i1) := Option.some.inj e1
  obtain ⟨i2, e2⟩ := is_v ha2
  obtain rfl : w2 = (.int i2) := Option.some.inj e2
  obtain ⟨hsets, hown0⟩ := atoms_of _ (rest_1_c_eq ▸ (show rest_1_c.before _ s = true from hrest))
  have hcs1 := not_v (Cond.before_iff.mp (hsets _ (List.mem_of_getElem? (i := 2) rfl)))
  obtain ⟨zc, ezc⟩ := is_v (Cond.before_iff.mp (hsets _ (List.mem_of_getElem? (i := 1) rfl)))
  have Scs : Sta s s.heap "java/lang/String" "COMPACT_STRINGS" "Z" (.int zc) := Sta.start ezc (Or.inl (hsets _ (List.mem_of_getElem? (i := 0) rfl)))
  have hzc : ¬ (zc = (0 : Int32)) := gotF (Cond.eq_ints ezc (Term.int_eval (0))) hcs1
  obtain ⟨vfm, efm, rfm⟩ := isR_v (Cond.before_iff.mp (hsets _ (List.mem_of_getElem? (i := 8) rfl)))
  have Sfm : Sta s s.heap "jdk/internal/util/Preconditions" "SIOOBE_FORMATTER" "Ljava/util/function/BiFunction;" vfm := Sta.start efm (Or.inl (hsets _ (List.mem_of_getElem? (i := 7) rfl)))
  have hEL : EW s #[(.int i0), (.int i1), (.int i2)] consts_1 := (EW.cons (hw _ (List.mem_of_getElem? (i := 229) rfl)) (by decide +kernel) (EW.cons (hw _ (List.mem_of_getElem? (i := 232) rfl)) (by decide +kernel) (EW.cons (hw _ (List.mem_of_getElem? (i := 106) rfl)) (by decide +kernel) (EW.cons (hw _ (List.mem_of_getElem? (i := 58) rfl)) (by decide +kernel) (EW.cons (hw _ (List.mem_of_getElem? (i := 273) rfl)) (by decide +kernel) EW.nil)))))
  have G : Gl s #[(.int i0), (.int i1), (.int i2)] s.heap.size := ⟨hw, ⟨zc, Scs, hzc⟩, ⟨vfm, Sfm, rfm, by rcases ref_cases rfm with rfl | ⟨a, rfl⟩ <;> rfl⟩, hEL, trivial⟩
  have hCH : CHv s consts_1 s.vm s.heap := CHv.start hEL (fun q hq => hcalls.1 q hq) (show Jvm.Lit.compactW.before #[(.int i0), (.int i1), (.int i2)] s = true from (hsets _ (List.mem_of_getElem? (i := 2) rfl))) (G.sa _ (by simp [Bundle.stringAtoms])) (G.sa _ (by simp [Bundle.stringAtoms, Bundle.sN]))
  obtain ⟨n, o, h1, h2, h3, v, L, rfl, ⟨N, hQ⟩, -, hq⟩ := rm_law (l := l) G (Old.start s) i0 i1 i2 p e ha hc hk s m _ below hf ((Spec.applies_iff_loose hf).mp happ).1 ⟨rfl, State.Warmed39.refl s, rfl, hCH⟩ trivial
  obtain rfl : v = some (.int 1) := hQ
  refine ⟨n, _, h1, h2, h3, hpost _ _ _ _ _ _ ⟨Cond.after_iff.mpr rfl, Cond.after_iff.mpr (eq_i res_at (Term.int_eval (1)) rfl), trivial⟩ ⟨hq.1, hq.2.1, hq.2.2.1, (hq.2.2.2.sift fun y hy => Or.inr (N y hy)).mono (by decide) (by decide)⟩⟩
theorem main_1_1 : Claimed_1_1 := comes_1 fun _ _ _ _ _ _ h hF => ⟨h.1, hF⟩
theorem main_1_2 : Claimed_1_2 := comes_1 fun _ _ _ _ _ _ h hF => ⟨h.2.1, hF⟩
end Jvm.Pilot.@@N@@
namespace Jvm.Pilot.@@N@@
open Jvm Jvm.ClassFile Sem Op Lib Jvm.Free Jvm.Stand Jvm.Pilot.@@N@@.Jvm.D
/-! MADE BY PROGRAM (witnessworld.py) out of the Statement's table words and the real class files: 27 classes; the members and pool entries that the words name. The judged class is class 1, her method 5. -/
namespace start1
open Jvm.ClassFile
def u (s : String) : CpInfo := .utf8 (stringToUtf16 s)
/-- a pool by its gaps: so many unusable entries, then the entry; so many at the end -/
def gap : Nat → List CpInfo → List CpInfo
  | 0, r => r
  | n + 1, r => .unusable :: gap n r
def poolList (es : List (Nat × CpInfo)) (last : Nat) : List CpInfo := es.foldr (fun e r => gap e.1 (e.2 :: r)) (gap last [])
def pool (es : List (Nat × CpInfo)) (last : Nat) : Array CpInfo := ⟨poolList es last⟩
def fileOf (pool : Array CpInfo) (this : Nat) (attrs : Array Attribute := #[]) (ms : Array MethodInfo := #[]) (fl : Nat := 33) (sup : Nat := 0) (ifs : Array Nat := #[]) (fds : Array FieldInfo := #[]) : ClassFile where
  minorVersion := 0
  majorVersion := 65
  constantPool := pool
  accessFlags := fl
  thisClass := this
  superClass := sup
  interfaces := ifs
  fields := fds
  methods := ms
  attributes := attrs
def plain (name : String) (sup : Option ClassId) : Class where
  name := name
  kind := .ordinary
  loader := none
  accessFlags := 33
  super := sup
  interfaces := #[]
  cf := none
  fields := #[]
  methods := #[]
  instanceTypes := #[]
  staticTypes := #[]
  resolved := #[]
  callSites := []
  init := .initialized
  statics := none
  mirror := none

def pool0 : Array CpInfo := pool [(5, u "<init>"), (0, u "()V"), (1, .class_ 10), (1, u "java/lang/Object"), (85, u "clone"), (0, u "()Ljava/lang/Object;")] 26

def k0c0 : Code := { maxStack := 0, maxLocals := 1, code := object_method_1_code, exceptionTable := #[], attributes := #[] }
def k0m0 : Method := { name := "<init>", desc := "()V", sig := { parameters := [], returnType := none }, accessFlags := 1, code := some k0c0 }
def k0m1 : Method := { name := "clone", desc := "()Ljava/lang/Object;", sig := { parameters := [], returnType := some (.object "java/lang/Object") }, accessFlags := 260, code := none }
/-- java/lang/Object -/
def k0 : Class := { plain "java/lang/Object" none with
  accessFlags := 33
  interfaces := #[]
  cf := some (fileOf pool0 8 #[] #[{ accessFlags := 1, nameIndex := 5, descriptorIndex := 6, attributes := #[] }, { accessFlags := 260, nameIndex := 96, descriptorIndex := 97, attributes := #[] }] 33 0 #[] #[])
  fields := #[]
  methods := #[k0m0, k0m1]
  instanceTypes := #[]
  staticTypes := #[]
  resolved := Array.replicate 124 none
  statics := none }

def pool1 : Array CpInfo := pool [(2, .class_ 4), (1, u "java/lang/Object"), (0, u "<init>"), (0, u "()V"), (0, .methodref 8 9), (0, .class_ 10), (0, .nameAndType 11 12), (0, u "java/lang/String"), (0, u "charAt"), (0, u "(I)C"), (0, .methodref 8 14), (0, .nameAndType 15 16), (0, u "length"), (0, u "()I"), (0, .methodref 18 19), (0, .class_ 20), (0, .nameAndType 21 22), (0, u "com/example/lease/lease/LockKeysOfPinLaw"), (0, u "at"), (0, u "(Ljava/lang/String;[CII)Z"), (0, .methodref 18 24), (0, .nameAndType 25 12), (0, u "ch"), (0, .methodref 8 27), (0, .nameAndType 5 28), (0, u "([C)V"), (0, .methodref 8 30), (0, .nameAndType 31 32), (0, u "valueOf"), (0, u "(C)Ljava/lang/String;"), (0, .methodref 18 34), (0, .nameAndType 35 36), (0, u "head"), (0, u "([CIICCCCC)I"), (0, .methodref 38 39), (0, .class_ 40), (0, .nameAndType 41 42), (0, u "com/example/lease/lease/LockKeys"), (0, u "of"), (0, u "(Ljava/lang/String;Ljava/lang/String;)Lcom/example/lease/lease/LockKeys;"), (0, .methodref 38 44), (0, .nameAndType 45 46), (0, u "holdsKey"), (0, u "()Ljava/lang/String;"), (0, .methodref 18 48), (0, .nameAndType 49 50), (0, u "matches"), (0, u "(Ljava/lang/String;[CI)Z"), (0, .methodref 38 52), (0, .nameAndType 53 46), (0, u "fenceKey"), (0, .methodref 38 55), (0, .nameAndType 56 46), (0, u "releasedChannel"), (3, u "law"), (0, u "(III)Z")] 4

def k1m0 : Method := { name := "<init>", desc := "()V", sig := { parameters := [], returnType := none }, accessFlags := 1, code := none }
def k1c1 : Code := { maxStack := 2, maxLocals := 2, code := method_2_code, exceptionTable := #[], attributes := #[] }
def k1m1 : Method := { name := "ch", desc := "(I)C", sig := { parameters := [.int], returnType := some .char }, accessFlags := 10, code := some k1c1 }
def k1c2 : Code := { maxStack := 3, maxLocals := 9, code := method_3_code, exceptionTable := #[], attributes := #[] }
def k1m2 : Method := { name := "head", desc := "([CIICCCCC)I", sig := { parameters := [(.array .char), .int, .int, .char, .char, .char, .char, .char], returnType := some .int }, accessFlags := 10, code := some k1c2 }
def k1c3 : Code := { maxStack := 3, maxLocals := 4, code := method_4_code, exceptionTable := #[], attributes := #[] }
def k1m3 : Method := { name := "at", desc := "(Ljava/lang/String;[CII)Z", sig := { parameters := [(.object "java/lang/String"), (.array .char), .int, .int], returnType := some .boolean }, accessFlags := 10, code := some k1c3 }
def k1c4 : Code := { maxStack := 4, maxLocals := 3, code := method_5_code, exceptionTable := #[], attributes := #[] }
def k1m4 : Method := { name := "matches", desc := "(Ljava/lang/String;[CI)Z", sig := { parameters := [(.object "java/lang/String"), (.array .char), .int], returnType := some .boolean }, accessFlags := 10, code := some k1c4 }
def k1c5 : Code := { maxStack := 8, maxLocals := 19, code := code, exceptionTable := #[], attributes := #[] }
def k1m5 : Method := { name := "law", desc := "(III)Z", sig := { parameters := [.int, .int, .int], returnType := some .boolean }, accessFlags := 9, code := some k1c5 }
/-- com/example/lease/lease/LockKeysOfPinLaw -/
def k1 : Class := { plain "com/example/lease/lease/LockKeysOfPinLaw" (some 0) with
  accessFlags := 49
  interfaces := #[]
  cf := some (fileOf pool1 18 #[] #[{ accessFlags := 1, nameIndex := 5, descriptorIndex := 6, attributes := #[] }, { accessFlags := 10, nameIndex := 25, descriptorIndex := 12, attributes := #[] }, { accessFlags := 10, nameIndex := 35, descriptorIndex := 36, attributes := #[] }, { accessFlags := 10, nameIndex := 21, descriptorIndex := 22, attributes := #[] }, { accessFlags := 10, nameIndex := 49, descriptorIndex := 50, attributes := #[] }, { accessFlags := 9, nameIndex := 60, descriptorIndex := 61, attributes := #[] }] 49 2 #[] #[])
  fields := #[]
  methods := #[k1m0, k1m1, k1m2, k1m3, k1m4, k1m5]
  instanceTypes := #[]
  staticTypes := #[]
  resolved := Array.replicate 66 none
  statics := none }

def pool2 : Array CpInfo := pool [(1, .class_ 2), (0, u "java/io/Serializable"), (0, .class_ 4), (0, u "java/lang/Object")] 2

/-- java/io/Serializable -/
def k2 : Class := { plain "java/io/Serializable" (some 0) with
  accessFlags := 1537
  interfaces := #[]
  cf := some (fileOf pool2 1 #[] #[] 1537 3 #[] #[])
  fields := #[]
  methods := #[]
  instanceTypes := #[]
  staticTypes := #[]
  resolved := Array.replicate 7 none
  statics := none }

def pool3 : Array CpInfo := pool [(1, .class_ 2), (0, u "java/lang/Comparable"), (0, .class_ 4), (0, u "java/lang/Object")] 7

/-- java/lang/Comparable -/
def k3 : Class := { plain "java/lang/Comparable" (some 0) with
  accessFlags := 1537
  interfaces := #[]
  cf := some (fileOf pool3 1 #[] #[] 1537 3 #[] #[])
  fields := #[]
  methods := #[]
  instanceTypes := #[]
  staticTypes := #[]
  resolved := Array.replicate 12 none
  statics := none }

def pool4 : Array CpInfo := pool [(2, .class_ 4), (1, u "java/lang/CharSequence"), (42, .class_ 48), (0, u "java/lang/CharSequence$1CodePointIterator"), (10, .class_ 60), (0, u "java/lang/CharSequence$1CharIterator"), (5, .class_ 67), (0, u "java/lang/Object")] 63

/-- java/lang/CharSequence -/
def k4 : Class := { plain "java/lang/CharSequence" (some 0) with
  accessFlags := 1537
  interfaces := #[]
  cf := some (fileOf pool4 2 #[.nestMembers #[47, 59]] #[] 1537 66 #[] #[])
  fields := #[]
  methods := #[]
  instanceTypes := #[]
  staticTypes := #[]
  resolved := Array.replicate 131 none
  statics := none }

def pool5 : Array CpInfo := pool [(1, .class_ 2), (0, u "java/lang/constant/Constable"), (0, .class_ 4), (0, u "java/lang/Object")] 6

/-- java/lang/constant/Constable -/
def k5 : Class := { plain "java/lang/constant/Constable" (some 0) with
  accessFlags := 1537
  interfaces := #[]
  cf := some (fileOf pool5 1 #[] #[] 1537 3 #[] #[])
  fields := #[]
  methods := #[]
  instanceTypes := #[]
  staticTypes := #[]
  resolved := Array.replicate 11 none
  statics := none }

def pool6 : Array CpInfo := pool [(1, .class_ 2), (0, u "java/lang/constant/ConstantDesc"), (0, .class_ 4), (0, u "java/lang/Object")] 32

/-- java/lang/constant/ConstantDesc -/
def k6 : Class := { plain "java/lang/constant/ConstantDesc" (some 0) with
  accessFlags := 1537
  interfaces := #[]
  cf := some (fileOf pool6 1 #[] #[] 1537 3 #[] #[])
  fields := #[]
  methods := #[]
  instanceTypes := #[]
  staticTypes := #[]
  resolved := Array.replicate 37 none
  statics := none }

def pool7 : Array CpInfo := pool [(1, .methodref 2 3), (0, .class_ 4), (0, .nameAndType 5 6), (0, u "java/lang/Object"), (0, u "<init>"), (0, u "()V"), (0, .string 8), (0, u ""), (0, .fieldref 10 11), (0, .class_ 12), (0, .nameAndType 13 14), (0, u "java/lang/String"), (0, u "value"), (0, u "[B"), (0, .fieldref 10 16), (0, .nameAndType 17 18), (0, u "coder"), (0, u "B"), (2, u "hash"), (0, u "I"), (2, u "hashIsZero"), (0, u "Z"), (0, .methodref 10 28), (0, .nameAndType 5 29), (0, u "([CIILjava/lang/Void;)V"), (8, .fieldref 10 39), (0, .nameAndType 40 26), (0, u "COMPACT_STRINGS"), (1, .class_ 44), (1, u "java/lang/StringUTF16"), (0, u "compress"), (1, .methodref 42 48), (0, .nameAndType 49 50), (0, u "coderFromArrayLen"), (0, u "([BI)B"), (2, u "toBytes"), (0, .methodref 55 56), (0, .class_ 57), (0, .nameAndType 58 59), (0, u "java/util/Arrays"), (0, u "copyOfRange"), (0, u "([BII)[B"), (47, .class_ 109), (1, u "java/lang/StringLatin1"), (32, u "()Z"), (34, .methodref 42 178), (0, .nameAndType 45 179), (0, u "([CII)[B"), (13, .class_ 195), (1, u "java/lang/System"), (13, .methodref 10 210), (0, .nameAndType 5 211), (0, u "([BB)V"), (0, .methodref 193 213), (0, .nameAndType 214 215), (0, u "arraycopy"), (0, u "(Ljava/lang/Object;ILjava/lang/Object;II)V"), (118, u "()I"), (0, .methodref 10 336), (0, .nameAndType 17 337), (0, u "()B"), (2, u "()[B"), (22, u "([BI)C"), (5, u "(C)Z"), (21, u "(II)V"), (35, u "(I)C"), (61, .methodref 10 490), (0, .nameAndType 5 491), (0, u "(Ljava/lang/AbstractStringBuilder;Ljava/lang/Void;)V"), (0, .methodref 10 493), (0, .nameAndType 494 142), (0, u "isLatin1"), (0, .methodref 107 496), (0, .nameAndType 497 363), (0, u "charAt"), (3, u "checkIndex"), (3, .methodref 10 506), (0, .nameAndType 507 334), (0, u "length"), (24, u "getBytes"), (16, .methodref 550 506), (0, .class_ 551), (0, u "java/lang/AbstractStringBuilder"), (0, .methodref 550 553), (0, .nameAndType 554 340), (0, u "getValue"), (20, .class_ 576), (0, u "java/lang/CharSequence"), (22, u "CASE_INSENSITIVE_ORDER"), (0, u "Ljava/util/Comparator;"), (32, .methodref 10 634), (0, .nameAndType 635 636), (0, u "indexOf"), (0, u "(II)I"), (0, .methodref 107 638), (0, .nameAndType 635 639), (0, u "([BIII)I"), (52, u "isEmpty"), (72, u "(I)I"), (16, u "valueOf"), (0, u "(C)Ljava/lang/String;"), (37, u "([BIB)V"), (188, u "([C)V"), (4, .methodref 107 1016), (0, .nameAndType 1017 369), (0, u "canEncode"), (0, .methodref 107 1019), (0, .nameAndType 53 1020), (0, u "(C)[B"), (26, .methodref 550 493), (5, .fieldref 1054 1055), (0, .class_ 1056), (0, .nameAndType 1057 1058), (0, u "jdk/internal/util/Preconditions"), (0, u "SIOOBE_FORMATTER"), (0, u "Ljava/util/function/BiFunction;"), (0, .methodref 1054 1060), (0, .nameAndType 501 1061), (0, u "(IILjava/util/function/BiFunction;)I"), (39, u "serialPersistentFields"), (0, u "[Ljava/io/ObjectStreamField;"), (0, .class_ 1104), (0, u "java/lang/String$CaseInsensitiveComparator"), (1, .class_ 1107), (0, u "java/io/Serializable"), (0, .class_ 1109), (0, u "java/lang/Comparable"), (0, .class_ 1111), (0, u "java/lang/constant/Constable"), (0, .class_ 1113), (0, u "java/lang/constant/ConstantDesc"), (2, u "serialVersionUID"), (0, u "J"), (3, u "REPL"), (0, u "C"), (2, u "LATIN1"), (1, u "UTF16"), (105, u "(Ljava/lang/StringBuilder;)V")] 217

def k7m0 : Method := { name := "<init>", desc := "()V", sig := { parameters := [], returnType := none }, accessFlags := 1, code := none }
def k7c1 : Code := { maxStack := 5, maxLocals := 2, code := jdk_42_method_3_code, exceptionTable := #[], attributes := #[] }
def k7m1 : Method := { name := "<init>", desc := "([C)V", sig := { parameters := [(.array .char)], returnType := none }, accessFlags := 1, code := some k7c1 }
def k7c2 : Code := { maxStack := 3, maxLocals := 2, code := jdk_42_method_53_code, exceptionTable := #[], attributes := #[] }
def k7m2 : Method := { name := "<init>", desc := "(Ljava/lang/StringBuilder;)V", sig := { parameters := [(.object "java/lang/StringBuilder")], returnType := none }, accessFlags := 1, code := some k7c2 }
def k7c3 : Code := { maxStack := 2, maxLocals := 1, code := jdk_42_method_54_code, exceptionTable := #[], attributes := #[] }
def k7m3 : Method := { name := "length", desc := "()I", sig := { parameters := [], returnType := some .int }, accessFlags := 1, code := some k7c3 }
def k7c4 : Code := { maxStack := 1, maxLocals := 1, code := jdk_42_method_55_code, exceptionTable := #[], attributes := #[] }
def k7m4 : Method := { name := "isEmpty", desc := "()Z", sig := { parameters := [], returnType := some .boolean }, accessFlags := 1, code := some k7c4 }
def k7c5 : Code := { maxStack := 2, maxLocals := 2, code := jdk_42_method_56_code, exceptionTable := #[], attributes := #[] }
def k7m5 : Method := { name := "charAt", desc := "(I)C", sig := { parameters := [.int], returnType := some .char }, accessFlags := 1, code := some k7c5 }
def k7c6 : Code := { maxStack := 3, maxLocals := 2, code := jdk_42_method_79_code, exceptionTable := #[], attributes := #[] }
def k7m6 : Method := { name := "indexOf", desc := "(I)I", sig := { parameters := [.int], returnType := some .int }, accessFlags := 1, code := some k7c6 }
def k7c7 : Code := { maxStack := 4, maxLocals := 3, code := jdk_42_method_80_code, exceptionTable := #[], attributes := #[] }
def k7m7 : Method := { name := "indexOf", desc := "(II)I", sig := { parameters := [.int, .int], returnType := some .int }, accessFlags := 1, code := some k7c7 }
def k7c8 : Code := { maxStack := 4, maxLocals := 1, code := jdk_42_method_139_code, exceptionTable := #[], attributes := #[] }
def k7m8 : Method := { name := "valueOf", desc := "(C)Ljava/lang/String;", sig := { parameters := [.char], returnType := some (.object "java/lang/String") }, accessFlags := 9, code := some k7c8 }
def k7c9 : Code := { maxStack := 5, maxLocals := 4, code := jdk_42_method_147_code, exceptionTable := #[], attributes := #[] }
def k7m9 : Method := { name := "getBytes", desc := "([BIB)V", sig := { parameters := [(.array .byte), .int, .byte], returnType := none }, accessFlags := 0, code := some k7c9 }
def k7c10 : Code := { maxStack := 4, maxLocals := 6, code := jdk_42_method_149_code, exceptionTable := #[], attributes := #[] }
def k7m10 : Method := { name := "<init>", desc := "([CIILjava/lang/Void;)V", sig := { parameters := [(.array .char), .int, .int, (.object "java/lang/Void")], returnType := none }, accessFlags := 2, code := some k7c10 }
def k7c11 : Code := { maxStack := 5, maxLocals := 5, code := jdk_42_method_150_code, exceptionTable := #[], attributes := #[] }
def k7m11 : Method := { name := "<init>", desc := "(Ljava/lang/AbstractStringBuilder;Ljava/lang/Void;)V", sig := { parameters := [(.object "java/lang/AbstractStringBuilder"), (.object "java/lang/Void")], returnType := none }, accessFlags := 0, code := some k7c11 }
def k7c12 : Code := { maxStack := 2, maxLocals := 3, code := jdk_42_method_151_code, exceptionTable := #[], attributes := #[] }
def k7m12 : Method := { name := "<init>", desc := "([BB)V", sig := { parameters := [(.array .byte), .byte], returnType := none }, accessFlags := 0, code := some k7c12 }
def k7c13 : Code := { maxStack := 1, maxLocals := 1, code := jdk_42_method_152_code, exceptionTable := #[], attributes := #[] }
def k7m13 : Method := { name := "coder", desc := "()B", sig := { parameters := [], returnType := some .byte }, accessFlags := 0, code := some k7c13 }
def k7c14 : Code := { maxStack := 1, maxLocals := 1, code := jdk_42_method_154_code, exceptionTable := #[], attributes := #[] }
def k7m14 : Method := { name := "isLatin1", desc := "()Z", sig := { parameters := [], returnType := some .boolean }, accessFlags := 0, code := some k7c14 }
def k7c15 : Code := { maxStack := 3, maxLocals := 2, code := jdk_42_method_155_code, exceptionTable := #[], attributes := #[] }
def k7m15 : Method := { name := "checkIndex", desc := "(II)V", sig := { parameters := [.int, .int], returnType := none }, accessFlags := 8, code := some k7c15 }
/-- java/lang/String -/
def k7 : Class := { plain "java/lang/String" (some 0) with
  accessFlags := 49
  interfaces := #[2, 3, 4, 5, 6]
  cf := some (fileOf pool7 10 #[.nestMembers #[1103]] #[{ accessFlags := 1, nameIndex := 5, descriptorIndex := 6, attributes := #[] }, { accessFlags := 1, nameIndex := 5, descriptorIndex := 1010, attributes := #[] }, { accessFlags := 1, nameIndex := 5, descriptorIndex := 1233, attributes := #[] }, { accessFlags := 1, nameIndex := 507, descriptorIndex := 334, attributes := #[] }, { accessFlags := 1, nameIndex := 692, descriptorIndex := 142, attributes := #[] }, { accessFlags := 1, nameIndex := 497, descriptorIndex := 427, attributes := #[] }, { accessFlags := 1, nameIndex := 635, descriptorIndex := 765, attributes := #[] }, { accessFlags := 1, nameIndex := 635, descriptorIndex := 636, attributes := #[] }, { accessFlags := 9, nameIndex := 782, descriptorIndex := 783, attributes := #[] }, { accessFlags := 0, nameIndex := 532, descriptorIndex := 821, attributes := #[] }, { accessFlags := 2, nameIndex := 5, descriptorIndex := 29, attributes := #[] }, { accessFlags := 0, nameIndex := 5, descriptorIndex := 491, attributes := #[] }, { accessFlags := 0, nameIndex := 5, descriptorIndex := 211, attributes := #[] }, { accessFlags := 0, nameIndex := 17, descriptorIndex := 337, attributes := #[] }, { accessFlags := 0, nameIndex := 494, descriptorIndex := 142, attributes := #[] }, { accessFlags := 8, nameIndex := 501, descriptorIndex := 391, attributes := #[] }] 49 2 #[1106, 1108, 575, 1110, 1112] #[{ accessFlags := 18, nameIndex := 13, descriptorIndex := 14, attributes := #[] }, { accessFlags := 18, nameIndex := 17, descriptorIndex := 18, attributes := #[] }, { accessFlags := 2, nameIndex := 21, descriptorIndex := 22, attributes := #[] }, { accessFlags := 2, nameIndex := 25, descriptorIndex := 26, attributes := #[] }, { accessFlags := 26, nameIndex := 1116, descriptorIndex := 1117, attributes := #[] }, { accessFlags := 24, nameIndex := 40, descriptorIndex := 26, attributes := #[] }, { accessFlags := 26, nameIndex := 1101, descriptorIndex := 1102, attributes := #[] }, { accessFlags := 26, nameIndex := 1121, descriptorIndex := 1122, attributes := #[] }, { accessFlags := 25, nameIndex := 599, descriptorIndex := 600, attributes := #[] }, { accessFlags := 24, nameIndex := 1125, descriptorIndex := 18, attributes := #[] }, { accessFlags := 24, nameIndex := 1127, descriptorIndex := 18, attributes := #[] }])
  fields := #[{ name := "value", type := (.array .byte), accessFlags := 18, slot := 0, constantValue := 0 }, { name := "coder", type := .byte, accessFlags := 18, slot := 1, constantValue := 0 }, { name := "hash", type := .int, accessFlags := 2, slot := 2, constantValue := 0 }, { name := "hashIsZero", type := .boolean, accessFlags := 2, slot := 3, constantValue := 0 }, { name := "serialVersionUID", type := .long, accessFlags := 26, slot := 0, constantValue := 0 }, { name := "COMPACT_STRINGS", type := .boolean, accessFlags := 24, slot := 1, constantValue := 0 }, { name := "serialPersistentFields", type := (.array (.object "java/io/ObjectStreamField")), accessFlags := 26, slot := 2, constantValue := 0 }, { name := "REPL", type := .char, accessFlags := 26, slot := 3, constantValue := 0 }, { name := "CASE_INSENSITIVE_ORDER", type := (.object "java/util/Comparator"), accessFlags := 25, slot := 4, constantValue := 0 }, { name := "LATIN1", type := .byte, accessFlags := 24, slot := 5, constantValue := 0 }, { name := "UTF16", type := .byte, accessFlags := 24, slot := 6, constantValue := 0 }]
  methods := #[k7m0, k7m1, k7m2, k7m3, k7m4, k7m5, k7m6, k7m7, k7m8, k7m9, k7m10, k7m11, k7m12, k7m13, k7m14, k7m15]
  instanceTypes := #[(.array .byte), .byte, .int, .boolean]
  staticTypes := #[.long, .boolean, (.array (.object "java/io/ObjectStreamField")), .char, (.object "java/util/Comparator"), .byte, .byte]
  resolved := Array.replicate 1451 none
  statics := some 0 }

def pool8 : Array CpInfo := pool [(6, .class_ 8), (1, u "java/lang/Object"), (0, u "<init>"), (0, u "()V"), (1, .class_ 14), (1, u "java/lang/StringUTF16"), (31, u "$assertionsDisabled"), (0, u "Z"), (13, u "HI_BYTE_SHIFT"), (0, u "I"), (2, u "LO_BYTE_SHIFT"), (49, .methodref 12 116), (0, .nameAndType 117 118), (0, u "compress"), (0, u "([CI[BII)I"), (3, u "([CII)[B"), (138, u "coderFromArrayLen"), (0, u "([BI)B"), (106, .class_ 371), (1, u "java/lang/StringUTF16$LinesSpliterator"), (58, u "MAX_LENGTH"), (196, .class_ 628), (0, u "java/lang/StringUTF16$CodePointsSpliterator"), (0, .class_ 630), (0, u "java/lang/StringUTF16$CharsSpliterator")] 4

def k8m0 : Method := { name := "<init>", desc := "()V", sig := { parameters := [], returnType := none }, accessFlags := 0, code := none }
def k8c1 : Code := { maxStack := 2, maxLocals := 2, code := jdk_52_method_15_code, exceptionTable := #[], attributes := #[] }
def k8m1 : Method := { name := "coderFromArrayLen", desc := "([BI)B", sig := { parameters := [(.array .byte), .int], returnType := some .byte }, accessFlags := 8, code := some k8c1 }
def k8c2 : Code := { maxStack := 5, maxLocals := 6, code := jdk_52_method_16_code, exceptionTable := #[], attributes := #[] }
def k8m2 : Method := { name := "compress", desc := "([CII)[B", sig := { parameters := [(.array .char), .int, .int], returnType := some (.array .byte) }, accessFlags := 9, code := some k8c2 }
def k8c3 : Code := { maxStack := 3, maxLocals := 7, code := jdk_52_method_21_code, exceptionTable := #[], attributes := #[] }
def k8m3 : Method := { name := "compress", desc := "([CI[BII)I", sig := { parameters := [(.array .char), .int, (.array .byte), .int, .int], returnType := some .int }, accessFlags := 9, code := some k8c3 }
/-- java/lang/StringUTF16 -/
def k8 : Class := { plain "java/lang/StringUTF16" (some 0) with
  accessFlags := 48
  interfaces := #[]
  cf := some (fileOf pool8 12 #[.nestMembers #[627, 629, 369]] #[{ accessFlags := 0, nameIndex := 9, descriptorIndex := 10, attributes := #[] }, { accessFlags := 8, nameIndex := 261, descriptorIndex := 262, attributes := #[] }, { accessFlags := 9, nameIndex := 117, descriptorIndex := 122, attributes := #[] }, { accessFlags := 9, nameIndex := 117, descriptorIndex := 118, attributes := #[] }] 48 6 #[] #[{ accessFlags := 26, nameIndex := 61, descriptorIndex := 62, attributes := #[] }, { accessFlags := 26, nameIndex := 65, descriptorIndex := 62, attributes := #[] }, { accessFlags := 24, nameIndex := 430, descriptorIndex := 62, attributes := #[] }, { accessFlags := 4120, nameIndex := 46, descriptorIndex := 47, attributes := #[] }])
  fields := #[{ name := "HI_BYTE_SHIFT", type := .int, accessFlags := 26, slot := 0, constantValue := 0 }, { name := "LO_BYTE_SHIFT", type := .int, accessFlags := 26, slot := 1, constantValue := 0 }, { name := "MAX_LENGTH", type := .int, accessFlags := 24, slot := 2, constantValue := 0 }, { name := "$assertionsDisabled", type := .boolean, accessFlags := 4120, slot := 3, constantValue := 0 }]
  methods := #[k8m0, k8m1, k8m2, k8m3]
  instanceTypes := #[]
  staticTypes := #[.int, .int, .int, .boolean]
  resolved := Array.replicate 635 none
  statics := none }

def pool9 : Array CpInfo := pool [(1, .class_ 2), (0, u "java/lang/String"), (1, .class_ 6), (1, u "java/lang/Object"), (0, u "<init>"), (0, u "()V"), (0, .methodref 1 10), (0, .nameAndType 11 12), (0, u "checkIndex"), (0, u "(II)V"), (1, .class_ 16), (1, u "java/lang/StringLatin1"), (21, .methodref 39 40), (0, .class_ 41), (0, .nameAndType 42 43), (0, u "java/lang/Math"), (0, u "min"), (0, u "(II)I"), (9, u "([BI)C"), (34, .methodref 14 89), (0, .nameAndType 90 91), (0, u "canEncode"), (0, u "(I)Z"), (0, .methodref 39 93), (0, .nameAndType 94 43), (0, u "max"), (0, .methodref 14 96), (0, .nameAndType 97 98), (0, u "indexOfChar"), (0, u "([BIII)I"), (2, u "indexOf"), (3, u "(C)Z"), (15, u "$assertionsDisabled"), (0, u "Z"), (98, .class_ 223), (1, u "java/lang/StringLatin1$LinesSpliterator"), (28, u "charAt"), (127, u "toBytes"), (1, u "(C)[B"), (7, .class_ 391), (0, u "java/lang/StringLatin1$CharsSpliterator")] 3

def k9m0 : Method := { name := "<init>", desc := "()V", sig := { parameters := [], returnType := none }, accessFlags := 0, code := none }
def k9c1 : Code := { maxStack := 2, maxLocals := 2, code := jdk_43_method_2_code, exceptionTable := #[], attributes := #[] }
def k9m1 : Method := { name := "charAt", desc := "([BI)C", sig := { parameters := [(.array .byte), .int], returnType := some .char }, accessFlags := 9, code := some k9c1 }
def k9c2 : Code := { maxStack := 2, maxLocals := 1, code := jdk_43_method_3_code, exceptionTable := #[], attributes := #[] }
def k9m2 : Method := { name := "canEncode", desc := "(C)Z", sig := { parameters := [.char], returnType := some .boolean }, accessFlags := 9, code := some k9c2 }
def k9c3 : Code := { maxStack := 2, maxLocals := 1, code := jdk_43_method_4_code, exceptionTable := #[], attributes := #[] }
def k9m3 : Method := { name := "canEncode", desc := "(I)Z", sig := { parameters := [.int], returnType := some .boolean }, accessFlags := 9, code := some k9c3 }
def k9c4 : Code := { maxStack := 4, maxLocals := 4, code := jdk_43_method_22_code, exceptionTable := #[], attributes := #[] }
def k9m4 : Method := { name := "indexOf", desc := "([BIII)I", sig := { parameters := [(.array .byte), .int, .int, .int], returnType := some .int }, accessFlags := 9, code := some k9c4 }
def k9c5 : Code := { maxStack := 2, maxLocals := 6, code := jdk_43_method_23_code, exceptionTable := #[], attributes := #[] }
def k9m5 : Method := { name := "indexOfChar", desc := "([BIII)I", sig := { parameters := [(.array .byte), .int, .int, .int], returnType := some .int }, accessFlags := 10, code := some k9c5 }
def k9c6 : Code := { maxStack := 4, maxLocals := 1, code := jdk_43_method_46_code, exceptionTable := #[], attributes := #[] }
def k9m6 : Method := { name := "toBytes", desc := "(C)[B", sig := { parameters := [.char], returnType := some (.array .byte) }, accessFlags := 9, code := some k9c6 }
/-- java/lang/StringLatin1 -/
def k9 : Class := { plain "java/lang/StringLatin1" (some 0) with
  accessFlags := 48
  interfaces := #[]
  cf := some (fileOf pool9 14 #[.nestMembers #[390, 221]] #[{ accessFlags := 0, nameIndex := 7, descriptorIndex := 8, attributes := #[] }, { accessFlags := 9, nameIndex := 252, descriptorIndex := 53, attributes := #[] }, { accessFlags := 9, nameIndex := 90, descriptorIndex := 105, attributes := #[] }, { accessFlags := 9, nameIndex := 90, descriptorIndex := 91, attributes := #[] }, { accessFlags := 9, nameIndex := 101, descriptorIndex := 98, attributes := #[] }, { accessFlags := 10, nameIndex := 97, descriptorIndex := 98, attributes := #[] }, { accessFlags := 9, nameIndex := 380, descriptorIndex := 382, attributes := #[] }] 48 4 #[] #[{ accessFlags := 4120, nameIndex := 121, descriptorIndex := 122, attributes := #[] }])
  fields := #[{ name := "$assertionsDisabled", type := .boolean, accessFlags := 4120, slot := 0, constantValue := 0 }]
  methods := #[k9m0, k9m1, k9m2, k9m3, k9m4, k9m5, k9m6]
  instanceTypes := #[]
  staticTypes := #[.boolean]
  resolved := Array.replicate 395 none
  statics := none }

def pool10 : Array CpInfo := pool [(1, .methodref 2 3), (0, .class_ 4), (0, .nameAndType 5 6), (0, u "java/lang/Object"), (0, u "<init>"), (0, u "()V"), (0, .fieldref 8 9), (0, .class_ 10), (0, .nameAndType 11 12), (0, u "com/example/lease/lease/LockKeys"), (0, u "holdsKey"), (0, u "Ljava/lang/String;"), (0, .class_ 14), (0, u "java/lang/StringBuilder"), (0, .methodref 13 3), (0, .methodref 13 17), (0, .nameAndType 18 19), (0, u "append"), (0, u "(Ljava/lang/String;)Ljava/lang/StringBuilder;"), (0, .string 21), (0, u ":fence"), (0, .methodref 13 23), (0, .nameAndType 24 25), (0, u "toString"), (0, u "()Ljava/lang/String;"), (0, .fieldref 8 27), (0, .nameAndType 28 12), (0, u "fenceKey"), (0, .string 30), (0, u ":released"), (0, .fieldref 8 32), (0, .nameAndType 33 12), (0, u "releasedChannel"), (0, .methodref 8 35), (0, .nameAndType 36 37), (0, u "checkedPrefix"), (0, u "(Ljava/lang/String;)Ljava/lang/String;"), (0, .string 39), (0, u "lockName"), (0, .methodref 41 42), (0, .class_ 43), (0, .nameAndType 44 45), (0, u "java/util/Objects"), (0, u "requireNonNull"), (0, u "(Ljava/lang/Object;Ljava/lang/String;)Ljava/lang/Object;"), (0, .methodref 47 48), (0, .class_ 49), (0, .nameAndType 50 51), (0, u "java/lang/String"), (0, u "isEmpty"), (0, u "()Z"), (5, .nameAndType 5 58), (0, u "(Ljava/lang/String;)V"), (0, .methodref 47 60), (0, .nameAndType 61 62), (0, u "indexOf"), (0, u "(I)I"), (2, .methodref 13 66), (0, .nameAndType 18 67), (0, u "(C)Ljava/lang/StringBuilder;"), (0, .methodref 8 57), (4, .string 74), (0, u "keyPrefix"), (4, u "of"), (0, u "(Ljava/lang/String;Ljava/lang/String;)Lcom/example/lease/lease/LockKeys;")] 4

def k10c0 : Code := { maxStack := 3, maxLocals := 2, code := prog_2_method_1_code, exceptionTable := #[], attributes := #[] }
def k10m0 : Method := { name := "<init>", desc := "(Ljava/lang/String;)V", sig := { parameters := [(.object "java/lang/String")], returnType := none }, accessFlags := 2, code := some k10c0 }
def k10c1 : Code := { maxStack := 4, maxLocals := 2, code := prog_2_method_2_code, exceptionTable := #[], attributes := #[] }
def k10m1 : Method := { name := "of", desc := "(Ljava/lang/String;Ljava/lang/String;)Lcom/example/lease/lease/LockKeys;", sig := { parameters := [(.object "java/lang/String"), (.object "java/lang/String")], returnType := some (.object "com/example/lease/lease/LockKeys") }, accessFlags := 8, code := some k10c1 }
def k10c2 : Code := { maxStack := 4, maxLocals := 1, code := prog_2_method_4_code, exceptionTable := #[], attributes := #[] }
def k10m2 : Method := { name := "checkedPrefix", desc := "(Ljava/lang/String;)Ljava/lang/String;", sig := { parameters := [(.object "java/lang/String")], returnType := some (.object "java/lang/String") }, accessFlags := 8, code := some k10c2 }
def k10c3 : Code := { maxStack := 1, maxLocals := 1, code := prog_2_method_5_code, exceptionTable := #[], attributes := #[] }
def k10m3 : Method := { name := "holdsKey", desc := "()Ljava/lang/String;", sig := { parameters := [], returnType := some (.object "java/lang/String") }, accessFlags := 0, code := some k10c3 }
def k10c4 : Code := { maxStack := 1, maxLocals := 1, code := prog_2_method_6_code, exceptionTable := #[], attributes := #[] }
def k10m4 : Method := { name := "fenceKey", desc := "()Ljava/lang/String;", sig := { parameters := [], returnType := some (.object "java/lang/String") }, accessFlags := 0, code := some k10c4 }
def k10c5 : Code := { maxStack := 1, maxLocals := 1, code := prog_2_method_7_code, exceptionTable := #[], attributes := #[] }
def k10m5 : Method := { name := "releasedChannel", desc := "()Ljava/lang/String;", sig := { parameters := [], returnType := some (.object "java/lang/String") }, accessFlags := 0, code := some k10c5 }
/-- com/example/lease/lease/LockKeys -/
def k10 : Class := { plain "com/example/lease/lease/LockKeys" (some 0) with
  accessFlags := 32
  interfaces := #[]
  cf := some (fileOf pool10 8 #[] #[{ accessFlags := 2, nameIndex := 5, descriptorIndex := 58, attributes := #[] }, { accessFlags := 8, nameIndex := 79, descriptorIndex := 80, attributes := #[] }, { accessFlags := 8, nameIndex := 36, descriptorIndex := 37, attributes := #[] }, { accessFlags := 0, nameIndex := 11, descriptorIndex := 25, attributes := #[] }, { accessFlags := 0, nameIndex := 28, descriptorIndex := 25, attributes := #[] }, { accessFlags := 0, nameIndex := 33, descriptorIndex := 25, attributes := #[] }] 32 2 #[] #[{ accessFlags := 18, nameIndex := 11, descriptorIndex := 12, attributes := #[] }, { accessFlags := 18, nameIndex := 28, descriptorIndex := 12, attributes := #[] }, { accessFlags := 18, nameIndex := 33, descriptorIndex := 12, attributes := #[] }])
  fields := #[{ name := "holdsKey", type := (.object "java/lang/String"), accessFlags := 18, slot := 0, constantValue := 0 }, { name := "fenceKey", type := (.object "java/lang/String"), accessFlags := 18, slot := 1, constantValue := 0 }, { name := "releasedChannel", type := (.object "java/lang/String"), accessFlags := 18, slot := 2, constantValue := 0 }]
  methods := #[k10m0, k10m1, k10m2, k10m3, k10m4, k10m5]
  instanceTypes := #[(.object "java/lang/String"), (.object "java/lang/String"), (.object "java/lang/String")]
  staticTypes := #[]
  resolved := Array.replicate 85 none
  statics := none }

def pool11 : Array CpInfo := pool [(2, .class_ 4), (1, u "java/lang/Object"), (0, u "<init>"), (0, u "()V"), (35, .class_ 44), (1, u "java/util/Objects"), (0, u "requireNonNull"), (48, u "(Ljava/lang/Object;Ljava/lang/String;)Ljava/lang/Object;")] 89

def k11m0 : Method := { name := "<init>", desc := "()V", sig := { parameters := [], returnType := none }, accessFlags := 2, code := none }
def k11c1 : Code := { maxStack := 3, maxLocals := 2, code := jdk_31_method_11_code, exceptionTable := #[], attributes := #[] }
def k11m1 : Method := { name := "requireNonNull", desc := "(Ljava/lang/Object;Ljava/lang/String;)Ljava/lang/Object;", sig := { parameters := [(.object "java/lang/Object"), (.object "java/lang/String")], returnType := some (.object "java/lang/Object") }, accessFlags := 9, code := some k11c1 }
/-- java/util/Objects -/
def k11 : Class := { plain "java/util/Objects" (some 0) with
  accessFlags := 49
  interfaces := #[]
  cf := some (fileOf pool11 42 #[] #[{ accessFlags := 2, nameIndex := 5, descriptorIndex := 6, attributes := #[] }, { accessFlags := 9, nameIndex := 45, descriptorIndex := 94, attributes := #[] }] 49 2 #[] #[])
  fields := #[]
  methods := #[k11m0, k11m1]
  instanceTypes := #[]
  staticTypes := #[]
  resolved := Array.replicate 184 none
  statics := none }

def pool12 : Array CpInfo := pool [(1, .class_ 2), (0, u "java/lang/Math"), (1, .class_ 6), (1, u "java/lang/Object"), (0, u "<init>"), (0, u "()V"), (89, .class_ 100), (1, u "java/lang/Math$RandomNumberGeneratorHolder"), (71, u "negativeZeroFloatBits"), (0, u "J"), (2, u "negativeZeroDoubleBits"), (21, u "max"), (2, u "min"), (43, u "$assertionsDisabled"), (0, u "Z"), (88, u "(II)I"), (2, u "twoToTheDoubleScaleDown"), (0, u "D"), (4, u "twoToTheDoubleScaleUp"), (9, u "E"), (3, u "PI"), (2, u "TAU"), (2, u "DEGREES_TO_RADIANS"), (0, u "RADIANS_TO_DEGREES")] 94

def k12m0 : Method := { name := "<init>", desc := "()V", sig := { parameters := [], returnType := none }, accessFlags := 2, code := none }
def k12c1 : Code := { maxStack := 2, maxLocals := 2, code := jdk_29_method_65_code, exceptionTable := #[], attributes := #[] }
def k12m1 : Method := { name := "max", desc := "(II)I", sig := { parameters := [.int, .int], returnType := some .int }, accessFlags := 9, code := some k12c1 }
def k12c2 : Code := { maxStack := 2, maxLocals := 2, code := jdk_29_method_69_code, exceptionTable := #[], attributes := #[] }
def k12m2 : Method := { name := "min", desc := "(II)I", sig := { parameters := [.int, .int], returnType := some .int }, accessFlags := 9, code := some k12c2 }
/-- java/lang/Math -/
def k12 : Class := { plain "java/lang/Math" (some 0) with
  accessFlags := 49
  interfaces := #[]
  cf := some (fileOf pool12 1 #[.nestMembers #[98]] #[{ accessFlags := 2, nameIndex := 7, descriptorIndex := 8, attributes := #[] }, { accessFlags := 9, nameIndex := 198, descriptorIndex := 335, attributes := #[] }, { accessFlags := 9, nameIndex := 201, descriptorIndex := 335, attributes := #[] }] 49 4 #[] #[{ accessFlags := 25, nameIndex := 354, descriptorIndex := 339, attributes := #[] }, { accessFlags := 25, nameIndex := 358, descriptorIndex := 339, attributes := #[] }, { accessFlags := 25, nameIndex := 361, descriptorIndex := 339, attributes := #[] }, { accessFlags := 26, nameIndex := 364, descriptorIndex := 339, attributes := #[] }, { accessFlags := 26, nameIndex := 365, descriptorIndex := 339, attributes := #[] }, { accessFlags := 26, nameIndex := 172, descriptorIndex := 173, attributes := #[] }, { accessFlags := 26, nameIndex := 176, descriptorIndex := 173, attributes := #[] }, { accessFlags := 8, nameIndex := 344, descriptorIndex := 339, attributes := #[] }, { accessFlags := 8, nameIndex := 338, descriptorIndex := 339, attributes := #[] }, { accessFlags := 4120, nameIndex := 245, descriptorIndex := 246, attributes := #[] }])
  fields := #[{ name := "E", type := .double, accessFlags := 25, slot := 0, constantValue := 0 }, { name := "PI", type := .double, accessFlags := 25, slot := 1, constantValue := 0 }, { name := "TAU", type := .double, accessFlags := 25, slot := 2, constantValue := 0 }, { name := "DEGREES_TO_RADIANS", type := .double, accessFlags := 26, slot := 3, constantValue := 0 }, { name := "RADIANS_TO_DEGREES", type := .double, accessFlags := 26, slot := 4, constantValue := 0 }, { name := "negativeZeroFloatBits", type := .long, accessFlags := 26, slot := 5, constantValue := 0 }, { name := "negativeZeroDoubleBits", type := .long, accessFlags := 26, slot := 6, constantValue := 0 }, { name := "twoToTheDoubleScaleUp", type := .double, accessFlags := 8, slot := 7, constantValue := 0 }, { name := "twoToTheDoubleScaleDown", type := .double, accessFlags := 8, slot := 8, constantValue := 0 }, { name := "$assertionsDisabled", type := .boolean, accessFlags := 4120, slot := 9, constantValue := 0 }]
  methods := #[k12m0, k12m1, k12m2]
  instanceTypes := #[]
  staticTypes := #[.double, .double, .double, .double, .double, .long, .long, .double, .double, .boolean]
  resolved := Array.replicate 460 none
  statics := none }

def pool13 : Array CpInfo := pool [(1, .class_ 2), (0, u "java/lang/Appendable"), (0, .class_ 4), (0, u "java/lang/Object")] 9

/-- java/lang/Appendable -/
def k13 : Class := { plain "java/lang/Appendable" (some 0) with
  accessFlags := 1537
  interfaces := #[]
  cf := some (fileOf pool13 1 #[] #[] 1537 3 #[] #[])
  fields := #[]
  methods := #[]
  instanceTypes := #[]
  staticTypes := #[]
  resolved := Array.replicate 14 none
  statics := none }

def pool14 : Array CpInfo := pool [(1, .class_ 2), (0, u "java/lang/String"), (0, .methodref 4 5), (0, .class_ 6), (0, .nameAndType 7 8), (0, u "java/lang/Object"), (0, u "<init>"), (0, u "()V"), (1, .class_ 12), (1, u "java/lang/AbstractStringBuilder"), (0, u "EMPTYVALUE"), (0, u "[B"), (0, .fieldref 10 16), (0, .nameAndType 17 14), (0, u "value"), (0, .fieldref 1 19), (0, .nameAndType 20 21), (0, u "COMPACT_STRINGS"), (0, u "Z"), (0, .fieldref 10 23), (0, .nameAndType 24 25), (0, u "coder"), (0, u "B"), (6, .methodref 1 33), (0, .nameAndType 34 35), (0, u "length"), (0, u "()I"), (4, .methodref 1 41), (0, .nameAndType 24 42), (0, u "()B"), (2, u "append"), (0, u "(Ljava/lang/String;)Ljava/lang/AbstractStringBuilder;"), (1, .class_ 49), (0, u "java/lang/CharSequence"), (19, u "(Ljava/lang/String;)V"), (5, u "maybeLatin1"), (3, .fieldref 10 80), (0, .nameAndType 81 82), (0, u "count"), (0, u "I"), (0, .methodref 10 84), (0, .nameAndType 85 86), (0, u "isLatin1"), (0, u "()Z"), (1, .class_ 90), (1, u "java/lang/StringLatin1"), (9, .methodref 10 101), (0, .nameAndType 102 103), (0, u "ensureCapacityInternal"), (0, u "(I)V"), (87, .methodref 88 192), (0, .nameAndType 193 194), (0, u "canEncode"), (0, u "(C)Z"), (13, .methodref 10 209), (0, .nameAndType 210 211), (0, u "putStringAt"), (0, u "(ILjava/lang/String;)V"), (5, u "inflateIfNeededFor"), (2, .nameAndType 221 222), (0, u "getBytes"), (0, u "([BIB)V"), (69, u "(C)Ljava/lang/AbstractStringBuilder;"), (104, .methodref 10 398), (0, .nameAndType 217 69), (0, .methodref 1 220), (3, u "()[B"), (40, .class_ 445), (0, u "java/lang/Appendable"), (106, u "getValue")] 56

def k14m0 : Method := { name := "<init>", desc := "()V", sig := { parameters := [], returnType := none }, accessFlags := 0, code := none }
def k14c1 : Code := { maxStack := 2, maxLocals := 2, code := jdk_68_method_2_code, exceptionTable := #[], attributes := #[] }
def k14m1 : Method := { name := "<init>", desc := "(I)V", sig := { parameters := [.int], returnType := none }, accessFlags := 0, code := some k14c1 }
def k14c2 : Code := { maxStack := 1, maxLocals := 1, code := jdk_68_method_6_code, exceptionTable := #[], attributes := #[] }
def k14m2 : Method := { name := "length", desc := "()I", sig := { parameters := [], returnType := some .int }, accessFlags := 1, code := some k14c2 }
def k14c3 : Code := { maxStack := 4, maxLocals := 3, code := jdk_68_method_9_code, exceptionTable := #[], attributes := #[] }
def k14m3 : Method := { name := "ensureCapacityInternal", desc := "(I)V", sig := { parameters := [.int], returnType := none }, accessFlags := 2, code := some k14c3 }
def k14c4 : Code := { maxStack := 3, maxLocals := 3, code := jdk_68_method_22_code, exceptionTable := #[], attributes := #[] }
def k14m4 : Method := { name := "append", desc := "(Ljava/lang/String;)Ljava/lang/AbstractStringBuilder;", sig := { parameters := [(.object "java/lang/String")], returnType := some (.object "java/lang/AbstractStringBuilder") }, accessFlags := 1, code := some k14c4 }
def k14c5 : Code := { maxStack := 5, maxLocals := 2, code := jdk_68_method_31_code, exceptionTable := #[], attributes := #[] }
def k14m5 : Method := { name := "append", desc := "(C)Ljava/lang/AbstractStringBuilder;", sig := { parameters := [.char], returnType := some (.object "java/lang/AbstractStringBuilder") }, accessFlags := 1, code := some k14c5 }
def k14c6 : Code := { maxStack := 1, maxLocals := 1, code := jdk_68_method_64_code, exceptionTable := #[], attributes := #[] }
def k14m6 : Method := { name := "getValue", desc := "()[B", sig := { parameters := [], returnType := some (.array .byte) }, accessFlags := 16, code := some k14c6 }
def k14c7 : Code := { maxStack := 1, maxLocals := 1, code := jdk_68_method_68_code, exceptionTable := #[], attributes := #[] }
def k14m7 : Method := { name := "isLatin1", desc := "()Z", sig := { parameters := [], returnType := some .boolean }, accessFlags := 16, code := some k14c7 }
def k14c8 : Code := { maxStack := 2, maxLocals := 2, code := jdk_68_method_71_code, exceptionTable := #[], attributes := #[] }
def k14m8 : Method := { name := "inflateIfNeededFor", desc := "(Ljava/lang/String;)V", sig := { parameters := [(.object "java/lang/String")], returnType := none }, accessFlags := 2, code := some k14c8 }
def k14c9 : Code := { maxStack := 4, maxLocals := 3, code := jdk_68_method_73_code, exceptionTable := #[], attributes := #[] }
def k14m9 : Method := { name := "putStringAt", desc := "(ILjava/lang/String;)V", sig := { parameters := [.int, (.object "java/lang/String")], returnType := none }, accessFlags := 2, code := some k14c9 }
/-- java/lang/AbstractStringBuilder -/
def k14 : Class := { plain "java/lang/AbstractStringBuilder" (some 0) with
  accessFlags := 1056
  interfaces := #[13, 4]
  cf := some (fileOf pool14 10 #[] #[{ accessFlags := 0, nameIndex := 7, descriptorIndex := 8, attributes := #[] }, { accessFlags := 0, nameIndex := 7, descriptorIndex := 103, attributes := #[] }, { accessFlags := 1, nameIndex := 34, descriptorIndex := 35, attributes := #[] }, { accessFlags := 2, nameIndex := 102, descriptorIndex := 103, attributes := #[] }, { accessFlags := 1, nameIndex := 45, descriptorIndex := 46, attributes := #[] }, { accessFlags := 1, nameIndex := 45, descriptorIndex := 292, attributes := #[] }, { accessFlags := 16, nameIndex := 552, descriptorIndex := 403, attributes := #[] }, { accessFlags := 16, nameIndex := 85, descriptorIndex := 86, attributes := #[] }, { accessFlags := 2, nameIndex := 217, descriptorIndex := 69, attributes := #[] }, { accessFlags := 2, nameIndex := 210, descriptorIndex := 211, attributes := #[] }] 1056 4 #[444, 48] #[{ accessFlags := 0, nameIndex := 17, descriptorIndex := 14, attributes := #[] }, { accessFlags := 0, nameIndex := 24, descriptorIndex := 25, attributes := #[] }, { accessFlags := 0, nameIndex := 75, descriptorIndex := 21, attributes := #[] }, { accessFlags := 0, nameIndex := 81, descriptorIndex := 82, attributes := #[] }, { accessFlags := 26, nameIndex := 13, descriptorIndex := 14, attributes := #[] }])
  fields := #[{ name := "value", type := (.array .byte), accessFlags := 0, slot := 0, constantValue := 0 }, { name := "coder", type := .byte, accessFlags := 0, slot := 1, constantValue := 0 }, { name := "maybeLatin1", type := .boolean, accessFlags := 0, slot := 2, constantValue := 0 }, { name := "count", type := .int, accessFlags := 0, slot := 3, constantValue := 0 }, { name := "EMPTYVALUE", type := (.array .byte), accessFlags := 26, slot := 0, constantValue := 0 }]
  methods := #[k14m0, k14m1, k14m2, k14m3, k14m4, k14m5, k14m6, k14m7, k14m8, k14m9]
  instanceTypes := #[(.array .byte), .byte, .boolean, .int]
  staticTypes := #[(.array .byte)]
  resolved := Array.replicate 609 none
  statics := none }

def pool15 : Array CpInfo := pool [(1, .methodref 2 3), (0, .class_ 4), (0, .nameAndType 5 6), (0, u "java/lang/AbstractStringBuilder"), (0, u "<init>"), (0, u "(I)V"), (11, .class_ 20), (1, u "java/lang/String"), (3, .class_ 26), (1, u "java/lang/StringBuilder"), (0, u "append"), (0, u "(Ljava/lang/String;)Ljava/lang/StringBuilder;"), (0, .methodref 2 30), (0, .nameAndType 27 31), (0, u "(Ljava/lang/String;)Ljava/lang/AbstractStringBuilder;"), (18, .methodref 2 51), (0, .nameAndType 27 52), (0, u "(C)Ljava/lang/AbstractStringBuilder;"), (84, .methodref 18 138), (0, .nameAndType 5 139), (0, u "(Ljava/lang/StringBuilder;)V"), (5, u "()V"), (10, u "()I"), (129, u "(C)Ljava/lang/StringBuilder;"), (56, .methodref 2 344), (0, .nameAndType 345 156), (0, u "length"), (3, .class_ 350), (0, u "java/lang/Appendable"), (0, .class_ 352), (0, u "java/io/Serializable"), (0, .class_ 354), (0, u "java/lang/Comparable"), (0, .class_ 356), (0, u "java/lang/CharSequence"), (0, u "serialVersionUID"), (0, u "J"), (40, u "toString"), (0, u "()Ljava/lang/String;")] 21

def k15c0 : Code := { maxStack := 2, maxLocals := 1, code := jdk_67_method_1_code, exceptionTable := #[], attributes := #[] }
def k15m0 : Method := { name := "<init>", desc := "()V", sig := { parameters := [], returnType := none }, accessFlags := 1, code := some k15c0 }
def k15c1 : Code := { maxStack := 2, maxLocals := 2, code := jdk_67_method_7_code, exceptionTable := #[], attributes := #[] }
def k15m1 : Method := { name := "append", desc := "(Ljava/lang/String;)Ljava/lang/StringBuilder;", sig := { parameters := [(.object "java/lang/String")], returnType := some (.object "java/lang/StringBuilder") }, accessFlags := 1, code := some k15c1 }
def k15c2 : Code := { maxStack := 2, maxLocals := 2, code := jdk_67_method_14_code, exceptionTable := #[], attributes := #[] }
def k15m2 : Method := { name := "append", desc := "(C)Ljava/lang/StringBuilder;", sig := { parameters := [.char], returnType := some (.object "java/lang/StringBuilder") }, accessFlags := 1, code := some k15c2 }
def k15c3 : Code := { maxStack := 3, maxLocals := 1, code := jdk_67_method_42_code, exceptionTable := #[], attributes := #[] }
def k15m3 : Method := { name := "toString", desc := "()Ljava/lang/String;", sig := { parameters := [], returnType := some (.object "java/lang/String") }, accessFlags := 1, code := some k15c3 }
def k15c4 : Code := { maxStack := 1, maxLocals := 1, code := jdk_67_method_93_code, exceptionTable := #[], attributes := #[] }
def k15m4 : Method := { name := "length", desc := "()I", sig := { parameters := [], returnType := some .int }, accessFlags := 4161, code := some k15c4 }
/-- java/lang/StringBuilder -/
def k15 : Class := { plain "java/lang/StringBuilder" (some 14) with
  accessFlags := 49
  interfaces := #[13, 2, 3, 4]
  cf := some (fileOf pool15 24 #[] #[{ accessFlags := 1, nameIndex := 5, descriptorIndex := 145, attributes := #[] }, { accessFlags := 1, nameIndex := 27, descriptorIndex := 28, attributes := #[] }, { accessFlags := 1, nameIndex := 27, descriptorIndex := 286, attributes := #[] }, { accessFlags := 1, nameIndex := 399, descriptorIndex := 400, attributes := #[] }, { accessFlags := 4161, nameIndex := 345, descriptorIndex := 156, attributes := #[] }] 49 2 #[349, 351, 353, 355] #[{ accessFlags := 24, nameIndex := 357, descriptorIndex := 358, attributes := #[] }])
  fields := #[{ name := "serialVersionUID", type := .long, accessFlags := 24, slot := 0, constantValue := 0 }]
  methods := #[k15m0, k15m1, k15m2, k15m3, k15m4]
  instanceTypes := #[(.array .byte), .byte, .boolean, .int]
  staticTypes := #[.long]
  resolved := Array.replicate 422 none
  statics := none }

def pool16 : Array CpInfo := pool [(2, .class_ 4), (1, u "java/lang/Object"), (0, u "<init>"), (0, u "()V"), (1, .class_ 10), (1, u "java/lang/System"), (0, u "allowSecurityManager"), (0, u "I"), (16, u "cons"), (0, u "Ljava/io/Console;"), (77, .class_ 110), (1, u "java/lang/System$CallersHolder"), (43, u "initialErrStream"), (0, u "Ljava/io/PrintStream;"), (19, u "security"), (0, u "Ljava/lang/SecurityManager;"), (31, .class_ 209), (0, u "java/lang/System$1"), (7, u "props"), (0, u "Ljava/util/Properties;"), (2, u "lineSeparator"), (0, u "Ljava/lang/String;"), (96, .class_ 321), (1, u "java/lang/System$LoggerFinder"), (5, .class_ 328), (0, u "java/lang/System$Logger"), (67, u "err"), (2, u "out"), (91, u "notSupportedJnuEncoding"), (15, u "in"), (17, u "initialIn"), (0, u "Ljava/io/InputStream;"), (35, u "bootLayer"), (0, u "Ljava/lang/ModuleLayer;"), (99, .class_ 664), (0, u "java/lang/System$2"), (9, u "NEVER"), (2, u "MAYBE"), (49, u "arraycopy"), (0, u "(Ljava/lang/Object;ILjava/lang/Object;II)V"), (72, .class_ 802), (0, u "java/lang/System$Logger$Level")] 31

def k16m0 : Method := { name := "<init>", desc := "()V", sig := { parameters := [], returnType := none }, accessFlags := 2, code := none }
def k16m1 : Method := { name := "arraycopy", desc := "(Ljava/lang/Object;ILjava/lang/Object;II)V", sig := { parameters := [(.object "java/lang/Object"), .int, (.object "java/lang/Object"), .int, .int], returnType := none }, accessFlags := 265, code := none }
/-- java/lang/System -/
def k16 : Class := { plain "java/lang/System" (some 0) with
  accessFlags := 49
  interfaces := #[]
  cf := some (fileOf pool16 8 #[.nestMembers #[319, 327, 801, 108, 663, 208]] #[{ accessFlags := 2, nameIndex := 5, descriptorIndex := 6, attributes := #[] }, { accessFlags := 265, nameIndex := 727, descriptorIndex := 728, attributes := #[] }] 49 2 #[] #[{ accessFlags := 25, nameIndex := 507, descriptorIndex := 526, attributes := #[] }, { accessFlags := 25, nameIndex := 399, descriptorIndex := 155, attributes := #[] }, { accessFlags := 25, nameIndex := 396, descriptorIndex := 155, attributes := #[] }, { accessFlags := 10, nameIndex := 525, descriptorIndex := 526, attributes := #[] }, { accessFlags := 26, nameIndex := 674, descriptorIndex := 12, attributes := #[] }, { accessFlags := 26, nameIndex := 677, descriptorIndex := 12, attributes := #[] }, { accessFlags := 10, nameIndex := 11, descriptorIndex := 12, attributes := #[] }, { accessFlags := 74, nameIndex := 175, descriptorIndex := 176, attributes := #[] }, { accessFlags := 10, nameIndex := 491, descriptorIndex := 222, attributes := #[] }, { accessFlags := 74, nameIndex := 29, descriptorIndex := 30, attributes := #[] }, { accessFlags := 74, nameIndex := 154, descriptorIndex := 155, attributes := #[] }, { accessFlags := 10, nameIndex := 217, descriptorIndex := 218, attributes := #[] }, { accessFlags := 10, nameIndex := 221, descriptorIndex := 222, attributes := #[] }, { accessFlags := 8, nameIndex := 562, descriptorIndex := 563, attributes := #[] }])
  fields := #[{ name := "in", type := (.object "java/io/InputStream"), accessFlags := 25, slot := 0, constantValue := 0 }, { name := "out", type := (.object "java/io/PrintStream"), accessFlags := 25, slot := 1, constantValue := 0 }, { name := "err", type := (.object "java/io/PrintStream"), accessFlags := 25, slot := 2, constantValue := 0 }, { name := "initialIn", type := (.object "java/io/InputStream"), accessFlags := 10, slot := 3, constantValue := 0 }, { name := "NEVER", type := .int, accessFlags := 26, slot := 4, constantValue := 0 }, { name := "MAYBE", type := .int, accessFlags := 26, slot := 5, constantValue := 0 }, { name := "allowSecurityManager", type := .int, accessFlags := 10, slot := 6, constantValue := 0 }, { name := "security", type := (.object "java/lang/SecurityManager"), accessFlags := 74, slot := 7, constantValue := 0 }, { name := "notSupportedJnuEncoding", type := (.object "java/lang/String"), accessFlags := 10, slot := 8, constantValue := 0 }, { name := "cons", type := (.object "java/io/Console"), accessFlags := 74, slot := 9, constantValue := 0 }, { name := "initialErrStream", type := (.object "java/io/PrintStream"), accessFlags := 74, slot := 10, constantValue := 0 }, { name := "props", type := (.object "java/util/Properties"), accessFlags := 10, slot := 11, constantValue := 0 }, { name := "lineSeparator", type := (.object "java/lang/String"), accessFlags := 10, slot := 12, constantValue := 0 }, { name := "bootLayer", type := (.object "java/lang/ModuleLayer"), accessFlags := 8, slot := 13, constantValue := 0 }]
  methods := #[k16m0, k16m1]
  instanceTypes := #[]
  staticTypes := #[(.object "java/io/InputStream"), (.object "java/io/PrintStream"), (.object "java/io/PrintStream"), (.object "java/io/InputStream"), .int, .int, .int, (.object "java/lang/SecurityManager"), (.object "java/lang/String"), (.object "java/io/Console"), (.object "java/io/PrintStream"), (.object "java/util/Properties"), (.object "java/lang/String"), (.object "java/lang/ModuleLayer")]
  resolved := Array.replicate 834 none
  statics := none }

def pool17 : Array CpInfo := pool [(2, .class_ 4), (1, u "java/lang/Object"), (0, u "<init>"), (0, u "()V"), (7, .class_ 16), (1, u "java/util/Arrays"), (57, .class_ 76), (1, u "java/util/Arrays$NaturalOrder"), (32, u "()Ljava/lang/Object;"), (3, .class_ 115), (1, u "java/util/Arrays$LegacyMergeSort"), (1, u "Z"), (10, .nameAndType 129 109), (0, u "clone"), (9, u "copyOfRange"), (10, .methodref 151 152), (0, .class_ 153), (0, .nameAndType 154 155), (0, u "java/lang/System"), (0, u "arraycopy"), (0, u "(Ljava/lang/Object;ILjava/lang/Object;II)V"), (148, .methodref 305 306), (0, .class_ 307), (0, .nameAndType 308 309), (0, u "java/lang/Math"), (0, u "min"), (0, u "(II)I"), (0, .methodref 311 128), (0, .class_ 312), (0, u "[B"), (26, .methodref 14 340), (0, .nameAndType 341 342), (0, u "copyOfRangeByte"), (0, u "([BII)[B"), (0, .methodref 14 344), (0, .nameAndType 345 346), (0, u "checkLength"), (0, u "(II)V"), (28, .class_ 376), (0, u "java/util/Arrays$ArrayList"), (68, u "$assertionsDisabled"), (269, u "MIN_ARRAY_SORT_GRAN"), (0, u "I"), (2, u "INSERTIONSORT_THRESHOLD"), (255, .class_ 976), (0, u "java/util/Arrays$ArrayItr")] 52

def k17m0 : Method := { name := "<init>", desc := "()V", sig := { parameters := [], returnType := none }, accessFlags := 2, code := none }
def k17c1 : Code := { maxStack := 4, maxLocals := 2, code := jdk_65_method_131_code, exceptionTable := #[], attributes := #[] }
def k17m1 : Method := { name := "checkLength", desc := "(II)V", sig := { parameters := [.int, .int], returnType := none }, accessFlags := 10, code := some k17c1 }
def k17c2 : Code := { maxStack := 3, maxLocals := 3, code := jdk_65_method_132_code, exceptionTable := #[], attributes := #[] }
def k17m2 : Method := { name := "copyOfRange", desc := "([BII)[B", sig := { parameters := [(.array .byte), .int, .int], returnType := some (.array .byte) }, accessFlags := 9, code := some k17c2 }
def k17c3 : Code := { maxStack := 6, maxLocals := 5, code := jdk_65_method_133_code, exceptionTable := #[], attributes := #[] }
def k17m3 : Method := { name := "copyOfRangeByte", desc := "([BII)[B", sig := { parameters := [(.array .byte), .int, .int], returnType := some (.array .byte) }, accessFlags := 10, code := some k17c3 }
/-- java/util/Arrays -/
def k17 : Class := { plain "java/util/Arrays" (some 0) with
  accessFlags := 49
  interfaces := #[]
  cf := some (fileOf pool17 14 #[.nestMembers #[975, 375, 113, 74]] #[{ accessFlags := 2, nameIndex := 5, descriptorIndex := 6, attributes := #[] }, { accessFlags := 10, nameIndex := 345, descriptorIndex := 346, attributes := #[] }, { accessFlags := 9, nameIndex := 139, descriptorIndex := 342, attributes := #[] }, { accessFlags := 10, nameIndex := 341, descriptorIndex := 342, attributes := #[] }] 49 2 #[] #[{ accessFlags := 26, nameIndex := 715, descriptorIndex := 716, attributes := #[] }, { accessFlags := 26, nameIndex := 719, descriptorIndex := 716, attributes := #[] }, { accessFlags := 4120, nameIndex := 445, descriptorIndex := 117, attributes := #[] }])
  fields := #[{ name := "MIN_ARRAY_SORT_GRAN", type := .int, accessFlags := 26, slot := 0, constantValue := 0 }, { name := "INSERTIONSORT_THRESHOLD", type := .int, accessFlags := 26, slot := 1, constantValue := 0 }, { name := "$assertionsDisabled", type := .boolean, accessFlags := 4120, slot := 2, constantValue := 0 }]
  methods := #[k17m0, k17m1, k17m2, k17m3]
  instanceTypes := #[]
  staticTypes := #[.int, .int, .boolean]
  resolved := Array.replicate 1029 none
  statics := none }

def pool18 : Array CpInfo := pool [(2, .class_ 4), (1, u "java/lang/Object"), (0, u "<init>"), (0, u "()V"), (17, .class_ 26), (1, u "jdk/internal/util/Preconditions"), (6, u "checkIndex"), (21, .class_ 56), (0, u "jdk/internal/util/Preconditions$4"), (57, .class_ 115), (0, u "jdk/internal/util/Preconditions$1"), (7, u "SIOOBE_FORMATTER"), (0, u "Ljava/util/function/BiFunction;"), (0, .class_ 126), (0, u "jdk/internal/util/Preconditions$2"), (3, u "AIOOBE_FORMATTER"), (0, .class_ 132), (0, u "jdk/internal/util/Preconditions$3"), (3, u "IOOBE_FORMATTER"), (41, u "(IILjava/util/function/BiFunction;)I")] 15

def k18m0 : Method := { name := "<init>", desc := "()V", sig := { parameters := [], returnType := none }, accessFlags := 1, code := none }
def k18c1 : Code := { maxStack := 3, maxLocals := 3, code := jdk_41_method_11_code, exceptionTable := #[], attributes := #[] }
def k18m1 : Method := { name := "checkIndex", desc := "(IILjava/util/function/BiFunction;)I", sig := { parameters := [.int, .int, (.object "java/util/function/BiFunction")], returnType := some .int }, accessFlags := 9, code := some k18c1 }
/-- jdk/internal/util/Preconditions -/
def k18 : Class := { plain "jdk/internal/util/Preconditions" (some 0) with
  accessFlags := 33
  interfaces := #[]
  cf := some (fileOf pool18 24 #[.nestMembers #[55, 131, 125, 114]] #[{ accessFlags := 1, nameIndex := 5, descriptorIndex := 6, attributes := #[] }, { accessFlags := 9, nameIndex := 33, descriptorIndex := 178, attributes := #[] }] 33 2 #[] #[{ accessFlags := 25, nameIndex := 123, descriptorIndex := 124, attributes := #[] }, { accessFlags := 25, nameIndex := 130, descriptorIndex := 124, attributes := #[] }, { accessFlags := 25, nameIndex := 136, descriptorIndex := 124, attributes := #[] }])
  fields := #[{ name := "SIOOBE_FORMATTER", type := (.object "java/util/function/BiFunction"), accessFlags := 25, slot := 0, constantValue := 0 }, { name := "AIOOBE_FORMATTER", type := (.object "java/util/function/BiFunction"), accessFlags := 25, slot := 1, constantValue := 0 }, { name := "IOOBE_FORMATTER", type := (.object "java/util/function/BiFunction"), accessFlags := 25, slot := 2, constantValue := 0 }]
  methods := #[k18m0, k18m1]
  instanceTypes := #[]
  staticTypes := #[(.object "java/util/function/BiFunction"), (.object "java/util/function/BiFunction"), (.object "java/util/function/BiFunction")]
  resolved := Array.replicate 194 none
  statics := some 1 }

def pool19 : Array CpInfo := pool [(1, .class_ 2), (0, u "java/lang/Cloneable"), (0, .class_ 4), (0, u "java/lang/Object")] 2

/-- java/lang/Cloneable -/
def k19 : Class := { plain "java/lang/Cloneable" (some 0) with
  accessFlags := 1537
  interfaces := #[]
  cf := some (fileOf pool19 1 #[] #[] 1537 3 #[] #[])
  fields := #[]
  methods := #[]
  instanceTypes := #[]
  staticTypes := #[]
  resolved := Array.replicate 7 none
  statics := none }

def pool20 : Array CpInfo := pool [(9, u "<init>"), (6, .class_ 18), (1, u "java/lang/Object"), (0, u "()V"), (1, .class_ 23), (1, u "jdk/internal/util/ArraysSupport"), (0, u "LOG2_ARRAY_LONG_INDEX_SCALE"), (0, u "I"), (2, u "U"), (0, u "Ljdk/internal/misc/Unsafe;"), (8, u "BIG_ENDIAN"), (0, u "Z"), (8, u "LOG2_BYTE_BIT_SIZE"), (4, u "LOG2_ARRAY_INT_INDEX_SCALE"), (54, u "JLA"), (0, u "Ljdk/internal/access/JavaLangAccess;"), (11, u "LOG2_ARRAY_BOOLEAN_INDEX_SCALE"), (9, u "LOG2_ARRAY_BYTE_INDEX_SCALE"), (5, u "LOG2_ARRAY_CHAR_INDEX_SCALE"), (5, u "LOG2_ARRAY_SHORT_INDEX_SCALE"), (18, u "LOG2_ARRAY_FLOAT_INDEX_SCALE"), (24, u "LOG2_ARRAY_DOUBLE_INDEX_SCALE"), (89, u "T_BOOLEAN"), (2, u "T_CHAR"), (1, u "T_FLOAT"), (1, u "T_DOUBLE"), (1, u "T_BYTE"), (1, u "T_SHORT"), (1, u "T_INT"), (1, u "T_LONG"), (1, u "SOFT_MAX_ARRAY_LENGTH")] 83

def k20m0 : Method := { name := "<init>", desc := "()V", sig := { parameters := [], returnType := none }, accessFlags := 2, code := none }
/-- jdk/internal/util/ArraysSupport -/
def k20 : Class := { plain "jdk/internal/util/ArraysSupport" (some 0) with
  accessFlags := 33
  interfaces := #[]
  cf := some (fileOf pool20 21 #[] #[{ accessFlags := 2, nameIndex := 9, descriptorIndex := 19, attributes := #[] }] 33 16 #[] #[{ accessFlags := 24, nameIndex := 28, descriptorIndex := 29, attributes := #[] }, { accessFlags := 26, nameIndex := 38, descriptorIndex := 39, attributes := #[] }, { accessFlags := 25, nameIndex := 121, descriptorIndex := 25, attributes := #[] }, { accessFlags := 25, nameIndex := 131, descriptorIndex := 25, attributes := #[] }, { accessFlags := 25, nameIndex := 137, descriptorIndex := 25, attributes := #[] }, { accessFlags := 25, nameIndex := 143, descriptorIndex := 25, attributes := #[] }, { accessFlags := 25, nameIndex := 53, descriptorIndex := 25, attributes := #[] }, { accessFlags := 25, nameIndex := 24, descriptorIndex := 25, attributes := #[] }, { accessFlags := 25, nameIndex := 162, descriptorIndex := 25, attributes := #[] }, { accessFlags := 25, nameIndex := 187, descriptorIndex := 25, attributes := #[] }, { accessFlags := 26, nameIndex := 48, descriptorIndex := 25, attributes := #[] }, { accessFlags := 25, nameIndex := 277, descriptorIndex := 25, attributes := #[] }, { accessFlags := 25, nameIndex := 280, descriptorIndex := 25, attributes := #[] }, { accessFlags := 25, nameIndex := 282, descriptorIndex := 25, attributes := #[] }, { accessFlags := 25, nameIndex := 284, descriptorIndex := 25, attributes := #[] }, { accessFlags := 25, nameIndex := 286, descriptorIndex := 25, attributes := #[] }, { accessFlags := 25, nameIndex := 288, descriptorIndex := 25, attributes := #[] }, { accessFlags := 25, nameIndex := 290, descriptorIndex := 25, attributes := #[] }, { accessFlags := 25, nameIndex := 292, descriptorIndex := 25, attributes := #[] }, { accessFlags := 26, nameIndex := 108, descriptorIndex := 109, attributes := #[] }, { accessFlags := 25, nameIndex := 294, descriptorIndex := 25, attributes := #[] }])
  fields := #[{ name := "U", type := (.object "jdk/internal/misc/Unsafe"), accessFlags := 24, slot := 0, constantValue := 0 }, { name := "BIG_ENDIAN", type := .boolean, accessFlags := 26, slot := 1, constantValue := 0 }, { name := "LOG2_ARRAY_BOOLEAN_INDEX_SCALE", type := .int, accessFlags := 25, slot := 2, constantValue := 0 }, { name := "LOG2_ARRAY_BYTE_INDEX_SCALE", type := .int, accessFlags := 25, slot := 3, constantValue := 0 }, { name := "LOG2_ARRAY_CHAR_INDEX_SCALE", type := .int, accessFlags := 25, slot := 4, constantValue := 0 }, { name := "LOG2_ARRAY_SHORT_INDEX_SCALE", type := .int, accessFlags := 25, slot := 5, constantValue := 0 }, { name := "LOG2_ARRAY_INT_INDEX_SCALE", type := .int, accessFlags := 25, slot := 6, constantValue := 0 }, { name := "LOG2_ARRAY_LONG_INDEX_SCALE", type := .int, accessFlags := 25, slot := 7, constantValue := 0 }, { name := "LOG2_ARRAY_FLOAT_INDEX_SCALE", type := .int, accessFlags := 25, slot := 8, constantValue := 0 }, { name := "LOG2_ARRAY_DOUBLE_INDEX_SCALE", type := .int, accessFlags := 25, slot := 9, constantValue := 0 }, { name := "LOG2_BYTE_BIT_SIZE", type := .int, accessFlags := 26, slot := 10, constantValue := 0 }, { name := "T_BOOLEAN", type := .int, accessFlags := 25, slot := 11, constantValue := 0 }, { name := "T_CHAR", type := .int, accessFlags := 25, slot := 12, constantValue := 0 }, { name := "T_FLOAT", type := .int, accessFlags := 25, slot := 13, constantValue := 0 }, { name := "T_DOUBLE", type := .int, accessFlags := 25, slot := 14, constantValue := 0 }, { name := "T_BYTE", type := .int, accessFlags := 25, slot := 15, constantValue := 0 }, { name := "T_SHORT", type := .int, accessFlags := 25, slot := 16, constantValue := 0 }, { name := "T_INT", type := .int, accessFlags := 25, slot := 17, constantValue := 0 }, { name := "T_LONG", type := .int, accessFlags := 25, slot := 18, constantValue := 0 }, { name := "JLA", type := (.object "jdk/internal/access/JavaLangAccess"), accessFlags := 26, slot := 19, constantValue := 0 }, { name := "SOFT_MAX_ARRAY_LENGTH", type := .int, accessFlags := 25, slot := 20, constantValue := 0 }]
  methods := #[k20m0]
  instanceTypes := #[]
  staticTypes := #[(.object "jdk/internal/misc/Unsafe"), .boolean, .int, .int, .int, .int, .int, .int, .int, .int, .int, .int, .int, .int, .int, .int, .int, .int, .int, (.object "jdk/internal/access/JavaLangAccess"), .int]
  resolved := Array.replicate 378 none
  statics := none }

/-- the primitive byte -/
def k21 : Class := { plain "byte" none with kind := .primitive 'B', accessFlags := 0x411 }
/-- [B -/
def k22 : Class := { plain "[B" (some 0) with kind := .array 21 .byte, interfaces := #[19, 2], accessFlags := 1041 }

/-- the primitive char -/
def k23 : Class := { plain "char" none with kind := .primitive 'C', accessFlags := 0x411 }
/-- [C -/
def k24 : Class := { plain "[C" (some 0) with kind := .array 23 .char, interfaces := #[19, 2], accessFlags := 1041 }

/-- the primitive int -/
def k25 : Class := { plain "int" none with kind := .primitive 'I', accessFlags := 0x411 }
/-- [I -/
def k26 : Class := { plain "[I" (some 0) with kind := .array 25 .int, interfaces := #[19, 2], accessFlags := 1041 }

def heap : Heap := #[{ cls := 7, slots := #[.long 0, .int 1, .null, .int 0, .null, .int 0, .int 0], vm := .statics 7 },
  { cls := 18, slots := #[.null, .null, .null], vm := .statics 18 }]
def classes : Array Class := #[k0, k1, k2, k3, k4, k5, k6, k7, k8, k9, k10, k11, k12, k13, k14, k15, k16, k17, k18, k19, k20, k21, k22, k23, k24, k25, k26]
def interned : List (Array UInt16 × Addr) := []
def slotsUsed : Nat := 10
def theMethod : MethodId := ⟨1, 5⟩
def args0 : Array Value := #[.int 1, .int 2, .int 3]
def aboutOver (below : List Frame) : State where
  vm := { classes := classes, interned := interned.toArray }
  heap := heap
  slotsUsed := slotsUsed
  threads := #[{ frames := .invoking theMethod args0 :: below }]
def below0 : List Frame := [.native { method := ⟨0, 0⟩, args := #[] }]
def about1 : State := aboutOver below0
def p0 : Program := .bare "" "" ""
def e0 : Env := launch0.env 0 0 0
theorem w_frames : about1.frames = Frame.invoking theMethod args0 :: below0 := rfl
set_option maxRecDepth 65536 in
theorem w_args : argsFit about1.vm theMethod args0 = true := by decide +kernel
set_option maxRecDepth 65536 in
theorem w_heap : heapFits about1 = true := by decide +kernel
set_option maxRecDepth 65536 in
theorem w_runnable : about1.curStatus? = some .runnable := by decide +kernel
set_option maxRecDepth 65536 in
theorem w_alone : about1.alone = true := by decide +kernel
set_option maxRecDepth 65536 in
theorem w_named : about1.methodNamed? x = some theMethod := by decide +kernel
set_option maxRecDepth 65536 in
theorem w_hears : about1.hears theMethod below0 = true := by decide +kernel
set_option maxRecDepth 65536 in
theorem w_ripe : about1.ripe theMethod args0 below0 = true := by decide +kernel
theorem w_running : about1.status = .running := rfl
set_option maxRecDepth 65536 in
theorem w_room : about1.hasRoom e0.platform room_1 = true :=
  launch0.hasRoom_least _ room_1 (by decide +kernel) (by decide +kernel) (by decide +kernel) (by decide +kernel) (by decide +kernel) (by decide +kernel)
theorem allAtoms_all (ts : List Jvm.Cond) (a : Array Jvm.Value) (st : Jvm.State) : (allAtoms ts).before a st = ts.all (fun c => c.before a st) := by
  induction ts with
  | nil => rfl
  | cons c t ih =>
    show (Jvm.Cond.and c (allAtoms t)).before a st = _
    rw [Jvm.Cond.before_and, ih, List.all_cons]
def words1 : List Jvm.Cond := Jvm.Cond.code x code maxLocals ret :: tables_1
/-- a 'code' word, met by the world's own term for the bytes: nothing is compared byte by byte -/
theorem code_word {y : MethodName} {bytes : ByteArray} {mx : Nat} {rt : Option FieldType} {a : Array Value} {s : State} {m : MethodId} {meth : Method} {c : Code} (h1 : s.methodNamed? y = some m) (h2 : s.vm.method? m = some meth) (h3 : meth.code = some c) (h4 : c.code = bytes)
    (h5 : (c.maxLocals == mx && c.exceptionTable.isEmpty && decide (c.maxStack ≤ mostOperands) && decide (meth.sig.returnType = rt) && !meth.locks && decide (parseMethodDescriptor y.desc = some meth.sig)) = true) : (Jvm.Cond.code y bytes mx rt).before a s = true := by
  simp only [Bool.and_eq_true, beq_iff_eq, Bool.not_eq_true', decide_eq_true_eq] at h5
  obtain ⟨⟨⟨⟨⟨g1, g2⟩, g3⟩, g4⟩, g5⟩, g6⟩ := h5
  simp [Cond.before, Cond.holds, Cond.value, h1, h2, h3, h4, g1, g2, g3, g4, g5, g6]
def isCode : Jvm.Cond → Bool
  | .code _ _ _ _ => true
  | _ => false
theorem all_split {L : List Jvm.Cond} {P : Jvm.Cond → Bool} (h1 : L.all (fun c => isCode c || P c) = true) (h2 : ∀ c ∈ L.filter isCode, P c = true) : L.all P = true := by
  refine List.all_eq_true.mpr fun c hc => ?_
  have h := List.all_eq_true.mp h1 c hc
  rcases Bool.eq_false_or_eq_true (isCode c) with hi | hi
  · exact h2 c (List.mem_filter.mpr ⟨hc, hi⟩)
  · simpa [hi] using h
set_option maxRecDepth 65536 in
theorem w_c0 : (Jvm.Cond.code x code maxLocals ret).before args0 about1 = true := code_word (m := ⟨1, 5⟩) (meth := k1m5) (c := k1c5) (by decide +kernel) rfl rfl rfl (by decide +kernel)
set_option maxRecDepth 65536 in
theorem w_c1 : (Jvm.Cond.code ({ cls := "com/example/lease/lease/LockKeysOfPinLaw", name := "ch", desc := "(I)C" } : Jvm.MethodName) method_2_code (2 : Nat) (Option.some Jvm.ClassFile.FieldType.char)).before args0 about1 = true := code_word (m := ⟨1, 1⟩) (meth := k1m1) (c := k1c1) (by decide +kernel) rfl rfl rfl (by decide +kernel)
set_option maxRecDepth 65536 in
theorem w_c2 : (Jvm.Cond.code ({ cls := "java/lang/String", name := "<init>", desc := "([C)V" } : Jvm.MethodName) jdk_42_method_3_code (2 : Nat) (Option.none : Option Jvm.ClassFile.FieldType)).before args0 about1 = true := code_word (m := ⟨7, 1⟩) (meth := k7m1) (c := k7c1) (by decide +kernel) rfl rfl rfl (by decide +kernel)
set_option maxRecDepth 65536 in
theorem w_c3 : (Jvm.Cond.code ({ cls := "java/lang/String", name := "<init>", desc := "([CIILjava/lang/Void;)V" } : Jvm.MethodName) jdk_42_method_149_code (6 : Nat) (Option.none : Option Jvm.ClassFile.FieldType)).before args0 about1 = true := code_word (m := ⟨7, 10⟩) (meth := k7m10) (c := k7c10) (by decide +kernel) rfl rfl rfl (by decide +kernel)
set_option maxRecDepth 65536 in
theorem w_c4 : (Jvm.Cond.code ({ cls := "java/lang/Object", name := "<init>", desc := "()V" } : Jvm.MethodName) object_method_1_code (1 : Nat) (Option.none : Option Jvm.ClassFile.FieldType)).before args0 about1 = true := code_word (m := ⟨0, 0⟩) (meth := k0m0) (c := k0c0) (by decide +kernel) rfl rfl rfl (by decide +kernel)
set_option maxRecDepth 65536 in
theorem w_c5 : (Jvm.Cond.code ({ cls := "java/lang/StringUTF16", name := "compress", desc := "([CII)[B" } : Jvm.MethodName) jdk_52_method_16_code (6 : Nat) (Option.some (Jvm.ClassFile.FieldType.array Jvm.ClassFile.FieldType.byte))).before args0 about1 = true := code_word (m := ⟨8, 2⟩) (meth := k8m2) (c := k8c2) (by decide +kernel) rfl rfl rfl (by decide +kernel)
set_option maxRecDepth 65536 in
theorem w_c6 : (Jvm.Cond.code ({ cls := "java/lang/StringUTF16", name := "compress", desc := "([CI[BII)I" } : Jvm.MethodName) jdk_52_method_21_code (7 : Nat) (Option.some Jvm.ClassFile.FieldType.int)).before args0 about1 = true := code_word (m := ⟨8, 3⟩) (meth := k8m3) (c := k8c3) (by decide +kernel) rfl rfl rfl (by decide +kernel)
set_option maxRecDepth 65536 in
theorem w_c7 : (Jvm.Cond.code ({ cls := "java/lang/StringUTF16", name := "coderFromArrayLen", desc := "([BI)B" } : Jvm.MethodName) jdk_52_method_15_code (2 : Nat) (Option.some Jvm.ClassFile.FieldType.byte)).before args0 about1 = true := code_word (m := ⟨8, 1⟩) (meth := k8m1) (c := k8c1) (by decide +kernel) rfl rfl rfl (by decide +kernel)
set_option maxRecDepth 65536 in
theorem w_c8 : (Jvm.Cond.code ({ cls := "java/lang/String", name := "valueOf", desc := "(C)Ljava/lang/String;" } : Jvm.MethodName) jdk_42_method_139_code (1 : Nat) (Option.some (Jvm.ClassFile.FieldType.object "java/lang/String"))).before args0 about1 = true := code_word (m := ⟨7, 8⟩) (meth := k7m8) (c := k7c8) (by decide +kernel) rfl rfl rfl (by decide +kernel)
set_option maxRecDepth 65536 in
theorem w_c9 : (Jvm.Cond.code ({ cls := "java/lang/StringLatin1", name := "canEncode", desc := "(C)Z" } : Jvm.MethodName) jdk_43_method_3_code (1 : Nat) (Option.some Jvm.ClassFile.FieldType.boolean)).before args0 about1 = true := code_word (m := ⟨9, 2⟩) (meth := k9m2) (c := k9c2) (by decide +kernel) rfl rfl rfl (by decide +kernel)
set_option maxRecDepth 65536 in
theorem w_c10 : (Jvm.Cond.code ({ cls := "java/lang/StringLatin1", name := "toBytes", desc := "(C)[B" } : Jvm.MethodName) jdk_43_method_46_code (1 : Nat) (Option.some (Jvm.ClassFile.FieldType.array Jvm.ClassFile.FieldType.byte))).before args0 about1 = true := code_word (m := ⟨9, 6⟩) (meth := k9m6) (c := k9c6) (by decide +kernel) rfl rfl rfl (by decide +kernel)
set_option maxRecDepth 65536 in
theorem w_c11 : (Jvm.Cond.code ({ cls := "java/lang/String", name := "<init>", desc := "([BB)V" } : Jvm.MethodName) jdk_42_method_151_code (3 : Nat) (Option.none : Option Jvm.ClassFile.FieldType)).before args0 about1 = true := code_word (m := ⟨7, 12⟩) (meth := k7m12) (c := k7c12) (by decide +kernel) rfl rfl rfl (by decide +kernel)
set_option maxRecDepth 65536 in
theorem w_c12 : (Jvm.Cond.code ({ cls := "com/example/lease/lease/LockKeysOfPinLaw", name := "head", desc := "([CIICCCCC)I" } : Jvm.MethodName) method_3_code (9 : Nat) (Option.some Jvm.ClassFile.FieldType.int)).before args0 about1 = true := code_word (m := ⟨1, 2⟩) (meth := k1m2) (c := k1c2) (by decide +kernel) rfl rfl rfl (by decide +kernel)
set_option maxRecDepth 65536 in
theorem w_c13 : (Jvm.Cond.code ({ cls := "com/example/lease/lease/LockKeys", name := "of", desc := "(Ljava/lang/String;Ljava/lang/String;)Lcom/example/lease/lease/LockKeys;" } : Jvm.MethodName) prog_2_method_2_code (2 : Nat) (Option.some (Jvm.ClassFile.FieldType.object "com/example/lease/lease/LockKeys"))).before args0 about1 = true := code_word (m := ⟨10, 1⟩) (meth := k10m1) (c := k10c1) (by decide +kernel) rfl rfl rfl (by decide +kernel)
set_option maxRecDepth 65536 in
theorem w_c14 : (Jvm.Cond.code ({ cls := "com/example/lease/lease/LockKeys", name := "checkedPrefix", desc := "(Ljava/lang/String;)Ljava/lang/String;" } : Jvm.MethodName) prog_2_method_4_code (1 : Nat) (Option.some (Jvm.ClassFile.FieldType.object "java/lang/String"))).before args0 about1 = true := code_word (m := ⟨10, 2⟩) (meth := k10m2) (c := k10c2) (by decide +kernel) rfl rfl rfl (by decide +kernel)
set_option maxRecDepth 65536 in
theorem w_c15 : (Jvm.Cond.code ({ cls := "java/util/Objects", name := "requireNonNull", desc := "(Ljava/lang/Object;Ljava/lang/String;)Ljava/lang/Object;" } : Jvm.MethodName) jdk_31_method_11_code (2 : Nat) (Option.some (Jvm.ClassFile.FieldType.object "java/lang/Object"))).before args0 about1 = true := code_word (m := ⟨11, 1⟩) (meth := k11m1) (c := k11c1) (by decide +kernel) rfl rfl rfl (by decide +kernel)
set_option maxRecDepth 65536 in
theorem w_c16 : (Jvm.Cond.code ({ cls := "java/lang/String", name := "indexOf", desc := "(I)I" } : Jvm.MethodName) jdk_42_method_79_code (2 : Nat) (Option.some Jvm.ClassFile.FieldType.int)).before args0 about1 = true := code_word (m := ⟨7, 6⟩) (meth := k7m6) (c := k7c6) (by decide +kernel) rfl rfl rfl (by decide +kernel)
set_option maxRecDepth 65536 in
theorem w_c17 : (Jvm.Cond.code ({ cls := "java/lang/String", name := "indexOf", desc := "(II)I" } : Jvm.MethodName) jdk_42_method_80_code (3 : Nat) (Option.some Jvm.ClassFile.FieldType.int)).before args0 about1 = true := code_word (m := ⟨7, 7⟩) (meth := k7m7) (c := k7c7) (by decide +kernel) rfl rfl rfl (by decide +kernel)
set_option maxRecDepth 65536 in
theorem w_c18 : (Jvm.Cond.code ({ cls := "java/lang/String", name := "isLatin1", desc := "()Z" } : Jvm.MethodName) jdk_42_method_154_code (1 : Nat) (Option.some Jvm.ClassFile.FieldType.boolean)).before args0 about1 = true := code_word (m := ⟨7, 14⟩) (meth := k7m14) (c := k7c14) (by decide +kernel) rfl rfl rfl (by decide +kernel)
set_option maxRecDepth 65536 in
theorem w_c19 : (Jvm.Cond.code ({ cls := "java/lang/String", name := "length", desc := "()I" } : Jvm.MethodName) jdk_42_method_54_code (1 : Nat) (Option.some Jvm.ClassFile.FieldType.int)).before args0 about1 = true := code_word (m := ⟨7, 3⟩) (meth := k7m3) (c := k7c3) (by decide +kernel) rfl rfl rfl (by decide +kernel)
set_option maxRecDepth 65536 in
theorem w_c20 : (Jvm.Cond.code ({ cls := "java/lang/String", name := "coder", desc := "()B" } : Jvm.MethodName) jdk_42_method_152_code (1 : Nat) (Option.some Jvm.ClassFile.FieldType.byte)).before args0 about1 = true := code_word (m := ⟨7, 13⟩) (meth := k7m13) (c := k7c13) (by decide +kernel) rfl rfl rfl (by decide +kernel)
set_option maxRecDepth 65536 in
theorem w_c21 : (Jvm.Cond.code ({ cls := "java/lang/StringLatin1", name := "indexOf", desc := "([BIII)I" } : Jvm.MethodName) jdk_43_method_22_code (4 : Nat) (Option.some Jvm.ClassFile.FieldType.int)).before args0 about1 = true := code_word (m := ⟨9, 4⟩) (meth := k9m4) (c := k9c4) (by decide +kernel) rfl rfl rfl (by decide +kernel)
set_option maxRecDepth 65536 in
theorem w_c22 : (Jvm.Cond.code ({ cls := "java/lang/StringLatin1", name := "canEncode", desc := "(I)Z" } : Jvm.MethodName) jdk_43_method_4_code (1 : Nat) (Option.some Jvm.ClassFile.FieldType.boolean)).before args0 about1 = true := code_word (m := ⟨9, 3⟩) (meth := k9m3) (c := k9c3) (by decide +kernel) rfl rfl rfl (by decide +kernel)
set_option maxRecDepth 65536 in
theorem w_c23 : (Jvm.Cond.code ({ cls := "java/lang/Math", name := "max", desc := "(II)I" } : Jvm.MethodName) jdk_29_method_65_code (2 : Nat) (Option.some Jvm.ClassFile.FieldType.int)).before args0 about1 = true := code_word (m := ⟨12, 1⟩) (meth := k12m1) (c := k12c1) (by decide +kernel) rfl rfl rfl (by decide +kernel)
set_option maxRecDepth 65536 in
theorem w_c24 : (Jvm.Cond.code ({ cls := "java/lang/Math", name := "min", desc := "(II)I" } : Jvm.MethodName) jdk_29_method_69_code (2 : Nat) (Option.some Jvm.ClassFile.FieldType.int)).before args0 about1 = true := code_word (m := ⟨12, 2⟩) (meth := k12m2) (c := k12c2) (by decide +kernel) rfl rfl rfl (by decide +kernel)
set_option maxRecDepth 65536 in
theorem w_c25 : (Jvm.Cond.code ({ cls := "java/lang/StringLatin1", name := "indexOfChar", desc := "([BIII)I" } : Jvm.MethodName) jdk_43_method_23_code (6 : Nat) (Option.some Jvm.ClassFile.FieldType.int)).before args0 about1 = true := code_word (m := ⟨9, 5⟩) (meth := k9m5) (c := k9c5) (by decide +kernel) rfl rfl rfl (by decide +kernel)
set_option maxRecDepth 65536 in
theorem w_c26 : (Jvm.Cond.code ({ cls := "java/lang/String", name := "isEmpty", desc := "()Z" } : Jvm.MethodName) jdk_42_method_55_code (1 : Nat) (Option.some Jvm.ClassFile.FieldType.boolean)).before args0 about1 = true := code_word (m := ⟨7, 4⟩) (meth := k7m4) (c := k7c4) (by decide +kernel) rfl rfl rfl (by decide +kernel)
set_option maxRecDepth 65536 in
theorem w_c27 : (Jvm.Cond.code ({ cls := "java/lang/StringBuilder", name := "<init>", desc := "()V" } : Jvm.MethodName) jdk_67_method_1_code (1 : Nat) (Option.none : Option Jvm.ClassFile.FieldType)).before args0 about1 = true := code_word (m := ⟨15, 0⟩) (meth := k15m0) (c := k15c0) (by decide +kernel) rfl rfl rfl (by decide +kernel)
set_option maxRecDepth 65536 in
theorem w_c28 : (Jvm.Cond.code ({ cls := "java/lang/AbstractStringBuilder", name := "<init>", desc := "(I)V" } : Jvm.MethodName) jdk_68_method_2_code (2 : Nat) (Option.none : Option Jvm.ClassFile.FieldType)).before args0 about1 = true := code_word (m := ⟨14, 1⟩) (meth := k14m1) (c := k14c1) (by decide +kernel) rfl rfl rfl (by decide +kernel)
set_option maxRecDepth 65536 in
theorem w_c29 : (Jvm.Cond.code ({ cls := "java/lang/StringBuilder", name := "append", desc := "(Ljava/lang/String;)Ljava/lang/StringBuilder;" } : Jvm.MethodName) jdk_67_method_7_code (2 : Nat) (Option.some (Jvm.ClassFile.FieldType.object "java/lang/StringBuilder"))).before args0 about1 = true := code_word (m := ⟨15, 1⟩) (meth := k15m1) (c := k15c1) (by decide +kernel) rfl rfl rfl (by decide +kernel)
set_option maxRecDepth 65536 in
theorem w_c30 : (Jvm.Cond.code ({ cls := "java/lang/AbstractStringBuilder", name := "append", desc := "(Ljava/lang/String;)Ljava/lang/AbstractStringBuilder;" } : Jvm.MethodName) jdk_68_method_22_code (3 : Nat) (Option.some (Jvm.ClassFile.FieldType.object "java/lang/AbstractStringBuilder"))).before args0 about1 = true := code_word (m := ⟨14, 4⟩) (meth := k14m4) (c := k14c4) (by decide +kernel) rfl rfl rfl (by decide +kernel)
set_option maxRecDepth 65536 in
theorem w_c31 : (Jvm.Cond.code ({ cls := "java/lang/AbstractStringBuilder", name := "ensureCapacityInternal", desc := "(I)V" } : Jvm.MethodName) jdk_68_method_9_code (3 : Nat) (Option.none : Option Jvm.ClassFile.FieldType)).before args0 about1 = true := code_word (m := ⟨14, 3⟩) (meth := k14m3) (c := k14c3) (by decide +kernel) rfl rfl rfl (by decide +kernel)
set_option maxRecDepth 65536 in
theorem w_c32 : (Jvm.Cond.code ({ cls := "java/lang/AbstractStringBuilder", name := "putStringAt", desc := "(ILjava/lang/String;)V" } : Jvm.MethodName) jdk_68_method_73_code (3 : Nat) (Option.none : Option Jvm.ClassFile.FieldType)).before args0 about1 = true := code_word (m := ⟨14, 9⟩) (meth := k14m9) (c := k14c9) (by decide +kernel) rfl rfl rfl (by decide +kernel)
set_option maxRecDepth 65536 in
theorem w_c33 : (Jvm.Cond.code ({ cls := "java/lang/AbstractStringBuilder", name := "inflateIfNeededFor", desc := "(Ljava/lang/String;)V" } : Jvm.MethodName) jdk_68_method_71_code (2 : Nat) (Option.none : Option Jvm.ClassFile.FieldType)).before args0 about1 = true := code_word (m := ⟨14, 8⟩) (meth := k14m8) (c := k14c8) (by decide +kernel) rfl rfl rfl (by decide +kernel)
set_option maxRecDepth 65536 in
theorem w_c34 : (Jvm.Cond.code ({ cls := "java/lang/String", name := "getBytes", desc := "([BIB)V" } : Jvm.MethodName) jdk_42_method_147_code (4 : Nat) (Option.none : Option Jvm.ClassFile.FieldType)).before args0 about1 = true := code_word (m := ⟨7, 9⟩) (meth := k7m9) (c := k7c9) (by decide +kernel) rfl rfl rfl (by decide +kernel)
set_option maxRecDepth 65536 in
theorem w_c35 : (Jvm.Cond.code ({ cls := "java/lang/StringBuilder", name := "append", desc := "(C)Ljava/lang/StringBuilder;" } : Jvm.MethodName) jdk_67_method_14_code (2 : Nat) (Option.some (Jvm.ClassFile.FieldType.object "java/lang/StringBuilder"))).before args0 about1 = true := code_word (m := ⟨15, 2⟩) (meth := k15m2) (c := k15c2) (by decide +kernel) rfl rfl rfl (by decide +kernel)
set_option maxRecDepth 65536 in
theorem w_c36 : (Jvm.Cond.code ({ cls := "java/lang/AbstractStringBuilder", name := "append", desc := "(C)Ljava/lang/AbstractStringBuilder;" } : Jvm.MethodName) jdk_68_method_31_code (2 : Nat) (Option.some (Jvm.ClassFile.FieldType.object "java/lang/AbstractStringBuilder"))).before args0 about1 = true := code_word (m := ⟨14, 5⟩) (meth := k14m5) (c := k14c5) (by decide +kernel) rfl rfl rfl (by decide +kernel)
set_option maxRecDepth 65536 in
theorem w_c37 : (Jvm.Cond.code ({ cls := "java/lang/AbstractStringBuilder", name := "isLatin1", desc := "()Z" } : Jvm.MethodName) jdk_68_method_68_code (1 : Nat) (Option.some Jvm.ClassFile.FieldType.boolean)).before args0 about1 = true := code_word (m := ⟨14, 7⟩) (meth := k14m7) (c := k14c7) (by decide +kernel) rfl rfl rfl (by decide +kernel)
set_option maxRecDepth 65536 in
theorem w_c38 : (Jvm.Cond.code ({ cls := "java/lang/StringBuilder", name := "toString", desc := "()Ljava/lang/String;" } : Jvm.MethodName) jdk_67_method_42_code (1 : Nat) (Option.some (Jvm.ClassFile.FieldType.object "java/lang/String"))).before args0 about1 = true := code_word (m := ⟨15, 3⟩) (meth := k15m3) (c := k15c3) (by decide +kernel) rfl rfl rfl (by decide +kernel)
set_option maxRecDepth 65536 in
theorem w_c39 : (Jvm.Cond.code ({ cls := "java/lang/String", name := "<init>", desc := "(Ljava/lang/StringBuilder;)V" } : Jvm.MethodName) jdk_42_method_53_code (2 : Nat) (Option.none : Option Jvm.ClassFile.FieldType)).before args0 about1 = true := code_word (m := ⟨7, 2⟩) (meth := k7m2) (c := k7c2) (by decide +kernel) rfl rfl rfl (by decide +kernel)
set_option maxRecDepth 65536 in
theorem w_c40 : (Jvm.Cond.code ({ cls := "java/lang/String", name := "<init>", desc := "(Ljava/lang/AbstractStringBuilder;Ljava/lang/Void;)V" } : Jvm.MethodName) jdk_42_method_150_code (5 : Nat) (Option.none : Option Jvm.ClassFile.FieldType)).before args0 about1 = true := code_word (m := ⟨7, 11⟩) (meth := k7m11) (c := k7c11) (by decide +kernel) rfl rfl rfl (by decide +kernel)
set_option maxRecDepth 65536 in
theorem w_c41 : (Jvm.Cond.code ({ cls := "java/lang/AbstractStringBuilder", name := "getValue", desc := "()[B" } : Jvm.MethodName) jdk_68_method_64_code (1 : Nat) (Option.some (Jvm.ClassFile.FieldType.array Jvm.ClassFile.FieldType.byte))).before args0 about1 = true := code_word (m := ⟨14, 6⟩) (meth := k14m6) (c := k14c6) (by decide +kernel) rfl rfl rfl (by decide +kernel)
set_option maxRecDepth 65536 in
theorem w_c42 : (Jvm.Cond.code ({ cls := "java/lang/StringBuilder", name := "length", desc := "()I" } : Jvm.MethodName) jdk_67_method_93_code (1 : Nat) (Option.some Jvm.ClassFile.FieldType.int)).before args0 about1 = true := code_word (m := ⟨15, 4⟩) (meth := k15m4) (c := k15c4) (by decide +kernel) rfl rfl rfl (by decide +kernel)
set_option maxRecDepth 65536 in
theorem w_c43 : (Jvm.Cond.code ({ cls := "java/lang/AbstractStringBuilder", name := "length", desc := "()I" } : Jvm.MethodName) jdk_68_method_6_code (1 : Nat) (Option.some Jvm.ClassFile.FieldType.int)).before args0 about1 = true := code_word (m := ⟨14, 2⟩) (meth := k14m2) (c := k14c2) (by decide +kernel) rfl rfl rfl (by decide +kernel)
set_option maxRecDepth 65536 in
theorem w_c44 : (Jvm.Cond.code ({ cls := "java/util/Arrays", name := "copyOfRange", desc := "([BII)[B" } : Jvm.MethodName) jdk_65_method_132_code (3 : Nat) (Option.some (Jvm.ClassFile.FieldType.array Jvm.ClassFile.FieldType.byte))).before args0 about1 = true := code_word (m := ⟨17, 2⟩) (meth := k17m2) (c := k17c2) (by decide +kernel) rfl rfl rfl (by decide +kernel)
set_option maxRecDepth 65536 in
theorem w_c45 : (Jvm.Cond.code ({ cls := "java/util/Arrays", name := "copyOfRangeByte", desc := "([BII)[B" } : Jvm.MethodName) jdk_65_method_133_code (5 : Nat) (Option.some (Jvm.ClassFile.FieldType.array Jvm.ClassFile.FieldType.byte))).before args0 about1 = true := code_word (m := ⟨17, 3⟩) (meth := k17m3) (c := k17c3) (by decide +kernel) rfl rfl rfl (by decide +kernel)
set_option maxRecDepth 65536 in
theorem w_c46 : (Jvm.Cond.code ({ cls := "java/util/Arrays", name := "checkLength", desc := "(II)V" } : Jvm.MethodName) jdk_65_method_131_code (2 : Nat) (Option.none : Option Jvm.ClassFile.FieldType)).before args0 about1 = true := code_word (m := ⟨17, 1⟩) (meth := k17m1) (c := k17c1) (by decide +kernel) rfl rfl rfl (by decide +kernel)
set_option maxRecDepth 65536 in
theorem w_c47 : (Jvm.Cond.code ({ cls := "com/example/lease/lease/LockKeys", name := "<init>", desc := "(Ljava/lang/String;)V" } : Jvm.MethodName) prog_2_method_1_code (2 : Nat) (Option.none : Option Jvm.ClassFile.FieldType)).before args0 about1 = true := code_word (m := ⟨10, 0⟩) (meth := k10m0) (c := k10c0) (by decide +kernel) rfl rfl rfl (by decide +kernel)
set_option maxRecDepth 65536 in
theorem w_c48 : (Jvm.Cond.code ({ cls := "com/example/lease/lease/LockKeys", name := "holdsKey", desc := "()Ljava/lang/String;" } : Jvm.MethodName) prog_2_method_5_code (1 : Nat) (Option.some (Jvm.ClassFile.FieldType.object "java/lang/String"))).before args0 about1 = true := code_word (m := ⟨10, 3⟩) (meth := k10m3) (c := k10c3) (by decide +kernel) rfl rfl rfl (by decide +kernel)
set_option maxRecDepth 65536 in
theorem w_c49 : (Jvm.Cond.code ({ cls := "com/example/lease/lease/LockKeysOfPinLaw", name := "matches", desc := "(Ljava/lang/String;[CI)Z" } : Jvm.MethodName) method_5_code (3 : Nat) (Option.some Jvm.ClassFile.FieldType.boolean)).before args0 about1 = true := code_word (m := ⟨1, 4⟩) (meth := k1m4) (c := k1c4) (by decide +kernel) rfl rfl rfl (by decide +kernel)
set_option maxRecDepth 65536 in
theorem w_c50 : (Jvm.Cond.code ({ cls := "com/example/lease/lease/LockKeysOfPinLaw", name := "at", desc := "(Ljava/lang/String;[CII)Z" } : Jvm.MethodName) method_4_code (4 : Nat) (Option.some Jvm.ClassFile.FieldType.boolean)).before args0 about1 = true := code_word (m := ⟨1, 3⟩) (meth := k1m3) (c := k1c3) (by decide +kernel) rfl rfl rfl (by decide +kernel)
set_option maxRecDepth 65536 in
theorem w_c51 : (Jvm.Cond.code ({ cls := "java/lang/String", name := "charAt", desc := "(I)C" } : Jvm.MethodName) jdk_42_method_56_code (2 : Nat) (Option.some Jvm.ClassFile.FieldType.char)).before args0 about1 = true := code_word (m := ⟨7, 5⟩) (meth := k7m5) (c := k7c5) (by decide +kernel) rfl rfl rfl (by decide +kernel)
set_option maxRecDepth 65536 in
theorem w_c52 : (Jvm.Cond.code ({ cls := "java/lang/StringLatin1", name := "charAt", desc := "([BI)C" } : Jvm.MethodName) jdk_43_method_2_code (2 : Nat) (Option.some Jvm.ClassFile.FieldType.char)).before args0 about1 = true := code_word (m := ⟨9, 1⟩) (meth := k9m1) (c := k9c1) (by decide +kernel) rfl rfl rfl (by decide +kernel)
set_option maxRecDepth 65536 in
theorem w_c53 : (Jvm.Cond.code ({ cls := "java/lang/String", name := "checkIndex", desc := "(II)V" } : Jvm.MethodName) jdk_42_method_155_code (2 : Nat) (Option.none : Option Jvm.ClassFile.FieldType)).before args0 about1 = true := code_word (m := ⟨7, 15⟩) (meth := k7m15) (c := k7c15) (by decide +kernel) rfl rfl rfl (by decide +kernel)
set_option maxRecDepth 65536 in
theorem w_c54 : (Jvm.Cond.code ({ cls := "jdk/internal/util/Preconditions", name := "checkIndex", desc := "(IILjava/util/function/BiFunction;)I" } : Jvm.MethodName) jdk_41_method_11_code (3 : Nat) (Option.some Jvm.ClassFile.FieldType.int)).before args0 about1 = true := code_word (m := ⟨18, 1⟩) (meth := k18m1) (c := k18c1) (by decide +kernel) rfl rfl rfl (by decide +kernel)
set_option maxRecDepth 65536 in
theorem w_c55 : (Jvm.Cond.code ({ cls := "com/example/lease/lease/LockKeys", name := "fenceKey", desc := "()Ljava/lang/String;" } : Jvm.MethodName) prog_2_method_6_code (1 : Nat) (Option.some (Jvm.ClassFile.FieldType.object "java/lang/String"))).before args0 about1 = true := code_word (m := ⟨10, 4⟩) (meth := k10m4) (c := k10c4) (by decide +kernel) rfl rfl rfl (by decide +kernel)
set_option maxRecDepth 65536 in
theorem w_c56 : (Jvm.Cond.code ({ cls := "com/example/lease/lease/LockKeys", name := "releasedChannel", desc := "()Ljava/lang/String;" } : Jvm.MethodName) prog_2_method_7_code (1 : Nat) (Option.some (Jvm.ClassFile.FieldType.object "java/lang/String"))).before args0 about1 = true := code_word (m := ⟨10, 5⟩) (meth := k10m5) (c := k10c5) (by decide +kernel) rfl rfl rfl (by decide +kernel)
def codes1 : List Jvm.Cond := [Jvm.Cond.code x code maxLocals ret, Jvm.Cond.code ({ cls := "com/example/lease/lease/LockKeysOfPinLaw", name := "ch", desc := "(I)C" } : Jvm.MethodName) method_2_code (2 : Nat) (Option.some Jvm.ClassFile.FieldType.char), Jvm.Cond.code ({ cls := "java/lang/String", name := "<init>", desc := "([C)V" } : Jvm.MethodName) jdk_42_method_3_code (2 : Nat) (Option.none : Option Jvm.ClassFile.FieldType), Jvm.Cond.code ({ cls := "java/lang/String", name := "<init>", desc := "([CIILjava/lang/Void;)V" } : Jvm.MethodName) jdk_42_method_149_code (6 : Nat) (Option.none : Option Jvm.ClassFile.FieldType), Jvm.Cond.code ({ cls := "java/lang/Object", name := "<init>", desc := "()V" } : Jvm.MethodName) object_method_1_code (1 : Nat) (Option.none : Option Jvm.ClassFile.FieldType), Jvm.Cond.code ({ cls := "java/lang/StringUTF16", name := "compress", desc := "([CII)[B" } : Jvm.MethodName) jdk_52_method_16_code (6 : Nat) (Option.some (Jvm.ClassFile.FieldType.array Jvm.ClassFile.FieldType.byte)), Jvm.Cond.code ({ cls := "java/lang/StringUTF16", name := "compress", desc := "([CI[BII)I" } : Jvm.MethodName) jdk_52_method_21_code (7 : Nat) (Option.some Jvm.ClassFile.FieldType.int), Jvm.Cond.code ({ cls := "java/lang/StringUTF16", name := "coderFromArrayLen", desc := "([BI)B" } : Jvm.MethodName) jdk_52_method_15_code (2 : Nat) (Option.some Jvm.ClassFile.FieldType.byte), Jvm.Cond.code ({ cls := "java/lang/String", name := "valueOf", desc := "(C)Ljava/lang/String;" } : Jvm.MethodName) jdk_42_method_139_code (1 : Nat) (Option.some (Jvm.ClassFile.FieldType.object "java/lang/String")), Jvm.Cond.code ({ cls := "java/lang/StringLatin1", name := "canEncode", desc := "(C)Z" } : Jvm.MethodName) jdk_43_method_3_code (1 : Nat) (Option.some Jvm.ClassFile.FieldType.boolean), Jvm.Cond.code ({ cls := "java/lang/StringLatin1", name := "toBytes", desc := "(C)[B" } : Jvm.MethodName) jdk_43_method_46_code (1 : Nat) (Option.some (Jvm.ClassFile.FieldType.array Jvm.ClassFile.FieldType.byte)), Jvm.Cond.code ({ cls := "java/lang/String", name := "<init>", desc := "([BB)V" } : Jvm.MethodName) jdk_42_method_151_code (3 : Nat) (Option.none : Option Jvm.ClassFile.FieldType), Jvm.Cond.code ({ cls := "com/example/lease/lease/LockKeysOfPinLaw", name := "head", desc := "([CIICCCCC)I" } : Jvm.MethodName) method_3_code (9 : Nat) (Option.some Jvm.ClassFile.FieldType.int), Jvm.Cond.code ({ cls := "com/example/lease/lease/LockKeys", name := "of", desc := "(Ljava/lang/String;Ljava/lang/String;)Lcom/example/lease/lease/LockKeys;" } : Jvm.MethodName) prog_2_method_2_code (2 : Nat) (Option.some (Jvm.ClassFile.FieldType.object "com/example/lease/lease/LockKeys")), Jvm.Cond.code ({ cls := "com/example/lease/lease/LockKeys", name := "checkedPrefix", desc := "(Ljava/lang/String;)Ljava/lang/String;" } : Jvm.MethodName) prog_2_method_4_code (1 : Nat) (Option.some (Jvm.ClassFile.FieldType.object "java/lang/String")), Jvm.Cond.code ({ cls := "java/util/Objects", name := "requireNonNull", desc := "(Ljava/lang/Object;Ljava/lang/String;)Ljava/lang/Object;" } : Jvm.MethodName) jdk_31_method_11_code (2 : Nat) (Option.some (Jvm.ClassFile.FieldType.object "java/lang/Object")), Jvm.Cond.code ({ cls := "java/lang/String", name := "indexOf", desc := "(I)I" } : Jvm.MethodName) jdk_42_method_79_code (2 : Nat) (Option.some Jvm.ClassFile.FieldType.int), Jvm.Cond.code ({ cls := "java/lang/String", name := "indexOf", desc := "(II)I" } : Jvm.MethodName) jdk_42_method_80_code (3 : Nat) (Option.some Jvm.ClassFile.FieldType.int), Jvm.Cond.code ({ cls := "java/lang/String", name := "isLatin1", desc := "()Z" } : Jvm.MethodName) jdk_42_method_154_code (1 : Nat) (Option.some Jvm.ClassFile.FieldType.boolean), Jvm.Cond.code ({ cls := "java/lang/String", name := "length", desc := "()I" } : Jvm.MethodName) jdk_42_method_54_code (1 : Nat) (Option.some Jvm.ClassFile.FieldType.int), Jvm.Cond.code ({ cls := "java/lang/String", name := "coder", desc := "()B" } : Jvm.MethodName) jdk_42_method_152_code (1 : Nat) (Option.some Jvm.ClassFile.FieldType.byte), Jvm.Cond.code ({ cls := "java/lang/StringLatin1", name := "indexOf", desc := "([BIII)I" } : Jvm.MethodName) jdk_43_method_22_code (4 : Nat) (Option.some Jvm.ClassFile.FieldType.int), Jvm.Cond.code ({ cls := "java/lang/StringLatin1", name := "canEncode", desc := "(I)Z" } : Jvm.MethodName) jdk_43_method_4_code (1 : Nat) (Option.some Jvm.ClassFile.FieldType.boolean), Jvm.Cond.code ({ cls := "java/lang/Math", name := "max", desc := "(II)I" } : Jvm.MethodName) jdk_29_method_65_code (2 : Nat) (Option.some Jvm.ClassFile.FieldType.int), Jvm.Cond.code ({ cls := "java/lang/Math", name := "min", desc := "(II)I" } : Jvm.MethodName) jdk_29_method_69_code (2 : Nat) (Option.some Jvm.ClassFile.FieldType.int), Jvm.Cond.code ({ cls := "java/lang/StringLatin1", name := "indexOfChar", desc := "([BIII)I" } : Jvm.MethodName) jdk_43_method_23_code (6 : Nat) (Option.some Jvm.ClassFile.FieldType.int), Jvm.Cond.code ({ cls := "java/lang/String", name := "isEmpty", desc := "()Z" } : Jvm.MethodName) jdk_42_method_55_code (1 : Nat) (Option.some Jvm.ClassFile.FieldType.boolean), Jvm.Cond.code ({ cls := "java/lang/StringBuilder", name := "<init>", desc := "()V" } : Jvm.MethodName) jdk_67_method_1_code (1 : Nat) (Option.none : Option Jvm.ClassFile.FieldType), Jvm.Cond.code ({ cls := "java/lang/AbstractStringBuilder", name := "<init>", desc := "(I)V" } : Jvm.MethodName) jdk_68_method_2_code (2 : Nat) (Option.none : Option Jvm.ClassFile.FieldType), Jvm.Cond.code ({ cls := "java/lang/StringBuilder", name := "append", desc := "(Ljava/lang/String;)Ljava/lang/StringBuilder;" } : Jvm.MethodName) jdk_67_method_7_code (2 : Nat) (Option.some (Jvm.ClassFile.FieldType.object "java/lang/StringBuilder")), Jvm.Cond.code ({ cls := "java/lang/AbstractStringBuilder", name := "append", desc := "(Ljava/lang/String;)Ljava/lang/AbstractStringBuilder;" } : Jvm.MethodName) jdk_68_method_22_code (3 : Nat) (Option.some (Jvm.ClassFile.FieldType.object "java/lang/AbstractStringBuilder")), Jvm.Cond.code ({ cls := "java/lang/AbstractStringBuilder", name := "ensureCapacityInternal", desc := "(I)V" } : Jvm.MethodName) jdk_68_method_9_code (3 : Nat) (Option.none : Option Jvm.ClassFile.FieldType), Jvm.Cond.code ({ cls := "java/lang/AbstractStringBuilder", name := "putStringAt", desc := "(ILjava/lang/String;)V" } : Jvm.MethodName) jdk_68_method_73_code (3 : Nat) (Option.none : Option Jvm.ClassFile.FieldType), Jvm.Cond.code ({ cls := "java/lang/AbstractStringBuilder", name := "inflateIfNeededFor", desc := "(Ljava/lang/String;)V" } : Jvm.MethodName) jdk_68_method_71_code (2 : Nat) (Option.none : Option Jvm.ClassFile.FieldType), Jvm.Cond.code ({ cls := "java/lang/String", name := "getBytes", desc := "([BIB)V" } : Jvm.MethodName) jdk_42_method_147_code (4 : Nat) (Option.none : Option Jvm.ClassFile.FieldType), Jvm.Cond.code ({ cls := "java/lang/StringBuilder", name := "append", desc := "(C)Ljava/lang/StringBuilder;" } : Jvm.MethodName) jdk_67_method_14_code (2 : Nat) (Option.some (Jvm.ClassFile.FieldType.object "java/lang/StringBuilder")), Jvm.Cond.code ({ cls := "java/lang/AbstractStringBuilder", name := "append", desc := "(C)Ljava/lang/AbstractStringBuilder;" } : Jvm.MethodName) jdk_68_method_31_code (2 : Nat) (Option.some (Jvm.ClassFile.FieldType.object "java/lang/AbstractStringBuilder")), Jvm.Cond.code ({ cls := "java/lang/AbstractStringBuilder", name := "isLatin1", desc := "()Z" } : Jvm.MethodName) jdk_68_method_68_code (1 : Nat) (Option.some Jvm.ClassFile.FieldType.boolean), Jvm.Cond.code ({ cls := "java/lang/StringBuilder", name := "toString", desc := "()Ljava/lang/String;" } : Jvm.MethodName) jdk_67_method_42_code (1 : Nat) (Option.some (Jvm.ClassFile.FieldType.object "java/lang/String")), Jvm.Cond.code ({ cls := "java/lang/String", name := "<init>", desc := "(Ljava/lang/StringBuilder;)V" } : Jvm.MethodName) jdk_42_method_53_code (2 : Nat) (Option.none : Option Jvm.ClassFile.FieldType), Jvm.Cond.code ({ cls := "java/lang/String", name := "<init>", desc := "(Ljava/lang/AbstractStringBuilder;Ljava/lang/Void;)V" } : Jvm.MethodName) jdk_42_method_150_code (5 : Nat) (Option.none : Option Jvm.ClassFile.FieldType), Jvm.Cond.code ({ cls := "java/lang/AbstractStringBuilder", name := "getValue", desc := "()[B" } : Jvm.MethodName) jdk_68_method_64_code (1 : Nat) (Option.some (Jvm.ClassFile.FieldType.array Jvm.ClassFile.FieldType.byte)), Jvm.Cond.code ({ cls := "java/lang/StringBuilder", name := "length", desc := "()I" } : Jvm.MethodName) jdk_67_method_93_code (1 : Nat) (Option.some Jvm.ClassFile.FieldType.int), Jvm.Cond.code ({ cls := "java/lang/AbstractStringBuilder", name := "length", desc := "()I" } : Jvm.MethodName) jdk_68_method_6_code (1 : Nat) (Option.some Jvm.ClassFile.FieldType.int), Jvm.Cond.code ({ cls := "java/util/Arrays", name := "copyOfRange", desc := "([BII)[B" } : Jvm.MethodName) jdk_65_method_132_code (3 : Nat) (Option.some (Jvm.ClassFile.FieldType.array Jvm.ClassFile.FieldType.byte)), Jvm.Cond.code ({ cls := "java/util/Arrays", name := "copyOfRangeByte", desc := "([BII)[B" } : Jvm.MethodName) jdk_65_method_133_code (5 : Nat) (Option.some (Jvm.ClassFile.FieldType.array Jvm.ClassFile.FieldType.byte)), Jvm.Cond.code ({ cls := "java/util/Arrays", name := "checkLength", desc := "(II)V" } : Jvm.MethodName) jdk_65_method_131_code (2 : Nat) (Option.none : Option Jvm.ClassFile.FieldType), Jvm.Cond.code ({ cls := "com/example/lease/lease/LockKeys", name := "<init>", desc := "(Ljava/lang/String;)V" } : Jvm.MethodName) prog_2_method_1_code (2 : Nat) (Option.none : Option Jvm.ClassFile.FieldType), Jvm.Cond.code ({ cls := "com/example/lease/lease/LockKeys", name := "holdsKey", desc := "()Ljava/lang/String;" } : Jvm.MethodName) prog_2_method_5_code (1 : Nat) (Option.some (Jvm.ClassFile.FieldType.object "java/lang/String")), Jvm.Cond.code ({ cls := "com/example/lease/lease/LockKeysOfPinLaw", name := "matches", desc := "(Ljava/lang/String;[CI)Z" } : Jvm.MethodName) method_5_code (3 : Nat) (Option.some Jvm.ClassFile.FieldType.boolean), Jvm.Cond.code ({ cls := "com/example/lease/lease/LockKeysOfPinLaw", name := "at", desc := "(Ljava/lang/String;[CII)Z" } : Jvm.MethodName) method_4_code (4 : Nat) (Option.some Jvm.ClassFile.FieldType.boolean), Jvm.Cond.code ({ cls := "java/lang/String", name := "charAt", desc := "(I)C" } : Jvm.MethodName) jdk_42_method_56_code (2 : Nat) (Option.some Jvm.ClassFile.FieldType.char), Jvm.Cond.code ({ cls := "java/lang/StringLatin1", name := "charAt", desc := "([BI)C" } : Jvm.MethodName) jdk_43_method_2_code (2 : Nat) (Option.some Jvm.ClassFile.FieldType.char), Jvm.Cond.code ({ cls := "java/lang/String", name := "checkIndex", desc := "(II)V" } : Jvm.MethodName) jdk_42_method_155_code (2 : Nat) (Option.none : Option Jvm.ClassFile.FieldType), Jvm.Cond.code ({ cls := "jdk/internal/util/Preconditions", name := "checkIndex", desc := "(IILjava/util/function/BiFunction;)I" } : Jvm.MethodName) jdk_41_method_11_code (3 : Nat) (Option.some Jvm.ClassFile.FieldType.int), Jvm.Cond.code ({ cls := "com/example/lease/lease/LockKeys", name := "fenceKey", desc := "()Ljava/lang/String;" } : Jvm.MethodName) prog_2_method_6_code (1 : Nat) (Option.some (Jvm.ClassFile.FieldType.object "java/lang/String")), Jvm.Cond.code ({ cls := "com/example/lease/lease/LockKeys", name := "releasedChannel", desc := "()Ljava/lang/String;" } : Jvm.MethodName) prog_2_method_7_code (1 : Nat) (Option.some (Jvm.ClassFile.FieldType.object "java/lang/String"))]
set_option maxRecDepth 65536 in
theorem codes_eq : words1.filter isCode = codes1 := rfl
theorem w_codes : ∀ c ∈ words1.filter isCode, c.before args0 about1 = true := by
  rw [codes_eq]
  intro c hc
  simp only [codes1, List.mem_cons, List.not_mem_nil, or_false] at hc
  rcases hc with rfl | rfl | rfl | rfl | rfl | rfl | rfl | rfl | rfl | rfl | rfl | rfl | rfl | rfl | rfl | rfl | rfl | rfl | rfl | rfl | rfl | rfl | rfl | rfl | rfl | rfl | rfl | rfl | rfl | rfl | rfl | rfl | rfl | rfl | rfl | rfl | rfl | rfl | rfl | rfl | rfl | rfl | rfl | rfl | rfl | rfl | rfl | rfl | rfl | rfl | rfl | rfl | rfl | rfl | rfl | rfl | rfl
  · exact w_c0
  · exact w_c1
  · exact w_c2
  · exact w_c3
  · exact w_c4
  · exact w_c5
  · exact w_c6
  · exact w_c7
  · exact w_c8
  · exact w_c9
  · exact w_c10
  · exact w_c11
  · exact w_c12
  · exact w_c13
  · exact w_c14
  · exact w_c15
  · exact w_c16
  · exact w_c17
  · exact w_c18
  · exact w_c19
  · exact w_c20
  · exact w_c21
  · exact w_c22
  · exact w_c23
  · exact w_c24
  · exact w_c25
  · exact w_c26
  · exact w_c27
  · exact w_c28
  · exact w_c29
  · exact w_c30
  · exact w_c31
  · exact w_c32
  · exact w_c33
  · exact w_c34
  · exact w_c35
  · exact w_c36
  · exact w_c37
  · exact w_c38
  · exact w_c39
  · exact w_c40
  · exact w_c41
  · exact w_c42
  · exact w_c43
  · exact w_c44
  · exact w_c45
  · exact w_c46
  · exact w_c47
  · exact w_c48
  · exact w_c49
  · exact w_c50
  · exact w_c51
  · exact w_c52
  · exact w_c53
  · exact w_c54
  · exact w_c55
  · exact w_c56
set_option maxRecDepth 65536 in
theorem w_t1 : (words1.take 24).all (fun c => isCode c || c.before args0 about1) = true := by decide +kernel
set_option maxRecDepth 65536 in
theorem w_t2 : ((words1.drop 24).take 24).all (fun c => isCode c || c.before args0 about1) = true := by decide +kernel
set_option maxRecDepth 65536 in
theorem w_t3 : (((words1.drop 24).drop 24).take 24).all (fun c => isCode c || c.before args0 about1) = true := by decide +kernel
set_option maxRecDepth 65536 in
theorem w_t4 : ((((words1.drop 24).drop 24).drop 24).take 24).all (fun c => isCode c || c.before args0 about1) = true := by decide +kernel
set_option maxRecDepth 65536 in
theorem w_t5 : (((((words1.drop 24).drop 24).drop 24).drop 24).take 24).all (fun c => isCode c || c.before args0 about1) = true := by decide +kernel
set_option maxRecDepth 65536 in
theorem w_t6 : ((((((words1.drop 24).drop 24).drop 24).drop 24).drop 24).take 24).all (fun c => isCode c || c.before args0 about1) = true := by decide +kernel
set_option maxRecDepth 65536 in
theorem w_t7 : (((((((words1.drop 24).drop 24).drop 24).drop 24).drop 24).drop 24).take 24).all (fun c => isCode c || c.before args0 about1) = true := by decide +kernel
set_option maxRecDepth 65536 in
theorem w_t8 : ((((((((words1.drop 24).drop 24).drop 24).drop 24).drop 24).drop 24).drop 24).take 24).all (fun c => isCode c || c.before args0 about1) = true := by decide +kernel
set_option maxRecDepth 65536 in
theorem w_t9 : (((((((((words1.drop 24).drop 24).drop 24).drop 24).drop 24).drop 24).drop 24).drop 24).take 24).all (fun c => isCode c || c.before args0 about1) = true := by decide +kernel
set_option maxRecDepth 65536 in
theorem w_t10 : ((((((((((words1.drop 24).drop 24).drop 24).drop 24).drop 24).drop 24).drop 24).drop 24).drop 24).take 24).all (fun c => isCode c || c.before args0 about1) = true := by decide +kernel
set_option maxRecDepth 65536 in
theorem w_t11 : (((((((((((words1.drop 24).drop 24).drop 24).drop 24).drop 24).drop 24).drop 24).drop 24).drop 24).drop 24).take 24).all (fun c => isCode c || c.before args0 about1) = true := by decide +kernel
set_option maxRecDepth 65536 in
theorem w_t12 : (((((((((((words1.drop 24).drop 24).drop 24).drop 24).drop 24).drop 24).drop 24).drop 24).drop 24).drop 24).drop 24).all (fun c => isCode c || c.before args0 about1) = true := by decide +kernel
theorem w_tables : (allAtoms (Jvm.Cond.code x code maxLocals ret :: tables_1)).before args0 about1 = true := by
  rw [allAtoms_all]
  show words1.all (fun c => c.before args0 about1) = true
  refine all_split ?_ w_codes
  rw [← List.take_append_drop 24 words1, List.all_append, w_t1, ← List.take_append_drop 24 (words1.drop 24), List.all_append, w_t2, ← List.take_append_drop 24 ((words1.drop 24).drop 24), List.all_append, w_t3, ← List.take_append_drop 24 (((words1.drop 24).drop 24).drop 24), List.all_append, w_t4, ← List.take_append_drop 24 ((((words1.drop 24).drop 24).drop 24).drop 24), List.all_append, w_t5, ← List.take_append_drop 24 (((((words1.drop 24).drop 24).drop 24).drop 24).drop 24), List.all_append, w_t6, ← List.take_append_drop 24 ((((((words1.drop 24).drop 24).drop 24).drop 24).drop 24).drop 24), List.all_append, w_t7, ← List.take_append_drop 24 (((((((words1.drop 24).drop 24).drop 24).drop 24).drop 24).drop 24).drop 24), List.all_append, w_t8, ← List.take_append_drop 24 ((((((((words1.drop 24).drop 24).drop 24).drop 24).drop 24).drop 24).drop 24).drop 24), List.all_append, w_t9, ← List.take_append_drop 24 (((((((((words1.drop 24).drop 24).drop 24).drop 24).drop 24).drop 24).drop 24).drop 24).drop 24), List.all_append, w_t10, ← List.take_append_drop 24 ((((((((((words1.drop 24).drop 24).drop 24).drop 24).drop 24).drop 24).drop 24).drop 24).drop 24).drop 24), List.all_append, w_t11, w_t12]
  rfl
set_option maxRecDepth 65536 in
theorem w_rest : rest_1_c.before args0 about1 = true := by decide +kernel
set_option maxRecDepth 65536 in
theorem w_case : (Jvm.Cond.and given_1 narrow_1).before args0 about1 = true := by decide +kernel
set_option maxRecDepth 65536 in
theorem w_consts : constsHeld consts_1 about1 := Jvm.Lit.constsHeldB_iff.mp (by decide +kernel)
theorem w_applies : (headSpec (Jvm.Cond.code x code maxLocals ret :: tables_1) room_1).applies x e0.platform about1 = true :=
  (Spec.applies_iff w_frames).mpr ⟨w_running, w_runnable, w_alone, w_named, w_hears, w_ripe, w_room, w_tables⟩
theorem atStart : AtStart classFile x code maxLocals ret World_1 tables_1 room_1 Calls_1 rest_1 Pre_1 launch0 p0 e0 about1 theMethod args0 below0 :=
  ⟨lists_1, trivial, launch0.admits_env _ _ _, launch0.least_env, fairChoices_fair.cas, fairChoices_fair.clock, w_frames, w_args, w_heap, w_applies, ⟨w_consts, trivial⟩, w_rest, w_case⟩
end start1
theorem witness_1 : WitnessClaimed_1 := ⟨start1.p0, start1.e0, start1.about1, start1.theMethod, start1.args0, start1.below0, start1.atStart⟩
end Jvm.Pilot.@@N@@
