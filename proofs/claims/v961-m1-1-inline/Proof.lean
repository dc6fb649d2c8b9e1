import JvmDerived
import JvmDerived.Pilot.@@N@@Statement
import JvmDerived.Pilot.@@N@@Code
set_option linter.unusedVariables false
set_option linter.unusedSimpArgs false
namespace Jvm.Pilot.@@N@@
open Jvm Jvm.ClassFile Sem Op Lib Jvm.Free Jvm.Stand Jvm.LawKit Jvm.RoadKit Bundle Jvm.Pilot.@@N@@.Jvm.D
section OwnGo
variable {p : Program} {l : Launch} {e : Env} {R : Room} {s : State} {m : MethodId} {args : Array Value} {below : List Frame} {meth : Method} {c : Code} {T : State} {n0 cells slots cells' slots' : Nat} {Z : State} {a0 : Array Value} {h : Heap} {K : State → Outcome → Prop} {pc : Nat} (pc' : Nat) {Ls : Array Slot} {St : List Value} {own : String} {by0 : ByteArray} {ml : Nat}
/-- from state T with the frame g on top the run comes to an end of which K holds -/
def OGo (p : Program) (e : Env) (below : List Frame) (K : State → Outcome → Prop) (T : State) (g : JFrame) : Prop := ∃ t o, Steps p.tables e below (T.setTop g) t ∧ K t o
/-- what does not change during one body's walk -/
def Cx (p : Program) (s : State) (m : MethodId) (c : Code) (Z : State) (own : String) (by0 : ByteArray) (ml : Nat) : Prop := p.tables.exec = Jvm.exec ∧ Z.Warmed39 s.vm ∧ s.vm.findClass own = some m.cls ∧ c.code = by0 ∧ c.maxLocals = ml
/-- where the walk stands: heap h, only cells from n0 on written -/
def Sd (p : Program) (l : Launch) (e : Env) (R : Room) (s : State) (m : MethodId) (args : Array Value) (below : List Frame) (meth : Method) (c : Code) (n0 : Nat) (T : State) (h : Heap) (cells slots : Nat) : Prop := T.heap = h ∧ n0 ≤ h.size ∧ ∃ locs, Stand p l e R s m args below meth c T locs cells slots ∧ Fr n0 locs
/-- what a body owes at its end -/
def Kk (s : State) (below : List Frame) (n0 : Nat) (Q : Option Value → Heap → Prop) (nc ns : Nat) : State → Outcome → Prop := fun t o => t.status = .running ∧ Ended t below o ∧ ∃ v L, o = .returned v ∧ (Q v t.heap ∧ Fr n0 L) ∧ FrameEnd s o t L nc ns
/-- a body's contract -/
def Ctr (l : Launch) (Z : State) (y : MethodName) (by0 : ByteArray) (ml : Nat) (ret : Option FieldType) (rm : Room) (n0 : Nat) (as' : Array Value) (h : Heap) (Q : Option Value → Heap → Prop) : Prop :=
  ∀ ws, MetFree l y (head1 (Jvm.Cond.code y by0 ml ret :: ws) rm) (fun a U => a = as' ∧ Z.Warmed39 U.vm ∧ U.heap = h) (fun _ _ _ _ _ => True) (fun _ U o U' => ∃ v L, o = .returned v ∧ ((Q v U'.heap ∧ h.size ≤ U'.heap.size) ∧ Fr n0 L) ∧ FrameEnd U o U' L rm.cells rm.slots)
theorem G.st {T T' : State} {g g' : JFrame} (st : ∀ target, Steps p.tables e below (T'.setTop g') target → Steps p.tables e below (T.setTop g) target) (hr : OGo p e below K T' g') : OGo p e below K T g := by
  obtain ⟨t, o, h1, h2⟩ := hr
  exact ⟨t, o, st t h1, h2⟩
theorem G.tr {T T' : State} {g g' : JFrame} (st : Steps p.tables e below (T.setTop g) (T'.setTop g')) (hr : OGo p e below K T' g') : OGo p e below K T g := by
  obtain ⟨t, o, h1, h2⟩ := hr
  exact ⟨t, o, st.trans h1, h2⟩
theorem Ctr.of {y : MethodName} {ret : Option FieldType} {rm : Room} {as' : Array Value} {Q : Option Value → Heap → Prop} (hpl : plainFor y = true) (hn : n0 ≤ h.size)
    (body : ∀ p e s m below meth c T, Cx p s m c Z y.cls by0 ml → meth.name = y.name → meth.sig.returnType = ret → meth.locks = false → Sd p l e rm s m as' below meth c n0 T h 0 0 → OGo p e below (Kk s below n0 Q rm.cells rm.slots) T (entryFrame m as' ml)) :
 Ctr l Z y by0 ml ret rm n0 as' h Q := by
 intro ws
 refine MetFree.of_bodySF hpl hisR ?_
 intro p e s m args below meth c s₁ Bd hml0 hP hK
 obtain ⟨rfl, hZ, hh⟩ := hP
 have hown : s.vm.findClass y.cls = some m.cls := findClass_of_methodNamed Bd.named
 have hnm := (name_of_methodNamed Bd.named Bd.method).1
 have X0 := Stand.of_body Bd
 have e0 : s₁.heap = h := by rw [← hh, Bd.state]; rfl
 obtain ⟨t, o, h1, h2, h3, v, L, h4, ⟨h5, h6⟩, h7⟩ := body p e s m below meth c s₁ ⟨Bd.exec, hZ, hown, Bd.bytes, hml0⟩ hnm Bd.returns (BodyLoose.notSynchronized Bd) ⟨e0, hn, [], X0, Fr.nil n0⟩
 exact ⟨t, o, h1, h2, h3, v, L, h4, ⟨⟨h5, by rw [← hh]; exact h7.2.2.2.1⟩, h6⟩, h7⟩
theorem Ctr.mono {y : MethodName} {ret : Option FieldType} {rm : Room} {as' : Array Value} {Q Q' : Option Value → Heap → Prop} (hM : Ctr l Z y by0 ml ret rm n0 as' h Q) (hq : ∀ v h', Q v h' → Q' v h') : Ctr l Z y by0 ml ret rm n0 as' h Q' := by
  intro ws p e ha hc hk s m args below hf happ hP hK
  obtain ⟨n, o, h1, h2, h3, v, L, h4, ⟨⟨h5, h8⟩, h6⟩, h7⟩ := hM ws p e ha hc hk s m args below hf happ hP hK
  exact ⟨n, o, h1, h2, h3, v, L, h4, ⟨⟨hq _ _ h5, h8⟩, h6⟩, h7⟩
theorem G.f (C : Cx p s m c Z own by0 ml) (X : Sd p l e R s m args below meth c n0 T h cells slots) {k : Nat} {v : Int32} (hd : decode by0 pc = .ok (.iload k, 2)) (hp : pc + 2 = pc') (hl : Ls[k]? = some (.val (.int v))) (hr : OGo p e below K T (mkF m pc' Ls (.int v :: St))) : OGo p e below K T (mkF m pc Ls (St)) := by
  subst hp
  obtain ⟨-, -, locs, Y, -⟩ := X
  exact G.st (fun t k => XS.iload Y.here C.1 rfl (hb C.2.2.2.1 hd) hl k) hr
theorem G.a (C : Cx p s m c Z own by0 ml) (X : Sd p l e R s m args below meth c n0 T h cells slots) {k : Fin 4} {v : Int32} (hd : decode by0 pc = .ok (.iload_n k, 1)) (hp : pc + 1 = pc') (hl : Ls[k.val]? = some (.val (.int v))) (hr : OGo p e below K T (mkF m pc' Ls (.int v :: St))) : OGo p e below K T (mkF m pc Ls (St)) := by
  subst hp
  obtain ⟨-, -, locs, Y, -⟩ := X
  exact G.st (fun t k => XS.iloadN Y.here C.1 rfl (hb C.2.2.2.1 hd) hl k) hr
theorem G.P (C : Cx p s m c Z own by0 ml) (X : Sd p l e R s m args below meth c n0 T h cells slots) {k : Nat} {v : Value} (hd : decode by0 pc = .ok (.aload k, 2)) (hp : pc + 2 = pc') (hl : Ls[k]? = some (.val v)) (hv : v.isRef = true) (hr : OGo p e below K T (mkF m pc' Ls (v :: St))) : OGo p e below K T (mkF m pc Ls (St)) := by
  subst hp
  obtain ⟨-, -, locs, Y, -⟩ := X
  exact G.st (fun t k => XS.aload Y.here C.1 rfl (hb C.2.2.2.1 hd) hl hv k) hr
theorem G.b (C : Cx p s m c Z own by0 ml) (X : Sd p l e R s m args below meth c n0 T h cells slots) {k : Fin 4} {v : Value} (hd : decode by0 pc = .ok (.aload_n k, 1)) (hp : pc + 1 = pc') (hl : Ls[k.val]? = some (.val v)) (hv : v.isRef = true) (hr : OGo p e below K T (mkF m pc' Ls (v :: St))) : OGo p e below K T (mkF m pc Ls (St)) := by
  subst hp
  obtain ⟨-, -, locs, Y, -⟩ := X
  exact G.st (fun t k => XS.aloadN Y.here C.1 rfl (hb C.2.2.2.1 hd) hl hv k) hr
theorem G.w (C : Cx p s m c Z own by0 ml) (X : Sd p l e R s m args below meth c n0 T h cells slots) {k : Nat} {x : Int32} {l' : Array Slot} (hd : decode by0 pc = .ok (.istore k, 2)) (hp : pc + 2 = pc') (hl : storeLocals Ls k (.int x) = some l') (hr : OGo p e below K T (mkF m pc' l' (St))) : OGo p e below K T (mkF m pc Ls (.int x :: St)) := by
  subst hp
  obtain ⟨-, -, locs, Y, -⟩ := X
  exact G.st (fun t k => XS.istore Y.here C.1 rfl (hb C.2.2.2.1 hd) rfl hl k) hr
theorem G.g (C : Cx p s m c Z own by0 ml) (X : Sd p l e R s m args below meth c n0 T h cells slots) {k : Fin 4} {x : Int32} {l' : Array Slot} (hd : decode by0 pc = .ok (.istore_n k, 1)) (hp : pc + 1 = pc') (hl : storeLocals Ls k.val (.int x) = some l') (hr : OGo p e below K T (mkF m pc' l' (St))) : OGo p e below K T (mkF m pc Ls (.int x :: St)) := by
  subst hp
  obtain ⟨-, -, locs, Y, -⟩ := X
  exact G.st (fun t k => XS.istoreN Y.here C.1 rfl (hb C.2.2.2.1 hd) rfl hl k) hr
theorem G.ag (C : Cx p s m c Z own by0 ml) (X : Sd p l e R s m args below meth c n0 T h cells slots) {k : Nat} {x : Value} {l' : Array Slot} (hd : decode by0 pc = .ok (.astore k, 2)) (hp : pc + 2 = pc') (hv : x.isRef = true) (hl : storeLocals Ls k x = some l') (hr : OGo p e below K T (mkF m pc' l' (St))) : OGo p e below K T (mkF m pc Ls (x :: St)) := by
  subst hp
  obtain ⟨-, -, locs, Y, -⟩ := X
  exact G.st (fun t k => XS.astore Y.here C.1 rfl (hb C.2.2.2.1 hd) rfl hv hl k) hr
theorem G.aq (C : Cx p s m c Z own by0 ml) (X : Sd p l e R s m args below meth c n0 T h cells slots) {k : Fin 4} {x : Value} {l' : Array Slot} (hd : decode by0 pc = .ok (.astore_n k, 1)) (hp : pc + 1 = pc') (hv : x.isRef = true) (hl : storeLocals Ls k.val x = some l') (hr : OGo p e below K T (mkF m pc' l' (St))) : OGo p e below K T (mkF m pc Ls (x :: St)) := by
  subst hp
  obtain ⟨-, -, locs, Y, -⟩ := X
  exact G.st (fun t k => XS.astoreN Y.here C.1 rfl (hb C.2.2.2.1 hd) rfl hv hl k) hr
theorem G.i (C : Cx p s m c Z own by0 ml) (X : Sd p l e R s m args below meth c n0 T h cells slots) {i : Int} {z : Int32} (hd : decode by0 pc = .ok (.iconst i, 1)) (hp : pc + 1 = pc') (hz : Int32.ofInt i = z) (hr : OGo p e below K T (mkF m pc' Ls (.int z :: St))) : OGo p e below K T (mkF m pc Ls (St)) := by
  subst hp
  subst hz
  obtain ⟨-, -, locs, Y, -⟩ := X
  exact G.st (fun t k => XS.iconst Y.here C.1 rfl (hb C.2.2.2.1 hd)  k) hr
theorem G.d (C : Cx p s m c Z own by0 ml) (X : Sd p l e R s m args below meth c n0 T h cells slots) {i : Int} {z : Int32} (hd : decode by0 pc = .ok (.bipush i, 2)) (hp : pc + 2 = pc') (hz : (Int8.ofInt i).toInt32 = z) (hr : OGo p e below K T (mkF m pc' Ls (.int z :: St))) : OGo p e below K T (mkF m pc Ls (St)) := by
  subst hp
  subst hz
  obtain ⟨-, -, locs, Y, -⟩ := X
  exact G.st (fun t k => XS.bipush Y.here C.1 rfl (hb C.2.2.2.1 hd)  k) hr
theorem G.G (C : Cx p s m c Z own by0 ml) (X : Sd p l e R s m args below meth c n0 T h cells slots) {i : Int} {z : Int32} (hd : decode by0 pc = .ok (.sipush i, 3)) (hp : pc + 3 = pc') (hz : (Int16.ofInt i).toInt32 = z) (hr : OGo p e below K T (mkF m pc' Ls (.int z :: St))) : OGo p e below K T (mkF m pc Ls (St)) := by
  subst hp
  subst hz
  obtain ⟨-, -, locs, Y, -⟩ := X
  exact G.st (fun t k => XS.sipush Y.here C.1 rfl (hb C.2.2.2.1 hd)  k) hr
theorem G.am (C : Cx p s m c Z own by0 ml) (X : Sd p l e R s m args below meth c n0 T h cells slots)  (hd : decode by0 pc = .ok (.aconst_null, 1)) (hp : pc + 1 = pc')  (hr : OGo p e below K T (mkF m pc' Ls (.null :: St))) : OGo p e below K T (mkF m pc Ls (St)) := by
  subst hp
  obtain ⟨-, -, locs, Y, -⟩ := X
  exact G.st (fun t k => XS.aconstNull Y.here C.1 rfl (hb C.2.2.2.1 hd)  k) hr
theorem G.z (C : Cx p s m c Z own by0 ml) (X : Sd p l e R s m args below meth c n0 T h cells slots) {x y z : Int32} (hd : decode by0 pc = .ok (.iadd, 1)) (hp : pc + 1 = pc') (hz : x + y = z) (hr : OGo p e below K T (mkF m pc' Ls (.int z :: St))) : OGo p e below K T (mkF m pc Ls (.int y :: .int x :: St)) := by
  subst hp
  subst hz
  obtain ⟨-, -, locs, Y, -⟩ := X
  exact G.st (fun t k => XS.iadd Y.here C.1 rfl (hb C.2.2.2.1 hd) rfl k) hr
theorem G.u (C : Cx p s m c Z own by0 ml) (X : Sd p l e R s m args below meth c n0 T h cells slots) {x y z : Int32} (hd : decode by0 pc = .ok (.isub, 1)) (hp : pc + 1 = pc') (hz : x - y = z) (hr : OGo p e below K T (mkF m pc' Ls (.int z :: St))) : OGo p e below K T (mkF m pc Ls (.int y :: .int x :: St)) := by
  subst hp
  subst hz
  obtain ⟨-, -, locs, Y, -⟩ := X
  exact G.st (fun t k => XS.isub Y.here C.1 rfl (hb C.2.2.2.1 hd) rfl k) hr
theorem G.y (C : Cx p s m c Z own by0 ml) (X : Sd p l e R s m args below meth c n0 T h cells slots) {x y z : Int32} (hd : decode by0 pc = .ok (.imul, 1)) (hp : pc + 1 = pc') (hz : x * y = z) (hr : OGo p e below K T (mkF m pc' Ls (.int z :: St))) : OGo p e below K T (mkF m pc Ls (.int y :: .int x :: St)) := by
  subst hp
  subst hz
  obtain ⟨-, -, locs, Y, -⟩ := X
  exact G.st (fun t k => XS.imul Y.here C.1 rfl (hb C.2.2.2.1 hd) rfl k) hr
theorem G.ac (C : Cx p s m c Z own by0 ml) (X : Sd p l e R s m args below meth c n0 T h cells slots) {x y z : Int32} (hd : decode by0 pc = .ok (.iand, 1)) (hp : pc + 1 = pc') (hz : x &&& y = z) (hr : OGo p e below K T (mkF m pc' Ls (.int z :: St))) : OGo p e below K T (mkF m pc Ls (.int y :: .int x :: St)) := by
  subst hp
  subst hz
  obtain ⟨-, -, locs, Y, -⟩ := X
  exact G.st (fun t k => XS.iand Y.here C.1 rfl (hb C.2.2.2.1 hd) rfl k) hr
theorem G.ar (C : Cx p s m c Z own by0 ml) (X : Sd p l e R s m args below meth c n0 T h cells slots) {x y z : Int32} (hd : decode by0 pc = .ok (.ishl, 1)) (hp : pc + 1 = pc') (hz : x <<< (y &&& 31) = z) (hr : OGo p e below K T (mkF m pc' Ls (.int z :: St))) : OGo p e below K T (mkF m pc Ls (.int y :: .int x :: St)) := by
  subst hp
  subst hz
  obtain ⟨-, -, locs, Y, -⟩ := X
  exact G.st (fun t k => XS.ishl Y.here C.1 rfl (hb C.2.2.2.1 hd) rfl k) hr
theorem G.ah (C : Cx p s m c Z own by0 ml) (X : Sd p l e R s m args below meth c n0 T h cells slots) {x y z : Int32} (hd : decode by0 pc = .ok (.ishr, 1)) (hp : pc + 1 = pc') (hz : x >>> (y &&& 31) = z) (hr : OGo p e below K T (mkF m pc' Ls (.int z :: St))) : OGo p e below K T (mkF m pc Ls (.int y :: .int x :: St)) := by
  subst hp
  subst hz
  obtain ⟨-, -, locs, Y, -⟩ := X
  exact G.st (fun t k => XS.ishr Y.here C.1 rfl (hb C.2.2.2.1 hd) rfl k) hr
theorem G.ai (C : Cx p s m c Z own by0 ml) (X : Sd p l e R s m args below meth c n0 T h cells slots) {x y z : Int32} (hd : decode by0 pc = .ok (.iushr, 1)) (hp : pc + 1 = pc') (hz : (x.toUInt32 >>> (y &&& 31).toUInt32).toInt32 = z) (hr : OGo p e below K T (mkF m pc' Ls (.int z :: St))) : OGo p e below K T (mkF m pc Ls (.int y :: .int x :: St)) := by
  subst hp
  subst hz
  obtain ⟨-, -, locs, Y, -⟩ := X
  exact G.st (fun t k => XS.iushr Y.here C.1 rfl (hb C.2.2.2.1 hd) rfl k) hr
theorem G.Y (C : Cx p s m c Z own by0 ml) (X : Sd p l e R s m args below meth c n0 T h cells slots) {x y z : Int32} (hd : decode by0 pc = .ok (.idiv, 1)) (hp : pc + 1 = pc') (hy : y ≠ 0) (hz : x / y = z) (hr : OGo p e below K T (mkF m pc' Ls (.int z :: St))) : OGo p e below K T (mkF m pc Ls (.int y :: .int x :: St)) := by
  subst hp
  subst hz
  obtain ⟨-, -, locs, Y, -⟩ := X
  exact G.st (fun t k => XS.idiv Y.here C.1 rfl (hb C.2.2.2.1 hd) rfl hy k) hr
theorem G.aD (C : Cx p s m c Z own by0 ml) (X : Sd p l e R s m args below meth c n0 T h cells slots) {x y z : Int32} (hd : decode by0 pc = .ok (.irem, 1)) (hp : pc + 1 = pc') (hy : y ≠ 0) (hz : x % y = z) (hr : OGo p e below K T (mkF m pc' Ls (.int z :: St))) : OGo p e below K T (mkF m pc Ls (.int y :: .int x :: St)) := by
  subst hp
  subst hz
  obtain ⟨-, -, locs, Y, -⟩ := X
  exact G.st (fun t k => iremM Y C.1 rfl (hb C.2.2.2.1 hd) rfl hy k) hr
theorem G.H (C : Cx p s m c Z own by0 ml) (X : Sd p l e R s m args below meth c n0 T h cells slots) {x z : Int32} (hd : decode by0 pc = .ok (.ineg, 1)) (hp : pc + 1 = pc') (hz : -x = z) (hr : OGo p e below K T (mkF m pc' Ls (.int z :: St))) : OGo p e below K T (mkF m pc Ls (.int x :: St)) := by
  subst hp
  subst hz
  obtain ⟨-, -, locs, Y, -⟩ := X
  exact G.st (fun t k => XS.ineg Y.here C.1 rfl (hb C.2.2.2.1 hd) rfl k) hr
theorem G.t (C : Cx p s m c Z own by0 ml) (X : Sd p l e R s m args below meth c n0 T h cells slots) {k : Nat} {cst : Int} {x z : Int32} {l' : Array Slot} (hd : decode by0 pc = .ok (.iinc k cst, 3)) (hp : pc + 3 = pc') (hl : Ls[k]? = some (.val (.int x))) (hz : x + Int32.ofInt cst = z) (hl' : storeLocals Ls k (.int z) = some l') (hr : OGo p e below K T (mkF m pc' l' (St))) : OGo p e below K T (mkF m pc Ls (St)) := by
  subst hp
  subst hz
  obtain ⟨-, -, locs, Y, -⟩ := X
  exact G.st (fun t k => XS.iinc Y.here C.1 rfl (hb C.2.2.2.1 hd) hl hl' k) hr
theorem G.an (C : Cx p s m c Z own by0 ml) (X : Sd p l e R s m args below meth c n0 T h cells slots) {x : Int32} {z : Int32} (hd : decode by0 pc = .ok (.i2b, 1)) (hp : pc + 1 = pc') (hz : x.toInt8.toInt32 = z) (hr : OGo p e below K T (mkF m pc' Ls (.int z :: St))) : OGo p e below K T (mkF m pc Ls (.int x :: St)) := by
  subst hp
  subst hz
  obtain ⟨-, -, locs, Y, -⟩ := X
  exact G.st (fun t k => XS.i2b Y.here C.1 rfl (hb C.2.2.2.1 hd) rfl k) hr
theorem G.ae (C : Cx p s m c Z own by0 ml) (X : Sd p l e R s m args below meth c n0 T h cells slots) {x : Int32} {z : Int32} (hd : decode by0 pc = .ok (.i2c, 1)) (hp : pc + 1 = pc') (hz : x.toUInt32.toUInt16.toUInt32.toInt32 = z) (hr : OGo p e below K T (mkF m pc' Ls (.int z :: St))) : OGo p e below K T (mkF m pc Ls (.int x :: St)) := by
  subst hp
  subst hz
  obtain ⟨-, -, locs, Y, -⟩ := X
  exact G.st (fun t k => XS.i2c Y.here C.1 rfl (hb C.2.2.2.1 hd) rfl k) hr
theorem G.ad (C : Cx p s m c Z own by0 ml) (X : Sd p l e R s m args below meth c n0 T h cells slots) {x : Value} (hd : decode by0 pc = .ok (.dup, 1)) (hp : pc + 1 = pc') (hc : x.category = 1) (hr : OGo p e below K T (mkF m pc' Ls (x :: x :: St))) : OGo p e below K T (mkF m pc Ls (x :: St)) := by
  subst hp
  obtain ⟨-, -, locs, Y, -⟩ := X
  exact G.st (fun t k => XS.dup Y.here C.1 rfl (hb C.2.2.2.1 hd) rfl hc k) hr
theorem G.O (C : Cx p s m c Z own by0 ml) (X : Sd p l e R s m args below meth c n0 T h cells slots) {x : Value} (hd : decode by0 pc = .ok (.pop, 1)) (hp : pc + 1 = pc') (hc : x.category = 1) (hr : OGo p e below K T (mkF m pc' Ls (St))) : OGo p e below K T (mkF m pc Ls (x :: St)) := by
  subst hp
  obtain ⟨-, -, locs, Y, -⟩ := X
  exact G.st (fun t k => XS.pop Y.here C.1 rfl (hb C.2.2.2.1 hd) rfl hc k) hr
theorem G.r (C : Cx p s m c Z own by0 ml) (X : Sd p l e R s m args below meth c n0 T h cells slots)  {o : Int} (hd : decode by0 pc = .ok (.goto o, 3))  (ho : 0 ≤ (pc : Int) + o) (hp : ((pc : Int) + o).toNat = pc') (hr : OGo p e below K T (mkF m pc' Ls (St))) : OGo p e below K T (mkF m pc Ls (St)) := by
  obtain ⟨-, -, locs, Y, -⟩ := X
  exact G.st (fun t k => XS.goto Y.here C.1 rfl (pc0 := pc) rfl (hb C.2.2.2.1 hd)  ho hp k) hr
theorem G.M (C : Cx p s m c Z own by0 ml) (X : Sd p l e R s m args below meth c n0 T h cells slots) {cd : ClassFile.Cond} {x : Int32} {o : Int} (hd : decode by0 pc = .ok (.ifCond cd o, 3)) (hc : if_icmp.holds cd x 0 = true) (ho : 0 ≤ (pc : Int) + o) (hp : ((pc : Int) + o).toNat = pc') (hr : OGo p e below K T (mkF m pc' Ls (St))) : OGo p e below K T (mkF m pc Ls (.int x :: St)) := by
  obtain ⟨-, -, locs, Y, -⟩ := X
  exact G.st (fun t k => XS.ifYes Y.here C.1 rfl (pc0 := pc) rfl (hb C.2.2.2.1 hd) rfl ((if0 _ _).trans hc) ho hp k) hr
theorem G.q (C : Cx p s m c Z own by0 ml) (X : Sd p l e R s m args below meth c n0 T h cells slots) {cd : ClassFile.Cond} {x : Int32} {o : Int} (hd : decode by0 pc = .ok (.ifCond cd o, 3)) (hp : pc + 3 = pc') (hc : if_icmp.holds cd x 0 = false) (hr : OGo p e below K T (mkF m pc' Ls (St))) : OGo p e below K T (mkF m pc Ls (.int x :: St)) := by
  subst hp
  obtain ⟨-, -, locs, Y, -⟩ := X
  exact G.st (fun t k => XS.ifNo Y.here C.1 rfl (hb C.2.2.2.1 hd) rfl ((if0 _ _).trans hc) k) hr
theorem G.j (C : Cx p s m c Z own by0 ml) (X : Sd p l e R s m args below meth c n0 T h cells slots) {cd : ClassFile.Cond} {x y : Int32} {o : Int} (hd : decode by0 pc = .ok (.if_icmp cd o, 3)) (hc : if_icmp.holds cd x y = true) (ho : 0 ≤ (pc : Int) + o) (hp : ((pc : Int) + o).toNat = pc') (hr : OGo p e below K T (mkF m pc' Ls (St))) : OGo p e below K T (mkF m pc Ls (.int y :: .int x :: St)) := by
  obtain ⟨-, -, locs, Y, -⟩ := X
  exact G.st (fun t k => XS.icmpYes Y.here C.1 rfl (pc0 := pc) rfl (hb C.2.2.2.1 hd) rfl hc ho hp k) hr
theorem G.k (C : Cx p s m c Z own by0 ml) (X : Sd p l e R s m args below meth c n0 T h cells slots) {cd : ClassFile.Cond} {x y : Int32} {o : Int} (hd : decode by0 pc = .ok (.if_icmp cd o, 3)) (hp : pc + 3 = pc') (hc : if_icmp.holds cd x y = false) (hr : OGo p e below K T (mkF m pc' Ls (St))) : OGo p e below K T (mkF m pc Ls (.int y :: .int x :: St)) := by
  subst hp
  obtain ⟨-, -, locs, Y, -⟩ := X
  exact G.st (fun t k => XS.icmpNo Y.here C.1 rfl (hb C.2.2.2.1 hd) rfl hc k) hr
theorem G.aE (C : Cx p s m c Z own by0 ml) (X : Sd p l e R s m args below meth c n0 T h cells slots)  {o : Int} (hd : decode by0 pc = .ok (.ifnull o, 3))  (ho : 0 ≤ (pc : Int) + o) (hp : ((pc : Int) + o).toNat = pc') (hr : OGo p e below K T (mkF m pc' Ls (St))) : OGo p e below K T (mkF m pc Ls (.null :: St)) := by
  obtain ⟨-, -, locs, Y, -⟩ := X
  exact G.st (fun t k => XS.ifnullYes Y.here C.1 rfl (pc0 := pc) rfl (hb C.2.2.2.1 hd) rfl ho hp k) hr
theorem G.at (C : Cx p s m c Z own by0 ml) (X : Sd p l e R s m args below meth c n0 T h cells slots) {b : Addr} {o : Int} (hd : decode by0 pc = .ok (.ifnonnull o, 3))  (ho : 0 ≤ (pc : Int) + o) (hp : ((pc : Int) + o).toNat = pc') (hr : OGo p e below K T (mkF m pc' Ls (St))) : OGo p e below K T (mkF m pc Ls (.ref b :: St)) := by
  obtain ⟨-, -, locs, Y, -⟩ := X
  exact G.st (fun t k => XS.ifnonnullYes Y.here C.1 rfl (pc0 := pc) rfl (hb C.2.2.2.1 hd) rfl ho hp k) hr
theorem G.F (C : Cx p s m c Z own by0 ml) (X : Sd p l e R s m args below meth c n0 T h cells slots) {idx : Nat} {v : Int32} (w : (Jvm.Cond.constant own idx v).before a0 Z = true) (hd : decode by0 pc = .ok (.ldc idx, 2)) (hp : pc + 2 = pc') (hr : OGo p e below K T (mkF m pc' Ls (.int v :: St))) : OGo p e below K T (mkF m pc Ls (St)) := by
  subst hp
  obtain ⟨-, -, locs, Y, -⟩ := X
  exact G.st (fun t k => Y.ldcInt C.1 C.2.2.1 (mvT C.2.1 w) (g := mkF m pc Ls St) rfl (hb C.2.2.2.1 hd) t k) hr
theorem G.aa (C : Cx p s m c Z own by0 ml) (X : Sd p l e R s m args below meth c n0 T h cells slots) {a : Addr} {k : ClassId} {ty : FieldType} {z : Int32} {vs : List Value} {dv : Value} (V : Arv Z h a k ty z vs dv) (hd : decode by0 pc = .ok (.arraylength, 1)) (hp : pc + 1 = pc') (hr : OGo p e below K T (mkF m pc' Ls (.int z :: St))) : OGo p e below K T (mkF m pc Ls (.ref a :: St)) := by
  subst hp
  obtain ⟨eT, -, locs, Y, -⟩ := X
  obtain ⟨cl, A, -, S, q, -⟩ := V
  refine G.st (fun t k => Y.arraylength C.1 (by rw [eT]; exact A.1) (State.isArrayOf_alike C.2.1.alike A.2.1) (g := mkF m pc Ls (.ref a :: St)) rfl rfl (hb C.2.2.2.1 hd) t ?_) hr
  rw [len_of S q]; exact k
theorem G.au (C : Cx p s m c Z own by0 ml) (X : Sd p l e R s m args below meth c n0 T h cells slots) {a : Addr} {k : ClassId} {z : Int32} {vs : List Value} {dv : Value} (V : Arv Z h a k .char z vs dv) {j : Int32} {v : Int32} (hd : decode by0 pc = .ok (.caload, 1)) (hp : pc + 1 = pc') (hj : ¬ j < 0 ∧ j < z) (hv : vs.getD j.toNatClampNeg dv = .int v) (hr : OGo p e below K T (mkF m pc' Ls (.int v :: St))) : OGo p e below K T (mkF m pc Ls (.int j :: .ref a :: St)) := by
  subst hp
  obtain ⟨eT, -, locs, Y, -⟩ := X
  obtain ⟨cl, A, -, S, q, H, -⟩ := V
  exact G.st (fun t k => Y.caload C.1 (by rw [eT]; exact A.1) (State.isArrayOf_alike C.2.1.alike A.2.1) A.2.2 (inb_of S hj) (Has.at H (inb_of S hj) hv) (g := mkF m pc Ls (.int j :: .ref a :: St)) rfl rfl (hb C.2.2.2.1 hd) t k) hr
theorem G.B (C : Cx p s m c Z own by0 ml) (X : Sd p l e R s m args below meth c n0 T h cells slots) {a : Addr} {k : ClassId} {z : Int32} {vs : List Value} {dv : Value} (V : Arv Z h a k .byte z vs dv) {j : Int32} {v : Int32} (hd : decode by0 pc = .ok (.baload, 1)) (hp : pc + 1 = pc') (hj : ¬ j < 0 ∧ j < z) (hv : vs.getD j.toNatClampNeg dv = .int v) (hr : OGo p e below K T (mkF m pc' Ls (.int v :: St))) : OGo p e below K T (mkF m pc Ls (.int j :: .ref a :: St)) := by
  subst hp
  obtain ⟨eT, -, locs, Y, -⟩ := X
  obtain ⟨cl, A, -, S, q, H, -⟩ := V
  exact G.st (fun t k => Y.baloadBytes C.1 (by rw [eT]; exact A.1) (State.isArrayOf_alike C.2.1.alike A.2.1) A.2.2 (inb_of S hj) (Has.at H (inb_of S hj) hv) (g := mkF m pc Ls (.int j :: .ref a :: St)) rfl rfl (hb C.2.2.2.1 hd) t k) hr
theorem G.av (C : Cx p s m c Z own by0 ml) (X : Sd p l e R s m args below meth c n0 T h cells slots) {a : Addr} {k : ClassId} {z : Int32} {vs : List Value} {dv : Value} (V : Arv Z h a k .char z vs dv) (ga : n0 ≤ a) {j : Int32} {x : Int32} {i : Nat} (hd : decode by0 pc = .ok (.castore, 1)) (hp : pc + 1 = pc') (hj : ¬ j < 0 ∧ j < z) (hi : j.toNatClampNeg = i) (hl : i < vs.length)
    (hr : ∀ T' h', Sd p l e R s m args below meth c n0 T' h' cells slots → Wr h h' a i (.int (nar .char x)) → Arv Z h' a k .char z (vs.set i (.int (nar .char x))) dv → OGo p e below K T' (mkF m pc' Ls St)) : OGo p e below K T (mkF m pc Ls (.int x :: .int j :: .ref a :: St)) := by
  subst hp hi
  obtain ⟨eT, hn, locs, Y, N⟩ := X
  obtain ⟨cl, A, q1, S, q, H, Gt⟩ := V
  obtain ⟨T', h', Y', e', W, st⟩ := stC Y C.1 C.2.1 eT A (inb_of S hj) (g := mkF m pc Ls (.int x :: .int j :: .ref a :: St)) rfl rfl (hb C.2.2.2.1 hd)
  exact G.st st (hr T' h' ⟨e', by rw [W.size]; exact hn, _, Y', Fr.snoc Y' N ga⟩ W (Arv.set A q1 S q H Gt (fits_nar_char x) W _ rfl hl))
theorem G.A (C : Cx p s m c Z own by0 ml) (X : Sd p l e R s m args below meth c n0 T h cells slots) {a : Addr} {k : ClassId} {z : Int32} {vs : List Value} {dv : Value} (V : Arv Z h a k .byte z vs dv) (ga : n0 ≤ a) {j : Int32} {x : Int32} {i : Nat} (hd : decode by0 pc = .ok (.bastore, 1)) (hp : pc + 1 = pc') (hj : ¬ j < 0 ∧ j < z) (hi : j.toNatClampNeg = i) (hl : i < vs.length)
    (hr : ∀ T' h', Sd p l e R s m args below meth c n0 T' h' cells slots → Wr h h' a i (.int (nar .byte x)) → Arv Z h' a k .byte z (vs.set i (.int (nar .byte x))) dv → OGo p e below K T' (mkF m pc' Ls St)) : OGo p e below K T (mkF m pc Ls (.int x :: .int j :: .ref a :: St)) := by
  subst hp hi
  obtain ⟨eT, hn, locs, Y, N⟩ := X
  obtain ⟨cl, A, q1, S, q, H, Gt⟩ := V
  obtain ⟨T', h', Y', e', W, st⟩ := stB Y C.1 C.2.1 eT A (inb_of S hj) (g := mkF m pc Ls (.int x :: .int j :: .ref a :: St)) rfl rfl (hb C.2.2.2.1 hd)
  exact G.st st (hr T' h' ⟨e', by rw [W.size]; exact hn, _, Y', Fr.snoc Y' N ga⟩ W (Arv.set A q1 S q H Gt (fits_nar_byte x) W _ rfl hl))
theorem G.aj (C : Cx p s m c Z own by0 ml) (X : Sd p l e R s m args below meth c n0 T h cells slots) {aty : ArrayType} {ty : FieldType} {n : Int32} {cap : Nat} {d0 : Value} (w : (Jvm.Cond.arrayClass ty).before a0 Z = true) (hty : newarray.typeOf aty = ty) (hd : decode by0 pc = .ok (.newarray aty, 2)) (hp : pc + 2 = pc') (hn : ¬ n < 0) (hcap : n.toNatClampNeg ≤ cap) (hb8 : cap * 8 ≤ 536870912) (hdv : defaultValue ty = d0) (hc' : cells + 1 = cells') (hs' : slots + cap = slots') (hc : cells' ≤ R.cells) (hl : slots' ≤ R.slots)
    (hr : ∀ T' h' a k, Sd p l e R s m args below meth c n0 T' h' cells' slots' → a = h.size → n0 ≤ a → Ext h h' → Arv Z h' a k ty n [] d0 → OGo p e below K T' (mkF m pc' Ls (.ref a :: St))) : OGo p e below K T (mkF m pc Ls (.int n :: St)) := by
  subst hp hc' hs' hty hdv
  obtain ⟨eT, hn0, locs, Y, N⟩ := X
  obtain ⟨T', h', cA, Y', e', E, A, st⟩ := newP Y C.1 C.2.1 w eT (g := mkF m pc Ls (.int n :: St)) rfl (hb C.2.2.2.1 hd) rfl hn hcap hb8 hc hl
  exact G.st st (hr T' h' _ cA ⟨e', Nat.le_trans hn0 E.1, _, Y', N⟩ rfl hn0 E (Arv.new A hn))
theorem G.az (C : Cx p s m c Z own by0 ml) (X : Sd p l e R s m args below meth c n0 T h cells slots) {aty : ArrayType} {ty : FieldType} {n : Int32} {cap : Nat} {d0 : Value} {ad : String} (w : (Jvm.Cond.arrayClass ty).before a0 Z = true) (hty : newarray.typeOf aty = ty) (had : "[" ++ ty.toString = ad) (hd : decode by0 pc = .ok (.newarray aty, 2)) (hp : pc + 2 = pc') (hn : ¬ n < 0) (hcap : n.toNatClampNeg ≤ cap) (hb8 : cap * 8 ≤ 536870912) (hdv : defaultValue ty = d0) (hc' : cells + 1 = cells') (hs' : slots + cap = slots') (hc : cells' ≤ R.cells) (hl : slots' ≤ R.slots)
    (hr : ∀ T' h' a k, Sd p l e R s m args below meth c n0 T' h' cells' slots' → a = h.size → n0 ≤ a → Ext h h' → Arv Z h' a k ty n [] d0 → Exa Z h' a ad → OGo p e below K T' (mkF m pc' Ls (.ref a :: St))) : OGo p e below K T (mkF m pc Ls (.int n :: St)) := by
  subst hp hc' hs' hty hdv
  obtain ⟨eT, hn0, locs, Y, N⟩ := X
  obtain ⟨T', h', cA, Y', e', E, A, EE, st⟩ := newPE Y C.1 C.2.1 w eT (g := mkF m pc Ls (.int n :: St)) rfl (hb C.2.2.2.1 hd) rfl hn hcap hb8 hc hl had
  exact G.st st (hr T' h' _ cA ⟨e', Nat.le_trans hn0 E.1, _, Y', N⟩ rfl hn0 E (Arv.new A hn) EE)
theorem G.ak (C : Cx p s m c Z own by0 ml) (X : Sd p l e R s m args below meth c n0 T h cells slots) {Cn : String} {idx n : Nat} (w : (Jvm.Cond.classLink own idx Cn).before a0 Z = true) (wi : (Jvm.Cond.instantiable Cn n).before a0 Z = true) (wz : (Jvm.Cond.initialized Cn).before a0 Z = true) (hd : decode by0 pc = .ok (.new idx, 3)) (hp : pc + 3 = pc') (hc' : cells + 1 = cells') (hs' : slots + n = slots') (hc : cells' ≤ R.cells) (hl : slots' ≤ R.slots)
    (hr : ∀ T' h' a, Sd p l e R s m args below meth c n0 T' h' cells' slots' → a = h.size → n0 ≤ a → Ext h h' → Exa Z h' a Cn → (∀ {O nm d : String} {ty : FieldType}, Laid Z a0 Cn O nm d → parseFieldDescriptor d = some ty → Fld Z h' a O nm d (defaultValue ty)) → Unt h' a → OGo p e below K T' (mkF m pc' Ls (.ref a :: St))) : OGo p e below K T (mkF m pc Ls (St)) := by
  subst hp hc' hs'
  obtain ⟨eT, hn0, locs, Y, N⟩ := X
  obtain ⟨T', h', Y', e', E, A, D, U, st⟩ := newO Y C.1 C.2.1 C.2.2.1 w wi wz eT (g := mkF m pc Ls St) rfl (hb C.2.2.2.1 hd) hc hl
  exact G.st st (hr T' h' _ ⟨e', Nat.le_trans hn0 E.1, _, Y', N⟩ rfl hn0 E A D U)
theorem G.v (C : Cx p s m c Z own by0 ml) (X : Sd p l e R s m args below meth c n0 T h cells slots) {R0 O n d host : String} {idx : Nat} {a : Addr} {v : Value} (w : (Jvm.Cond.fieldLink own idx R0 n d).before a0 Z = true ∨ (Jvm.Cond.fieldLinkNest own idx R0 n d host).before a0 Z = true) (via : Via Z R0 O n d) (F : Fld Z h a O n d v) (hd : decode by0 pc = .ok (.getfield idx, 3)) (hp : pc + 3 = pc')
    (hr : ∀ T', Sd p l e R s m args below meth c n0 T' h cells slots → OGo p e below K T' (mkF m pc' Ls (v :: St))) : OGo p e below K T (mkF m pc Ls (.ref a :: St)) := by
  subst hp
  obtain ⟨eT, hn0, locs, Y, N⟩ := X
  obtain ⟨T', Y', e', st⟩ := getF Y C.1 C.2.1 C.2.2.1 w via eT F (g := mkF m pc Ls (.ref a :: St)) rfl rfl (hb C.2.2.2.1 hd)
  exact G.st st (hr T' ⟨e', hn0, _, Y', N⟩)
theorem G.I (C : Cx p s m c Z own by0 ml) (X : Sd p l e R s m args below meth c n0 T h cells slots) {R0 O n d host Cn : String} {idx kk : Nat} {ty : FieldType} {a : Addr} {v old : Value} (w : (Jvm.Cond.fieldLink own idx R0 n d).before a0 Z = true ∨ (Jvm.Cond.fieldLinkNest own idx R0 n d host).before a0 Z = true) (via : Via Z R0 O n d) (F : Fld Z h a O n d old) (E : Exa Z h a Cn) (ga : n0 ≤ a)
    (L : (Jvm.Cond.lays Cn O n d).before a0 Z = true ∨ ((Jvm.Cond.laysFinal Cn O n d).before a0 Z = true ∧ own = O ∧ meth.name = "<init>")) (wi : (Jvm.Cond.instantiable Cn kk).before a0 Z = true) (hty : parseFieldDescriptor d = some ty) (hnn : narrow ty v = v) (hf : fits ty v = true) (hd : decode by0 pc = .ok (.putfield idx, 3)) (hp : pc + 3 = pc')
    (hr : ∀ T' h', Sd p l e R s m args below meth c n0 T' h' cells slots → Wr h h' a (RoadKit.slotOf Z O n d) v → Fld Z h' a O n d v → OGo p e below K T' (mkF m pc' Ls St)) : OGo p e below K T (mkF m pc Ls (v :: .ref a :: St)) := by
  subst hp
  obtain ⟨eT, hn0, locs, Y, N⟩ := X
  obtain ⟨T', h', Y', e', W, st⟩ := putF Y C.1 C.2.1 C.2.2.1 w via eT F E L wi hty hnn hf (g := mkF m pc Ls (v :: .ref a :: St)) rfl rfl (hb C.2.2.2.1 hd)
  exact G.st st (hr T' h' ⟨e', by rw [W.size]; exact hn0, _, Y', Fr.snoc Y' N ga⟩ W (F.same W))
theorem G.ao (C : Cx p s m c Z own by0 ml) (X : Sd p l e R s m args below meth c n0 T h cells slots) {R0 O n d Cn : String} {idx kk : Nat} {ty : FieldType} {a : Addr} {v v' old : Value} (w : (Jvm.Cond.fieldLink own idx R0 n d).before a0 Z = true) (via : Via Z R0 O n d) (F : Fld Z h a O n d old) (E : Exa Z h a Cn) (ga : n0 ≤ a)
    (L : (Jvm.Cond.lays Cn O n d).before a0 Z = true ∨ ((Jvm.Cond.laysFinal Cn O n d).before a0 Z = true ∧ own = O ∧ meth.name = "<init>")) (wi : (Jvm.Cond.instantiable Cn kk).before a0 Z = true) (hty : parseFieldDescriptor d = some ty) (hnn : narrow ty v = v') (hf : fits ty v' = true) (hd : decode by0 pc = .ok (.putfield idx, 3)) (hp : pc + 3 = pc')
    (hr : ∀ T' h', Sd p l e R s m args below meth c n0 T' h' cells slots → Wr h h' a (RoadKit.slotOf Z O n d) v' → Fld Z h' a O n d v' → OGo p e below K T' (mkF m pc' Ls St)) : OGo p e below K T (mkF m pc Ls (v :: .ref a :: St)) := by
  subst hp
  obtain ⟨eT, hn0, locs, Y, N⟩ := X
  obtain ⟨T', h', Y', e', W, st⟩ := putFN Y C.1 C.2.1 C.2.2.1 w via eT F E L wi hty hnn hf (g := mkF m pc Ls (v :: .ref a :: St)) rfl rfl (hb C.2.2.2.1 hd)
  exact G.st st (hr T' h' ⟨e', by rw [W.size]; exact hn0, _, Y', Fr.snoc Y' N ga⟩ W (F.same W))
theorem G.x (C : Cx p s m c Z own by0 ml) (X : Sd p l e R s m args below meth c n0 T h cells slots) {R0 O n d host : String} {idx : Nat} {v : Value} (w : (Jvm.Cond.fieldLink own idx R0 n d).before a0 Z = true ∨ (Jvm.Cond.fieldLinkNest own idx R0 n d host).before a0 Z = true) (via : Via Z R0 O n d) (F : Sta Z h O n d v) (hd : decode by0 pc = .ok (.getstatic idx, 3)) (hp : pc + 3 = pc')
    (hr : ∀ T', Sd p l e R s m args below meth c n0 T' h cells slots → OGo p e below K T' (mkF m pc' Ls (v :: St))) : OGo p e below K T (mkF m pc Ls (St)) := by
  subst hp
  obtain ⟨eT, hn0, locs, Y, N⟩ := X
  obtain ⟨T', Y', e', st⟩ := getS2 Y C.1 C.2.1 C.2.2.1 w via eT F (g := mkF m pc Ls St) rfl (hb C.2.2.2.1 hd)
  exact G.st st (hr T' ⟨e', hn0, _, Y', N⟩)
theorem G.aF (C : Cx p s m c Z own by0 ml) (X : Sd p l e R s m args below meth c n0 T h cells slots) {Kn : String} {idx : Nat} {a : Addr} (w : (Jvm.Cond.classLink own idx Kn).before a0 Z = true) (F : Ins Z h a Kn true) (hd : decode by0 pc = .ok (.checkcast idx, 3)) (hp : pc + 3 = pc')
    (hr : ∀ T', Sd p l e R s m args below meth c n0 T' h cells slots → OGo p e below K T' (mkF m pc' Ls (.ref a :: St))) : OGo p e below K T (mkF m pc Ls (.ref a :: St)) := by
  subst hp
  obtain ⟨eT, hn0, locs, Y, N⟩ := X
  obtain ⟨T', Y', e', st⟩ := castY Y C.1 C.2.1 C.2.2.1 w eT F (g := mkF m pc Ls (.ref a :: St)) rfl rfl (hb C.2.2.2.1 hd)
  exact G.st st (hr T' ⟨e', hn0, _, Y', N⟩)
theorem G.al (C : Cx p s m c Z own by0 ml) (X : Sd p l e R s m args below meth c n0 T h cells slots) {idx : Nat} {a : Addr} (w1 : (Jvm.Cond.methodLink own idx Lib.objectInit).before a0 Z = true) (w2 : (Jvm.Cond.instanceMethod Lib.objectInit).before a0 Z = true) (w3 : (Jvm.Cond.code Lib.objectInit ⟨#[0xb1]⟩ 1 none).before a0 Z = true) (hd : decode by0 pc = .ok (.invokespecial idx, 3)) (hp : pc + 3 = pc') (hsz : Ls.size = ml) (hf : 1 ≤ R.frames) (hl : (St.map fun v => v.category).sum + 12 ≤ R.locals)
    (hr : ∀ T', Sd p l e R s m args below meth c n0 T' h cells slots → OGo p e below K T' (mkF m pc' Ls St)) : OGo p e below K T (mkF m pc Ls (.ref a :: St)) := by
  subst hp
  obtain ⟨eT, hn0, locs, Y, N⟩ := X
  obtain ⟨T', Y', e', st⟩ := initO Y C.1 C.2.1 C.2.2.1 w1 w2 w3 eT (g := mkF m pc Ls (.ref a :: St)) rfl (by rw [C.2.2.2.2]; exact hsz) rfl (hb C.2.2.2.1 hd) hf (W := (St.map fun v => v.category).sum) (by show 2 * 0 + _ ≤ _; omega) hl
  exact G.st st (hr T' ⟨e', hn0, _, Y', N⟩)
theorem G.ab (C : Cx p s m c Z own by0 ml) (X : Sd p l e R s m args below meth c n0 T h cells slots)  {Q : Option Value → Heap → Prop} {nc ns : Nat} (hd : decode by0 pc = .ok (.return_, 1)) (hret : meth.sig.returnType = none) (hlk : meth.locks = false) (hQ : Q (none) h) (hc : cells ≤ nc) (hs : slots ≤ ns) : OGo p e below (Kk s below n0 Q nc ns) T (mkF m pc Ls ([])) := by
  obtain ⟨eT, hn0, locs, Y, N⟩ := X
  obtain ⟨fs, hr, hrun, hended, hW, hsame⟩ := Y.leave (v := none) (fun hh => by rfl) hlk
  exact ⟨_, _, Y.returnOut C.1 hret (hb C.2.2.2.1 hd) hr, hrun, hended, _, locs, rfl, ⟨by show Q _ T.heap; rw [eT]; exact hQ, N⟩, ⟨_, rfl⟩, hW, hsame.mono hc hs⟩
theorem G.E (C : Cx p s m c Z own by0 ml) (X : Sd p l e R s m args below meth c n0 T h cells slots) {z : Int32} {rest : List Value} {Q : Option Value → Heap → Prop} {nc ns : Nat} (hd : decode by0 pc = .ok (.ireturn, 1)) (hret : meth.sig.returnType = some .int) (hlk : meth.locks = false) (hQ : Q (some (.int z)) h) (hc : cells ≤ nc) (hs : slots ≤ ns) : OGo p e below (Kk s below n0 Q nc ns) T (mkF m pc Ls (.int z :: rest)) := by
  obtain ⟨eT, hn0, locs, Y, N⟩ := X
  obtain ⟨fs, hr, hrun, hended, hW, hsame⟩ := Y.leave (v := some (.int z)) (fun hh => by rw [hret] at hh; cases hh) hlk
  exact ⟨_, _, retOut Y C.1 (i := .ireturn) hret rfl (Or.inl ⟨rfl, Or.inl rfl, _, rfl⟩) (hb C.2.2.2.1 hd) hr, hrun, hended, _, locs, rfl, ⟨by show Q _ T.heap; rw [eT]; exact hQ, N⟩, ⟨_, rfl⟩, hW, hsame.mono hc hs⟩
theorem G.U (C : Cx p s m c Z own by0 ml) (X : Sd p l e R s m args below meth c n0 T h cells slots) {z z' : Int32} {rest : List Value} {t : FieldType} {Q : Option Value → Heap → Prop} {nc ns : Nat} (hd : decode by0 pc = .ok (.ireturn, 1)) (hret : meth.sig.returnType = some t) (ht : t = .boolean ∨ t = .byte ∨ t = .char ∨ t = .short) (hz : nar t z = z') (hlk : meth.locks = false) (hQ : Q (some (.int z')) h) (hc : cells ≤ nc) (hs : slots ≤ ns) : OGo p e below (Kk s below n0 Q nc ns) T (mkF m pc Ls (.int z :: rest)) := by
  subst hz
  obtain ⟨eT, hn0, locs, Y, N⟩ := X
  obtain ⟨fs, hr, hrun, hended, hW, hsame⟩ := Y.leave (v := some (.int (nar t z))) (fun hh => by rw [hret] at hh; cases hh) hlk
  exact ⟨_, _, RoadKit.retN Y C.1 hret ht (hb C.2.2.2.1 hd) hr, hrun, hended, _, locs, rfl, ⟨by show Q _ T.heap; rw [eT]; exact hQ, N⟩, ⟨_, rfl⟩, hW, hsame.mono hc hs⟩
theorem G.J (C : Cx p s m c Z own by0 ml) (X : Sd p l e R s m args below meth c n0 T h cells slots) {z : Value} {rest : List Value} {t : FieldType} {Q : Option Value → Heap → Prop} {nc ns : Nat} (hd : decode by0 pc = .ok (.areturn, 1)) (hret : meth.sig.returnType = some t) (ht : t.isReference = true) (hz : z.isRef = true) (hlk : meth.locks = false) (hQ : Q (some z) h) (hc : cells ≤ nc) (hs : slots ≤ ns) : OGo p e below (Kk s below n0 Q nc ns) T (mkF m pc Ls (z :: rest)) := by
  obtain ⟨eT, hn0, locs, Y, N⟩ := X
  obtain ⟨fs, hr, hrun, hended, hW, hsame⟩ := Y.leave (v := some z) (fun hh => by rw [hret] at hh; cases hh) hlk
  exact ⟨_, _, retOut Y C.1 (i := .areturn) hret (by rcases ref_cases hz with rfl | ⟨b, rfl⟩ <;> cases t <;> first | rfl | cases ht) (Or.inr (Or.inr (Or.inr (Or.inr ⟨rfl, ht, hz⟩)))) (hb C.2.2.2.1 hd) hr, hrun, hended, _, locs, rfl, ⟨by show Q _ T.heap; rw [eT]; exact hQ, N⟩, ⟨_, rfl⟩, hW, hsame.mono hc hs⟩
theorem backC {y : MethodName} {cb : ByteArray} {cml : Nat} {ret : Option FieldType} {rm : Room} {as' : Array Value} {Q : Option Value → Heap → Prop} {len W : Nat} (hM : Ctr l Z y cb cml ret rm n0 as' h Q) (hZ : Z.Warmed39 s.vm) (wc : (Jvm.Cond.code y cb cml ret).before a0 Z = true) (wz : (Jvm.Cond.initialized y.cls).before a0 Z = true) (hf : rm.frames + 1 ≤ R.frames) (hl : W + (cml + 11) + rm.locals ≤ R.locals) :
    Back l R p e below s args y len W (fun A a => a = as' ∧ A.U.heap = h ∧ A.cells + rm.cells ≤ R.cells ∧ A.slots + rm.slots ≤ R.slots) (fun A _ v B => ∃ L, ((Q v B.U.heap ∧ h.size ≤ B.U.heap.size) ∧ Fr n0 L) ∧ B.locs = A.locs ++ L ∧ B.cells = A.cells + rm.cells ∧ B.slots = A.slots + rm.slots) :=
  backOf (Q := fun v h' L => (Q v h' ∧ h.size ≤ h'.size) ∧ Fr n0 L) (hM []) hZ wc wz hf hl
theorem G.o (C : Cx p s m c Z own by0 ml) (X : Sd p l e R s m args below meth c n0 T h cells slots) {y : MethodName} {cb : ByteArray} {cml : Nat} {ret : Option FieldType} {rm : Room} {as' : Array Value} {Q : Option Value → Heap → Prop} {idx : Nat}  (w1 : (Jvm.Cond.methodLink own idx y).before a0 Z = true) (w2 : (Jvm.Cond.static y).before a0 Z = true) (hy : y.cls ≠ "java/lang/invoke/MethodHandle" ∧ y.cls ≠ "java/lang/invoke/VarHandle") (w4 : (Jvm.Cond.code y cb cml ret).before a0 Z = true) (w5 : (Jvm.Cond.initialized y.cls).before a0 Z = true) (hM : Ctr l Z y cb cml ret rm n0 as' h Q) {argsL : List Value} (hlen : ∀ sig, parseMethodDescriptor y.desc = some sig → argsL.length = sig.parameters.length) (has : argsL.toArray = as') (hd : decode by0 pc = .ok (.invokestatic idx, 3)) (hp : pc + 3 = pc') (hsz : Ls.size = ml) (hf : rm.frames + 1 ≤ R.frames) (hl : (St.map fun v => v.category).sum + (cml + 11) + rm.locals ≤ R.locals) (hc' : cells + rm.cells = cells') (hs' : slots + rm.slots = slots') (hc : cells' ≤ R.cells) (hs : slots' ≤ R.slots)
    (hr : ∀ v T' h', Q v h' → Sd p l e R s m args below meth c n0 T' h' cells' slots' → h.size ≤ h'.size → OGo p e below K T' (mkF m pc' Ls (v.toList ++ St))) : OGo p e below K T (mkF m pc Ls (argsL.reverse ++ St)) := by
  subst hp hc' hs' has
  obtain ⟨eT, hn0, locs, Y, N⟩ := X
  have hK := backC (args := args) (p := p) (e := e) (below := below) (R := R) (len := 3) (W := (St.map fun v => v.category).sum) hM C.2.1 w4 w5 hf hl
  obtain ⟨v, _, ⟨B, L2, k2, n2⟩, -, Y', ⟨L, hQ, l1, y1, z1⟩, st⟩ := Jvm.LawKit.callS Y C.1 (y := y) C.2.2.1 (mvT C.2.1 w1) (mvT C.2.1 w2) (mvT C.2.1 w5) (mvT C.2.1 w4) hy hK (g := mkF m pc Ls (argsL.reverse ++ St)) rfl (by rw [C.2.2.2.2]; exact hsz) (argsL := argsL) (rest := St) hlen rfl (by show 2 * 0 + _ ≤ _; omega) (hb C.2.2.2.1 hd) (fun _ _ => ⟨rfl, eT, hc, hs⟩)
  dsimp only [Pt.U, Pt.locs, Pt.cells, Pt.slots] at Y' l1 y1 z1 st hQ
  subst l1 y1 z1
  obtain ⟨⟨hQ, hge⟩, hF⟩ := hQ
  exact G.st st (hr v B B.heap hQ ⟨rfl, Nat.le_trans hn0 hge, _, Y', N.app hF⟩ hge)
theorem G.af (C : Cx p s m c Z own by0 ml) (X : Sd p l e R s m args below meth c n0 T h cells slots) {y : MethodName} {cb : ByteArray} {cml : Nat} {ret : Option FieldType} {rm : Room} {as' : Array Value} {Q : Option Value → Heap → Prop} {idx : Nat} {a : Addr} (hy1 : y.name = "<init>") (hrn : ret = none) (w1 : (Jvm.Cond.methodLink own idx y).before a0 Z = true) (w2 : (Jvm.Cond.instanceMethod y).before a0 Z = true) (hy : y.cls ≠ "java/lang/invoke/MethodHandle" ∧ y.cls ≠ "java/lang/invoke/VarHandle") (w4 : (Jvm.Cond.code y cb cml ret).before a0 Z = true) (w5 : (Jvm.Cond.initialized y.cls).before a0 Z = true) (hM : Ctr l Z y cb cml ret rm n0 as' h Q) {argsL : List Value} (hlen : ∀ sig, parseMethodDescriptor y.desc = some sig → argsL.length = sig.parameters.length) (has : (Value.ref a :: argsL).toArray = as') (hd : decode by0 pc = .ok (.invokespecial idx, 3)) (hp : pc + 3 = pc') (hsz : Ls.size = ml) (hf : rm.frames + 1 ≤ R.frames) (hl : (St.map fun v => v.category).sum + (cml + 11) + rm.locals ≤ R.locals) (hc' : cells + rm.cells = cells') (hs' : slots + rm.slots = slots') (hc : cells' ≤ R.cells) (hs : slots' ≤ R.slots)
    (hr : ∀ v T' h', Q v h' → Sd p l e R s m args below meth c n0 T' h' cells' slots' → h.size ≤ h'.size → OGo p e below K T' (mkF m pc' Ls (v.toList ++ St))) : OGo p e below K T (mkF m pc Ls (argsL.reverse ++ Value.ref a :: St)) := by
  subst hp hc' hs' has
  obtain ⟨eT, hn0, locs, Y, N⟩ := X
  have hK := backC (args := args) (p := p) (e := e) (below := below) (R := R) (len := 3) (W := (St.map fun v => v.category).sum) hM C.2.1 w4 w5 hf hl
  obtain ⟨v, _, ⟨B, L2, k2, n2⟩, -, Y', ⟨L, hQ, l1, y1, z1⟩, st⟩ := Y.specialBack C.1 (y := y) hy1 C.2.2.1 (mvT C.2.1 w1) (mvT C.2.1 w2) (mvT C.2.1 (hrn ▸ w4)) hy hK (g := mkF m pc Ls (argsL.reverse ++ Value.ref a :: St)) rfl (by rw [C.2.2.2.2]; exact hsz) (Steps.refl _) (a := a) (argsL := argsL) (rest := St) hlen rfl (by show 2 * 0 + _ ≤ _; omega) (hb C.2.2.2.1 hd) (fun _ _ => ⟨rfl, eT, hc, hs⟩)
  dsimp only [Pt.U, Pt.locs, Pt.cells, Pt.slots] at Y' l1 y1 z1 st hQ
  subst l1 y1 z1
  obtain ⟨⟨hQ, hge⟩, hF⟩ := hQ
  exact G.tr st (hr v B B.heap hQ ⟨rfl, Nat.le_trans hn0 hge, _, Y', N.app hF⟩ hge)
theorem G.D (C : Cx p s m c Z own by0 ml) (X : Sd p l e R s m args below meth c n0 T h cells slots) {y : MethodName} {cb : ByteArray} {cml : Nat} {ret : Option FieldType} {rm : Room} {as' : Array Value} {Q : Option Value → Heap → Prop} {idx : Nat} {a : Addr} {Cn : String} (w1 : (Jvm.Cond.methodLink own idx y).before a0 Z = true) (w2 : (Jvm.Cond.declares y).before a0 Z = true) (w3 : (Jvm.Cond.selects Cn y y).before a0 Z = true) (w6 : (Jvm.Cond.instanceMethod y).before a0 Z = true) (hy : y.cls ≠ "java/lang/invoke/MethodHandle" ∧ y.cls ≠ "java/lang/invoke/VarHandle") (E : Exa Z h a Cn) (w4 : (Jvm.Cond.code y cb cml ret).before a0 Z = true) (w5 : (Jvm.Cond.initialized y.cls).before a0 Z = true) (hM : Ctr l Z y cb cml ret rm n0 as' h Q) {argsL : List Value} (hlen : ∀ sig, parseMethodDescriptor y.desc = some sig → argsL.length = sig.parameters.length) (has : (Value.ref a :: argsL).toArray = as') (hd : decode by0 pc = .ok (.invokevirtual idx, 3)) (hp : pc + 3 = pc') (hsz : Ls.size = ml) (hf : rm.frames + 1 ≤ R.frames) (hl : (St.map fun v => v.category).sum + (cml + 11) + rm.locals ≤ R.locals) (hc' : cells + rm.cells = cells') (hs' : slots + rm.slots = slots') (hc : cells' ≤ R.cells) (hs : slots' ≤ R.slots)
    (hr : ∀ v T' h', Q v h' → Sd p l e R s m args below meth c n0 T' h' cells' slots' → h.size ≤ h'.size → OGo p e below K T' (mkF m pc' Ls (v.toList ++ St))) : OGo p e below K T (mkF m pc Ls (argsL.reverse ++ Value.ref a :: St)) := by
  subst hp hc' hs' has
  obtain ⟨eT, hn0, locs, Y, N⟩ := X
  have hK := backC (args := args) (p := p) (e := e) (below := below) (R := R) (len := 3) (W := (St.map fun v => v.category).sum) hM C.2.1 w4 w5 hf hl
  obtain ⟨v, _, ⟨B, L2, k2, n2⟩, -, Y', ⟨L, hQ, l1, y1, z1⟩, st⟩ := (let ⟨_, _, q1, _, q3⟩ := isOf C.2.1 eT E; Y.virtualBack C.1 (y := y) (z := y) C.2.2.1 (mvT C.2.1 w1) (mvT C.2.1 w2) (notFace_of_selects (args := #[]) (mvT C.2.1 w3)) (mvT C.2.1 w3) (mvT C.2.1 w6) hy hK q1 q3 (g := mkF m pc Ls (argsL.reverse ++ Value.ref a :: St)) rfl (by rw [C.2.2.2.2]; exact hsz) (Steps.refl _) (argsL := argsL) (rest := St) hlen rfl (by show 2 * 0 + _ ≤ _; omega) (hb C.2.2.2.1 hd) (fun _ _ => ⟨rfl, eT, hc, hs⟩))
  dsimp only [Pt.U, Pt.locs, Pt.cells, Pt.slots] at Y' l1 y1 z1 st hQ
  subst l1 y1 z1
  obtain ⟨⟨hQ, hge⟩, hF⟩ := hQ
  exact G.tr st (hr v B B.heap hQ ⟨rfl, Nat.le_trans hn0 hge, _, Y', N.app hF⟩ hge)
theorem G.aG (C : Cx p s m c Z own by0 ml) (X : Sd p l e R s m args below meth c n0 T h cells slots) {y : MethodName} {cb : ByteArray} {cml : Nat} {ret : Option FieldType} {rm : Room} {as' : Array Value} {Q : Option Value → Heap → Prop} {idx : Nat} {yr : MethodName} {a : Addr} {Cn : String} (w1 : (Jvm.Cond.methodLink own idx yr).before a0 Z = true) (w2 : (Jvm.Cond.declares yr).before a0 Z = true) (hnf : NotFace s yr) (w3 : (Jvm.Cond.selects Cn yr y).before a0 Z = true) (w6 : (Jvm.Cond.instanceMethod y).before a0 Z = true) (hy : yr.cls ≠ "java/lang/invoke/MethodHandle" ∧ yr.cls ≠ "java/lang/invoke/VarHandle") (hds : yr.desc = y.desc) (E : Exa Z h a Cn) (w4 : (Jvm.Cond.code y cb cml ret).before a0 Z = true) (w5 : (Jvm.Cond.initialized y.cls).before a0 Z = true) (hM : Ctr l Z y cb cml ret rm n0 as' h Q) {argsL : List Value} (hlen : ∀ sig, parseMethodDescriptor y.desc = some sig → argsL.length = sig.parameters.length) (has : (Value.ref a :: argsL).toArray = as') (hd : decode by0 pc = .ok (.invokevirtual idx, 3)) (hp : pc + 3 = pc') (hsz : Ls.size = ml) (hf : rm.frames + 1 ≤ R.frames) (hl : (St.map fun v => v.category).sum + (cml + 11) + rm.locals ≤ R.locals) (hc' : cells + rm.cells = cells') (hs' : slots + rm.slots = slots') (hc : cells' ≤ R.cells) (hs : slots' ≤ R.slots)
    (hr : ∀ v T' h', Q v h' → Sd p l e R s m args below meth c n0 T' h' cells' slots' → h.size ≤ h'.size → OGo p e below K T' (mkF m pc' Ls (v.toList ++ St))) : OGo p e below K T (mkF m pc Ls (argsL.reverse ++ Value.ref a :: St)) := by
  subst hp hc' hs' has
  obtain ⟨eT, hn0, locs, Y, N⟩ := X
  have hK := backC (args := args) (p := p) (e := e) (below := below) (R := R) (len := 3) (W := (St.map fun v => v.category).sum) hM C.2.1 w4 w5 hf hl
  obtain ⟨v, _, ⟨B, L2, k2, n2⟩, -, Y', ⟨L, hQ, l1, y1, z1⟩, st⟩ := (let ⟨_, _, q1, _, q3⟩ := isOf C.2.1 eT E; Y.virtualBack C.1 (y := yr) (z := y) C.2.2.1 (mvT C.2.1 w1) (mvT C.2.1 w2) hnf (mvT C.2.1 w3) (mvT C.2.1 w6) hy hK q1 q3 (g := mkF m pc Ls (argsL.reverse ++ Value.ref a :: St)) rfl (by rw [C.2.2.2.2]; exact hsz) (Steps.refl _) (argsL := argsL) (rest := St) (hds ▸ hlen) rfl (by show 2 * 0 + _ ≤ _; omega) (hb C.2.2.2.1 hd) (fun _ _ => ⟨rfl, eT, hc, hs⟩))
  dsimp only [Pt.U, Pt.locs, Pt.cells, Pt.slots] at Y' l1 y1 z1 st hQ
  subst l1 y1 z1
  obtain ⟨⟨hQ, hge⟩, hF⟩ := hQ
  exact G.tr st (hr v B B.heap hQ ⟨rfl, Nat.le_trans hn0 hge, _, Y', N.app hF⟩ hge)
theorem G.aH (C : Cx p s m c Z own by0 ml) (X : Sd p l e R s m args below meth c n0 T h cells slots) {ad : String} {idx : Nat} {a : Addr} {k : ClassId} {ty : FieldType} {z : Int32} {vs : List Value} {dv : Value} {cap : Nat} (w1 : (Jvm.Cond.methodLink own idx ⟨ad, "clone", "()Ljava/lang/Object;"⟩).before a0 Z = true) (w2 : (Jvm.Cond.sameMethod ad "java/lang/Object" "clone" "()Ljava/lang/Object;").before a0 Z = true) (w3 : (Jvm.Cond.native ⟨"java/lang/Object", "clone", "()Ljava/lang/Object;"⟩).before a0 Z = true)
    (w4 : (Jvm.Cond.instanceMethod ⟨"java/lang/Object", "clone", "()Ljava/lang/Object;"⟩).before a0 Z = true) (w5 : (Jvm.Cond.selects ad ⟨ad, "clone", "()Ljava/lang/Object;"⟩ ⟨"java/lang/Object", "clone", "()Ljava/lang/Object;"⟩).before a0 Z = true) (w6 : (Jvm.Cond.castable ad "java/lang/Cloneable").before a0 Z = true) (V : Arv Z h a k ty z vs dv) (E : Exa Z h a ad)
    (hd : decode by0 pc = .ok (.invokevirtual idx, 3)) (hp : pc + 3 = pc') (hsz : Ls.size = ml) (hf : 1 ≤ R.frames) (hl : (St.map fun v => v.category).sum + 14 ≤ R.locals) (hcap : z.toNatClampNeg ≤ cap) (hc' : cells + 1 = cells') (hs' : slots + cap = slots') (hc : cells' ≤ R.cells) (hs : slots' ≤ R.slots)
    (hr : ∀ T' h' b, Sd p l e R s m args below meth c n0 T' h' cells' slots' → b = h.size → n0 ≤ b → Ext h h' → Arv Z h' b k ty z vs dv → Exa Z h' b ad → OGo p e below K T' (mkF m pc' Ls (.ref b :: St))) : OGo p e below K T (mkF m pc Ls (.ref a :: St)) := by
  subst hp hc' hs'
  obtain ⟨eT, hn0, locs, Y, N⟩ := X
  obtain ⟨T', h', Y', e', Ex, A, EE, st⟩ := cloneH Y C.1 C.2.1 C.2.2.1 w1 w2 w3 w4 w5 w6 eT (Arv.arh V) E (g := mkF m pc Ls (.ref a :: St)) rfl (by rw [C.2.2.2.2]; exact hsz) rfl (hb C.2.2.2.1 hd) hf (W := (St.map fun v => v.category).sum) (by show 2 * 0 + _ ≤ _; omega) hl hcap hc hs
  exact G.st st (hr T' h' _ ⟨e', Nat.le_trans hn0 Ex.1, _, Y', N⟩ rfl hn0 Ex A EE)
theorem sameM {y yw : MethodName} {Cn : String} (w3 : (Jvm.Cond.instanceMethod y).before a0 Z = true) (ws : (Jvm.Cond.selects Cn yw yw).before a0 Z = true) (hc : yw.cls = y.cls) (hy : y.cls ≠ "java/lang/invoke/MethodHandle" ∧ y.cls ≠ "java/lang/invoke/VarHandle") : (Jvm.Cond.sameMethod y.cls y.cls y.name y.desc).before a0 Z = true := by
  obtain ⟨mk, methM, hnamed, -, -, -⟩ := Cond.instanceMethod_spec w3
  have hf := State.methodFound?_of_named hnamed hy
  have hcn := findClass_of_methodNamed hnamed
  obtain ⟨c2, r2, m2, q1, q2, q3, q4, kP, hkP, hkPi⟩ := Cond.selects_spec ws
  have h2 := findClass_of_methodNamed q3
  rw [hc] at h2
  have e : mk.cls = m2.cls := Option.some.inj (hcn.symm.trans h2)
  have hn' : Z.methodNamed? ⟨y.cls, y.name, y.desc⟩ = some mk := hnamed
  simp [Cond.before, Cond.holds, Cond.value, hcn, hf, hn', e, hkP, hkPi]
theorem G.aw (C : Cx p s m c Z own by0 ml) (X : Sd p l e R s m args below meth c n0 T h cells slots) {y : MethodName} {cb : ByteArray} {cml : Nat} {ret : Option FieldType} {rm : Room} {as' : Array Value} {Q : Option Value → Heap → Prop} {idx : Nat} {a : Addr} {Kn Cn : String} {yw : MethodName} (w1 : (Jvm.Cond.methodLink own idx y).before a0 Z = true) (w2 : (Jvm.Cond.instanceMethod y).before a0 Z = true) (ws : (Jvm.Cond.selects Cn yw yw).before a0 Z = true) (hcl : yw.cls = y.cls) (wsup : (Jvm.Cond.superclass own y.cls).before a0 Z = true) (hn : y.name ≠ "<init>") (hy : y.cls ≠ "java/lang/invoke/MethodHandle" ∧ y.cls ≠ "java/lang/invoke/VarHandle") (F : Ins Z h a Kn true) (w4 : (Jvm.Cond.code y cb cml ret).before a0 Z = true) (w5 : (Jvm.Cond.initialized y.cls).before a0 Z = true) (hM : Ctr l Z y cb cml ret rm n0 as' h Q) {argsL : List Value} (hlen : ∀ sig, parseMethodDescriptor y.desc = some sig → argsL.length = sig.parameters.length) (has : (Value.ref a :: argsL).toArray = as') (hd : decode by0 pc = .ok (.invokespecial idx, 3)) (hp : pc + 3 = pc') (hsz : Ls.size = ml) (hf : rm.frames + 1 ≤ R.frames) (hl : (St.map fun v => v.category).sum + (cml + 11) + rm.locals ≤ R.locals) (hc' : cells + rm.cells = cells') (hs' : slots + rm.slots = slots') (hc : cells' ≤ R.cells) (hs : slots' ≤ R.slots)
    (hr : ∀ v T' h', Q v h' → Sd p l e R s m args below meth c n0 T' h' cells' slots' → h.size ≤ h'.size → OGo p e below K T' (mkF m pc' Ls (v.toList ++ St))) : OGo p e below K T (mkF m pc Ls (argsL.reverse ++ Value.ref a :: St)) := by
  subst hp hc' hs' has
  obtain ⟨eT, hn0, locs, Y, N⟩ := X
  have hK := backC (args := args) (p := p) (e := e) (below := below) (R := R) (len := 3) (W := (St.map fun v => v.category).sum) hM C.2.1 w4 w5 hf hl
  obtain ⟨v, _, ⟨B, L2, k2, n2⟩, -, Y', ⟨L, hQ, l1, y1, z1⟩, st⟩ := superBack Y C.1 C.2.1 C.2.2.1 w1 (sameM w2 ws hcl hy) w2 wsup hn hK eT F (g := mkF m pc Ls (argsL.reverse ++ Value.ref a :: St)) rfl (by rw [C.2.2.2.2]; exact hsz) w4 (argsL := argsL) (rest := St) hlen rfl (by show 2 * 0 + _ ≤ _; omega) (hb C.2.2.2.1 hd) (fun _ _ => ⟨rfl, eT, hc, hs⟩)
  dsimp only [Pt.U, Pt.locs, Pt.cells, Pt.slots] at Y' l1 y1 z1 st hQ
  subst l1 y1 z1
  obtain ⟨⟨hQ, hge⟩, hF⟩ := hQ
  exact G.tr st (hr v B B.heap hQ ⟨rfl, Nat.le_trans hn0 hge, _, Y', N.app hF⟩ hge)
theorem priv_selects2 {y yw : MethodName} {Cn : String} (hZ : Z.Warmed39 s.vm) (w2 : (Jvm.Cond.instanceMethod y).before a0 Z = true) (w3 : (Jvm.Cond.privateMethod y).before a0 Z = true) (ws : (Jvm.Cond.selects Cn yw yw).before a0 Z = true) (hcl : yw.cls = y.cls) (hy : y.cls ≠ "java/lang/invoke/MethodHandle" ∧ y.cls ≠ "java/lang/invoke/VarHandle") : (Jvm.Cond.selects y.cls y y).before args s = true := by
  obtain ⟨c2, r2, m2, q1, q2, q3, q4, kP, hkP, hkPi⟩ := Cond.selects_spec (show (Jvm.Cond.selects Cn yw yw).before args s = true from mvT hZ ws)
  have h2 := findClass_of_methodNamed q3
  rw [hcl] at h2
  exact selects_self_of_private h2 hkP hkPi (Cond.privateMethod_at (mvP hZ w3 (args := #[]))) (mvT hZ w2) hy
theorem G.N (C : Cx p s m c Z own by0 ml) (X : Sd p l e R s m args below meth c n0 T h cells slots) {y : MethodName} {cb : ByteArray} {cml : Nat} {ret : Option FieldType} {rm : Room} {as' : Array Value} {Q : Option Value → Heap → Prop} {idx : Nat} {a : Addr} {Cn Dn : String} {yw : MethodName} (w1 : (Jvm.Cond.methodLink own idx y).before a0 Z = true) (w2 : (Jvm.Cond.instanceMethod y).before a0 Z = true) (w3 : (Jvm.Cond.privateMethod y).before a0 Z = true) (ws : (Jvm.Cond.selects Dn yw yw).before a0 Z = true) (hcl : yw.cls = y.cls) (hy : y.cls ≠ "java/lang/invoke/MethodHandle" ∧ y.cls ≠ "java/lang/invoke/VarHandle") (E : Exa Z h a Cn) (w4 : (Jvm.Cond.code y cb cml ret).before a0 Z = true) (w5 : (Jvm.Cond.initialized y.cls).before a0 Z = true) (hM : Ctr l Z y cb cml ret rm n0 as' h Q) {argsL : List Value} (hlen : ∀ sig, parseMethodDescriptor y.desc = some sig → argsL.length = sig.parameters.length) (has : (Value.ref a :: argsL).toArray = as') (hd : decode by0 pc = .ok (.invokevirtual idx, 3)) (hp : pc + 3 = pc') (hsz : Ls.size = ml) (hf : rm.frames + 1 ≤ R.frames) (hl : (St.map fun v => v.category).sum + (cml + 11) + rm.locals ≤ R.locals) (hc' : cells + rm.cells = cells') (hs' : slots + rm.slots = slots') (hc : cells' ≤ R.cells) (hs : slots' ≤ R.slots)
    (hr : ∀ v T' h', Q v h' → Sd p l e R s m args below meth c n0 T' h' cells' slots' → h.size ≤ h'.size → OGo p e below K T' (mkF m pc' Ls (v.toList ++ St))) : OGo p e below K T (mkF m pc Ls (argsL.reverse ++ Value.ref a :: St)) := by
  subst hp hc' hs' has
  obtain ⟨eT, hn0, locs, Y, N⟩ := X
  have hK := backC (args := args) (p := p) (e := e) (below := below) (R := R) (len := 3) (W := (St.map fun v => v.category).sum) hM C.2.1 w4 w5 hf hl
  obtain ⟨v, _, ⟨B, L2, k2, n2⟩, -, Y', ⟨L, hQ, l1, y1, z1⟩, st⟩ := (let ⟨_, q1, q2⟩ := E.cell; Y.privateBack C.1 (y := y) C.2.2.1 (mvT C.2.1 w1) (mvT C.2.1 w2) (priv_selects2 C.2.1 w2 w3 ws hcl hy) (Cond.privateMethod_at (mvP C.2.1 w3 (args := #[]))) (mvT C.2.1 w4) hy hK (g := mkF m pc Ls (argsL.reverse ++ Value.ref a :: St)) rfl (by rw [C.2.2.2.2]; exact hsz) (Steps.refl _) (a := a) (by rw [eT]; exact q1) q2 (argsL := argsL) (rest := St) hlen rfl (by show 2 * 0 + _ ≤ _; omega) (hb C.2.2.2.1 hd) (fun _ _ => ⟨rfl, eT, hc, hs⟩))
  dsimp only [Pt.U, Pt.locs, Pt.cells, Pt.slots] at Y' l1 y1 z1 st hQ
  subst l1 y1 z1
  obtain ⟨⟨hQ, hge⟩, hF⟩ := hQ
  exact G.tr st (hr v B B.heap hQ ⟨rfl, Nat.le_trans hn0 hge, _, Y', N.app hF⟩ hge)
theorem notface_of {y yw : MethodName} {Cn : String} (hZ : Z.Warmed39 s.vm) (ws : (Jvm.Cond.selects Cn yw yw).before a0 Z = true) (hcl : yw.cls = y.cls) : NotFace s y := fun r0 h0 => by
  obtain ⟨c2, r2, m2, q1, q2, q3, q4, kP, hkP, hkPi⟩ := Cond.selects_spec (show (Jvm.Cond.selects Cn yw yw).before (#[] : Array Value) s = true from mvT hZ ws)
  have h2 := findClass_of_methodNamed q3
  have h1 := findClass_of_methodNamed h0
  rw [hcl] at h2
  have e : r0.cls = m2.cls := Option.some.inj (h1.symm.trans h2)
  exact ⟨kP, by rw [e]; exact hkP, hkPi⟩
theorem G.ax (C : Cx p s m c Z own by0 ml) (X : Sd p l e R s m args below meth c n0 T h cells slots) {idx : Nat} {a b : Addr} {k k' : ClassId} {ty : FieldType} {z z' sp dp nn : Int32} {vs vd us vr : List Value} {dv dd : Value} (w1 : (Jvm.Cond.methodLink own idx Jvm.Stand.acN).before a0 Z = true) (w2 : (Jvm.Cond.native Jvm.Stand.acN).before a0 Z = true) (w3 : (Jvm.Cond.static Jvm.Stand.acN).before a0 Z = true) (w4 : (Jvm.Cond.initialized "java/lang/System").before a0 Z = true)
    (A : Arv Z h a k ty z vs dv) (B : Arv Z h b k' ty z' vd dd) (hp : refKind ty = false) (h1 : ¬ sp < 0) (h2 : ¬ dp < 0) (h3 : ¬ nn < 0) (h4 : sp.toNatClampNeg + nn.toNatClampNeg ≤ z.toNatClampNeg) (h5 : dp.toNatClampNeg + nn.toNatClampNeg ≤ z'.toNatClampNeg)
    (hus : us = (List.range nn.toNatClampNeg).map fun i => vs.getD (sp.toNatClampNeg + i) dv) (hl : dp.toNatClampNeg + nn.toNatClampNeg ≤ vd.length) (hv : vd.take dp.toNatClampNeg ++ us ++ vd.drop (dp.toNatClampNeg + nn.toNatClampNeg) = vr) (ga : n0 ≤ b) (hd : decode by0 pc = .ok (.invokestatic idx, 3)) (hpc : pc + 3 = pc') (hsz : Ls.size = ml) (hf : 1 ≤ R.frames) (hlo : (St.map fun v => v.category).sum + 18 ≤ R.locals)
    (hr : ∀ T' h', Sd p l e R s m args below meth c n0 T' h' cells slots → Keep h h' [b] → Arv Z h' b k' ty z' vr dd → OGo p e below K T' (mkF m pc' Ls St)) : OGo p e below K T (mkF m pc Ls (.int nn :: .int dp :: .ref b :: .int sp :: .ref a :: St)) := by
  subst hpc hv
  obtain ⟨eT, hn0, locs, Y, N⟩ := X
  obtain ⟨T', h', L, Y', e', N', Kp, V, st⟩ := cpA Y C.1 C.2.1 C.2.2.1 w1 w2 w3 w4 eT A B (Or.inl ⟨rfl, hp⟩) h1 h2 h3 h4 h5 hus hl N ga (g := mkF m pc Ls (.int nn :: .int dp :: .ref b :: .int sp :: .ref a :: St)) rfl (by rw [C.2.2.2.2]; exact hsz) rfl (hb C.2.2.2.1 hd) hf (W := (St.map fun v => v.category).sum) (by show 2 * 0 + _ ≤ _; omega) (by show _ + (7 + 11) ≤ _; omega)
  exact G.st st (hr T' h' ⟨e', Nat.le_trans hn0 Kp.1, _, Y', N'⟩ Kp V)
end OwnGo
end Jvm.Pilot.@@N@@
namespace Jvm.Pilot.@@N@@
open Jvm Jvm.ClassFile Sem Op Lib Jvm.Free Jvm.Stand Jvm.LawKit Jvm.RoadKit Bundle Jvm.Pilot.@@N@@.Jvm.D
section OwnCold
variable {p : Program} {l : Launch} {e : Env} {R : Room} {s : State} {m : MethodId} {args : Array Value} {below : List Frame} {meth : Method} {c : Code} {T : State} {n0 cells slots cells' slots' : Nat} {Z : State} {a0 : Array Value} {h h' h0 : Heap} {K : State → Outcome → Prop} {pc : Nat} (pc' : Nat) {Ls : Array Slot} {St : List Value} {own : String} {by0 : ByteArray} {ml : Nat} {EL : List (String × Nat)} {vm : Vm}
/-- from the body's start (tables s.vm, heap h0) to the tables vm and the heap h at hand -/
def Hd (Z : State) (EL : List (String × Nat)) (s : State) (vm : Vm) (h0 h : Heap) : Prop := ∃ k0, s.Since vm k0 ∧ k0 ≤ h.size ∧ CHr Z EL s.vm h0 vm h
theorem Hd.cv (H : Hd Z EL s vm h0 h) : CHv Z EL vm h := by obtain ⟨_, -, -, A⟩ := H; exact A.1
theorem Hd.to (H : Hd Z EL s vm h0 h) (A : CHr Z EL vm h vm h') : Hd Z EL s vm h0 h' := by obtain ⟨k0, h1, h2, B⟩ := H; exact ⟨k0, h1, Nat.le_trans h2 A.2.1, B.trans A⟩
theorem Hd.ext (H : Hd Z EL s vm h0 h) (E : Ext h h') : Hd Z EL s vm h0 h' := H.to (CHr.ext E H.cv)
theorem Hd.wr (H : Hd Z EL s vm h0 h) {a : Addr} {sl : Nat} {v : Value} (W : Wr h h' a sl v) (S : Safe Z EL vm h a) : Hd Z EL s vm h0 h' := H.to (CHr.wr W S H.cv)
theorem Hd.keep (H : Hd Z EL s vm h0 h) {ws : List Addr} (K : Keep h h' ws) (hs : ∀ x ∈ ws, Safe Z EL vm h x) : Hd Z EL s vm h0 h' := H.to (CHr.keep K hs H.cv)
theorem Hd.start (H : CHv Z EL s.vm h) : Hd Z EL s s.vm h h := ⟨0, (State.WarmedH.refl s).since 0, Nat.zero_le _, CHr.refl H⟩
theorem safe_arv {a : Addr} {k : ClassId} {ty : FieldType} {z : Int32} {vs : List Value} {d : Value} (hal : Z.vm.Alike vm) (V : Arv Z h a k ty z vs d) (ht : ty ≠ .byte) : Safe Z EL vm h a := by obtain ⟨c, A, -⟩ := V; exact Safe.arr hal A ht
theorem sfS {P : Addr → Prop} {a : Addr} {l : List Addr} (h : P a) (g : ∀ x ∈ l, P x) : ∀ x ∈ a :: l, P x := fun x hx => (List.mem_cons.mp hx).elim (fun e => e ▸ h) (g x)
/-- what a body that may load constants owes at its end -/
def Kw (Z : State) (EL : List (String × Nat)) (s : State) (below : List Frame) (n0 : Nat) (h0 : Heap) (Q : Option Value → Heap → (Addr → Prop) → Prop) (nc ns : Nat) : State → Outcome → Prop := fun t o => t.status = .running ∧ Ended t below o ∧ ∃ v L, o = .returned v ∧ (Q v t.heap (fun x => Safe Z EL t.vm t.heap x) ∧ Fr n0 L) ∧ CHr Z EL s.vm h0 t.vm t.heap ∧ ReturnedEndW s o t L nc ns
def CtrW (l : Launch) (Z : State) (EL : List (String × Nat)) (sf : List Addr) (y : MethodName) (by0 : ByteArray) (ml : Nat) (ret : Option FieldType) (rm : Room) (n0 : Nat) (as' : Array Value) (h : Heap) (Q : Option Value → Heap → (Addr → Prop) → Prop) : Prop :=
  ∀ ws, MetFree l y (head1 (Jvm.Cond.code y by0 ml ret :: ws) rm) (fun a U => a = as' ∧ Z.Warmed39 U.vm ∧ U.heap = h ∧ CHv Z EL U.vm h ∧ ∀ x ∈ sf, Safe Z EL U.vm h x) (fun _ _ _ _ _ => True) (fun _ U o U' => ∃ v L, o = .returned v ∧ ((Q v U'.heap (fun x => Safe Z EL U'.vm U'.heap x) ∧ h.size ≤ U'.heap.size) ∧ Fr n0 L) ∧ CHr Z EL U.vm U.heap U'.vm U'.heap ∧ ReturnedEndW U o U' L rm.cells rm.slots)
theorem CtrW.of {sf : List Addr} {y : MethodName} {ret : Option FieldType} {rm : Room} {as' : Array Value} {Q : Option Value → Heap → (Addr → Prop) → Prop} (hpl : plainFor y = true) (hn : n0 ≤ h.size)
    (body : ∀ p e s m below meth c T, Cx p (s.setVm s.vm) m c Z y.cls by0 ml → meth.name = y.name → meth.sig.returnType = ret → meth.locks = false → Sd p l e rm (s.setVm s.vm) m as' below meth c n0 T h 0 0 → Hd Z EL s s.vm h h → (∀ x ∈ sf, Safe Z EL s.vm h x) → OGo p e below (Kw Z EL s below n0 h Q rm.cells rm.slots) T (entryFrame m as' ml)) :
 CtrW l Z EL sf y by0 ml ret rm n0 as' h Q := by
 intro ws
 refine MetFree.of_bodySF hpl hisR ?_
 intro p e s m args below meth c s₁ Bd hml0 hP hK
 obtain ⟨rfl, hZ, hh, hC, hSf⟩ := hP
 have hown : s.vm.findClass y.cls = some m.cls := findClass_of_methodNamed Bd.named
 have hnm := (name_of_methodNamed Bd.named Bd.method).1
 have X0 := Stand.of_body Bd
 have e0 : s₁.heap = h := by rw [← hh, Bd.state]; rfl
 obtain ⟨t, o, h1, h2, h3, v, L, h4, ⟨h5, h6⟩, h8, h7⟩ := body p e s m below meth c s₁ ⟨Bd.exec, hZ, hown, Bd.bytes, hml0⟩ hnm Bd.returns (BodyLoose.notSynchronized Bd) ⟨e0, hn, [], X0, Fr.nil n0⟩ (Hd.start hC) hSf
 exact ⟨t, o, h1, h2, h3, v, L, h4, ⟨⟨h5, h8.2.1⟩, h6⟩, by rw [hh]; exact h8, h7⟩
/-- RoadKit.backOfSH, for a callee that is also told of cells that it may write -/
theorem backOfSP {sf : List Addr} {y : MethodName} {bytes : ByteArray} {maxL : Nat} {ret : Option FieldType} {rm : Room} {len W : Nat} {as' : Array Value} {Q : Option Value → Heap → Vm → List Loc → Prop} {vm0 : Vm}
    (hM : MetFree l y (head1 [Jvm.Cond.code y bytes maxL ret] rm) (fun a U => a = as' ∧ Z.Warmed39 U.vm ∧ U.heap = h ∧ CHv Z EL U.vm h ∧ ∀ x ∈ sf, Safe Z EL U.vm h x) (fun _ _ _ _ _ => True) (fun _ U o U' => ∃ v L, o = .returned v ∧ Q v U'.heap U'.vm L ∧ CHr Z EL U.vm U.heap U'.vm U'.heap ∧ ReturnedEndW U o U' L rm.cells rm.slots))
    (hZ : Z.Warmed39 vm0) (wc : (Jvm.Cond.code y bytes maxL ret).before a0 Z = true) (wz : (Jvm.Cond.initialized y.cls).before a0 Z = true) (hf : rm.frames + 1 ≤ R.frames) (hl : W + (maxL + 11) + rm.locals ≤ R.locals) (hEL : EW Z a0 EL) (H : CHv Z EL vm0 h) (hS : ∀ x ∈ sf, x < h.size ∧ Safe Z EL vm0 h x) :
    BackS l R p e below (s.setVm vm0) args y len W (fun A a => a = as' ∧ A.U.heap = h ∧ A.cells + rm.cells ≤ R.cells ∧ A.slots + rm.slots ≤ R.slots)
      (fun A _ v B => ∃ L, Q v B.U.heap B.U.vm L ∧ B.locs = A.locs ++ L ∧ B.cells = A.cells + rm.cells ∧ B.slots = A.slots + rm.slots ∧ CHr Z EL vm0 h B.U.vm B.U.heap) :=
  BackS.of_freeW (bytes := bytes) (maxL := maxL) (ret := ret) (E := fun _ first o t L k n => k = rm.cells ∧ n = rm.slots ∧ (∃ v, o = .returned v ∧ Q v t.heap t.vm L) ∧ CHr Z EL first.vm first.heap t.vm t.heap) hM hf hl
    (fun m meth c A a Y hp => have hU : Z.Warmed39 A.U.vm := wtrans (s := s.setVm vm0) hZ Y.warmed
      ⟨by show (Jvm.Cond.and _ .tt).before a A.U = true; rw [Cond.before_and, mv hU wc]; rfl, mv hU wc, mv hU wz, hp.2.2.1, hp.2.2.2⟩)
    (fun m meth c A a g mk Y hp => ⟨hp.1, wtrans (s := s.setVm vm0) hZ Y.warmed, hp.2.1, (CHv.at Y hZ hEL H).1, fun x hx => (CHv.at Y hZ hEL H).safe (hS x hx).1 (hS x hx).2⟩) (fun _ _ _ _ _ _ _ _ _ => trivial)
    (fun _ _ _ _ ⟨v, L, h1, h2, h3, h4⟩ => ⟨L, _, _, h4, rfl, rfl, ⟨v, h1, h2⟩, h3⟩)
    (fun m meth c A a g mk v t L k n Y hp _ _ ⟨e1, e2, ⟨v', e3, e4⟩, e5⟩ => by
      cases e3; subst e1 e2
      refine ⟨L, e4, rfl, rfl, rfl, (CHv.at Y hZ hEL H).trans ?_⟩
      rw [← hp.2.1]; exact e5)
/-- a String constant, read -/
theorem G.ap (C : Cx p (s.setVm vm) m c Z own by0 ml) (X : Sd p l e R (s.setVm vm) m args below meth c n0 T h cells slots) (hEL : EW Z a0 EL) (H : Hd Z EL s vm h0 h) {idx : Nat} {text : String} (w : (Jvm.Cond.stringLink own idx text).before a0 Z = true) (wS : ∀ a ∈ Bundle.stringAtoms, a.before a0 Z = true) (hmem : (own, idx) ∈ EL)
    {vs : List Value} {z : Int32} (ht : (∀ c ∈ text.toList, c.toNat < 256) ∧ text.toList.map (fun c => Value.int (Jvm.Lit.byteI c.toNat.toUInt16)) = vs) (hz : ¬ z < 0) (hl : z.toNatClampNeg = vs.length) (hd : decode by0 pc = .ok (.ldc idx, 2)) (hp : pc + 2 = pc') {n : Nat} (hn : 4 * text.toList.length ≤ n) (hbig : n ≤ 536870912) (hc' : cells + 2 = cells') (hs' : slots + (n + 4) = slots') (hc : cells' ≤ R.cells) (hs : slots' ≤ R.slots)
    (hr : ∀ (vm' : Vm) T' h' a b k, Cx p (s.setVm vm') m c Z own by0 ml → Sd p l e R (s.setVm vm') m args below meth c n0 T' h' cells' slots' → Hd Z EL s vm' h0 h' → Ext h h' → CHr Z EL vm h vm' h' → Exa Z h' a "java/lang/String" → Fld Z h' a "java/lang/String" "coder" "B" (.int 0) → Fld Z h' a "java/lang/String" "value" "[B" (.ref b) → Arv Z h' b k .byte z vs (.int 0) → (∀ x, Safe Z EL vm' h' x → x ≠ a ∧ x ≠ b) → OGo p e below K T' (mkF m pc' Ls (.ref a :: St))) : OGo p e below K T (mkF m pc Ls St) := by
  subst hp hc' hs'
  obtain ⟨eT, hn0, locs, Y, N⟩ := X
  obtain ⟨k0, hS, hk, A⟩ := H
  obtain ⟨a, T', h', k1, b, k, Y', e', E, hS', hk', hZ', hf', x1, x2, x3, x4, -, -, B, -, sf, st⟩ := ldcCH Y C.1 C.2.1 C.2.2.1 w wS eT hS hk hEL hmem A.1 ht hz hl (g := mkF m pc Ls St) rfl (hb C.2.2.2.1 hd) hn hbig hc hs
  exact G.st st (hr T'.vm T' h' a b k ⟨C.1, hZ', hf', C.2.2.2⟩ ⟨e', Nat.le_trans hn0 E.1, _, Y', N⟩ ⟨k1, hS', hk', A.trans B⟩ E B x1 x2 x3 x4 sf)
theorem G.aA (C : Cx p (s.setVm vm) m c Z own by0 ml) (X : Sd p l e R (s.setVm vm) m args below meth c n0 T h cells slots) (hEL : EW Z a0 EL) (H : Hd Z EL s vm h0 h)  {Q : Option Value → Heap → (Addr → Prop) → Prop} {nc ns : Nat} (hd : decode by0 pc = .ok (.return_, 1)) (hret : meth.sig.returnType = none) (hlk : meth.locks = false) (hQ : ∀ S' : Addr → Prop, (∀ x, x < h.size → Safe Z EL vm h x → S' x) → Q (none) h S') (hc : cells ≤ nc) (hs : slots ≤ ns) : OGo p e below (Kw Z EL s below n0 h0 Q nc ns) T (mkF m pc Ls ([])) := by
  obtain ⟨eT, hn0, locs, Y, N⟩ := X
  obtain ⟨k0, hS, hk, A⟩ := H
  obtain ⟨fs, hr, hrun, hended, hEnd⟩ := Y.leaveW hS (by rw [eT]; exact hk) (v := none) (fun hh => by rfl) hlk
  have B := CHv.at Y C.2.1 hEL A.1
  exact ⟨_, _, Y.returnOut C.1 hret (hb C.2.2.2.1 hd) hr, hrun, hended, _, locs, rfl, ⟨by show Q _ T.heap (fun x => Safe Z EL T.vm T.heap x); rw [eT]; exact hQ _ (fun x lt S => CHr.safe B lt S), N⟩, by show CHr Z EL s.vm h0 T.vm T.heap; rw [eT]; exact A.trans B, hEnd.1, hEnd.2.1, hEnd.2.2.1, hEnd.2.2.2.mono hc hs⟩
theorem G.aI (C : Cx p (s.setVm vm) m c Z own by0 ml) (X : Sd p l e R (s.setVm vm) m args below meth c n0 T h cells slots) (hEL : EW Z a0 EL) (H : Hd Z EL s vm h0 h) {z z' : Int32} {rest : List Value} {t : FieldType} {Q : Option Value → Heap → (Addr → Prop) → Prop} {nc ns : Nat} (hd : decode by0 pc = .ok (.ireturn, 1)) (hret : meth.sig.returnType = some t) (ht : t = .boolean ∨ t = .byte ∨ t = .char ∨ t = .short) (hz : nar t z = z') (hlk : meth.locks = false) (hQ : ∀ S' : Addr → Prop, (∀ x, x < h.size → Safe Z EL vm h x → S' x) → Q (some (.int z')) h S') (hc : cells ≤ nc) (hs : slots ≤ ns) : OGo p e below (Kw Z EL s below n0 h0 Q nc ns) T (mkF m pc Ls (.int z :: rest)) := by
  subst hz; obtain ⟨eT, hn0, locs, Y, N⟩ := X
  obtain ⟨k0, hS, hk, A⟩ := H
  obtain ⟨fs, hr, hrun, hended, hEnd⟩ := Y.leaveW hS (by rw [eT]; exact hk) (v := some (.int (nar t z))) (fun hh => by rw [hret] at hh; cases hh) hlk
  have B := CHv.at Y C.2.1 hEL A.1
  exact ⟨_, _, RoadKit.retN Y C.1 hret ht (hb C.2.2.2.1 hd) hr, hrun, hended, _, locs, rfl, ⟨by show Q _ T.heap (fun x => Safe Z EL T.vm T.heap x); rw [eT]; exact hQ _ (fun x lt S => CHr.safe B lt S), N⟩, by show CHr Z EL s.vm h0 T.vm T.heap; rw [eT]; exact A.trans B, hEnd.1, hEnd.2.1, hEnd.2.2.1, hEnd.2.2.2.mono hc hs⟩
theorem G.as (C : Cx p (s.setVm vm) m c Z own by0 ml) (X : Sd p l e R (s.setVm vm) m args below meth c n0 T h cells slots) (hEL : EW Z a0 EL) (H : Hd Z EL s vm h0 h) {z : Value} {rest : List Value} {t : FieldType} {Q : Option Value → Heap → (Addr → Prop) → Prop} {nc ns : Nat} (hd : decode by0 pc = .ok (.areturn, 1)) (hret : meth.sig.returnType = some t) (ht : t.isReference = true) (hz : z.isRef = true) (hlk : meth.locks = false) (hQ : ∀ S' : Addr → Prop, (∀ x, x < h.size → Safe Z EL vm h x → S' x) → Q (some z) h S') (hc : cells ≤ nc) (hs : slots ≤ ns) : OGo p e below (Kw Z EL s below n0 h0 Q nc ns) T (mkF m pc Ls (z :: rest)) := by
  obtain ⟨eT, hn0, locs, Y, N⟩ := X
  obtain ⟨k0, hS, hk, A⟩ := H
  obtain ⟨fs, hr, hrun, hended, hEnd⟩ := Y.leaveW hS (by rw [eT]; exact hk) (v := some z) (fun hh => by rw [hret] at hh; cases hh) hlk
  have B := CHv.at Y C.2.1 hEL A.1
  exact ⟨_, _, retOut Y C.1 (i := .areturn) hret (by rcases ref_cases hz with rfl | ⟨b, rfl⟩ <;> cases t <;> first | rfl | cases ht) (Or.inr (Or.inr (Or.inr (Or.inr ⟨rfl, ht, hz⟩)))) (hb C.2.2.2.1 hd) hr, hrun, hended, _, locs, rfl, ⟨by show Q _ T.heap (fun x => Safe Z EL T.vm T.heap x); rw [eT]; exact hQ _ (fun x lt S => CHr.safe B lt S), N⟩, by show CHr Z EL s.vm h0 T.vm T.heap; rw [eT]; exact A.trans B, hEnd.1, hEnd.2.1, hEnd.2.2.1, hEnd.2.2.2.mono hc hs⟩
theorem G.aB (C : Cx p (s.setVm vm) m c Z own by0 ml) (X : Sd p l e R (s.setVm vm) m args below meth c n0 T h cells slots) (hEL : EW Z a0 EL) (H : Hd Z EL s vm h0 h) {sf : List Addr} {y : MethodName} {cb : ByteArray} {cml : Nat} {ret : Option FieldType} {rm : Room} {as' : Array Value} {Q : Option Value → Heap → (Addr → Prop) → Prop} {idx : Nat}  (w1 : (Jvm.Cond.methodLink own idx y).before a0 Z = true) (w2 : (Jvm.Cond.static y).before a0 Z = true) (hy : y.cls ≠ "java/lang/invoke/MethodHandle" ∧ y.cls ≠ "java/lang/invoke/VarHandle") (w4 : (Jvm.Cond.code y cb cml ret).before a0 Z = true) (w5 : (Jvm.Cond.initialized y.cls).before a0 Z = true) (hM : CtrW l Z EL sf y cb cml ret rm n0 as' h Q) (hSf : ∀ x ∈ sf, x < h.size ∧ Safe Z EL vm h x) {argsL : List Value} (hlen : ∀ sig, parseMethodDescriptor y.desc = some sig → argsL.length = sig.parameters.length) (has : argsL.toArray = as') (hd : decode by0 pc = .ok (.invokestatic idx, 3)) (hp : pc + 3 = pc') (hsz : Ls.size = ml) (hf : rm.frames + 1 ≤ R.frames) (hl : (St.map fun v => v.category).sum + (cml + 11) + rm.locals ≤ R.locals) (hc' : cells + rm.cells = cells') (hs' : slots + rm.slots = slots') (hc : cells' ≤ R.cells) (hs : slots' ≤ R.slots)
    (hr : ∀ v (vm' : Vm) T' h', Q v h' (fun x => Safe Z EL vm' h' x) → Cx p (s.setVm vm') m c Z own by0 ml → Sd p l e R (s.setVm vm') m args below meth c n0 T' h' cells' slots' → Hd Z EL s vm' h0 h' → CHr Z EL vm h vm' h' → OGo p e below K T' (mkF m pc' Ls (v.toList ++ St))) : OGo p e below K T (mkF m pc Ls (argsL.reverse ++ St)) := by
  subst hp hc' hs' has
  obtain ⟨eT, hn0, locs, Y, N⟩ := X
  obtain ⟨k0, hS, hk, A⟩ := H
  have hK := backOfSP (Q := fun v h' vm' L => (Q v h' (fun x => Safe Z EL vm' h' x) ∧ h.size ≤ h'.size) ∧ Fr n0 L) (args := args) (p := p) (e := e) (below := below) (R := R) (s := s) (len := 3) (W := (St.map fun v => v.category).sum) (hM []) C.2.1 w4 w5 hf hl hEL A.1 hSf
  obtain ⟨v, _, ⟨B, L2, k2, n2⟩, -, Y', hS2, hg2, ⟨L, hQ, l1, y1, z1, A2⟩, st⟩ := callSS Y C.1 (y := y) C.2.2.1 (mvT C.2.1 w1) (mvT C.2.1 w2) (mvT C.2.1 w5) (mvT C.2.1 w4) hy hK (g := mkF m pc Ls (argsL.reverse ++ St)) rfl (by rw [C.2.2.2.2]; exact hsz) (argsL := argsL) (rest := St) hlen rfl (by show 2 * 0 + _ ≤ _; omega) (hb C.2.2.2.1 hd) (fun _ _ => ⟨rfl, eT, hc, hs⟩)
  dsimp only [Pt.U, Pt.locs, Pt.cells, Pt.slots] at Y' hS2 hg2 l1 y1 z1 st hQ A2
  subst l1 y1 z1
  obtain ⟨⟨hQ, hge⟩, hF⟩ := hQ
  obtain ⟨Y2, hS3, hZ3, hf3⟩ := rebS (own := own) hS (Nat.le_trans hk (by rw [← eT]; exact Nat.le_refl _)) Y' hS2 hg2 C.2.1 C.2.2.1
  exact G.tr st (hr v B.vm B B.heap hQ ⟨C.1, hZ3, hf3, C.2.2.2⟩ ⟨rfl, Nat.le_trans hn0 hge, _, Y2, N.app hF⟩ ⟨_, hS3, Nat.le_refl _, A.trans A2⟩ A2)
theorem G.aC (C : Cx p (s.setVm vm) m c Z own by0 ml) (X : Sd p l e R (s.setVm vm) m args below meth c n0 T h cells slots) (hEL : EW Z a0 EL) (H : Hd Z EL s vm h0 h) {sf : List Addr} {y : MethodName} {cb : ByteArray} {cml : Nat} {ret : Option FieldType} {rm : Room} {as' : Array Value} {Q : Option Value → Heap → (Addr → Prop) → Prop} {idx : Nat} {a : Addr} (hy1 : y.name = "<init>") (hrn : ret = none) (w1 : (Jvm.Cond.methodLink own idx y).before a0 Z = true) (w2 : (Jvm.Cond.instanceMethod y).before a0 Z = true) (hy : y.cls ≠ "java/lang/invoke/MethodHandle" ∧ y.cls ≠ "java/lang/invoke/VarHandle") (w4 : (Jvm.Cond.code y cb cml ret).before a0 Z = true) (w5 : (Jvm.Cond.initialized y.cls).before a0 Z = true) (hM : CtrW l Z EL sf y cb cml ret rm n0 as' h Q) (hSf : ∀ x ∈ sf, x < h.size ∧ Safe Z EL vm h x) {argsL : List Value} (hlen : ∀ sig, parseMethodDescriptor y.desc = some sig → argsL.length = sig.parameters.length) (has : (Value.ref a :: argsL).toArray = as') (hd : decode by0 pc = .ok (.invokespecial idx, 3)) (hp : pc + 3 = pc') (hsz : Ls.size = ml) (hf : rm.frames + 1 ≤ R.frames) (hl : (St.map fun v => v.category).sum + (cml + 11) + rm.locals ≤ R.locals) (hc' : cells + rm.cells = cells') (hs' : slots + rm.slots = slots') (hc : cells' ≤ R.cells) (hs : slots' ≤ R.slots)
    (hr : ∀ v (vm' : Vm) T' h', Q v h' (fun x => Safe Z EL vm' h' x) → Cx p (s.setVm vm') m c Z own by0 ml → Sd p l e R (s.setVm vm') m args below meth c n0 T' h' cells' slots' → Hd Z EL s vm' h0 h' → CHr Z EL vm h vm' h' → OGo p e below K T' (mkF m pc' Ls (v.toList ++ St))) : OGo p e below K T (mkF m pc Ls (argsL.reverse ++ Value.ref a :: St)) := by
  subst hp hc' hs' has
  obtain ⟨eT, hn0, locs, Y, N⟩ := X
  obtain ⟨k0, hS, hk, A⟩ := H
  have hK := backOfSP (Q := fun v h' vm' L => (Q v h' (fun x => Safe Z EL vm' h' x) ∧ h.size ≤ h'.size) ∧ Fr n0 L) (args := args) (p := p) (e := e) (below := below) (R := R) (s := s) (len := 3) (W := (St.map fun v => v.category).sum) (hM []) C.2.1 w4 w5 hf hl hEL A.1 hSf
  obtain ⟨v, _, ⟨B, L2, k2, n2⟩, -, Y', hS2, hg2, ⟨L, hQ, l1, y1, z1, A2⟩, st⟩ := Y.specialBackS C.1 (y := y) hy1 C.2.2.1 (mvT C.2.1 w1) (mvT C.2.1 w2) (mvT C.2.1 (hrn ▸ w4)) hy hK (g := mkF m pc Ls (argsL.reverse ++ Value.ref a :: St)) rfl (by rw [C.2.2.2.2]; exact hsz) (Steps.refl _) (a := a) (argsL := argsL) (rest := St) hlen rfl (by show 2 * 0 + _ ≤ _; omega) (hb C.2.2.2.1 hd) (fun _ _ => ⟨rfl, eT, hc, hs⟩)
  dsimp only [Pt.U, Pt.locs, Pt.cells, Pt.slots] at Y' hS2 hg2 l1 y1 z1 st hQ A2
  subst l1 y1 z1
  obtain ⟨⟨hQ, hge⟩, hF⟩ := hQ
  obtain ⟨Y2, hS3, hZ3, hf3⟩ := rebS (own := own) hS (Nat.le_trans hk (by rw [← eT]; exact Nat.le_refl _)) Y' hS2 hg2 C.2.1 C.2.2.1
  exact G.tr st (hr v B.vm B B.heap hQ ⟨C.1, hZ3, hf3, C.2.2.2⟩ ⟨rfl, Nat.le_trans hn0 hge, _, Y2, N.app hF⟩ ⟨_, hS3, Nat.le_refl _, A.trans A2⟩ A2)
end OwnCold
end Jvm.Pilot.@@N@@
namespace Jvm.Pilot.@@N@@
open Jvm Jvm.ClassFile Sem Op Lib Jvm.Free Jvm.Stand Jvm.LawKit Jvm.RoadKit Bundle Jvm.Free.Exc Jvm.Pilot.@@N@@.Jvm.D
section OwnExc
variable {p : Program} {l : Launch} {e : Env} {R : Room} {s : State} {m : MethodId} {args : Array Value} {below : List Frame} {meth : Method} {c : Code} {T : State} {n0 cells slots cells' slots' : Nat} {Z : State} {a0 : Array Value} {h h' h0 : Heap} {K : State → Outcome → Prop} {pc : Nat} (pc' : Nat) {Ls : Array Slot} {St : List Value} {own : String} {by0 : ByteArray} {ml : Nat} {EL : List (String × Nat)} {vm : Vm}
/-- the words that fillInStackTrace() asks, of an object of class rc -/
def excA (rc : String) : List Cond := [.native tFill0, .initialized tN, .superclass tN "java/lang/Object", .instanceMethod tFill, .codeSync tFill LibCode.Throwable.Fill.code 1 (some (.object tN)), .instanceMethod tFill0, .instanceMethod oInit, .code oInit ⟨#[0xb1]⟩ 1 none,
  .methodLink tN 1 oInit, .methodLink tN 27 tFill, .methodLink tN 202 tFill0, .fieldLink tN 7 tN "cause" thD, .lays rc tN "cause" thD, .fieldLink tN 17 tN "stackTrace" steD, .lays rc tN "stackTrace" steD, .fieldLink tN 24 tN "suppressedExceptions" listD, .lays rc tN "suppressedExceptions" listD,
  .fieldLink tN 13 tN "UNASSIGNED_STACK" steD, .laysStatic tN "UNASSIGNED_STACK" steD, .fieldLink tN 20 tN "SUPPRESSED_SENTINEL" listD, .laysStatic tN "SUPPRESSED_SENTINEL" listD, .lays rc tN "detailMessage" msgD, .selects rc tFill0 tFill0, .fieldLink tN 198 tN "backtrace" obD, .lays rc tN "backtrace" obD,
  .soleField tN "backtrace", .soleField tN "depth", .lays rc tN "depth" "I", .arrayOver (.object "java/lang/Object")]
theorem excA_ok {rc : String} : (excA rc).all xOk = true := rfl
/-- what is known of Throwable's place in the tables -/
def ThK (T : ThrowableC) (s : State) : Prop := s.vm.findClass tN = some T.cT ∧ s.methodNamed? tFill = some T.fill ∧ s.methodNamed? tFill0 = some T.fill0 ∧ s.fieldFound? tN "stackTrace" steD = some (T.cT, T.kT, T.i17, T.fStack) ∧ s.fieldFound? tN "UNASSIGNED_STACK" steD = some (T.cT, T.kT, T.i13, T.fUnassigned) ∧ T.fStack.type = .array (.object "java/lang/StackTraceElement")
theorem own_links {pl : Platform} {rc : String} (howns : pl.frameOwnsMonitors = true) (hfin : pl.finalization = false) (hpl : pl.magicAccessors = ({} : Platform).magicAccessors) (w : ∀ d ∈ excA rc, d.before args s = true) : ∃ T : ThrowableC, T.Links pl s ∧ ThK T s := by
  have a : ∀ (i : Nat) (d : Cond), (excA rc)[i]? = some d → d.holds args s none s [] = true := fun i d hd => w d (List.mem_of_getElem? hd)
  -- the class
  obtain ⟨⟨c, i0⟩, f0, n0', m0, nat0, nc0, lk0, sg0⟩ := Cond.native_spec (a 0 _ rfl)
  have hc : s.vm.findClass tN = some c := findClass_of_methodNamed n0'
  obtain ⟨k, hk, hnm⟩ := Vm.findClass_spec hc
  obtain ⟨-, k1, -, -, hk1, -, -, -, -, hni⟩ := Cond.superclass_spec hc (a 2 _ rfl)
  cases hk.symm.trans hk1
  -- the two methods, and Object's constructor
  obtain ⟨iF, mF, nF, qF, aF, sF, bF, -, -⟩ := Cond.ownMethod (x := tFill) hc hk (a 3 _ rfl)
  obtain ⟨mF2, cF, qF2, cdF, byF, loF, rtF, lkF, -, sgF⟩ := Cond.codeSync_spec nF (a 4 _ rfl)
  cases qF.symm.trans qF2
  obtain ⟨j0, g0, n1', m1, at0, st0, ab0, nm0, ds0⟩ := Cond.ownMethod (x := tFill0) hc hk (a 5 _ rfl)
  cases n0'.symm.trans n1'
  cases m0.symm.trans m1
  obtain ⟨mO, fO, nO, qO, sO, bO⟩ := Cond.instanceMethod_spec (a 6 _ rfl)
  obtain ⟨fO2, cO, qO2, cdO, byO, -, -, lkO, -, sgO⟩ := Cond.code_spec nO (a 7 _ rfl)
  cases qO.symm.trans qO2
  obtain ⟨kO, hkO, hnO⟩ := Vm.findClass_spec (findClass_of_methodNamed nO)
  obtain ⟨nmO, dsO⟩ := name_of_methodNamed nO qO
  -- the links
  obtain ⟨c1, x1, cf, l1, r1, hcf, p1⟩ := Cond.linkedMethod hc hk nO (a 8 _ rfl) pl hpl
  obtain ⟨c27, x27, cf2, l27, r27, hcf2, p27⟩ := Cond.linkedMethod hc hk nF (a 9 _ rfl) pl hpl
  cases hcf.symm.trans hcf2
  obtain ⟨c202, x202, cf3, l202, r202, hcf3, p202⟩ := Cond.linkedMethod hc hk n0' (a 10 _ rfl) pl hpl
  cases hcf.symm.trans hcf3
  obtain ⟨c7, i7, f7, l7, r7, t7, s7, z7, -, -, -⟩ := Cond.ownField (t := .object tN) hc hk (by decide +kernel) (a 11 _ rfl) (a 12 _ rfl) pl hpl
  obtain ⟨c17, i17, f17, l17, r17, t17, s17, z17, -, y17, v17⟩ := Cond.ownField (t := .array (.object "java/lang/StackTraceElement")) hc hk (by decide +kernel) (a 13 _ rfl) (a 14 _ rfl) pl hpl
  obtain ⟨c24, i24, f24, l24, r24, t24, s24, z24, -, -, v24⟩ := Cond.ownField (t := .object "java/util/List") hc hk (by decide +kernel) (a 15 _ rfl) (a 16 _ rfl) pl hpl
  obtain ⟨c13, i13, f13, aS, -, l13, r13, t13, s13, -, -, hst, -, -, -, -, v13⟩ := Cond.ownStatic (t := .array (.object "java/lang/StackTraceElement")) hc hk (by decide +kernel) (a 17 _ rfl) (a 18 _ rfl) pl hpl
  obtain ⟨c20, i20, f20, -, -, l20, r20, t20, s20, -⟩ := Cond.ownStatic (t := .object "java/util/List") hc hk (by decide +kernel) (a 19 _ rfl) (a 20 _ rfl) pl hpl
  obtain ⟨-, -, -, -, -, fM, -, -, -, sM, zM, -⟩ := Cond.lays_spec (a 21 _ rfl)
  have apart : f17.slot ≠ f24.slot := by
    have q := slot_ne (Z := s) (a0 := args) (C := rc) (O := tN) (O' := tN) (n := "stackTrace") (d := steD) (n' := "suppressedExceptions") (d' := listD) (Or.inl (a 14 _ rfl)) (Or.inl (a 16 _ rfl)) (by decide) (t := .array (.object "java/lang/StackTraceElement")) (t' := .object "java/util/List") (by decide +kernel) (by decide +kernel)
    simpa [Jvm.RoadKit.slotOf, v17, v24] using q
  have pF : mF.sig.parameters = [] := by
    have q : (parseMethodDescriptor tFill.desc).map (·.parameters) = some [] := by decide +kernel
    rw [sgF] at q; simpa using q
  have pO : fO.sig.parameters.length = 0 := by
    have q : (parseMethodDescriptor oInit.desc).map (·.parameters) = some [] := by decide +kernel
    rw [sgO] at q
    have q2 : fO.sig.parameters = [] := by simpa using q
    rw [q2]; rfl
  have p0 : f0.sig.parameters = [.int] := by
    have q : (parseMethodDescriptor tFill0.desc).map (·.parameters) = some [.int] := by decide +kernel
    rw [sg0] at q; simpa using q
  exact ⟨{ cT := c, kT := k, cO := c, aS := aS, fillIdx := iF, fill0Idx := i0, initSIdx := iF, obj := mO, kObj := kO, methFill := mF, methFill0 := f0, methInitS := mF, methObj := fO, codeFill := cF, codeInitS := cF, codeObj := cO, fBack := f7, fDepth := f7, fStack := f17, fCause := f7, fSupp := f24, fMsg := fM, fUnassigned := f13, fSentinel := f20, cfT := cf, ci1 := c1, n1 := x1, ci27 := c27, n27 := x27, ci202 := c202, n202 := x202, ci7 := c7, i7 := i7, ci13 := c13, i13 := i13, ci17 := c17, i17 := i17, ci20 := c20, i20 := i20, ci24 := c24, i24 := i24 },
    { owns := howns, noFinalization := hfin, cls := hk, name := hnm, boot := Vm.findClass_boot hc hk, notInterface := hni, initialized := Cond.initialized_spec hc hk (a 1 _ rfl), statics := hst, fillAt := aF, fillCode := cdF, fillBytes := byF, fillLocals := loF, fillLocks := lkF, fillStatic := sF, fillAbstract := bF, fillReturns := rtF, fillParams := pF, fill0At := at0, fill0Name := nm0, fill0Desc := ds0, fill0Params := p0, fill0Static := st0, fill0Native := nat0, fill0Code := nc0, fill0Locks := lk0, fill0Abstract := ab0, stackInstance := s17, stackNotFinal := z17, unassignedStatic := s13, objClass := hkO, objClassName := hnO, objMethod := qO, objName := nmO, objStatic := sO, objAbstract := bO, objFound := by rw [dsO]; exact lookupSpecial_of_named nO qO sO, objParams := pO, objCode := cdO, objBytes := byO, objLocks := lkO, causeInstance := s7, causeNotFinal := z7, sentinelStatic := s20, suppInstance := s24, suppNotFinal := z24, msgInstance := sM, msgNotFinal := zM, stackApartSupp := apart, file := hcf, mlink1 := l1, mright1 := r1, pool1 := p1, mlink27 := l27, mright27 := r27, pool27 := p27, mlink202 := l202, mright202 := r202, pool202 := p202, link7 := l7, right7 := r7, at7 := t7, link13 := l13, right13 := r13, at13 := t13, link17 := l17, right17 := r17, at17 := t17, link20 := l20, right20 := r20, at20 := t20, link24 := l24, right24 := r24, at24 := t24 },
    hc, nF, n0', v17, v13, y17⟩
theorem slotOf_alike {U V : State} (hal : U.vm.Alike V.vm) {C n d : String} {cf i : Nat} {k : Class} {f : Field} (q : U.fieldFound? C n d = some (cf, k, i, f)) : ∃ k', V.fieldFound? C n d = some (cf, k', i, f) := by
  obtain ⟨k', q1, -⟩ := State.fieldFound?_setVm (s := U) hal q
  exact ⟨k', q1⟩
/-- Throwable.fillInStackTrace(), of an object that the walk itself has made: only backtrace, depth and stackTrace of it may differ -/
theorem G.aJ (C : Cx p s m c Z own by0 ml) (X : Sd p l e R s m args below meth c n0 T h cells slots) (hst : l.stackTraces = true) (hT0 : ThS Z s.heap) (hTK : s.vm.MethodsKnown) (hB : s.vm.FramesKnown below) {rc : String} {nn : Nat} (hW : ∀ d ∈ excA rc, d.before a0 Z = true) {idx : Nat} (w1 : (Jvm.Cond.methodLink own idx tFill).before a0 Z = true) (w2 : (Jvm.Cond.declares tFill).before a0 Z = true) (w3 : (Jvm.Cond.selects rc tFill tFill).before a0 Z = true) (w6 : (Jvm.Cond.instanceMethod tFill).before a0 Z = true) (wi : (Jvm.Cond.instantiable rc nn).before a0 Z = true)
    {a us : Addr} (E : Exa Z h a rc) (N : Unt h a) (Fs : Fld Z h a tN "stackTrace" steD (.ref us)) (Fb : Fld Z h a tN "backtrace" obD .null) (Su : Sta Z h tN "UNASSIGNED_STACK" steD (.ref us)) (ga : n0 ≤ a) (hd : decode by0 pc = .ok (.invokevirtual idx, 3)) (hp : pc + 3 = pc') (hsz : Ls.size = ml) (hf : 2 < R.frames) (hl : (St.map fun v => v.category).sum + 42 ≤ R.locals) (hc' : cells + 1 = cells') (hs' : slots + 2752 = slots') (hc : cells' ≤ R.cells) (hs : slots' ≤ R.slots)
    (hr : ∀ T' h', Sd p l e R s m args below meth c n0 T' h' cells' slots' → Keep h h' [a] → Exa Z h' a rc → Unt h' a → (∀ {O nm d : String} {v : Value}, Fld Z h a O nm d v → Jvm.RoadKit.slotOf Z O nm d ≠ Jvm.RoadKit.slotOf Z tN "backtrace" obD → Jvm.RoadKit.slotOf Z O nm d ≠ Jvm.RoadKit.slotOf Z tN "depth" "I" → Jvm.RoadKit.slotOf Z O nm d ≠ Jvm.RoadKit.slotOf Z tN "stackTrace" steD → Fld Z h' a O nm d v) → OGo p e below K T' (mkF m pc' Ls (.ref a :: St))) : OGo p e below K T (mkF m pc Ls (.ref a :: St)) := by
  subst hp hc' hs'
  obtain ⟨eT, hn0, locs, Y, Nf⟩ := X
  have hal : Z.vm.Alike s.vm := C.2.1.alike
  have W : ∀ d ∈ excA rc, d.before args s = true := fun d hd => mvX hT0 C.2.1 (List.all_eq_true.mp excA_ok d hd) (hW d hd)
  have at_ : ∀ (i : Nat) (d : Cond), (excA rc)[i]? = some d → d.holds args s none s [] = true := fun i d hd => W d (List.mem_of_getElem? hd)
  have htr : e.platform.stackTraces = true := by rw [Y.admits.platform]; exact hst
  have hpl : e.platform.magicAccessors = ({} : Platform).magicAccessors := by rw [Y.admits.platform]
  obtain ⟨T0, L, hfT, hfill, hfill0, gS, gU, tyS⟩ := own_links (pl := e.platform) (by rw [Y.admits.platform]) (by rw [Y.admits.platform]) hpl W
  have E0 := E
  obtain ⟨cell, kc, h1, h2, h3, h4, h5⟩ := E
  obtain ⟨c2, u1, u2, u3⟩ := N
  cases h1.symm.trans u1
  obtain ⟨c4, k2, i1, i2, i3, -⟩ := Cond.instantiable_spec wi
  cases h2.symm.trans i1
  cases h3.symm.trans i2
  obtain ⟨kX, hkX, heX⟩ := hal.2.2 _ _ h3
  have hfound : s.vm.findClass rc = some cell.cls := by rw [hal.findClass]; exact h2
  have hordX : kX.kind = .ordinary := by rw [heX]; exact i3
  have hszX : cell.slots.size = kX.instanceTypes.size := by rw [heX]; exact h5 i3
  -- the fields
  obtain ⟨cs, cfs, kfs, is, fs, b1, b2, -, -, -, -, b7⟩ := Fs
  cases h1.symm.trans b1
  obtain ⟨k4, q4⟩ := slotOf_alike (V := s) hal b2
  cases gS.symm.trans q4
  obtain ⟨cb, cfb, kfb, ib, fb0, d1, d2, -, -, -, -, d7⟩ := Fb
  cases h1.symm.trans d1
  obtain ⟨k5, q5⟩ := slotOf_alike (V := s) hal d2
  obtain ⟨ci198, i198, fB, hk198, hg198, ha198, hsB, -, hnB, htB, hffB⟩ := Cond.ownField (t := .object "java/lang/Object") hfT L.cls (by decide +kernel) (at_ 23 _ rfl) (at_ 24 _ rfl) e.platform hpl
  cases q5.symm.trans hffB
  obtain ⟨-, -, cD, kD, iD, fD, -, -, hffD, hstD, -⟩ := Cond.lays_spec (at_ 27 _ rfl)
  cases Option.some.inj ((Cond.lays_declared (at_ 27 _ rfl) hffD).symm.trans hfT)
  obtain ⟨hkD, hatD⟩ := State.fieldFound?_spec hffD
  cases Option.some.inj (hkD.symm.trans L.cls)
  obtain ⟨hnD, htD⟩ := State.fieldFound?_type hffD (t := .int) (by decide +kernel)
  -- the static
  obtain ⟨cU, iU, kU, fU, stU, cellU, e1, -, -, e4, e5, e6, e7⟩ := Su
  obtain ⟨k6, q6, q7⟩ := State.fieldFound?_setVm (s := Z) hal e1
  cases gU.symm.trans (show s.fieldFound? tN "UNASSIGNED_STACK" steD = _ from q6)
  have eS : T0.aS = stU := by
    have q := L.statics
    rw [q7] at q
    exact Option.some.inj (q.symm.trans e4)
  subst eS
  have hneS : T0.aS ≠ a := fun q => by rw [q, h1] at e5; rw [← Option.some.inj e5, u2] at e6; cases e6
  -- what the cell takes
  have tk : ∀ {f : Field} {v : Value}, kX.instanceTypes[f.slot]? = some f.type → fits f.type v = true → Jvm.Takes s cell f v := fun {f v} g1 g2 => by
    obtain ⟨r1, r2⟩ := Takes.of_laid (v := v) hkX hordX g1 g2
    exact ⟨by rw [hszX]; simpa using r1, by rw [u2]; exact r2⟩
  obtain ⟨lS, -⟩ := Cond.laysAt hfound hkX gS (at_ 14 _ rfl)
  obtain ⟨lB, -⟩ := Cond.laysAt hfound hkX hffB (at_ 24 _ rfl)
  obtain ⟨lD, -⟩ := Cond.laysAt hfound hkX hffD (at_ 27 _ rfl)
  have hsel0 : selectMethod e.platform s.vm cell.cls T0.fill0 = .method T0.fill0 := by
    obtain ⟨x2, r2, m2, y1, y2, y3, y4, -⟩ := Cond.selects_spec (at_ 22 _ rfl)
    cases Option.some.inj (y1.symm.trans hfound)
    cases Option.some.inj (y2.symm.trans (State.methodFound?_of_named hfill0 (by decide)))
    cases Option.some.inj (y3.symm.trans hfill0)
    rw [Launch.admits_selectMethod Y.admits]; exact y4
  obtain ⟨comp, cO, kO, -, -, hkO, hkindO, hO⟩ := Cond.arrayOver_spec (W _ (List.mem_of_getElem? (i := 28) rfl))
  have hK := Jvm.Free.Str.fillPays (l := l) (R := R) (p := p) (e := e) (below := below) (s := s) (sargs := args) (len := 3) (W := (St.map fun v => v.category).sum) C.1 htr T0 L hfill (u0 := ⟨.ref us, rfl⟩) (by simp) (self := a) (cell := cell) (cellS := cellU) (fun k q => by rw [u2] at q; cases q) (by rw [u2]; simp) (by rw [u3]) (by rw [u3]) b7 hsel0 hneS
    (fun q => by rw [q] at e6; cases e6) e7 (tk lS (by rw [tyS]; rfl)) ⟨⟨ci198, ib, fb0⟩, ⟨hk198, hg198, ha198, hsB⟩, d7⟩ hTK hB hfT hO hkO hkindO (Cond.soleField_find hfT L.cls (at_ 25 _ rfl) ha198 hnB hsB) (Cond.soleField_find hfT L.cls (at_ 26 _ rfl) hatD hnD hstD) (fun x => tk lB (by rw [htB]; rfl)) (fun n => tk lD (by rw [htD]; rfl)) hf hl
  obtain ⟨_, _, z1, _, z3⟩ := isOf C.2.1 eT E0
  obtain ⟨v, vm1, ⟨B, L2, k2', n2⟩, -, Y', ⟨hv, vm2, lines, hlen, -, hU, hL, hcc, hnn⟩, st⟩ := Y.virtualBack C.1 (y := tFill) (z := tFill) C.2.2.1 (mvT C.2.1 w1) (mvT C.2.1 w2) (notFace_of_selects (args := #[]) (mvT C.2.1 w3)) (mvT C.2.1 w3) (mvT C.2.1 w6) (by decide) hK z1 z3 (g := mkF m pc Ls (.ref a :: St)) rfl (by rw [C.2.2.2.2]; exact hsz) (Steps.refl _) (argsL := []) (rest := St)
    (fun sig q => by rw [show parseMethodDescriptor tFill.desc = some ⟨[], some (.object tN)⟩ from by decide +kernel] at q; rw [← Option.some.inj q]; rfl) rfl (by show 2 * 0 + _ ≤ _; omega) (hb C.2.2.2.1 hd) (fun _ _ => ⟨rfl, hc, hs, by show T.heap[a]? = _; rw [eT]; exact h1, by show T.heap[T0.aS]? = _; rw [eT]; exact e5⟩)
  dsimp only [Pt.U, Pt.locs, Pt.cells, Pt.slots] at Y' hU hL hcc hnn st
  subst hv hL hcc hnn
  have hlt : a < h.size := (Array.getElem?_eq_some_iff.mp h1).1
  have hh : B.heap = (h.push (traceHolder cO lines)).setIfInBounds a (Jvm.Free.Str.filledOn T0.toThrowableT fb0 fD cell ⟨.ref us, rfl⟩ h.size lines.length.toInt32) := by rw [hU, ← eT]; rfl
  have hself : B.heap[a]? = some (Jvm.Free.Str.filledOn T0.toThrowableT fb0 fD cell ⟨.ref us, rfl⟩ h.size lines.length.toInt32) := by rw [hh]; simp [Array.getElem?_setIfInBounds]; first | exact Nat.lt_succ_of_lt hlt | exact Nat.le_of_lt hlt
  have hoth : ∀ x, x ≠ a → ∀ cx, h[x]? = some cx → B.heap[x]? = some cx := fun x hx cx q => by
    have hx2 : x < h.size := (Array.getElem?_eq_some_iff.mp q).1
    rw [hh, Array.getElem?_setIfInBounds_ne (Ne.symm hx), Array.getElem?_push_lt hx2, ← Array.getElem?_eq_getElem hx2]; exact q
  have hsz2 : h.size ≤ B.heap.size := by rw [hh]; simp
  have hn3 : (traceHolder cO lines).slots.size ≤ 2752 := traceHolder_size_le cO hlen
  refine G.tr st (hr B B.heap ⟨rfl, Nat.le_trans hn0 hsz2, _, Y'.more (Nat.le_refl _) (Nat.add_le_add_left hn3 _), Nf.app fun y hy => ?_⟩ ⟨hsz2, fun x cx q hx => hoth x (fun q2 => hx (by rw [q2]; exact List.mem_cons_self ..)) cx q, fun x cx q => ?_⟩ ⟨_, kc, hself, h2, h3, by show cell.vm.isStatics = false; exact h4, fun q => by rw [← h5 q]; simp [Jvm.Free.Str.filledOn, Cell.setSlot]⟩ ⟨_, hself, u2, u3⟩ ?_)
  · simp only [List.mem_cons, List.not_mem_nil, or_false] at hy
    rcases hy with rfl | rfl | rfl <;> exact ga
  · by_cases hx : x = a
    · subst hx
      cases h1.symm.trans q
      exact ⟨_, hself, rfl, rfl, by simp [Jvm.Free.Str.filledOn, Cell.setSlot]⟩
    · exact ⟨cx, hoth x hx cx q, rfl, rfl, rfl⟩
  · intro O nm d v F g1 g2 g3
    obtain ⟨cc, cf, k, i, f, o1, o2, o3, o4, o5, o6, o7⟩ := F
    cases h1.symm.trans o1
    have s1 : Jvm.RoadKit.slotOf Z O nm d = f.slot := by simp [Jvm.RoadKit.slotOf, o2]
    have s2 : Jvm.RoadKit.slotOf Z tN "backtrace" obD = fb0.slot := by simp [Jvm.RoadKit.slotOf, d2]
    have s3 : Jvm.RoadKit.slotOf Z tN "stackTrace" steD = T0.fStack.slot := by simp [Jvm.RoadKit.slotOf, b2]
    obtain ⟨k7, q8⟩ := slotOf_alike (V := Z) hal.symm hffD
    have s4 : Jvm.RoadKit.slotOf Z tN "depth" "I" = fD.slot := by simp [Jvm.RoadKit.slotOf, q8]
    rw [s1, s2] at g1
    rw [s1, s4] at g2
    rw [s1, s3] at g3
    exact ⟨_, cf, k, i, f, hself, o2, o3, o4, o5, o6, by simpa [Jvm.Free.Str.filledOn, Cell.setSlot, Array.getElem?_setIfInBounds, Ne.symm g1, Ne.symm g2, Ne.symm g3] using o7⟩
def CtrK (l : Launch) (Z : State) (y : MethodName) (by0 : ByteArray) (ml : Nat) (ret : Option FieldType) (rm : Room) (n0 : Nat) (as' : Array Value) (h : Heap) (Q : Option Value → Heap → Prop) : Prop :=
  ∀ ws, MetFree l y (head1 (Jvm.Cond.code y by0 ml ret :: ws) rm) (fun a U => a = as' ∧ Z.Warmed39 U.vm ∧ U.heap = h) (fun _ _ bl st _ => st.vm.MethodsKnown ∧ st.vm.FramesKnown bl) (fun _ U o U' => ∃ v L, o = .returned v ∧ ((Q v U'.heap ∧ h.size ≤ U'.heap.size) ∧ Fr n0 L) ∧ FrameEnd U o U' L rm.cells rm.slots)
theorem CtrK.of {y : MethodName} {ret : Option FieldType} {rm : Room} {as' : Array Value} {Q : Option Value → Heap → Prop} (hpl : plainFor y = true) (hn : n0 ≤ h.size)
    (body : ∀ p e s m below meth c T, Cx p s m c Z y.cls by0 ml → meth.name = y.name → meth.sig.returnType = ret → meth.locks = false → Sd p l e rm s m as' below meth c n0 T h 0 0 → s.heap = h → s.vm.MethodsKnown → s.vm.FramesKnown below → OGo p e below (Kk s below n0 Q rm.cells rm.slots) T (entryFrame m as' ml)) :
 CtrK l Z y by0 ml ret rm n0 as' h Q := by
 intro ws
 refine MetFree.of_bodySF hpl hisR ?_
 intro p e s m args below meth c s₁ Bd hml0 hP hK
 obtain ⟨rfl, hZ, hh⟩ := hP
 have hown : s.vm.findClass y.cls = some m.cls := findClass_of_methodNamed Bd.named
 have hnm := (name_of_methodNamed Bd.named Bd.method).1
 have X0 := Stand.of_body Bd
 have e0 : s₁.heap = h := by rw [← hh, Bd.state]; rfl
 obtain ⟨t, o, h1, h2, h3, v, L, h4, ⟨h5, h6⟩, h7⟩ := body p e s m below meth c s₁ ⟨Bd.exec, hZ, hown, Bd.bytes, hml0⟩ hnm Bd.returns (BodyLoose.notSynchronized Bd) ⟨e0, hn, [], X0, Fr.nil n0⟩ hh hK.1 hK.2
 exact ⟨t, o, h1, h2, h3, v, L, h4, ⟨⟨h5, by rw [← hh]; exact h7.2.2.2.1⟩, h6⟩, h7⟩
def CtrWK (l : Launch) (Z : State) (EL : List (String × Nat)) (sf : List Addr) (y : MethodName) (by0 : ByteArray) (ml : Nat) (ret : Option FieldType) (rm : Room) (n0 : Nat) (as' : Array Value) (h : Heap) (Q : Option Value → Heap → (Addr → Prop) → Prop) : Prop :=
  ∀ ws, MetFree l y (head1 (Jvm.Cond.code y by0 ml ret :: ws) rm) (fun a U => a = as' ∧ Z.Warmed39 U.vm ∧ U.heap = h ∧ CHv Z EL U.vm h ∧ ∀ x ∈ sf, Safe Z EL U.vm h x) (fun _ _ bl st _ => st.vm.MethodsKnown ∧ st.vm.FramesKnown bl) (fun _ U o U' => ∃ v L, o = .returned v ∧ ((Q v U'.heap (fun x => Safe Z EL U'.vm U'.heap x) ∧ h.size ≤ U'.heap.size) ∧ Fr n0 L) ∧ CHr Z EL U.vm U.heap U'.vm U'.heap ∧ ReturnedEndW U o U' L rm.cells rm.slots)
theorem CtrWK.of {sf : List Addr} {y : MethodName} {ret : Option FieldType} {rm : Room} {as' : Array Value} {Q : Option Value → Heap → (Addr → Prop) → Prop} (hpl : plainFor y = true) (hn : n0 ≤ h.size)
    (body : ∀ p e s m below meth c T, Cx p (s.setVm s.vm) m c Z y.cls by0 ml → meth.name = y.name → meth.sig.returnType = ret → meth.locks = false → Sd p l e rm (s.setVm s.vm) m as' below meth c n0 T h 0 0 → Hd Z EL s s.vm h h → (∀ x ∈ sf, Safe Z EL s.vm h x) → s.heap = h → s.vm.MethodsKnown → s.vm.FramesKnown below → OGo p e below (Kw Z EL s below n0 h Q rm.cells rm.slots) T (entryFrame m as' ml)) :
 CtrWK l Z EL sf y by0 ml ret rm n0 as' h Q := by
 intro ws
 refine MetFree.of_bodySF hpl hisR ?_
 intro p e s m args below meth c s₁ Bd hml0 hP hK
 obtain ⟨rfl, hZ, hh, hC, hSf⟩ := hP
 have hown : s.vm.findClass y.cls = some m.cls := findClass_of_methodNamed Bd.named
 have hnm := (name_of_methodNamed Bd.named Bd.method).1
 have X0 := Stand.of_body Bd
 have e0 : s₁.heap = h := by rw [← hh, Bd.state]; rfl
 obtain ⟨t, o, h1, h2, h3, v, L, h4, ⟨h5, h6⟩, h8, h7⟩ := body p e s m below meth c s₁ ⟨Bd.exec, hZ, hown, Bd.bytes, hml0⟩ hnm Bd.returns (BodyLoose.notSynchronized Bd) ⟨e0, hn, [], X0, Fr.nil n0⟩ (Hd.start hC) hSf hh hK.1 hK.2
 exact ⟨t, o, h1, h2, h3, v, L, h4, ⟨⟨h5, h8.2.1⟩, h6⟩, by rw [hh]; exact h8, h7⟩
theorem ktk {vm vm' : Vm} (h1 : Z.Warmed39 vm) (h2 : Z.Warmed39 vm') (q : vm.MethodsKnown) : vm'.MethodsKnown := Vm.MethodsKnown.alikeC (h1.alike.symm.trans h2.alike) q
theorem kfk {vm vm' : Vm} (h1 : Z.Warmed39 vm) (h2 : Z.Warmed39 vm') {fs : List Frame} (q : vm.FramesKnown fs) : vm'.FramesKnown fs := Vm.FramesKnown.alikeC (h1.alike.symm.trans h2.alike) q
theorem G.ay (C : Cx p s m c Z own by0 ml) (X : Sd p l e R s m args below meth c n0 T h cells slots) (hTK : s.vm.MethodsKnown) (hB : s.vm.FramesKnown below) {y : MethodName} {cb : ByteArray} {cml : Nat} {ret : Option FieldType} {rm : Room} {as' : Array Value} {Q : Option Value → Heap → Prop} {idx : Nat} {a : Addr} (hy1 : y.name = "<init>") (hrn : ret = none) (w1 : (Jvm.Cond.methodLink own idx y).before a0 Z = true) (w2 : (Jvm.Cond.instanceMethod y).before a0 Z = true) (hy : y.cls ≠ "java/lang/invoke/MethodHandle" ∧ y.cls ≠ "java/lang/invoke/VarHandle")
    (w4 : (Jvm.Cond.code y cb cml ret).before a0 Z = true) (w5 : (Jvm.Cond.initialized y.cls).before a0 Z = true) (hM : CtrK l Z y cb cml ret rm n0 as' h Q) {argsL : List Value} (hlen : ∀ sig, parseMethodDescriptor y.desc = some sig → argsL.length = sig.parameters.length) (has : (Value.ref a :: argsL).toArray = as') (hd : decode by0 pc = .ok (.invokespecial idx, 3)) (hp : pc + 3 = pc')
    (hsz : Ls.size = ml) (hf : rm.frames + 1 ≤ R.frames) (hl : (St.map fun v => v.category).sum + (cml + 11) + rm.locals ≤ R.locals) (hc' : cells + rm.cells = cells') (hs' : slots + rm.slots = slots') (hc : cells' ≤ R.cells) (hs : slots' ≤ R.slots)
    (hr : ∀ v T' h', Q v h' → Sd p l e R s m args below meth c n0 T' h' cells' slots' → h.size ≤ h'.size → OGo p e below K T' (mkF m pc' Ls (v.toList ++ St))) : OGo p e below K T (mkF m pc Ls (argsL.reverse ++ Value.ref a :: St)) := by
  subst hp hc' hs' has
  obtain ⟨eT, hn0, locs, Y, N⟩ := X
  have hK := backOfKL (Q := fun v h' L => (Q v h' ∧ h.size ≤ h'.size) ∧ Fr n0 L) (args := args) (p := p) (e := e) (below := below) (R := R) (len := 3) (W := (St.map fun v => v.category).sum) (hM []) C.2.1 w4 w5 hf hl hTK hB
  obtain ⟨v, _, ⟨B, L2, k2, n2⟩, -, Y', ⟨L, hQ, l1, y1, z1⟩, st⟩ := Y.specialBack C.1 (y := y) hy1 C.2.2.1 (mvT C.2.1 w1) (mvT C.2.1 w2) (mvT C.2.1 (hrn ▸ w4)) hy hK (g := mkF m pc Ls (argsL.reverse ++ Value.ref a :: St)) rfl (by rw [C.2.2.2.2]; exact hsz) (Steps.refl _) (a := a) (argsL := argsL) (rest := St) hlen rfl (by show 2 * 0 + _ ≤ _; omega) (hb C.2.2.2.1 hd) (fun _ _ => ⟨rfl, eT, hc, hs⟩)
  dsimp only [Pt.U, Pt.locs, Pt.cells, Pt.slots] at Y' l1 y1 z1 st hQ
  subst l1 y1 z1
  obtain ⟨⟨hQ, hge⟩, hF⟩ := hQ
  exact G.tr st (hr v B B.heap hQ ⟨rfl, Nat.le_trans hn0 hge, _, Y', N.app hF⟩ hge)
theorem G.aK (C : Cx p (s.setVm vm) m c Z own by0 ml) (X : Sd p l e R (s.setVm vm) m args below meth c n0 T h cells slots) (hEL : EW Z a0 EL) (H : Hd Z EL s vm h0 h) (hTK : vm.MethodsKnown) (hB : vm.FramesKnown below) {sf : List Addr} {y : MethodName} {cb : ByteArray} {cml : Nat} {ret : Option FieldType} {rm : Room} {as' : Array Value} {Q : Option Value → Heap → (Addr → Prop) → Prop} {idx : Nat} (w1 : (Jvm.Cond.methodLink own idx y).before a0 Z = true) (w2 : (Jvm.Cond.static y).before a0 Z = true) (hy : y.cls ≠ "java/lang/invoke/MethodHandle" ∧ y.cls ≠ "java/lang/invoke/VarHandle")
    (w4 : (Jvm.Cond.code y cb cml ret).before a0 Z = true) (w5 : (Jvm.Cond.initialized y.cls).before a0 Z = true) (hM : CtrWK l Z EL sf y cb cml ret rm n0 as' h Q) (hSf : ∀ x ∈ sf, x < h.size ∧ Safe Z EL vm h x) {argsL : List Value} (hlen : ∀ sig, parseMethodDescriptor y.desc = some sig → argsL.length = sig.parameters.length) (has : argsL.toArray = as') (hd : decode by0 pc = .ok (.invokestatic idx, 3)) (hp : pc + 3 = pc')
    (hsz : Ls.size = ml) (hf : rm.frames + 1 ≤ R.frames) (hl : (St.map fun v => v.category).sum + (cml + 11) + rm.locals ≤ R.locals) (hc' : cells + rm.cells = cells') (hs' : slots + rm.slots = slots') (hc : cells' ≤ R.cells) (hs : slots' ≤ R.slots)
    (hr : ∀ v (vm' : Vm) T' h', Q v h' (fun x => Safe Z EL vm' h' x) → Cx p (s.setVm vm') m c Z own by0 ml → Sd p l e R (s.setVm vm') m args below meth c n0 T' h' cells' slots' → Hd Z EL s vm' h0 h' → CHr Z EL vm h vm' h' → OGo p e below K T' (mkF m pc' Ls (v.toList ++ St))) : OGo p e below K T (mkF m pc Ls (argsL.reverse ++ St)) := by
  subst hp hc' hs' has
  obtain ⟨eT, hn0, locs, Y, N⟩ := X
  obtain ⟨k0, hS, hk, A⟩ := H
  have hK : BackS l R p e below (s.setVm vm) args y 3 ((St.map fun v => v.category).sum) (fun A a => a = argsL.toArray ∧ A.U.heap = h ∧ A.cells + rm.cells ≤ R.cells ∧ A.slots + rm.slots ≤ R.slots)
      (fun A _ v B => ∃ L, ((Q v B.U.heap (fun x => Safe Z EL B.U.vm B.U.heap x) ∧ h.size ≤ B.U.heap.size) ∧ Fr n0 L) ∧ B.locs = A.locs ++ L ∧ B.cells = A.cells + rm.cells ∧ B.slots = A.slots + rm.slots ∧ CHr Z EL vm h B.U.vm B.U.heap) :=
    BackS.of_freeWG (bytes := cb) (maxL := cml) (ret := ret) (E := fun _ first o t L k n => k = rm.cells ∧ n = rm.slots ∧ (∃ v, o = .returned v ∧ (Q v t.heap (fun x => Safe Z EL t.vm t.heap x) ∧ h.size ≤ t.heap.size) ∧ Fr n0 L) ∧ CHr Z EL first.vm first.heap t.vm t.heap) (hM []) hf hl
      (fun m meth c A a Y hp => have hU : Z.Warmed39 A.U.vm := wtrans (s := s.setVm vm) C.2.1 Y.warmed
        ⟨by show (Jvm.Cond.and _ .tt).before a A.U = true; rw [Cond.before_and, mv hU w4]; rfl, mv hU w4, mv hU w5, hp.2.2.1, hp.2.2.2⟩)
      (fun m meth c A' a g mk Y hp => ⟨hp.1, wtrans (s := s.setVm vm) C.2.1 Y.warmed, hp.2.1, (CHv.at Y C.2.1 hEL A.1).1, fun x hx => (CHv.at Y C.2.1 hEL A.1).safe (hSf x hx).1 (hSf x hx).2⟩)
      (fun m meth c A' a g mk Y _ hg => known_frames Y hg hTK hB)
      (fun _ _ _ _ ⟨v, L, h1, h2, h3, h4⟩ => ⟨L, _, _, h4, rfl, rfl, ⟨v, h1, h2⟩, h3⟩)
      (fun m meth c A' a g mk v t L k n Y hp _ _ ⟨e1, e2, ⟨v', e3, e4⟩, e5⟩ => by
        cases e3; subst e1 e2
        refine ⟨L, e4, rfl, rfl, rfl, (CHv.at Y C.2.1 hEL A.1).trans ?_⟩
        rw [← hp.2.1]; exact e5)
  obtain ⟨v, _, ⟨B, L2, k2, n2⟩, -, Y', hS2, hg2, ⟨L, hQ, l1, y1, z1, A2⟩, st⟩ := callSS Y C.1 (y := y) C.2.2.1 (mvT C.2.1 w1) (mvT C.2.1 w2) (mvT C.2.1 w5) (mvT C.2.1 w4) hy hK (g := mkF m pc Ls (argsL.reverse ++ St)) rfl (by rw [C.2.2.2.2]; exact hsz) (argsL := argsL) (rest := St) hlen rfl (by show 2 * 0 + _ ≤ _; omega) (hb C.2.2.2.1 hd) (fun _ _ => ⟨rfl, eT, hc, hs⟩)
  dsimp only [Pt.U, Pt.locs, Pt.cells, Pt.slots] at Y' hS2 hg2 l1 y1 z1 st hQ A2
  subst l1 y1 z1
  obtain ⟨⟨hQ, hge⟩, hF⟩ := hQ
  obtain ⟨Y2, hS3, hZ3, hf3⟩ := rebS (own := own) hS (Nat.le_trans hk (by rw [← eT]; exact Nat.le_refl _)) Y' hS2 hg2 C.2.1 C.2.2.1
  exact G.tr st (hr v B.vm B B.heap hQ ⟨C.1, hZ3, hf3, C.2.2.2⟩ ⟨rfl, Nat.le_trans hn0 hge, _, Y2, N.app hF⟩ ⟨_, hS3, Nat.le_refl _, A.trans A2⟩ A2)
theorem G.aL (C : Cx p s m c Z own by0 ml) (X : Sd p l e R s m args below meth c n0 T h cells slots) {x y : MethodName} {owner : String} {cb : ByteArray} {cml : Nat} {ret : Option FieldType} {rm : Room} {as' : Array Value} {Q : Option Value → Heap → Prop} {idx : Nat} {a : Addr} {Cn : String} (w1 : (Jvm.Cond.methodLink own idx x).before a0 Z = true) (ws : (Jvm.Cond.sameMethod x.cls owner x.name x.desc).before a0 Z = true) (w2 : (Jvm.Cond.declares ⟨owner, x.name, x.desc⟩).before a0 Z = true) (ho : owner ≠ "java/lang/invoke/MethodHandle" ∧ owner ≠ "java/lang/invoke/VarHandle") (w3 : (Jvm.Cond.selects Cn x y).before a0 Z = true) (w6 : (Jvm.Cond.instanceMethod y).before a0 Z = true) (E : Exa Z h a Cn)
    (w4 : (Jvm.Cond.code y cb cml ret).before a0 Z = true) (w5 : (Jvm.Cond.initialized y.cls).before a0 Z = true) (hM : Ctr l Z y cb cml ret rm n0 as' h Q) {argsL : List Value} (hlen : ∀ sig, parseMethodDescriptor x.desc = some sig → argsL.length = sig.parameters.length) (has : (Value.ref a :: argsL).toArray = as') (hd : decode by0 pc = .ok (.invokevirtual idx, 3)) (hp : pc + 3 = pc')
    (hsz : Ls.size = ml) (hf : rm.frames + 1 ≤ R.frames) (hl : (St.map fun v => v.category).sum + (cml + 11) + rm.locals ≤ R.locals) (hc' : cells + rm.cells = cells') (hs' : slots + rm.slots = slots') (hc : cells' ≤ R.cells) (hs : slots' ≤ R.slots)
    (hr : ∀ v T' h', Q v h' → Sd p l e R s m args below meth c n0 T' h' cells' slots' → h.size ≤ h'.size → OGo p e below K T' (mkF m pc' Ls (v.toList ++ St))) : OGo p e below K T (mkF m pc Ls (argsL.reverse ++ Value.ref a :: St)) := by
  subst hp hc' hs' has
  obtain ⟨eT, hn0, locs, Y, N⟩ := X
  have hK := backC (args := args) (p := p) (e := e) (below := below) (R := R) (len := 3) (W := (St.map fun v => v.category).sum) hM C.2.1 w4 w5 hf hl
  obtain ⟨_, _, q1, _, q3⟩ := isOf C.2.1 eT E
  obtain ⟨v, _, ⟨B, L2, k2, n2⟩, -, Y', ⟨L, hQ, l1, y1, z1⟩, st⟩ := Y.virtualBackUp C.1 (x := x) (y := y) (owner := owner) C.2.2.1 (mvT C.2.1 w1) (mvT C.2.1 ws) (mvT C.2.1 w2) ho (mvT C.2.1 w3) (mvT C.2.1 w6) hK q1 q3 (g := mkF m pc Ls (argsL.reverse ++ Value.ref a :: St)) rfl (by rw [C.2.2.2.2]; exact hsz) (Steps.refl _) (argsL := argsL) (rest := St) hlen rfl (by show 2 * 0 + _ ≤ _; omega) (hb C.2.2.2.1 hd) (fun _ _ => ⟨rfl, eT, hc, hs⟩)
  dsimp only [Pt.U, Pt.locs, Pt.cells, Pt.slots] at Y' l1 y1 z1 st hQ
  subst l1 y1 z1
  obtain ⟨⟨hQ, hge⟩, hF⟩ := hQ
  exact G.tr st (hr v B B.heap hQ ⟨rfl, Nat.le_trans hn0 hge, _, Y', N.app hF⟩ hge)
/-- Throwable.getCause() (synchronized), by the subclass's name; the cause is null -/
theorem G.gc (C : Cx p s m c Z own by0 ml) (X : Sd p l e R s m args below meth c n0 T h cells slots) {x : MethodName} {idx : Nat} {a : Addr} {Cn : String} (hx : x.name = Jvm.RoadKit.gcN.name ∧ x.desc = Jvm.RoadKit.gcN.desc) (w1 : (Jvm.Cond.methodLink own idx x).before a0 Z = true) (ws : (Jvm.Cond.sameMethod x.cls tN x.name x.desc).before a0 Z = true) (w2 : (Jvm.Cond.declares ⟨tN, x.name, x.desc⟩).before a0 Z = true) (w3 : (Jvm.Cond.selects Cn x Jvm.RoadKit.gcN).before a0 Z = true) (w6 : (Jvm.Cond.instanceMethod Jvm.RoadKit.gcN).before a0 Z = true) (E : Exa Z h a Cn) (N : Unt h a) (F : Fld Z h a tN "cause" thD .null)
    (wc : (Jvm.Cond.codeSync Jvm.RoadKit.gcN Jvm.RoadKit.gcB 1 (some (.object tN))).before a0 Z = true) (wz : (Jvm.Cond.initialized tN).before a0 Z = true) (wf : (Jvm.Cond.fieldLink tN 7 tN "cause" thD).before a0 Z = true) (hd : decode by0 pc = .ok (.invokevirtual idx, 3)) (hp : pc + 3 = pc') (hsz : Ls.size = ml) (hf : 1 ≤ R.frames) (hl : (St.map fun v => v.category).sum + 12 ≤ R.locals) (hc : cells ≤ R.cells) (hs : slots ≤ R.slots)
    (hr : ∀ T', Sd p l e R s m args below meth c n0 T' h cells slots → OGo p e below K T' (mkF m pc' Ls (.null :: St))) : OGo p e below K T (mkF m pc Ls (.ref a :: St)) := by
  subst hp
  obtain ⟨eT, hn0, locs, Y, Nf⟩ := X
  have hK := gcBackPure (l := l) (R := R) (p := p) (e := e) (below := below) (s := s) (args := args) (rm := { frames := 0, cells := 0, slots := 0, locals := 0 }) (len := 3) (W := (St.map fun v => v.category).sum) C.2.1 wc w6 wz wf N F rfl hf hl
  obtain ⟨_, _, q1, _, q3⟩ := isOf C.2.1 eT E
  obtain ⟨v, _, ⟨B, L2, k2, n2⟩, -, Y', ⟨hv, hB, l1, y1, z1⟩, st⟩ := Y.virtualBackUp C.1 (x := x) (y := Jvm.RoadKit.gcN) (owner := tN) C.2.2.1 (mvT C.2.1 w1) (mvT C.2.1 ws) (mvT C.2.1 w2) (by decide) (mvT C.2.1 w3) (mvT C.2.1 w6) hK q1 q3 (g := mkF m pc Ls (.ref a :: St)) rfl (by rw [C.2.2.2.2]; exact hsz) (Steps.refl _) (argsL := []) (rest := St)
    (fun sig q => by rw [hx.2, show parseMethodDescriptor Jvm.RoadKit.gcN.desc = some ⟨[], some (.object tN)⟩ from by decide +kernel] at q; rw [← Option.some.inj q]; rfl) rfl (by show 2 * 0 + _ ≤ _; omega) (hb C.2.2.2.1 hd) (fun _ _ => ⟨rfl, eT, hc, hs⟩)
  dsimp only [Pt.U, Pt.locs, Pt.cells, Pt.slots] at Y' l1 y1 z1 st hB
  subst l1 y1 z1
  subst hv
  exact G.tr st (hr B ⟨hB, hn0, _, Y', Nf⟩)
theorem own_tk {vm : Vm} {m : MethodId} (h : methodKnown vm m = true) : vm.knowsMethod m := by
  unfold methodKnown at h
  cases hk : vm.classes[m.cls]? with
  | none => simp [hk] at h
  | some k => exact ⟨k, hk, fun cf hcf => by simpa [hk, hcf] using h⟩
theorem own_mk {s : State} (h : tablesKnown s = true) : s.vm.MethodsKnown := fun m x hm => by
  unfold Vm.method? at hm
  cases hk : s.vm.classes[m.cls]? with
  | none => simp [hk] at hm
  | some k =>
    simp only [hk, Option.bind_some] at hm
    refine ⟨k, hk, fun cf hcf => ?_⟩
    have q := (Array.all_eq_true_iff_forall_mem.mp h) k (Array.mem_of_getElem? hk)
    simp only [hcf, beq_iff_eq] at q
    have hlt := (Array.getElem?_eq_some_iff.mp hm).1
    rw [q] at hlt
    simp [hlt]
theorem own_fk {s : State} {m : MethodId} {args : Array Value} {below : List Frame} (h : framesKnown s = true) (hf : s.frames = .invoking m args :: below) : s.vm.FramesKnown below := fun y hy m' hm' => by
  unfold framesKnown at h
  rw [hf] at h
  have q := (List.all_eq_true.mp h) y (List.mem_cons_of_mem _ hy)
  cases y with
  | java g => cases hm'; exact own_tk q
  | native n => cases hm'; exact own_tk q
  | _ => cases hm'
end OwnExc
end Jvm.Pilot.@@N@@
namespace Jvm.Pilot.@@N@@
open Jvm Jvm.ClassFile Sem Op Lib Jvm.Free Jvm.Stand Jvm.LawKit Jvm.RoadKit Jvm.Free.Fl Jvm.FP Bundle Jvm.Pilot.@@N@@.Jvm.D
abbrev zq0 : String := "java/lang/String"
abbrev zq1 : String := "java/lang/AbstractStringBuilder"
abbrev zq2 : String := "java/lang/Integer"
abbrev zq3 : String := "java/lang/StringBuilder"
abbrev zq4 : String := "java/lang/Throwable"
abbrev zq5 : String := "COMPACT_STRINGS"
abbrev zq6 : String := "java/lang/Object"
abbrev zq7 : String := "com/example/wirecord/wirecord/SchemaExceptionAtPinLaw"
abbrev zq8 : String := "(I)Ljava/lang/AbstractStringBuilder;"
abbrev zq9 : String := "com/example/wirecord/wirecord/SchemaException"
abbrev zq10 : String := "jdk/internal/util/Preconditions"
abbrev zq11 : String := "SIOOBE_FORMATTER"
abbrev zq12 : String := "Ljava/util/function/BiFunction;"
abbrev zq13 : String := "java/util/List"
abbrev zq14 : String := "java/util/Arrays"
abbrev zq15 : String := "java/lang/StackTraceElement"
abbrev zq16 : String := "serialVersionUID"
abbrev zq17 : String := "java/lang/Math"
abbrev zq18 : String := "(Ljava/lang/String;II)Z"
abbrev zq19 : String := "java/lang/StringUTF16"
abbrev zq20 : String := "()Ljava/lang/String;"
abbrev zq21 : String := "(Ljava/lang/String;Ljava/lang/Throwable;)V"
abbrev zq22 : String := "[Ljava/lang/StackTraceElement;"
abbrev zq23 : String := "Ljava/util/List;"
abbrev zq24 : String := "Ljava/lang/String;"
abbrev zq25 : String := "detailMessage"
abbrev zq26 : String := "$assertionsDisabled"
abbrev zq27 : String := "(Ljava/lang/String;)Ljava/lang/AbstractStringBuilder;"
abbrev zq28 : String := "(II)Ljava/lang/String;"
abbrev zq29 : String := "(Ljava/lang/String;ILjava/lang/String;)Z"
abbrev zq30 : String := "Ljava/lang/Throwable;"
abbrev zq31 : String := "([CIILjava/lang/Void;)V"
abbrev zq32 : String := "(IILjava/util/function/BiFunction;)I"
abbrev zq33 : String := "java/util/function/BiFunction"
abbrev zq34 : String := "UNASSIGNED_STACK"
abbrev zq35 : String := "SUPPRESSED_SENTINEL"
abbrev zq36 : String := "copyOfRange"
abbrev zq37 : String := "java/io/Serializable"
abbrev zq38 : String := "(Ljava/lang/StringBuilder;)V"
abbrev zq39 : String := "(Ljava/lang/String;)Ljava/lang/StringBuilder;"
abbrev zq40 : String := "(I)Ljava/lang/StringBuilder;"
abbrev zq41 : String := "(Ljava/lang/String;IILjava/lang/String;)Lcom/example/wirecord/wirecord/SchemaException;"
abbrev zq42 : String := "jdk/internal/util/ArraysSupport"
abbrev zq43 : String := "coderFromArrayLen"
abbrev zq44 : String := "(Ljava/lang/String;)V"
abbrev zq45 : String := "(ILjava/lang/String;)V"
abbrev zq46 : String := "(Ljava/lang/AbstractStringBuilder;Ljava/lang/Void;)V"
abbrev zq47 : String := "(Ljava/lang/String;III)Z"
abbrev zq48 : String := "(Ljava/lang/String;Ljava/lang/Throwable;Z)V"
abbrev zq49 : String := "ensureCapacityInternal"
abbrev zq50 : String := "java/lang/StringLatin1"
abbrev zq51 : String := "suppressedExceptions"
abbrev zq52 : String := "java/lang/Exception"
abbrev zq53 : String := "java/io/PrintStream"
abbrev zq54 : String := "inflateIfNeededFor"
abbrev zq55 : String := "copyOfRangeByte"
abbrev zq56 : String := "Ljava/lang/Object;"
abbrev zq57 : String := "()Ljava/lang/Throwable;"
abbrev zq58 : String := "java/lang/Comparable"
abbrev zq59 : String := "java/lang/CharSequence"
abbrev zq60 : String := "java/lang/constant/Constable"
abbrev zq61 : String := "java/lang/constant/ConstantDesc"
abbrev zq62 : String := "java/lang/System"
abbrev zq63 : String := "(Ljava/lang/Object;ILjava/lang/Object;II)V"
abbrev zq64 : String := "java/lang/Appendable"
abbrev zq65 : String := "java/io/InputStream"
abbrev zq66 : String := "java/util/Collection"
abbrev zq67 : String := "java/util/Collections$EmptyList"
abbrev zq68 : String := "java/util/AbstractCollection"
abbrev zq69 : String := "java/util/SequencedCollection"
theorem nQ {a b : Nat} (h : Nat.ble a b = true) : a ≤ b := Nat.le_of_ble_eq_true h
set_option maxRecDepth 65536
set_option maxHeartbeats 40000000
abbrev rQ (a b c d : Nat) : Room := { frames := a, cells := b, slots := c, locals := d }
theorem hQ {own : String} {idx : Nat} {R n d : String} {a0 : Array Value} {Z : State} (w : (Jvm.Cond.fieldLink own idx R n d).before a0 Z = true) : (Jvm.Cond.fieldLink own idx R n d).before a0 Z = true ∨ (Jvm.Cond.fieldLinkNest own idx R n d "").before a0 Z = true := Or.inl w
theorem tQ0 : (-10 : Int32).toInt = -10 := by decide
theorem tQ1 : (10 : Int32).toInt = 10 := by decide
theorem tQ2 : (-100 : Int32).toInt = -100 := by decide
theorem tQ3 : (-9 : Int32).toInt = -9 := by decide
theorem tQ4 : (100 : Int32).toInt = 100 := by decide
theorem tQ5 : (-1000 : Int32).toInt = -1000 := by decide
theorem tQ6 : (1000 : Int32).toInt = 1000 := by decide
theorem tQ7 : (-10000 : Int32).toInt = -10000 := by decide
theorem tQ8 : (10000 : Int32).toInt = 10000 := by decide
theorem tQ9 : (-100000 : Int32).toInt = -100000 := by decide
theorem tQ10 : (100000 : Int32).toInt = 100000 := by decide
theorem tQ11 : (-1000000 : Int32).toInt = -1000000 := by decide
theorem tQ12 : (1000000 : Int32).toInt = 1000000 := by decide
theorem tQ13 : (-10000000 : Int32).toInt = -10000000 := by decide
theorem tQ14 : (10000000 : Int32).toInt = 10000000 := by decide
theorem tQ15 : (-100000000 : Int32).toInt = -100000000 := by decide
theorem tQ16 : (100000000 : Int32).toInt = 100000000 := by decide
theorem tQ17 : (-1000000000 : Int32).toInt = -1000000000 := by decide
theorem tQ18 : (1000000000 : Int32).toInt = 1000000000 := by decide
abbrev HW (a0 : Array Value) (Z : State) : Prop := ∀ d ∈ tables_1, d.before a0 Z = true
theorem mQ {α : Type} {a : α} {l : List α} {P : Prop} (i : Nat) (e : l[i]? = some a) : a ∈ l ∨ P := Or.inl (List.mem_of_getElem? e)
abbrev vR (a : Addr) : Slot := .val (.ref a)
abbrev vI (x : Int32) : Slot := .val (.int x)
abbrev vD (x : UInt64) : Slot := .val (.double x)
abbrev dQ (b : ByteArray) (p : Nat) (i : Instr) (n : Nat) : Prop := decode b p = .ok (i, n)
abbrev b1_ := jdk_29_method_69_code
abbrev b2_ := method_3_code
abbrev b3_ := jdk_42_method_3_code
abbrev b4_ := jdk_42_method_149_code
abbrev b6_ := prog_4_method_4_code
abbrev b7_ := jdk_67_method_1_code
abbrev b8_ := jdk_68_method_2_code
abbrev b9_ := jdk_67_method_7_code
abbrev b10_ := jdk_68_method_22_code
abbrev b11_ := jdk_42_method_54_code
abbrev b12_ := jdk_42_method_152_code
abbrev b13_ := jdk_68_method_9_code
abbrev b14_ := jdk_68_method_73_code
abbrev b15_ := jdk_68_method_71_code
abbrev b16_ := jdk_42_method_147_code
abbrev b17_ := jdk_67_method_15_code
abbrev b18_ := jdk_68_method_32_code
abbrev b19_ := jdk_33_method_13_code
abbrev b20_ := jdk_68_method_68_code
abbrev b21_ := jdk_33_method_12_code
abbrev b22_ := jdk_67_method_42_code
abbrev b23_ := jdk_42_method_53_code
abbrev b24_ := jdk_42_method_150_code
abbrev b25_ := jdk_68_method_64_code
abbrev b26_ := jdk_67_method_93_code
abbrev b27_ := jdk_68_method_6_code
abbrev b28_ := jdk_65_method_132_code
abbrev b29_ := jdk_65_method_133_code
abbrev b30_ := jdk_65_method_131_code
abbrev b31_ := prog_4_method_3_code
abbrev b32_ := jdk_59_method_3_code
abbrev b33_ := jdk_78_method_3_code
abbrev b36_ := prog_4_method_5_code
abbrev b38_ := jdk_78_method_6_code
abbrev b39_ := method_5_code
abbrev b40_ := method_4_code
abbrev b41_ := jdk_42_method_56_code
abbrev b42_ := jdk_42_method_154_code
abbrev b43_ := jdk_43_method_2_code
abbrev b44_ := jdk_42_method_155_code
abbrev b45_ := jdk_41_method_11_code
abbrev b46_ := method_7_code
abbrev b47_ := method_6_code
abbrev b48_ := jdk_52_method_16_code
abbrev b49_ := jdk_52_method_21_code
abbrev b50_ := jdk_52_method_15_code
abbrev b51_ := jdk_68_method_10_code
abbrev b52_ := jdk_48_method_27_code
abbrev b53_ := jdk_29_method_65_code
abbrev b54_ := jdk_65_method_121_code
theorem wQ {a0 : Array Value} {Z : State} (hw : HW a0 Z) (i : Nat) {x : Jvm.Cond} (e : tables_1[i]? = some x) : x.before a0 Z = true := hw _ (List.mem_of_getElem? e)
def wd0 {a0 Z} (hw : HW a0 Z) := wQ hw 0 rfl
def wd1 {a0 Z} (hw : HW a0 Z) := wQ hw 1 rfl
def wd2 {a0 Z} (hw : HW a0 Z) := wQ hw 2 rfl
def wd3 {a0 Z} (hw : HW a0 Z) := wQ hw 3 rfl
def wd4 {a0 Z} (hw : HW a0 Z) := wQ hw 4 rfl
def wd5 {a0 Z} (hw : HW a0 Z) := wQ hw 5 rfl
def wd6 {a0 Z} (hw : HW a0 Z) := wQ hw 6 rfl
def wd7 {a0 Z} (hw : HW a0 Z) := wQ hw 7 rfl
def wd8 {a0 Z} (hw : HW a0 Z) := wQ hw 8 rfl
def wd9 {a0 Z} (hw : HW a0 Z) := wQ hw 9 rfl
def wd10 {a0 Z} (hw : HW a0 Z) := wQ hw 10 rfl
def wd11 {a0 Z} (hw : HW a0 Z) := wQ hw 11 rfl
def wd12 {a0 Z} (hw : HW a0 Z) := wQ hw 12 rfl
def wd13 {a0 Z} (hw : HW a0 Z) := wQ hw 13 rfl
def wd14 {a0 Z} (hw : HW a0 Z) := wQ hw 14 rfl
def wd15 {a0 Z} (hw : HW a0 Z) := wQ hw 15 rfl
def wd16 {a0 Z} (hw : HW a0 Z) := wQ hw 16 rfl
def wd18 {a0 Z} (hw : HW a0 Z) := wQ hw 18 rfl
def wd19 {a0 Z} (hw : HW a0 Z) := wQ hw 19 rfl
def wd20 {a0 Z} (hw : HW a0 Z) := wQ hw 20 rfl
def wd21 {a0 Z} (hw : HW a0 Z) := wQ hw 21 rfl
def wd22 {a0 Z} (hw : HW a0 Z) := wQ hw 22 rfl
def wd23 {a0 Z} (hw : HW a0 Z) := wQ hw 23 rfl
def wd24 {a0 Z} (hw : HW a0 Z) := wQ hw 24 rfl
def wd25 {a0 Z} (hw : HW a0 Z) := wQ hw 25 rfl
def wd26 {a0 Z} (hw : HW a0 Z) := wQ hw 26 rfl
def wd27 {a0 Z} (hw : HW a0 Z) := wQ hw 27 rfl
def wd28 {a0 Z} (hw : HW a0 Z) := wQ hw 28 rfl
def wd29 {a0 Z} (hw : HW a0 Z) := wQ hw 29 rfl
def wd30 {a0 Z} (hw : HW a0 Z) := wQ hw 30 rfl
def wd31 {a0 Z} (hw : HW a0 Z) := wQ hw 31 rfl
def wd32 {a0 Z} (hw : HW a0 Z) := wQ hw 32 rfl
def wd33 {a0 Z} (hw : HW a0 Z) := wQ hw 33 rfl
def wd34 {a0 Z} (hw : HW a0 Z) := wQ hw 34 rfl
def wd35 {a0 Z} (hw : HW a0 Z) := wQ hw 35 rfl
def wd36 {a0 Z} (hw : HW a0 Z) := wQ hw 36 rfl
def wd37 {a0 Z} (hw : HW a0 Z) := wQ hw 37 rfl
def wd38 {a0 Z} (hw : HW a0 Z) := wQ hw 38 rfl
def wd39 {a0 Z} (hw : HW a0 Z) := wQ hw 39 rfl
def wd40 {a0 Z} (hw : HW a0 Z) := wQ hw 40 rfl
def wd41 {a0 Z} (hw : HW a0 Z) := wQ hw 41 rfl
def wd42 {a0 Z} (hw : HW a0 Z) := wQ hw 42 rfl
def wd43 {a0 Z} (hw : HW a0 Z) := wQ hw 43 rfl
def wd44 {a0 Z} (hw : HW a0 Z) := wQ hw 44 rfl
def wd47 {a0 Z} (hw : HW a0 Z) := wQ hw 47 rfl
def wd48 {a0 Z} (hw : HW a0 Z) := wQ hw 48 rfl
def wd49 {a0 Z} (hw : HW a0 Z) := wQ hw 49 rfl
def wd50 {a0 Z} (hw : HW a0 Z) := wQ hw 50 rfl
def wd51 {a0 Z} (hw : HW a0 Z) := wQ hw 51 rfl
def wd52 {a0 Z} (hw : HW a0 Z) := wQ hw 52 rfl
def wd53 {a0 Z} (hw : HW a0 Z) := wQ hw 53 rfl
def wd54 {a0 Z} (hw : HW a0 Z) := wQ hw 54 rfl
def wd55 {a0 Z} (hw : HW a0 Z) := wQ hw 55 rfl
def wd56 {a0 Z} (hw : HW a0 Z) := wQ hw 56 rfl
def wd57 {a0 Z} (hw : HW a0 Z) := wQ hw 57 rfl
def wd58 {a0 Z} (hw : HW a0 Z) := wQ hw 58 rfl
def wd59 {a0 Z} (hw : HW a0 Z) := wQ hw 59 rfl
def wd60 {a0 Z} (hw : HW a0 Z) := wQ hw 60 rfl
def wd61 {a0 Z} (hw : HW a0 Z) := wQ hw 61 rfl
def wd62 {a0 Z} (hw : HW a0 Z) := wQ hw 62 rfl
def wd64 {a0 Z} (hw : HW a0 Z) := wQ hw 64 rfl
def wd65 {a0 Z} (hw : HW a0 Z) := wQ hw 65 rfl
def wd66 {a0 Z} (hw : HW a0 Z) := wQ hw 66 rfl
def wd67 {a0 Z} (hw : HW a0 Z) := wQ hw 67 rfl
def wd68 {a0 Z} (hw : HW a0 Z) := wQ hw 68 rfl
def wd69 {a0 Z} (hw : HW a0 Z) := wQ hw 69 rfl
def wd70 {a0 Z} (hw : HW a0 Z) := wQ hw 70 rfl
def wd71 {a0 Z} (hw : HW a0 Z) := wQ hw 71 rfl
def wd72 {a0 Z} (hw : HW a0 Z) := wQ hw 72 rfl
def wd73 {a0 Z} (hw : HW a0 Z) := wQ hw 73 rfl
def wd74 {a0 Z} (hw : HW a0 Z) := wQ hw 74 rfl
def wd75 {a0 Z} (hw : HW a0 Z) := wQ hw 75 rfl
def wd76 {a0 Z} (hw : HW a0 Z) := wQ hw 76 rfl
def wd77 {a0 Z} (hw : HW a0 Z) := wQ hw 77 rfl
def wd78 {a0 Z} (hw : HW a0 Z) := wQ hw 78 rfl
def wd79 {a0 Z} (hw : HW a0 Z) := wQ hw 79 rfl
def wd80 {a0 Z} (hw : HW a0 Z) := wQ hw 80 rfl
def wd81 {a0 Z} (hw : HW a0 Z) := wQ hw 81 rfl
def wd82 {a0 Z} (hw : HW a0 Z) := wQ hw 82 rfl
def wd83 {a0 Z} (hw : HW a0 Z) := wQ hw 83 rfl
def wd84 {a0 Z} (hw : HW a0 Z) := wQ hw 84 rfl
def wd85 {a0 Z} (hw : HW a0 Z) := wQ hw 85 rfl
def wd87 {a0 Z} (hw : HW a0 Z) := wQ hw 87 rfl
def wd88 {a0 Z} (hw : HW a0 Z) := wQ hw 88 rfl
def wd89 {a0 Z} (hw : HW a0 Z) := wQ hw 89 rfl
def wd90 {a0 Z} (hw : HW a0 Z) := wQ hw 90 rfl
def wd92 {a0 Z} (hw : HW a0 Z) := wQ hw 92 rfl
def wd93 {a0 Z} (hw : HW a0 Z) := wQ hw 93 rfl
def wd94 {a0 Z} (hw : HW a0 Z) := wQ hw 94 rfl
def wd95 {a0 Z} (hw : HW a0 Z) := wQ hw 95 rfl
def wd96 {a0 Z} (hw : HW a0 Z) := wQ hw 96 rfl
def wd97 {a0 Z} (hw : HW a0 Z) := wQ hw 97 rfl
def wd98 {a0 Z} (hw : HW a0 Z) := wQ hw 98 rfl
def wd99 {a0 Z} (hw : HW a0 Z) := wQ hw 99 rfl
def wd100 {a0 Z} (hw : HW a0 Z) := wQ hw 100 rfl
def wd101 {a0 Z} (hw : HW a0 Z) := wQ hw 101 rfl
def wd102 {a0 Z} (hw : HW a0 Z) := wQ hw 102 rfl
def wd103 {a0 Z} (hw : HW a0 Z) := wQ hw 103 rfl
def wd104 {a0 Z} (hw : HW a0 Z) := wQ hw 104 rfl
def wd105 {a0 Z} (hw : HW a0 Z) := wQ hw 105 rfl
def wd106 {a0 Z} (hw : HW a0 Z) := wQ hw 106 rfl
def wd107 {a0 Z} (hw : HW a0 Z) := wQ hw 107 rfl
def wd108 {a0 Z} (hw : HW a0 Z) := wQ hw 108 rfl
def wd109 {a0 Z} (hw : HW a0 Z) := wQ hw 109 rfl
def wd110 {a0 Z} (hw : HW a0 Z) := wQ hw 110 rfl
def wd112 {a0 Z} (hw : HW a0 Z) := wQ hw 112 rfl
def wd113 {a0 Z} (hw : HW a0 Z) := wQ hw 113 rfl
def wd114 {a0 Z} (hw : HW a0 Z) := wQ hw 114 rfl
def wd115 {a0 Z} (hw : HW a0 Z) := wQ hw 115 rfl
def wd116 {a0 Z} (hw : HW a0 Z) := wQ hw 116 rfl
def wd117 {a0 Z} (hw : HW a0 Z) := wQ hw 117 rfl
def wd118 {a0 Z} (hw : HW a0 Z) := wQ hw 118 rfl
def wd119 {a0 Z} (hw : HW a0 Z) := wQ hw 119 rfl
def wd120 {a0 Z} (hw : HW a0 Z) := wQ hw 120 rfl
def wd121 {a0 Z} (hw : HW a0 Z) := wQ hw 121 rfl
def wd122 {a0 Z} (hw : HW a0 Z) := wQ hw 122 rfl
def wd123 {a0 Z} (hw : HW a0 Z) := wQ hw 123 rfl
def wd124 {a0 Z} (hw : HW a0 Z) := wQ hw 124 rfl
def wd125 {a0 Z} (hw : HW a0 Z) := wQ hw 125 rfl
def wd126 {a0 Z} (hw : HW a0 Z) := wQ hw 126 rfl
def wd127 {a0 Z} (hw : HW a0 Z) := wQ hw 127 rfl
def wd128 {a0 Z} (hw : HW a0 Z) := wQ hw 128 rfl
def wd129 {a0 Z} (hw : HW a0 Z) := wQ hw 129 rfl
def wd130 {a0 Z} (hw : HW a0 Z) := wQ hw 130 rfl
def wd131 {a0 Z} (hw : HW a0 Z) := wQ hw 131 rfl
def wd132 {a0 Z} (hw : HW a0 Z) := wQ hw 132 rfl
def wd133 {a0 Z} (hw : HW a0 Z) := wQ hw 133 rfl
def wd134 {a0 Z} (hw : HW a0 Z) := wQ hw 134 rfl
def wd135 {a0 Z} (hw : HW a0 Z) := wQ hw 135 rfl
def wd136 {a0 Z} (hw : HW a0 Z) := wQ hw 136 rfl
def wd137 {a0 Z} (hw : HW a0 Z) := wQ hw 137 rfl
def wd138 {a0 Z} (hw : HW a0 Z) := wQ hw 138 rfl
def wd139 {a0 Z} (hw : HW a0 Z) := wQ hw 139 rfl
def wd140 {a0 Z} (hw : HW a0 Z) := wQ hw 140 rfl
def wd141 {a0 Z} (hw : HW a0 Z) := wQ hw 141 rfl
def wd142 {a0 Z} (hw : HW a0 Z) := wQ hw 142 rfl
def wd143 {a0 Z} (hw : HW a0 Z) := wQ hw 143 rfl
def wd144 {a0 Z} (hw : HW a0 Z) := wQ hw 144 rfl
def wd145 {a0 Z} (hw : HW a0 Z) := wQ hw 145 rfl
def wd146 {a0 Z} (hw : HW a0 Z) := wQ hw 146 rfl
def wd147 {a0 Z} (hw : HW a0 Z) := wQ hw 147 rfl
def wd148 {a0 Z} (hw : HW a0 Z) := wQ hw 148 rfl
def wd149 {a0 Z} (hw : HW a0 Z) := wQ hw 149 rfl
def wd150 {a0 Z} (hw : HW a0 Z) := wQ hw 150 rfl
def wd151 {a0 Z} (hw : HW a0 Z) := wQ hw 151 rfl
def wd152 {a0 Z} (hw : HW a0 Z) := wQ hw 152 rfl
def wd153 {a0 Z} (hw : HW a0 Z) := wQ hw 153 rfl
def wd154 {a0 Z} (hw : HW a0 Z) := wQ hw 154 rfl
def wd155 {a0 Z} (hw : HW a0 Z) := wQ hw 155 rfl
def wd156 {a0 Z} (hw : HW a0 Z) := wQ hw 156 rfl
def wd157 {a0 Z} (hw : HW a0 Z) := wQ hw 157 rfl
def wd158 {a0 Z} (hw : HW a0 Z) := wQ hw 158 rfl
def wd159 {a0 Z} (hw : HW a0 Z) := wQ hw 159 rfl
def wd160 {a0 Z} (hw : HW a0 Z) := wQ hw 160 rfl
def wd161 {a0 Z} (hw : HW a0 Z) := wQ hw 161 rfl
def wd162 {a0 Z} (hw : HW a0 Z) := wQ hw 162 rfl
def wd163 {a0 Z} (hw : HW a0 Z) := wQ hw 163 rfl
def wd164 {a0 Z} (hw : HW a0 Z) := wQ hw 164 rfl
def wd165 {a0 Z} (hw : HW a0 Z) := wQ hw 165 rfl
def wd166 {a0 Z} (hw : HW a0 Z) := wQ hw 166 rfl
def wd167 {a0 Z} (hw : HW a0 Z) := wQ hw 167 rfl
def wd168 {a0 Z} (hw : HW a0 Z) := wQ hw 168 rfl
def wd169 {a0 Z} (hw : HW a0 Z) := wQ hw 169 rfl
def wd171 {a0 Z} (hw : HW a0 Z) := wQ hw 171 rfl
def wd172 {a0 Z} (hw : HW a0 Z) := wQ hw 172 rfl
def wd173 {a0 Z} (hw : HW a0 Z) := wQ hw 173 rfl
def wd174 {a0 Z} (hw : HW a0 Z) := wQ hw 174 rfl
def wd177 {a0 Z} (hw : HW a0 Z) := wQ hw 177 rfl
def wd178 {a0 Z} (hw : HW a0 Z) := wQ hw 178 rfl
def wd179 {a0 Z} (hw : HW a0 Z) := wQ hw 179 rfl
def wd180 {a0 Z} (hw : HW a0 Z) := wQ hw 180 rfl
def wd181 {a0 Z} (hw : HW a0 Z) := wQ hw 181 rfl
def wd182 {a0 Z} (hw : HW a0 Z) := wQ hw 182 rfl
def wd183 {a0 Z} (hw : HW a0 Z) := wQ hw 183 rfl
def wd184 {a0 Z} (hw : HW a0 Z) := wQ hw 184 rfl
def wd185 {a0 Z} (hw : HW a0 Z) := wQ hw 185 rfl
def wd186 {a0 Z} (hw : HW a0 Z) := wQ hw 186 rfl
def wd187 {a0 Z} (hw : HW a0 Z) := wQ hw 187 rfl
def wd188 {a0 Z} (hw : HW a0 Z) := wQ hw 188 rfl
def wd189 {a0 Z} (hw : HW a0 Z) := wQ hw 189 rfl
def wd190 {a0 Z} (hw : HW a0 Z) := wQ hw 190 rfl
def wd191 {a0 Z} (hw : HW a0 Z) := wQ hw 191 rfl
def wd192 {a0 Z} (hw : HW a0 Z) := wQ hw 192 rfl
def wd193 {a0 Z} (hw : HW a0 Z) := wQ hw 193 rfl
def wd194 {a0 Z} (hw : HW a0 Z) := wQ hw 194 rfl
def wd195 {a0 Z} (hw : HW a0 Z) := wQ hw 195 rfl
def wd196 {a0 Z} (hw : HW a0 Z) := wQ hw 196 rfl
def wd197 {a0 Z} (hw : HW a0 Z) := wQ hw 197 rfl
def wd198 {a0 Z} (hw : HW a0 Z) := wQ hw 198 rfl
def wd201 {a0 Z} (hw : HW a0 Z) := wQ hw 201 rfl
def wd206 {a0 Z} (hw : HW a0 Z) := wQ hw 206 rfl
def wd208 {a0 Z} (hw : HW a0 Z) := wQ hw 208 rfl
def wd209 {a0 Z} (hw : HW a0 Z) := wQ hw 209 rfl
def wd210 {a0 Z} (hw : HW a0 Z) := wQ hw 210 rfl
def wd211 {a0 Z} (hw : HW a0 Z) := wQ hw 211 rfl
def wd212 {a0 Z} (hw : HW a0 Z) := wQ hw 212 rfl
def wd213 {a0 Z} (hw : HW a0 Z) := wQ hw 213 rfl
def wd215 {a0 Z} (hw : HW a0 Z) := wQ hw 215 rfl
def wd216 {a0 Z} (hw : HW a0 Z) := wQ hw 216 rfl
def wd217 {a0 Z} (hw : HW a0 Z) := wQ hw 217 rfl
def wd218 {a0 Z} (hw : HW a0 Z) := wQ hw 218 rfl
def wd219 {a0 Z} (hw : HW a0 Z) := wQ hw 219 rfl
def wd220 {a0 Z} (hw : HW a0 Z) := wQ hw 220 rfl
def wd221 {a0 Z} (hw : HW a0 Z) := wQ hw 221 rfl
def wd222 {a0 Z} (hw : HW a0 Z) := wQ hw 222 rfl
def wd223 {a0 Z} (hw : HW a0 Z) := wQ hw 223 rfl
def wd224 {a0 Z} (hw : HW a0 Z) := wQ hw 224 rfl
def wd225 {a0 Z} (hw : HW a0 Z) := wQ hw 225 rfl
def wd226 {a0 Z} (hw : HW a0 Z) := wQ hw 226 rfl
def wd227 {a0 Z} (hw : HW a0 Z) := wQ hw 227 rfl
def wd228 {a0 Z} (hw : HW a0 Z) := wQ hw 228 rfl
def wd229 {a0 Z} (hw : HW a0 Z) := wQ hw 229 rfl
def wd230 {a0 Z} (hw : HW a0 Z) := wQ hw 230 rfl
def wd231 {a0 Z} (hw : HW a0 Z) := wQ hw 231 rfl
def wd232 {a0 Z} (hw : HW a0 Z) := wQ hw 232 rfl
def wd233 {a0 Z} (hw : HW a0 Z) := wQ hw 233 rfl
def wd234 {a0 Z} (hw : HW a0 Z) := wQ hw 234 rfl
def wd235 {a0 Z} (hw : HW a0 Z) := wQ hw 235 rfl
def wd236 {a0 Z} (hw : HW a0 Z) := wQ hw 236 rfl
def wd237 {a0 Z} (hw : HW a0 Z) := wQ hw 237 rfl
def wd238 {a0 Z} (hw : HW a0 Z) := wQ hw 238 rfl
def wd239 {a0 Z} (hw : HW a0 Z) := wQ hw 239 rfl
def wd240 {a0 Z} (hw : HW a0 Z) := wQ hw 240 rfl
def wd241 {a0 Z} (hw : HW a0 Z) := wQ hw 241 rfl
def wd242 {a0 Z} (hw : HW a0 Z) := wQ hw 242 rfl
def wd243 {a0 Z} (hw : HW a0 Z) := wQ hw 243 rfl
def wd244 {a0 Z} (hw : HW a0 Z) := wQ hw 244 rfl
def wd245 {a0 Z} (hw : HW a0 Z) := wQ hw 245 rfl
def wd246 {a0 Z} (hw : HW a0 Z) := wQ hw 246 rfl
def wd247 {a0 Z} (hw : HW a0 Z) := wQ hw 247 rfl
def wd248 {a0 Z} (hw : HW a0 Z) := wQ hw 248 rfl
def wd249 {a0 Z} (hw : HW a0 Z) := wQ hw 249 rfl
def wd250 {a0 Z} (hw : HW a0 Z) := wQ hw 250 rfl
def wd251 {a0 Z} (hw : HW a0 Z) := wQ hw 251 rfl
def wd252 {a0 Z} (hw : HW a0 Z) := wQ hw 252 rfl
def wd253 {a0 Z} (hw : HW a0 Z) := wQ hw 253 rfl
def wd254 {a0 Z} (hw : HW a0 Z) := wQ hw 254 rfl
def wd255 {a0 Z} (hw : HW a0 Z) := wQ hw 255 rfl
def wd256 {a0 Z} (hw : HW a0 Z) := wQ hw 256 rfl
def wd257 {a0 Z} (hw : HW a0 Z) := wQ hw 257 rfl
def wd258 {a0 Z} (hw : HW a0 Z) := wQ hw 258 rfl
def wd259 {a0 Z} (hw : HW a0 Z) := wQ hw 259 rfl
def wd260 {a0 Z} (hw : HW a0 Z) := wQ hw 260 rfl
def wd261 {a0 Z} (hw : HW a0 Z) := wQ hw 261 rfl
def wd262 {a0 Z} (hw : HW a0 Z) := wQ hw 262 rfl
def wd263 {a0 Z} (hw : HW a0 Z) := wQ hw 263 rfl
def wd264 {a0 Z} (hw : HW a0 Z) := wQ hw 264 rfl
def wd265 {a0 Z} (hw : HW a0 Z) := wQ hw 265 rfl
def wd266 {a0 Z} (hw : HW a0 Z) := wQ hw 266 rfl
def wd267 {a0 Z} (hw : HW a0 Z) := wQ hw 267 rfl
def wd268 {a0 Z} (hw : HW a0 Z) := wQ hw 268 rfl
def wd269 {a0 Z} (hw : HW a0 Z) := wQ hw 269 rfl
def wd270 {a0 Z} (hw : HW a0 Z) := wQ hw 270 rfl
def wd271 {a0 Z} (hw : HW a0 Z) := wQ hw 271 rfl
def wd272 {a0 Z} (hw : HW a0 Z) := wQ hw 272 rfl
def wd273 {a0 Z} (hw : HW a0 Z) := wQ hw 273 rfl
def wd274 {a0 Z} (hw : HW a0 Z) := wQ hw 274 rfl
def wd275 {a0 Z} (hw : HW a0 Z) := wQ hw 275 rfl
def wd276 {a0 Z} (hw : HW a0 Z) := wQ hw 276 rfl
def wd277 {a0 Z} (hw : HW a0 Z) := wQ hw 277 rfl
def wd278 {a0 Z} (hw : HW a0 Z) := wQ hw 278 rfl
def wd279 {a0 Z} (hw : HW a0 Z) := wQ hw 279 rfl
def wd280 {a0 Z} (hw : HW a0 Z) := wQ hw 280 rfl
def wd281 {a0 Z} (hw : HW a0 Z) := wQ hw 281 rfl
def wd282 {a0 Z} (hw : HW a0 Z) := wQ hw 282 rfl
def wd283 {a0 Z} (hw : HW a0 Z) := wQ hw 283 rfl
def wd285 {a0 Z} (hw : HW a0 Z) := wQ hw 285 rfl
def wd286 {a0 Z} (hw : HW a0 Z) := wQ hw 286 rfl
def wd287 {a0 Z} (hw : HW a0 Z) := wQ hw 287 rfl
def wd288 {a0 Z} (hw : HW a0 Z) := wQ hw 288 rfl
def wd289 {a0 Z} (hw : HW a0 Z) := wQ hw 289 rfl
def wd290 {a0 Z} (hw : HW a0 Z) := wQ hw 290 rfl
def wd291 {a0 Z} (hw : HW a0 Z) := wQ hw 291 rfl
def wd292 {a0 Z} (hw : HW a0 Z) := wQ hw 292 rfl
def wd293 {a0 Z} (hw : HW a0 Z) := wQ hw 293 rfl
def wd294 {a0 Z} (hw : HW a0 Z) := wQ hw 294 rfl
def wd295 {a0 Z} (hw : HW a0 Z) := wQ hw 295 rfl
def wd296 {a0 Z} (hw : HW a0 Z) := wQ hw 296 rfl
def wd297 {a0 Z} (hw : HW a0 Z) := wQ hw 297 rfl
def wd298 {a0 Z} (hw : HW a0 Z) := wQ hw 298 rfl
def wd299 {a0 Z} (hw : HW a0 Z) := wQ hw 299 rfl
def wd300 {a0 Z} (hw : HW a0 Z) := wQ hw 300 rfl
def wd301 {a0 Z} (hw : HW a0 Z) := wQ hw 301 rfl
def wd302 {a0 Z} (hw : HW a0 Z) := wQ hw 302 rfl
def wd303 {a0 Z} (hw : HW a0 Z) := wQ hw 303 rfl
def wd304 {a0 Z} (hw : HW a0 Z) := wQ hw 304 rfl
def wd306 {a0 Z} (hw : HW a0 Z) := wQ hw 306 rfl
def wd307 {a0 Z} (hw : HW a0 Z) := wQ hw 307 rfl
def wd308 {a0 Z} (hw : HW a0 Z) := wQ hw 308 rfl
def wd309 {a0 Z} (hw : HW a0 Z) := wQ hw 309 rfl
def wd310 {a0 Z} (hw : HW a0 Z) := wQ hw 310 rfl
def wd311 {a0 Z} (hw : HW a0 Z) := wQ hw 311 rfl
def sQ0 {a0 Z} (hw : HW a0 Z) := slot_ne (Or.inr (wd24 hw)) (Or.inr (wd25 hw)) (by decide) (t := (.array .byte)) (t' := .byte) (by decide) (by decide)
def sQ1 {a0 Z} (hw : HW a0 Z) := slot_ne (Or.inr (wd25 hw)) (Or.inr (wd24 hw)) (by decide) (t := .byte) (t' := (.array .byte)) (by decide) (by decide)
def sQ2 {a0 Z} (hw : HW a0 Z) := slot_ne (Or.inl (wd54 hw)) (Or.inl (wd52 hw)) (by decide) (t := .byte) (t' := (.array .byte)) (by decide) (by decide)
def sQ3 {a0 Z} (hw : HW a0 Z) := slot_ne (Or.inl (wd52 hw)) (Or.inl (wd54 hw)) (by decide) (t := (.array .byte)) (t' := .byte) (by decide) (by decide)
def sQ4 {a0 Z} (hw : HW a0 Z) := slot_ne (Or.inl (wd77 hw)) (Or.inl (wd52 hw)) (by decide) (t := .int) (t' := (.array .byte)) (by decide) (by decide)
def sQ5 {a0 Z} (hw : HW a0 Z) := slot_ne (Or.inl (wd77 hw)) (Or.inl (wd54 hw)) (by decide) (t := .int) (t' := .byte) (by decide) (by decide)
def sQ6 {a0 Z} (hw : HW a0 Z) := slot_ne (Or.inl (wd52 hw)) (Or.inl (wd77 hw)) (by decide) (t := (.array .byte)) (t' := .int) (by decide) (by decide)
def sQ7 {a0 Z} (hw : HW a0 Z) := slot_ne (Or.inl (wd54 hw)) (Or.inl (wd77 hw)) (by decide) (t := .byte) (t' := .int) (by decide) (by decide)
def sQ8 {a0 Z} (hw : HW a0 Z) := slot_ne (Or.inl (wd184 hw)) (Or.inl (wd181 hw)) (by decide) (t := (.array (.object zq15))) (t' := (.object zq4)) (by decide) (by decide)
def sQ9 {a0 Z} (hw : HW a0 Z) := slot_ne (Or.inl (wd187 hw)) (Or.inl (wd181 hw)) (by decide) (t := (.object zq13)) (t' := (.object zq4)) (by decide) (by decide)
def sQ10 {a0 Z} (hw : HW a0 Z) := slot_ne (Or.inl (wd187 hw)) (Or.inl (wd184 hw)) (by decide) (t := (.object zq13)) (t' := (.array (.object zq15))) (by decide) (by decide)
def sQ11 {a0 Z} (hw : HW a0 Z) := slot_ne (Or.inl (wd181 hw)) (Or.inl (wd184 hw)) (by decide) (t := (.object zq4)) (t' := (.array (.object zq15))) (by decide) (by decide)
def sQ12 {a0 Z} (hw : HW a0 Z) := slot_ne (Or.inl (wd181 hw)) (Or.inl (wd187 hw)) (by decide) (t := (.object zq4)) (t' := (.object zq13)) (by decide) (by decide)
def sQ13 {a0 Z} (hw : HW a0 Z) := slot_ne (Or.inl (wd211 hw)) (Or.inl (wd181 hw)) (by decide) (t := (.object zq0)) (t' := (.object zq4)) (by decide) (by decide)
def sQ14 {a0 Z} (hw : HW a0 Z) := slot_ne (Or.inl (wd211 hw)) (Or.inl (wd184 hw)) (by decide) (t := (.object zq0)) (t' := (.array (.object zq15))) (by decide) (by decide)
def sQ15 {a0 Z} (hw : HW a0 Z) := slot_ne (Or.inl (wd211 hw)) (Or.inl (wd187 hw)) (by decide) (t := (.object zq0)) (t' := (.object zq13)) (by decide) (by decide)
def sQ16 {a0 Z} (hw : HW a0 Z) := slot_ne (Or.inr (wd217 hw)) (Or.inl (wd181 hw)) (by decide) (t := .boolean) (t' := (.object zq4)) (by decide) (by decide)
def sQ17 {a0 Z} (hw : HW a0 Z) := slot_ne (Or.inr (wd217 hw)) (Or.inl (wd184 hw)) (by decide) (t := .boolean) (t' := (.array (.object zq15))) (by decide) (by decide)
def sQ18 {a0 Z} (hw : HW a0 Z) := slot_ne (Or.inr (wd217 hw)) (Or.inl (wd187 hw)) (by decide) (t := .boolean) (t' := (.object zq13)) (by decide) (by decide)
def sQ19 {a0 Z} (hw : HW a0 Z) := slot_ne (Or.inl (wd184 hw)) (Or.inl (wd187 hw)) (by decide) (t := (.array (.object zq15))) (t' := (.object zq13)) (by decide) (by decide)
def sQ20 {a0 Z} (hw : HW a0 Z) := slot_ne (Or.inl (wd212 hw)) (Or.inl (wd181 hw)) (by decide) (t := (.object zq6)) (t' := (.object zq4)) (by decide) (by decide)
def sQ21 {a0 Z} (hw : HW a0 Z) := slot_ne (Or.inl (wd212 hw)) (Or.inl (wd184 hw)) (by decide) (t := (.object zq6)) (t' := (.array (.object zq15))) (by decide) (by decide)
def sQ22 {a0 Z} (hw : HW a0 Z) := slot_ne (Or.inl (wd212 hw)) (Or.inl (wd187 hw)) (by decide) (t := (.object zq6)) (t' := (.object zq13)) (by decide) (by decide)
def sQ23 {a0 Z} (hw : HW a0 Z) := slot_ne (Or.inl (wd181 hw)) (Or.inl (wd212 hw)) (by decide) (t := (.object zq4)) (t' := (.object zq6)) (by decide) (by decide)
def sQ24 {a0 Z} (hw : HW a0 Z) := slot_ne (Or.inl (wd181 hw)) (Or.inl (wd213 hw)) (by decide) (t := (.object zq4)) (t' := .int) (by decide) (by decide)
def sQ25 {a0 Z} (hw : HW a0 Z) := slot_ne (Or.inl (wd187 hw)) (Or.inl (wd212 hw)) (by decide) (t := (.object zq13)) (t' := (.object zq6)) (by decide) (by decide)
def sQ26 {a0 Z} (hw : HW a0 Z) := slot_ne (Or.inl (wd187 hw)) (Or.inl (wd213 hw)) (by decide) (t := (.object zq13)) (t' := .int) (by decide) (by decide)
def sQ27 {a0 Z} (hw : HW a0 Z) := slot_ne (Or.inl (wd211 hw)) (Or.inl (wd212 hw)) (by decide) (t := (.object zq0)) (t' := (.object zq6)) (by decide) (by decide)
def sQ28 {a0 Z} (hw : HW a0 Z) := slot_ne (Or.inl (wd211 hw)) (Or.inl (wd213 hw)) (by decide) (t := (.object zq0)) (t' := .int) (by decide) (by decide)
def sQ29 {a0 Z} (hw : HW a0 Z) := slot_ne (Or.inr (wd217 hw)) (Or.inl (wd212 hw)) (by decide) (t := .boolean) (t' := (.object zq6)) (by decide) (by decide)
def sQ30 {a0 Z} (hw : HW a0 Z) := slot_ne (Or.inr (wd217 hw)) (Or.inl (wd213 hw)) (by decide) (t := .boolean) (t' := .int) (by decide) (by decide)
def sQ31 {a0 Z} (hw : HW a0 Z) := slot_ne (Or.inl (wd181 hw)) (Or.inl (wd211 hw)) (by decide) (t := (.object zq4)) (t' := (.object zq0)) (by decide) (by decide)
def sQ32 {a0 Z} (hw : HW a0 Z) := slot_ne (Or.inr (wd217 hw)) (Or.inl (wd211 hw)) (by decide) (t := .boolean) (t' := (.object zq0)) (by decide) (by decide)
def sQ33 {a0 Z} (hw : HW a0 Z) := slot_ne (Or.inl (wd211 hw)) (Or.inr (wd217 hw)) (by decide) (t := (.object zq0)) (t' := .boolean) (by decide) (by decide)
def sQ34 {a0 Z} (hw : HW a0 Z) := slot_ne (Or.inl (wd181 hw)) (Or.inr (wd217 hw)) (by decide) (t := (.object zq4)) (t' := .boolean) (by decide) (by decide)
theorem d1_0 : dQ b1_ 0 (.iload_n 0) 1 := by decide +kernel
theorem d1_1 : dQ b1_ 1 (.iload_n 1) 1 := by decide +kernel
theorem d1_2 : dQ b1_ 2 (.if_icmp .gt 7) 3 := by decide +kernel
theorem d1_5 : dQ b1_ 5 (.iload_n 0) 1 := by decide +kernel
theorem d1_6 : dQ b1_ 6 (.goto 4) 3 := by decide +kernel
theorem d1_9 : dQ b1_ 9 (.iload_n 1) 1 := by decide +kernel
theorem d1_10 : dQ b1_ 10 .ireturn 1 := by decide +kernel
theorem d2_0 : dQ b2_ 0 (.iload_n 0) 1 := by decide +kernel
theorem d2_1 : dQ b2_ 1 (.sipush 255) 3 := by decide +kernel
theorem d2_4 : dQ b2_ 4 .iand 1 := by decide +kernel
theorem d2_5 : dQ b2_ 5 .i2c 1 := by decide +kernel
theorem d2_6 : dQ b2_ 6 (.istore_n 2) 1 := by decide +kernel
theorem d2_7 : dQ b2_ 7 (.iload_n 0) 1 := by decide +kernel
theorem d2_8 : dQ b2_ 8 (.bipush 8) 2 := by decide +kernel
theorem d2_10 : dQ b2_ 10 .iushr 1 := by decide +kernel
theorem d2_11 : dQ b2_ 11 (.sipush 255) 3 := by decide +kernel
theorem d2_14 : dQ b2_ 14 .iand 1 := by decide +kernel
theorem d2_15 : dQ b2_ 15 .i2c 1 := by decide +kernel
theorem d2_16 : dQ b2_ 16 (.istore_n 3) 1 := by decide +kernel
theorem d2_17 : dQ b2_ 17 (.iload_n 1) 1 := by decide +kernel
theorem d2_18 : dQ b2_ 18 (.ifCond .ne 14) 3 := by decide +kernel
theorem d2_21 : dQ b2_ 21 (.new 43) 3 := by decide +kernel
theorem d2_24 : dQ b2_ 24 .dup 1 := by decide +kernel
theorem d2_25 : dQ b2_ 25 (.iconst 0) 1 := by decide +kernel
theorem d2_26 : dQ b2_ 26 (.newarray .char) 2 := by decide +kernel
theorem d2_28 : dQ b2_ 28 (.invokespecial 60) 3 := by decide +kernel
theorem d2_31 : dQ b2_ 31 .areturn 1 := by decide +kernel
theorem d2_32 : dQ b2_ 32 (.iload_n 1) 1 := by decide +kernel
theorem d2_33 : dQ b2_ 33 (.iconst 1) 1 := by decide +kernel
theorem d2_34 : dQ b2_ 34 (.if_icmp .ne 18) 3 := by decide +kernel
theorem d2_37 : dQ b2_ 37 (.new 43) 3 := by decide +kernel
theorem d2_40 : dQ b2_ 40 .dup 1 := by decide +kernel
theorem d2_41 : dQ b2_ 41 (.iconst 1) 1 := by decide +kernel
theorem d2_42 : dQ b2_ 42 (.newarray .char) 2 := by decide +kernel
theorem d2_44 : dQ b2_ 44 .dup 1 := by decide +kernel
theorem d2_45 : dQ b2_ 45 (.iconst 0) 1 := by decide +kernel
theorem d2_46 : dQ b2_ 46 (.iload_n 2) 1 := by decide +kernel
theorem d2_47 : dQ b2_ 47 .castore 1 := by decide +kernel
theorem d2_48 : dQ b2_ 48 (.invokespecial 60) 3 := by decide +kernel
theorem d2_51 : dQ b2_ 51 .areturn 1 := by decide +kernel
theorem d2_52 : dQ b2_ 52 (.new 43) 3 := by decide +kernel
theorem d2_55 : dQ b2_ 55 .dup 1 := by decide +kernel
theorem d2_56 : dQ b2_ 56 (.iconst 2) 1 := by decide +kernel
theorem d2_57 : dQ b2_ 57 (.newarray .char) 2 := by decide +kernel
theorem d2_59 : dQ b2_ 59 .dup 1 := by decide +kernel
theorem d2_60 : dQ b2_ 60 (.iconst 0) 1 := by decide +kernel
theorem d2_61 : dQ b2_ 61 (.iload_n 2) 1 := by decide +kernel
theorem d2_62 : dQ b2_ 62 .castore 1 := by decide +kernel
theorem d2_63 : dQ b2_ 63 .dup 1 := by decide +kernel
theorem d2_64 : dQ b2_ 64 (.iconst 1) 1 := by decide +kernel
theorem d2_65 : dQ b2_ 65 (.iload_n 3) 1 := by decide +kernel
theorem d2_66 : dQ b2_ 66 .castore 1 := by decide +kernel
theorem d2_67 : dQ b2_ 67 (.invokespecial 60) 3 := by decide +kernel
theorem d2_70 : dQ b2_ 70 .areturn 1 := by decide +kernel
theorem d3_0 : dQ b3_ 0 (.aload_n 0) 1 := by decide +kernel
theorem d3_1 : dQ b3_ 1 (.aload_n 1) 1 := by decide +kernel
theorem d3_2 : dQ b3_ 2 (.iconst 0) 1 := by decide +kernel
theorem d3_3 : dQ b3_ 3 (.aload_n 1) 1 := by decide +kernel
theorem d3_4 : dQ b3_ 4 .arraylength 1 := by decide +kernel
theorem d3_5 : dQ b3_ 5 .aconst_null 1 := by decide +kernel
theorem d3_6 : dQ b3_ 6 (.invokespecial 27) 3 := by decide +kernel
theorem d3_9 : dQ b3_ 9 .return_ 1 := by decide +kernel
theorem d4_0 : dQ b4_ 0 (.aload_n 0) 1 := by decide +kernel
theorem d4_1 : dQ b4_ 1 (.invokespecial 1) 3 := by decide +kernel
theorem d4_4 : dQ b4_ 4 (.iload_n 3) 1 := by decide +kernel
theorem d4_5 : dQ b4_ 5 (.ifCond .ne 22) 3 := by decide +kernel
theorem d4_8 : dQ b4_ 8 (.aload_n 0) 1 := by decide +kernel
theorem d4_9 : dQ b4_ 9 (.ldc 7) 2 := by decide +kernel
theorem d4_11 : dQ b4_ 11 (.getfield 9) 3 := by decide +kernel
theorem d4_14 : dQ b4_ 14 (.putfield 9) 3 := by decide +kernel
theorem d4_17 : dQ b4_ 17 (.aload_n 0) 1 := by decide +kernel
theorem d4_18 : dQ b4_ 18 (.ldc 7) 2 := by decide +kernel
theorem d4_20 : dQ b4_ 20 (.getfield 15) 3 := by decide +kernel
theorem d4_23 : dQ b4_ 23 (.putfield 15) 3 := by decide +kernel
theorem d4_26 : dQ b4_ 26 .return_ 1 := by decide +kernel
theorem d4_27 : dQ b4_ 27 (.getstatic 38) 3 := by decide +kernel
theorem d4_30 : dQ b4_ 30 (.ifCond .eq 28) 3 := by decide +kernel
theorem d4_33 : dQ b4_ 33 (.aload_n 1) 1 := by decide +kernel
theorem d4_34 : dQ b4_ 34 (.iload_n 2) 1 := by decide +kernel
theorem d4_35 : dQ b4_ 35 (.iload_n 3) 1 := by decide +kernel
theorem d4_36 : dQ b4_ 36 (.invokestatic 177) 3 := by decide +kernel
theorem d4_39 : dQ b4_ 39 (.astore 5) 2 := by decide +kernel
theorem d4_41 : dQ b4_ 41 (.aload_n 0) 1 := by decide +kernel
theorem d4_42 : dQ b4_ 42 (.aload 5) 2 := by decide +kernel
theorem d4_44 : dQ b4_ 44 (.iload_n 3) 1 := by decide +kernel
theorem d4_45 : dQ b4_ 45 (.invokestatic 47) 3 := by decide +kernel
theorem d4_48 : dQ b4_ 48 (.putfield 15) 3 := by decide +kernel
theorem d4_51 : dQ b4_ 51 (.aload_n 0) 1 := by decide +kernel
theorem d4_52 : dQ b4_ 52 (.aload 5) 2 := by decide +kernel
theorem d4_54 : dQ b4_ 54 (.putfield 9) 3 := by decide +kernel
theorem d4_57 : dQ b4_ 57 .return_ 1 := by decide +kernel
theorem d6_0 : dQ b6_ 0 (.new 2) 3 := by decide +kernel
theorem d6_3 : dQ b6_ 3 .dup 1 := by decide +kernel
theorem d6_4 : dQ b6_ 4 (.new 16) 3 := by decide +kernel
theorem d6_7 : dQ b6_ 7 .dup 1 := by decide +kernel
theorem d6_8 : dQ b6_ 8 (.invokespecial 18) 3 := by decide +kernel
theorem d6_11 : dQ b6_ 11 (.aload_n 0) 1 := by decide +kernel
theorem d6_12 : dQ b6_ 12 (.invokevirtual 21) 3 := by decide +kernel
theorem d6_15 : dQ b6_ 15 (.ldc 25) 2 := by decide +kernel
theorem d6_17 : dQ b6_ 17 (.invokevirtual 21) 3 := by decide +kernel
theorem d6_20 : dQ b6_ 20 (.iload_n 1) 1 := by decide +kernel
theorem d6_21 : dQ b6_ 21 (.invokevirtual 27) 3 := by decide +kernel
theorem d6_24 : dQ b6_ 24 (.ldc 25) 2 := by decide +kernel
theorem d6_26 : dQ b6_ 26 (.invokevirtual 21) 3 := by decide +kernel
theorem d6_29 : dQ b6_ 29 (.iload_n 2) 1 := by decide +kernel
theorem d6_30 : dQ b6_ 30 (.invokevirtual 27) 3 := by decide +kernel
theorem d6_33 : dQ b6_ 33 (.ldc 30) 2 := by decide +kernel
theorem d6_35 : dQ b6_ 35 (.invokevirtual 21) 3 := by decide +kernel
theorem d6_38 : dQ b6_ 38 (.aload_n 3) 1 := by decide +kernel
theorem d6_39 : dQ b6_ 39 (.invokevirtual 21) 3 := by decide +kernel
theorem d6_42 : dQ b6_ 42 (.invokevirtual 32) 3 := by decide +kernel
theorem d6_45 : dQ b6_ 45 .aconst_null 1 := by decide +kernel
theorem d6_46 : dQ b6_ 46 (.iconst 1) 1 := by decide +kernel
theorem d6_47 : dQ b6_ 47 (.invokespecial 1) 3 := by decide +kernel
theorem d6_50 : dQ b6_ 50 .areturn 1 := by decide +kernel
theorem d7_0 : dQ b7_ 0 (.aload_n 0) 1 := by decide +kernel
theorem d7_1 : dQ b7_ 1 (.bipush 16) 2 := by decide +kernel
theorem d7_3 : dQ b7_ 3 (.invokespecial 1) 3 := by decide +kernel
theorem d7_6 : dQ b7_ 6 .return_ 1 := by decide +kernel
theorem d8_0 : dQ b8_ 0 (.aload_n 0) 1 := by decide +kernel
theorem d8_1 : dQ b8_ 1 (.invokespecial 3) 3 := by decide +kernel
theorem d8_4 : dQ b8_ 4 (.getstatic 18) 3 := by decide +kernel
theorem d8_7 : dQ b8_ 7 (.ifCond .eq 18) 3 := by decide +kernel
theorem d8_10 : dQ b8_ 10 (.aload_n 0) 1 := by decide +kernel
theorem d8_11 : dQ b8_ 11 (.iload_n 1) 1 := by decide +kernel
theorem d8_12 : dQ b8_ 12 (.newarray .byte) 2 := by decide +kernel
theorem d8_14 : dQ b8_ 14 (.putfield 15) 3 := by decide +kernel
theorem d8_17 : dQ b8_ 17 (.aload_n 0) 1 := by decide +kernel
theorem d8_18 : dQ b8_ 18 (.iconst 0) 1 := by decide +kernel
theorem d8_19 : dQ b8_ 19 (.putfield 22) 3 := by decide +kernel
theorem d8_22 : dQ b8_ 22 (.goto 16) 3 := by decide +kernel
theorem d8_38 : dQ b8_ 38 .return_ 1 := by decide +kernel
theorem d9_0 : dQ b9_ 0 (.aload_n 0) 1 := by decide +kernel
theorem d9_1 : dQ b9_ 1 (.aload_n 1) 1 := by decide +kernel
theorem d9_2 : dQ b9_ 2 (.invokespecial 29) 3 := by decide +kernel
theorem d9_5 : dQ b9_ 5 .pop 1 := by decide +kernel
theorem d9_6 : dQ b9_ 6 (.aload_n 0) 1 := by decide +kernel
theorem d9_7 : dQ b9_ 7 .areturn 1 := by decide +kernel
theorem d10_0 : dQ b10_ 0 (.aload_n 1) 1 := by decide +kernel
theorem d10_1 : dQ b10_ 1 (.ifnonnull 8) 3 := by decide +kernel
theorem d10_9 : dQ b10_ 9 (.aload_n 1) 1 := by decide +kernel
theorem d10_10 : dQ b10_ 10 (.invokevirtual 32) 3 := by decide +kernel
theorem d10_13 : dQ b10_ 13 (.istore_n 2) 1 := by decide +kernel
theorem d10_14 : dQ b10_ 14 (.aload_n 0) 1 := by decide +kernel
theorem d10_15 : dQ b10_ 15 (.aload_n 0) 1 := by decide +kernel
theorem d10_16 : dQ b10_ 16 (.getfield 79) 3 := by decide +kernel
theorem d10_19 : dQ b10_ 19 (.iload_n 2) 1 := by decide +kernel
theorem d10_20 : dQ b10_ 20 .iadd 1 := by decide +kernel
theorem d10_21 : dQ b10_ 21 (.invokevirtual 100) 3 := by decide +kernel
theorem d10_24 : dQ b10_ 24 (.aload_n 0) 1 := by decide +kernel
theorem d10_25 : dQ b10_ 25 (.aload_n 0) 1 := by decide +kernel
theorem d10_26 : dQ b10_ 26 (.getfield 79) 3 := by decide +kernel
theorem d10_29 : dQ b10_ 29 (.aload_n 1) 1 := by decide +kernel
theorem d10_30 : dQ b10_ 30 (.invokevirtual 208) 3 := by decide +kernel
theorem d10_33 : dQ b10_ 33 (.aload_n 0) 1 := by decide +kernel
theorem d10_34 : dQ b10_ 34 .dup 1 := by decide +kernel
theorem d10_35 : dQ b10_ 35 (.getfield 79) 3 := by decide +kernel
theorem d10_38 : dQ b10_ 38 (.iload_n 2) 1 := by decide +kernel
theorem d10_39 : dQ b10_ 39 .iadd 1 := by decide +kernel
theorem d10_40 : dQ b10_ 40 (.putfield 79) 3 := by decide +kernel
theorem d10_43 : dQ b10_ 43 (.aload_n 0) 1 := by decide +kernel
theorem d10_44 : dQ b10_ 44 .areturn 1 := by decide +kernel
theorem d11_0 : dQ b11_ 0 (.aload_n 0) 1 := by decide +kernel
theorem d11_1 : dQ b11_ 1 (.getfield 9) 3 := by decide +kernel
theorem d11_4 : dQ b11_ 4 .arraylength 1 := by decide +kernel
theorem d11_5 : dQ b11_ 5 (.aload_n 0) 1 := by decide +kernel
theorem d11_6 : dQ b11_ 6 (.invokevirtual 335) 3 := by decide +kernel
theorem d11_9 : dQ b11_ 9 .ishr 1 := by decide +kernel
theorem d11_10 : dQ b11_ 10 .ireturn 1 := by decide +kernel
theorem d12_0 : dQ b12_ 0 (.getstatic 38) 3 := by decide +kernel
theorem d12_3 : dQ b12_ 3 (.ifCond .eq 10) 3 := by decide +kernel
theorem d12_6 : dQ b12_ 6 (.aload_n 0) 1 := by decide +kernel
theorem d12_7 : dQ b12_ 7 (.getfield 15) 3 := by decide +kernel
theorem d12_10 : dQ b12_ 10 (.goto 4) 3 := by decide +kernel
theorem d12_14 : dQ b12_ 14 .ireturn 1 := by decide +kernel
theorem d13_0 : dQ b13_ 0 (.aload_n 0) 1 := by decide +kernel
theorem d13_1 : dQ b13_ 1 (.getfield 15) 3 := by decide +kernel
theorem d13_4 : dQ b13_ 4 .arraylength 1 := by decide +kernel
theorem d13_5 : dQ b13_ 5 (.aload_n 0) 1 := by decide +kernel
theorem d13_6 : dQ b13_ 6 (.getfield 22) 3 := by decide +kernel
theorem d13_9 : dQ b13_ 9 .ishr 1 := by decide +kernel
theorem d13_10 : dQ b13_ 10 (.istore_n 2) 1 := by decide +kernel
theorem d13_11 : dQ b13_ 11 (.iload_n 1) 1 := by decide +kernel
theorem d13_12 : dQ b13_ 12 (.iload_n 2) 1 := by decide +kernel
theorem d13_13 : dQ b13_ 13 .isub 1 := by decide +kernel
theorem d13_14 : dQ b13_ 14 (.ifCond .le 24) 3 := by decide +kernel
theorem d13_17 : dQ b13_ 17 (.aload_n 0) 1 := by decide +kernel
theorem d13_18 : dQ b13_ 18 (.aload_n 0) 1 := by decide +kernel
theorem d13_19 : dQ b13_ 19 (.getfield 15) 3 := by decide +kernel
theorem d13_22 : dQ b13_ 22 (.aload_n 0) 1 := by decide +kernel
theorem d13_23 : dQ b13_ 23 (.iload_n 1) 1 := by decide +kernel
theorem d13_24 : dQ b13_ 24 (.invokevirtual 104) 3 := by decide +kernel
theorem d13_27 : dQ b13_ 27 (.aload_n 0) 1 := by decide +kernel
theorem d13_28 : dQ b13_ 28 (.getfield 22) 3 := by decide +kernel
theorem d13_31 : dQ b13_ 31 .ishl 1 := by decide +kernel
theorem d13_32 : dQ b13_ 32 (.invokestatic 108) 3 := by decide +kernel
theorem d13_35 : dQ b13_ 35 (.putfield 15) 3 := by decide +kernel
theorem d13_38 : dQ b13_ 38 .return_ 1 := by decide +kernel
theorem d14_0 : dQ b14_ 0 (.aload_n 0) 1 := by decide +kernel
theorem d14_1 : dQ b14_ 1 (.aload_n 2) 1 := by decide +kernel
theorem d14_2 : dQ b14_ 2 (.invokevirtual 397) 3 := by decide +kernel
theorem d14_5 : dQ b14_ 5 (.aload_n 2) 1 := by decide +kernel
theorem d14_6 : dQ b14_ 6 (.aload_n 0) 1 := by decide +kernel
theorem d14_7 : dQ b14_ 7 (.getfield 15) 3 := by decide +kernel
theorem d14_10 : dQ b14_ 10 (.iload_n 1) 1 := by decide +kernel
theorem d14_11 : dQ b14_ 11 (.aload_n 0) 1 := by decide +kernel
theorem d14_12 : dQ b14_ 12 (.getfield 22) 3 := by decide +kernel
theorem d14_15 : dQ b14_ 15 (.invokevirtual 399) 3 := by decide +kernel
theorem d14_18 : dQ b14_ 18 .return_ 1 := by decide +kernel
theorem d15_0 : dQ b15_ 0 (.getstatic 18) 3 := by decide +kernel
theorem d15_3 : dQ b15_ 3 (.ifCond .eq 18) 3 := by decide +kernel
theorem d15_6 : dQ b15_ 6 (.aload_n 0) 1 := by decide +kernel
theorem d15_7 : dQ b15_ 7 (.getfield 22) 3 := by decide +kernel
theorem d15_10 : dQ b15_ 10 (.aload_n 1) 1 := by decide +kernel
theorem d15_11 : dQ b15_ 11 (.invokevirtual 40) 3 := by decide +kernel
theorem d15_14 : dQ b15_ 14 (.if_icmp .eq 7) 3 := by decide +kernel
theorem d15_21 : dQ b15_ 21 .return_ 1 := by decide +kernel
theorem d16_0 : dQ b16_ 0 (.aload_n 0) 1 := by decide +kernel
theorem d16_1 : dQ b16_ 1 (.invokevirtual 335) 3 := by decide +kernel
theorem d16_4 : dQ b16_ 4 (.iload_n 3) 1 := by decide +kernel
theorem d16_5 : dQ b16_ 5 (.if_icmp .ne 23) 3 := by decide +kernel
theorem d16_8 : dQ b16_ 8 (.aload_n 0) 1 := by decide +kernel
theorem d16_9 : dQ b16_ 9 (.getfield 9) 3 := by decide +kernel
theorem d16_12 : dQ b16_ 12 (.iconst 0) 1 := by decide +kernel
theorem d16_13 : dQ b16_ 13 (.aload_n 1) 1 := by decide +kernel
theorem d16_14 : dQ b16_ 14 (.iload_n 2) 1 := by decide +kernel
theorem d16_15 : dQ b16_ 15 (.iload_n 3) 1 := by decide +kernel
theorem d16_16 : dQ b16_ 16 .ishl 1 := by decide +kernel
theorem d16_17 : dQ b16_ 17 (.aload_n 0) 1 := by decide +kernel
theorem d16_18 : dQ b16_ 18 (.getfield 9) 3 := by decide +kernel
theorem d16_21 : dQ b16_ 21 .arraylength 1 := by decide +kernel
theorem d16_22 : dQ b16_ 22 (.invokestatic 212) 3 := by decide +kernel
theorem d16_25 : dQ b16_ 25 (.goto 18) 3 := by decide +kernel
theorem d16_43 : dQ b16_ 43 .return_ 1 := by decide +kernel
theorem d17_0 : dQ b17_ 0 (.aload_n 0) 1 := by decide +kernel
theorem d17_1 : dQ b17_ 1 (.iload_n 1) 1 := by decide +kernel
theorem d17_2 : dQ b17_ 2 (.invokespecial 53) 3 := by decide +kernel
theorem d17_5 : dQ b17_ 5 .pop 1 := by decide +kernel
theorem d17_6 : dQ b17_ 6 (.aload_n 0) 1 := by decide +kernel
theorem d17_7 : dQ b17_ 7 .areturn 1 := by decide +kernel
theorem d18_0 : dQ b18_ 0 (.aload_n 0) 1 := by decide +kernel
theorem d18_1 : dQ b18_ 1 (.getfield 79) 3 := by decide +kernel
theorem d18_4 : dQ b18_ 4 (.istore_n 2) 1 := by decide +kernel
theorem d18_5 : dQ b18_ 5 (.iload_n 2) 1 := by decide +kernel
theorem d18_6 : dQ b18_ 6 (.iload_n 1) 1 := by decide +kernel
theorem d18_7 : dQ b18_ 7 (.invokestatic 245) 3 := by decide +kernel
theorem d18_10 : dQ b18_ 10 .iadd 1 := by decide +kernel
theorem d18_11 : dQ b18_ 11 (.istore_n 3) 1 := by decide +kernel
theorem d18_12 : dQ b18_ 12 (.aload_n 0) 1 := by decide +kernel
theorem d18_13 : dQ b18_ 13 (.iload_n 3) 1 := by decide +kernel
theorem d18_14 : dQ b18_ 14 (.invokevirtual 100) 3 := by decide +kernel
theorem d18_17 : dQ b18_ 17 (.aload_n 0) 1 := by decide +kernel
theorem d18_18 : dQ b18_ 18 (.invokevirtual 83) 3 := by decide +kernel
theorem d18_21 : dQ b18_ 21 (.ifCond .eq 16) 3 := by decide +kernel
theorem d18_24 : dQ b18_ 24 (.iload_n 1) 1 := by decide +kernel
theorem d18_25 : dQ b18_ 25 (.iload_n 3) 1 := by decide +kernel
theorem d18_26 : dQ b18_ 26 (.aload_n 0) 1 := by decide +kernel
theorem d18_27 : dQ b18_ 27 (.getfield 15) 3 := by decide +kernel
theorem d18_30 : dQ b18_ 30 (.invokestatic 248) 3 := by decide +kernel
theorem d18_33 : dQ b18_ 33 .pop 1 := by decide +kernel
theorem d18_34 : dQ b18_ 34 (.goto 14) 3 := by decide +kernel
theorem d18_48 : dQ b18_ 48 (.aload_n 0) 1 := by decide +kernel
theorem d18_49 : dQ b18_ 49 (.iload_n 3) 1 := by decide +kernel
theorem d18_50 : dQ b18_ 50 (.putfield 79) 3 := by decide +kernel
theorem d18_53 : dQ b18_ 53 (.aload_n 0) 1 := by decide +kernel
theorem d18_54 : dQ b18_ 54 .areturn 1 := by decide +kernel
theorem d19_0 : dQ b19_ 0 (.iconst 1) 1 := by decide +kernel
theorem d19_1 : dQ b19_ 1 (.istore_n 1) 1 := by decide +kernel
theorem d19_2 : dQ b19_ 2 (.iload_n 0) 1 := by decide +kernel
theorem d19_3 : dQ b19_ 3 (.ifCond .lt 8) 3 := by decide +kernel
theorem d19_6 : dQ b19_ 6 (.iconst 0) 1 := by decide +kernel
theorem d19_7 : dQ b19_ 7 (.istore_n 1) 1 := by decide +kernel
theorem d19_8 : dQ b19_ 8 (.iload_n 0) 1 := by decide +kernel
theorem d19_9 : dQ b19_ 9 .ineg 1 := by decide +kernel
theorem d19_10 : dQ b19_ 10 (.istore_n 0) 1 := by decide +kernel
theorem d19_11 : dQ b19_ 11 (.bipush (-10)) 2 := by decide +kernel
theorem d19_13 : dQ b19_ 13 (.istore_n 2) 1 := by decide +kernel
theorem d19_14 : dQ b19_ 14 (.iconst 1) 1 := by decide +kernel
theorem d19_15 : dQ b19_ 15 (.istore_n 3) 1 := by decide +kernel
theorem d19_16 : dQ b19_ 16 (.iload_n 3) 1 := by decide +kernel
theorem d19_17 : dQ b19_ 17 (.bipush 10) 2 := by decide +kernel
theorem d19_19 : dQ b19_ 19 (.if_icmp .ge 23) 3 := by decide +kernel
theorem d19_22 : dQ b19_ 22 (.iload_n 0) 1 := by decide +kernel
theorem d19_23 : dQ b19_ 23 (.iload_n 2) 1 := by decide +kernel
theorem d19_24 : dQ b19_ 24 (.if_icmp .le 7) 3 := by decide +kernel
theorem d19_27 : dQ b19_ 27 (.iload_n 3) 1 := by decide +kernel
theorem d19_28 : dQ b19_ 28 (.iload_n 1) 1 := by decide +kernel
theorem d19_29 : dQ b19_ 29 .iadd 1 := by decide +kernel
theorem d19_30 : dQ b19_ 30 .ireturn 1 := by decide +kernel
theorem d19_31 : dQ b19_ 31 (.bipush 10) 2 := by decide +kernel
theorem d19_33 : dQ b19_ 33 (.iload_n 2) 1 := by decide +kernel
theorem d19_34 : dQ b19_ 34 .imul 1 := by decide +kernel
theorem d19_35 : dQ b19_ 35 (.istore_n 2) 1 := by decide +kernel
theorem d19_36 : dQ b19_ 36 (.iinc 3 1) 3 := by decide +kernel
theorem d19_39 : dQ b19_ 39 (.goto (-23)) 3 := by decide +kernel
theorem d19_42 : dQ b19_ 42 (.bipush 10) 2 := by decide +kernel
theorem d19_44 : dQ b19_ 44 (.iload_n 1) 1 := by decide +kernel
theorem d19_45 : dQ b19_ 45 .iadd 1 := by decide +kernel
theorem d19_46 : dQ b19_ 46 .ireturn 1 := by decide +kernel
theorem d20_0 : dQ b20_ 0 (.getstatic 18) 3 := by decide +kernel
theorem d20_3 : dQ b20_ 3 (.ifCond .eq 14) 3 := by decide +kernel
theorem d20_6 : dQ b20_ 6 (.aload_n 0) 1 := by decide +kernel
theorem d20_7 : dQ b20_ 7 (.getfield 22) 3 := by decide +kernel
theorem d20_10 : dQ b20_ 10 (.ifCond .ne 7) 3 := by decide +kernel
theorem d20_13 : dQ b20_ 13 (.iconst 1) 1 := by decide +kernel
theorem d20_14 : dQ b20_ 14 (.goto 4) 3 := by decide +kernel
theorem d20_18 : dQ b20_ 18 .ireturn 1 := by decide +kernel
theorem d21_0 : dQ b21_ 0 (.iload_n 1) 1 := by decide +kernel
theorem d21_1 : dQ b21_ 1 (.istore 5) 2 := by decide +kernel
theorem d21_3 : dQ b21_ 3 (.iload_n 0) 1 := by decide +kernel
theorem d21_4 : dQ b21_ 4 (.ifCond .ge 7) 3 := by decide +kernel
theorem d21_11 : dQ b21_ 11 (.iconst 0) 1 := by decide +kernel
theorem d21_12 : dQ b21_ 12 (.istore 6) 2 := by decide +kernel
theorem d21_14 : dQ b21_ 14 (.iload 6) 2 := by decide +kernel
theorem d21_16 : dQ b21_ 16 (.ifCond .ne 6) 3 := by decide +kernel
theorem d21_19 : dQ b21_ 19 (.iload_n 0) 1 := by decide +kernel
theorem d21_20 : dQ b21_ 20 .ineg 1 := by decide +kernel
theorem d21_21 : dQ b21_ 21 (.istore_n 0) 1 := by decide +kernel
theorem d21_22 : dQ b21_ 22 (.iload_n 0) 1 := by decide +kernel
theorem d21_23 : dQ b21_ 23 (.bipush (-100)) 2 := by decide +kernel
theorem d21_25 : dQ b21_ 25 (.if_icmp .gt 47) 3 := by decide +kernel
theorem d21_28 : dQ b21_ 28 (.iload_n 0) 1 := by decide +kernel
theorem d21_29 : dQ b21_ 29 (.bipush 100) 2 := by decide +kernel
theorem d21_31 : dQ b21_ 31 .idiv 1 := by decide +kernel
theorem d21_32 : dQ b21_ 32 (.istore_n 3) 1 := by decide +kernel
theorem d21_33 : dQ b21_ 33 (.iload_n 3) 1 := by decide +kernel
theorem d21_34 : dQ b21_ 34 (.bipush 100) 2 := by decide +kernel
theorem d21_36 : dQ b21_ 36 .imul 1 := by decide +kernel
theorem d21_37 : dQ b21_ 37 (.iload_n 0) 1 := by decide +kernel
theorem d21_38 : dQ b21_ 38 .isub 1 := by decide +kernel
theorem d21_39 : dQ b21_ 39 (.istore 4) 2 := by decide +kernel
theorem d21_41 : dQ b21_ 41 (.iload_n 3) 1 := by decide +kernel
theorem d21_42 : dQ b21_ 42 (.istore_n 0) 1 := by decide +kernel
theorem d21_43 : dQ b21_ 43 (.aload_n 2) 1 := by decide +kernel
theorem d21_44 : dQ b21_ 44 (.iinc 5 (-1)) 3 := by decide +kernel
theorem d21_47 : dQ b21_ 47 (.iload 5) 2 := by decide +kernel
theorem d21_49 : dQ b21_ 49 (.getstatic 83) 3 := by decide +kernel
theorem d21_52 : dQ b21_ 52 (.iload 4) 2 := by decide +kernel
theorem d21_54 : dQ b21_ 54 .baload 1 := by decide +kernel
theorem d21_55 : dQ b21_ 55 .bastore 1 := by decide +kernel
theorem d21_56 : dQ b21_ 56 (.aload_n 2) 1 := by decide +kernel
theorem d21_57 : dQ b21_ 57 (.iinc 5 (-1)) 3 := by decide +kernel
theorem d21_60 : dQ b21_ 60 (.iload 5) 2 := by decide +kernel
theorem d21_62 : dQ b21_ 62 (.getstatic 87) 3 := by decide +kernel
theorem d21_65 : dQ b21_ 65 (.iload 4) 2 := by decide +kernel
theorem d21_67 : dQ b21_ 67 .baload 1 := by decide +kernel
theorem d21_68 : dQ b21_ 68 .bastore 1 := by decide +kernel
theorem d21_69 : dQ b21_ 69 (.goto (-47)) 3 := by decide +kernel
theorem d21_72 : dQ b21_ 72 (.aload_n 2) 1 := by decide +kernel
theorem d21_73 : dQ b21_ 73 (.iinc 5 (-1)) 3 := by decide +kernel
theorem d21_76 : dQ b21_ 76 (.iload 5) 2 := by decide +kernel
theorem d21_78 : dQ b21_ 78 (.getstatic 83) 3 := by decide +kernel
theorem d21_81 : dQ b21_ 81 (.iload_n 0) 1 := by decide +kernel
theorem d21_82 : dQ b21_ 82 .ineg 1 := by decide +kernel
theorem d21_83 : dQ b21_ 83 .baload 1 := by decide +kernel
theorem d21_84 : dQ b21_ 84 .bastore 1 := by decide +kernel
theorem d21_85 : dQ b21_ 85 (.iload_n 0) 1 := by decide +kernel
theorem d21_86 : dQ b21_ 86 (.bipush (-9)) 2 := by decide +kernel
theorem d21_88 : dQ b21_ 88 (.if_icmp .ge 16) 3 := by decide +kernel
theorem d21_91 : dQ b21_ 91 (.aload_n 2) 1 := by decide +kernel
theorem d21_92 : dQ b21_ 92 (.iinc 5 (-1)) 3 := by decide +kernel
theorem d21_95 : dQ b21_ 95 (.iload 5) 2 := by decide +kernel
theorem d21_97 : dQ b21_ 97 (.getstatic 87) 3 := by decide +kernel
theorem d21_100 : dQ b21_ 100 (.iload_n 0) 1 := by decide +kernel
theorem d21_101 : dQ b21_ 101 .ineg 1 := by decide +kernel
theorem d21_102 : dQ b21_ 102 .baload 1 := by decide +kernel
theorem d21_103 : dQ b21_ 103 .bastore 1 := by decide +kernel
theorem d21_104 : dQ b21_ 104 (.iload 6) 2 := by decide +kernel
theorem d21_106 : dQ b21_ 106 (.ifCond .eq 12) 3 := by decide +kernel
theorem d21_118 : dQ b21_ 118 (.iload 5) 2 := by decide +kernel
theorem d21_120 : dQ b21_ 120 .ireturn 1 := by decide +kernel
theorem d22_0 : dQ b22_ 0 (.new 18) 3 := by decide +kernel
theorem d22_3 : dQ b22_ 3 .dup 1 := by decide +kernel
theorem d22_4 : dQ b22_ 4 (.aload_n 0) 1 := by decide +kernel
theorem d22_5 : dQ b22_ 5 (.invokespecial 137) 3 := by decide +kernel
theorem d22_8 : dQ b22_ 8 .areturn 1 := by decide +kernel
theorem d23_0 : dQ b23_ 0 (.aload_n 0) 1 := by decide +kernel
theorem d23_1 : dQ b23_ 1 (.aload_n 1) 1 := by decide +kernel
theorem d23_2 : dQ b23_ 2 .aconst_null 1 := by decide +kernel
theorem d23_3 : dQ b23_ 3 (.invokespecial 489) 3 := by decide +kernel
theorem d23_6 : dQ b23_ 6 .return_ 1 := by decide +kernel
theorem d24_0 : dQ b24_ 0 (.aload_n 0) 1 := by decide +kernel
theorem d24_1 : dQ b24_ 1 (.invokespecial 1) 3 := by decide +kernel
theorem d24_4 : dQ b24_ 4 (.aload_n 1) 1 := by decide +kernel
theorem d24_5 : dQ b24_ 5 (.invokevirtual 552) 3 := by decide +kernel
theorem d24_8 : dQ b24_ 8 (.astore_n 3) 1 := by decide +kernel
theorem d24_9 : dQ b24_ 9 (.aload_n 1) 1 := by decide +kernel
theorem d24_10 : dQ b24_ 10 (.invokevirtual 549) 3 := by decide +kernel
theorem d24_13 : dQ b24_ 13 (.istore 4) 2 := by decide +kernel
theorem d24_15 : dQ b24_ 15 (.aload_n 1) 1 := by decide +kernel
theorem d24_16 : dQ b24_ 16 (.invokevirtual 1047) 3 := by decide +kernel
theorem d24_19 : dQ b24_ 19 (.ifCond .eq 22) 3 := by decide +kernel
theorem d24_22 : dQ b24_ 22 (.aload_n 0) 1 := by decide +kernel
theorem d24_23 : dQ b24_ 23 (.iconst 0) 1 := by decide +kernel
theorem d24_24 : dQ b24_ 24 (.putfield 15) 3 := by decide +kernel
theorem d24_27 : dQ b24_ 27 (.aload_n 0) 1 := by decide +kernel
theorem d24_28 : dQ b24_ 28 (.aload_n 3) 1 := by decide +kernel
theorem d24_29 : dQ b24_ 29 (.iconst 0) 1 := by decide +kernel
theorem d24_30 : dQ b24_ 30 (.iload 4) 2 := by decide +kernel
theorem d24_32 : dQ b24_ 32 (.invokestatic 54) 3 := by decide +kernel
theorem d24_35 : dQ b24_ 35 (.putfield 9) 3 := by decide +kernel
theorem d24_38 : dQ b24_ 38 (.goto 59) 3 := by decide +kernel
theorem d24_97 : dQ b24_ 97 .return_ 1 := by decide +kernel
theorem d25_0 : dQ b25_ 0 (.aload_n 0) 1 := by decide +kernel
theorem d25_1 : dQ b25_ 1 (.getfield 15) 3 := by decide +kernel
theorem d25_4 : dQ b25_ 4 .areturn 1 := by decide +kernel
theorem d26_0 : dQ b26_ 0 (.aload_n 0) 1 := by decide +kernel
theorem d26_1 : dQ b26_ 1 (.invokespecial 343) 3 := by decide +kernel
theorem d26_4 : dQ b26_ 4 .ireturn 1 := by decide +kernel
theorem d27_0 : dQ b27_ 0 (.aload_n 0) 1 := by decide +kernel
theorem d27_1 : dQ b27_ 1 (.getfield 79) 3 := by decide +kernel
theorem d27_4 : dQ b27_ 4 .ireturn 1 := by decide +kernel
theorem d28_0 : dQ b28_ 0 (.iload_n 1) 1 := by decide +kernel
theorem d28_1 : dQ b28_ 1 (.ifCond .ne 9) 3 := by decide +kernel
theorem d28_4 : dQ b28_ 4 (.iload_n 2) 1 := by decide +kernel
theorem d28_5 : dQ b28_ 5 (.aload_n 0) 1 := by decide +kernel
theorem d28_6 : dQ b28_ 6 .arraylength 1 := by decide +kernel
theorem d28_7 : dQ b28_ 7 (.if_icmp .eq 10) 3 := by decide +kernel
theorem d28_10 : dQ b28_ 10 (.aload_n 0) 1 := by decide +kernel
theorem d28_11 : dQ b28_ 11 (.iload_n 1) 1 := by decide +kernel
theorem d28_12 : dQ b28_ 12 (.iload_n 2) 1 := by decide +kernel
theorem d28_13 : dQ b28_ 13 (.invokestatic 339) 3 := by decide +kernel
theorem d28_16 : dQ b28_ 16 .areturn 1 := by decide +kernel
theorem d28_17 : dQ b28_ 17 (.aload_n 0) 1 := by decide +kernel
theorem d28_18 : dQ b28_ 18 (.invokevirtual 310) 3 := by decide +kernel
theorem d28_21 : dQ b28_ 21 (.checkcast 311) 3 := by decide +kernel
theorem d28_24 : dQ b28_ 24 .areturn 1 := by decide +kernel
theorem d29_0 : dQ b29_ 0 (.iload_n 1) 1 := by decide +kernel
theorem d29_1 : dQ b29_ 1 (.iload_n 2) 1 := by decide +kernel
theorem d29_2 : dQ b29_ 2 (.invokestatic 343) 3 := by decide +kernel
theorem d29_5 : dQ b29_ 5 (.iload_n 2) 1 := by decide +kernel
theorem d29_6 : dQ b29_ 6 (.iload_n 1) 1 := by decide +kernel
theorem d29_7 : dQ b29_ 7 .isub 1 := by decide +kernel
theorem d29_8 : dQ b29_ 8 (.istore_n 3) 1 := by decide +kernel
theorem d29_9 : dQ b29_ 9 (.iload_n 3) 1 := by decide +kernel
theorem d29_10 : dQ b29_ 10 (.newarray .byte) 2 := by decide +kernel
theorem d29_12 : dQ b29_ 12 (.astore 4) 2 := by decide +kernel
theorem d29_14 : dQ b29_ 14 (.aload_n 0) 1 := by decide +kernel
theorem d29_15 : dQ b29_ 15 (.iload_n 1) 1 := by decide +kernel
theorem d29_16 : dQ b29_ 16 (.aload 4) 2 := by decide +kernel
theorem d29_18 : dQ b29_ 18 (.iconst 0) 1 := by decide +kernel
theorem d29_19 : dQ b29_ 19 (.aload_n 0) 1 := by decide +kernel
theorem d29_20 : dQ b29_ 20 .arraylength 1 := by decide +kernel
theorem d29_21 : dQ b29_ 21 (.iload_n 1) 1 := by decide +kernel
theorem d29_22 : dQ b29_ 22 .isub 1 := by decide +kernel
theorem d29_23 : dQ b29_ 23 (.iload_n 3) 1 := by decide +kernel
theorem d29_24 : dQ b29_ 24 (.invokestatic 304) 3 := by decide +kernel
theorem d29_27 : dQ b29_ 27 (.invokestatic 150) 3 := by decide +kernel
theorem d29_30 : dQ b29_ 30 (.aload 4) 2 := by decide +kernel
theorem d29_32 : dQ b29_ 32 .areturn 1 := by decide +kernel
theorem d30_0 : dQ b30_ 0 (.iload_n 1) 1 := by decide +kernel
theorem d30_1 : dQ b30_ 1 (.iload_n 0) 1 := by decide +kernel
theorem d30_2 : dQ b30_ 2 (.if_icmp .ge 35) 3 := by decide +kernel
theorem d30_37 : dQ b30_ 37 .return_ 1 := by decide +kernel
theorem d31_0 : dQ b31_ 0 (.aload_n 0) 1 := by decide +kernel
theorem d31_1 : dQ b31_ 1 (.aload_n 1) 1 := by decide +kernel
theorem d31_2 : dQ b31_ 2 (.aload_n 2) 1 := by decide +kernel
theorem d31_3 : dQ b31_ 3 (.invokespecial 7) 3 := by decide +kernel
theorem d31_6 : dQ b31_ 6 (.aload_n 0) 1 := by decide +kernel
theorem d31_7 : dQ b31_ 7 (.iload_n 3) 1 := by decide +kernel
theorem d31_8 : dQ b31_ 8 (.putfield 12) 3 := by decide +kernel
theorem d31_11 : dQ b31_ 11 .return_ 1 := by decide +kernel
theorem d32_0 : dQ b32_ 0 (.aload_n 0) 1 := by decide +kernel
theorem d32_1 : dQ b32_ 1 (.aload_n 1) 1 := by decide +kernel
theorem d32_2 : dQ b32_ 2 (.aload_n 2) 1 := by decide +kernel
theorem d32_3 : dQ b32_ 3 (.invokespecial 10) 3 := by decide +kernel
theorem d32_6 : dQ b32_ 6 .return_ 1 := by decide +kernel
theorem d33_0 : dQ b33_ 0 (.aload_n 0) 1 := by decide +kernel
theorem d33_1 : dQ b33_ 1 (.invokespecial 1) 3 := by decide +kernel
theorem d33_4 : dQ b33_ 4 (.aload_n 0) 1 := by decide +kernel
theorem d33_5 : dQ b33_ 5 (.aload_n 0) 1 := by decide +kernel
theorem d33_6 : dQ b33_ 6 (.putfield 7) 3 := by decide +kernel
theorem d33_9 : dQ b33_ 9 (.aload_n 0) 1 := by decide +kernel
theorem d33_10 : dQ b33_ 10 (.getstatic 13) 3 := by decide +kernel
theorem d33_13 : dQ b33_ 13 (.putfield 17) 3 := by decide +kernel
theorem d33_16 : dQ b33_ 16 (.aload_n 0) 1 := by decide +kernel
theorem d33_17 : dQ b33_ 17 (.getstatic 20) 3 := by decide +kernel
theorem d33_20 : dQ b33_ 20 (.putfield 24) 3 := by decide +kernel
theorem d33_23 : dQ b33_ 23 (.aload_n 0) 1 := by decide +kernel
theorem d33_24 : dQ b33_ 24 (.invokevirtual 27) 3 := by decide +kernel
theorem d33_27 : dQ b33_ 27 .pop 1 := by decide +kernel
theorem d33_28 : dQ b33_ 28 (.aload_n 0) 1 := by decide +kernel
theorem d33_29 : dQ b33_ 29 (.aload_n 1) 1 := by decide +kernel
theorem d33_30 : dQ b33_ 30 (.putfield 31) 3 := by decide +kernel
theorem d33_33 : dQ b33_ 33 (.aload_n 0) 1 := by decide +kernel
theorem d33_34 : dQ b33_ 34 (.aload_n 2) 1 := by decide +kernel
theorem d33_35 : dQ b33_ 35 (.putfield 7) 3 := by decide +kernel
theorem d33_38 : dQ b33_ 38 .return_ 1 := by decide +kernel
theorem d36_0 : dQ b36_ 0 (.aload_n 0) 1 := by decide +kernel
theorem d36_1 : dQ b36_ 1 (.getfield 12) 3 := by decide +kernel
theorem d36_4 : dQ b36_ 4 .ireturn 1 := by decide +kernel
theorem d38_0 : dQ b38_ 0 (.aload_n 0) 1 := by decide +kernel
theorem d38_1 : dQ b38_ 1 (.getfield 31) 3 := by decide +kernel
theorem d38_4 : dQ b38_ 4 .areturn 1 := by decide +kernel
theorem d39_0 : dQ b39_ 0 (.iload_n 0) 1 := by decide +kernel
theorem d39_1 : dQ b39_ 1 (.bipush 10) 2 := by decide +kernel
theorem d39_3 : dQ b39_ 3 (.if_icmp .ge 5) 3 := by decide +kernel
theorem d39_6 : dQ b39_ 6 (.iconst 1) 1 := by decide +kernel
theorem d39_7 : dQ b39_ 7 .ireturn 1 := by decide +kernel
theorem d39_8 : dQ b39_ 8 (.iload_n 0) 1 := by decide +kernel
theorem d39_9 : dQ b39_ 9 (.bipush 100) 2 := by decide +kernel
theorem d39_11 : dQ b39_ 11 (.if_icmp .ge 5) 3 := by decide +kernel
theorem d39_14 : dQ b39_ 14 (.iconst 2) 1 := by decide +kernel
theorem d39_15 : dQ b39_ 15 .ireturn 1 := by decide +kernel
theorem d39_16 : dQ b39_ 16 (.iload_n 0) 1 := by decide +kernel
theorem d39_17 : dQ b39_ 17 (.sipush 1000) 3 := by decide +kernel
theorem d39_20 : dQ b39_ 20 (.if_icmp .ge 5) 3 := by decide +kernel
theorem d39_23 : dQ b39_ 23 (.iconst 3) 1 := by decide +kernel
theorem d39_24 : dQ b39_ 24 .ireturn 1 := by decide +kernel
theorem d39_25 : dQ b39_ 25 (.iload_n 0) 1 := by decide +kernel
theorem d39_26 : dQ b39_ 26 (.sipush 10000) 3 := by decide +kernel
theorem d39_29 : dQ b39_ 29 (.if_icmp .ge 5) 3 := by decide +kernel
theorem d39_32 : dQ b39_ 32 (.iconst 4) 1 := by decide +kernel
theorem d39_33 : dQ b39_ 33 .ireturn 1 := by decide +kernel
theorem d39_34 : dQ b39_ 34 (.iload_n 0) 1 := by decide +kernel
theorem d39_35 : dQ b39_ 35 (.ldc 63) 2 := by decide +kernel
theorem d39_37 : dQ b39_ 37 (.if_icmp .ge 5) 3 := by decide +kernel
theorem d39_40 : dQ b39_ 40 (.iconst 5) 1 := by decide +kernel
theorem d39_41 : dQ b39_ 41 .ireturn 1 := by decide +kernel
theorem d39_42 : dQ b39_ 42 (.iload_n 0) 1 := by decide +kernel
theorem d39_43 : dQ b39_ 43 (.ldc 64) 2 := by decide +kernel
theorem d39_45 : dQ b39_ 45 (.if_icmp .ge 6) 3 := by decide +kernel
theorem d39_48 : dQ b39_ 48 (.bipush 6) 2 := by decide +kernel
theorem d39_50 : dQ b39_ 50 .ireturn 1 := by decide +kernel
theorem d39_51 : dQ b39_ 51 (.iload_n 0) 1 := by decide +kernel
theorem d39_52 : dQ b39_ 52 (.ldc 65) 2 := by decide +kernel
theorem d39_54 : dQ b39_ 54 (.if_icmp .ge 6) 3 := by decide +kernel
theorem d39_57 : dQ b39_ 57 (.bipush 7) 2 := by decide +kernel
theorem d39_59 : dQ b39_ 59 .ireturn 1 := by decide +kernel
theorem d39_60 : dQ b39_ 60 (.iload_n 0) 1 := by decide +kernel
theorem d39_61 : dQ b39_ 61 (.ldc 66) 2 := by decide +kernel
theorem d39_63 : dQ b39_ 63 (.if_icmp .ge 6) 3 := by decide +kernel
theorem d39_66 : dQ b39_ 66 (.bipush 8) 2 := by decide +kernel
theorem d39_68 : dQ b39_ 68 .ireturn 1 := by decide +kernel
theorem d39_69 : dQ b39_ 69 (.iload_n 0) 1 := by decide +kernel
theorem d39_70 : dQ b39_ 70 (.ldc 67) 2 := by decide +kernel
theorem d39_72 : dQ b39_ 72 (.if_icmp .ge 6) 3 := by decide +kernel
theorem d39_75 : dQ b39_ 75 (.bipush 9) 2 := by decide +kernel
theorem d39_77 : dQ b39_ 77 .ireturn 1 := by decide +kernel
theorem d39_78 : dQ b39_ 78 (.bipush 10) 2 := by decide +kernel
theorem d39_80 : dQ b39_ 80 .ireturn 1 := by decide +kernel
theorem d40_0 : dQ b40_ 0 (.aload_n 2) 1 := by decide +kernel
theorem d40_1 : dQ b40_ 1 (.invokevirtual 42) 3 := by decide +kernel
theorem d40_4 : dQ b40_ 4 (.istore_n 3) 1 := by decide +kernel
theorem d40_5 : dQ b40_ 5 (.iload_n 3) 1 := by decide +kernel
theorem d40_6 : dQ b40_ 6 (.iconst 1) 1 := by decide +kernel
theorem d40_7 : dQ b40_ 7 (.if_icmp .lt 16) 3 := by decide +kernel
theorem d40_10 : dQ b40_ 10 (.aload_n 0) 1 := by decide +kernel
theorem d40_11 : dQ b40_ 11 (.iload_n 1) 1 := by decide +kernel
theorem d40_12 : dQ b40_ 12 (.invokevirtual 52) 3 := by decide +kernel
theorem d40_15 : dQ b40_ 15 (.aload_n 2) 1 := by decide +kernel
theorem d40_16 : dQ b40_ 16 (.iconst 0) 1 := by decide +kernel
theorem d40_17 : dQ b40_ 17 (.invokevirtual 52) 3 := by decide +kernel
theorem d40_20 : dQ b40_ 20 (.if_icmp .ne 27) 3 := by decide +kernel
theorem d40_23 : dQ b40_ 23 (.iload_n 3) 1 := by decide +kernel
theorem d40_24 : dQ b40_ 24 (.iconst 2) 1 := by decide +kernel
theorem d40_25 : dQ b40_ 25 (.if_icmp .lt 18) 3 := by decide +kernel
theorem d40_28 : dQ b40_ 28 (.aload_n 0) 1 := by decide +kernel
theorem d40_29 : dQ b40_ 29 (.iload_n 1) 1 := by decide +kernel
theorem d40_30 : dQ b40_ 30 (.iconst 1) 1 := by decide +kernel
theorem d40_31 : dQ b40_ 31 .iadd 1 := by decide +kernel
theorem d40_32 : dQ b40_ 32 (.invokevirtual 52) 3 := by decide +kernel
theorem d40_35 : dQ b40_ 35 (.aload_n 2) 1 := by decide +kernel
theorem d40_36 : dQ b40_ 36 (.iconst 1) 1 := by decide +kernel
theorem d40_37 : dQ b40_ 37 (.invokevirtual 52) 3 := by decide +kernel
theorem d40_40 : dQ b40_ 40 (.if_icmp .ne 7) 3 := by decide +kernel
theorem d40_43 : dQ b40_ 43 (.iconst 1) 1 := by decide +kernel
theorem d40_44 : dQ b40_ 44 (.goto 4) 3 := by decide +kernel
theorem d40_48 : dQ b40_ 48 .ireturn 1 := by decide +kernel
theorem d41_0 : dQ b41_ 0 (.aload_n 0) 1 := by decide +kernel
theorem d41_1 : dQ b41_ 1 (.invokevirtual 492) 3 := by decide +kernel
theorem d41_4 : dQ b41_ 4 (.ifCond .eq 12) 3 := by decide +kernel
theorem d41_7 : dQ b41_ 7 (.aload_n 0) 1 := by decide +kernel
theorem d41_8 : dQ b41_ 8 (.getfield 9) 3 := by decide +kernel
theorem d41_11 : dQ b41_ 11 (.iload_n 1) 1 := by decide +kernel
theorem d41_12 : dQ b41_ 12 (.invokestatic 495) 3 := by decide +kernel
theorem d41_15 : dQ b41_ 15 .ireturn 1 := by decide +kernel
theorem d42_0 : dQ b42_ 0 (.getstatic 38) 3 := by decide +kernel
theorem d42_3 : dQ b42_ 3 (.ifCond .eq 14) 3 := by decide +kernel
theorem d42_6 : dQ b42_ 6 (.aload_n 0) 1 := by decide +kernel
theorem d42_7 : dQ b42_ 7 (.getfield 15) 3 := by decide +kernel
theorem d42_10 : dQ b42_ 10 (.ifCond .ne 7) 3 := by decide +kernel
theorem d42_13 : dQ b42_ 13 (.iconst 1) 1 := by decide +kernel
theorem d42_14 : dQ b42_ 14 (.goto 4) 3 := by decide +kernel
theorem d42_18 : dQ b42_ 18 .ireturn 1 := by decide +kernel
theorem d43_0 : dQ b43_ 0 (.iload_n 1) 1 := by decide +kernel
theorem d43_1 : dQ b43_ 1 (.aload_n 0) 1 := by decide +kernel
theorem d43_2 : dQ b43_ 2 .arraylength 1 := by decide +kernel
theorem d43_3 : dQ b43_ 3 (.invokestatic 9) 3 := by decide +kernel
theorem d43_6 : dQ b43_ 6 (.aload_n 0) 1 := by decide +kernel
theorem d43_7 : dQ b43_ 7 (.iload_n 1) 1 := by decide +kernel
theorem d43_8 : dQ b43_ 8 .baload 1 := by decide +kernel
theorem d43_9 : dQ b43_ 9 (.sipush 255) 3 := by decide +kernel
theorem d43_12 : dQ b43_ 12 .iand 1 := by decide +kernel
theorem d43_13 : dQ b43_ 13 .i2c 1 := by decide +kernel
theorem d43_14 : dQ b43_ 14 .ireturn 1 := by decide +kernel
theorem d44_0 : dQ b44_ 0 (.iload_n 0) 1 := by decide +kernel
theorem d44_1 : dQ b44_ 1 (.iload_n 1) 1 := by decide +kernel
theorem d44_2 : dQ b44_ 2 (.getstatic 1053) 3 := by decide +kernel
theorem d44_5 : dQ b44_ 5 (.invokestatic 1059) 3 := by decide +kernel
theorem d44_8 : dQ b44_ 8 .pop 1 := by decide +kernel
theorem d44_9 : dQ b44_ 9 .return_ 1 := by decide +kernel
theorem d45_0 : dQ b45_ 0 (.iload_n 0) 1 := by decide +kernel
theorem d45_1 : dQ b45_ 1 (.ifCond .lt 8) 3 := by decide +kernel
theorem d45_4 : dQ b45_ 4 (.iload_n 0) 1 := by decide +kernel
theorem d45_5 : dQ b45_ 5 (.iload_n 1) 1 := by decide +kernel
theorem d45_6 : dQ b45_ 6 (.if_icmp .lt 10) 3 := by decide +kernel
theorem d45_16 : dQ b45_ 16 (.iload_n 0) 1 := by decide +kernel
theorem d45_17 : dQ b45_ 17 .ireturn 1 := by decide +kernel
theorem d46_0 : dQ b46_ 0 (.iload_n 2) 1 := by decide +kernel
theorem d46_1 : dQ b46_ 1 (.invokestatic 38) 3 := by decide +kernel
theorem d46_4 : dQ b46_ 4 (.istore_n 3) 1 := by decide +kernel
theorem d46_5 : dQ b46_ 5 (.iload_n 1) 1 := by decide +kernel
theorem d46_6 : dQ b46_ 6 (.iload_n 3) 1 := by decide +kernel
theorem d46_7 : dQ b46_ 7 .iadd 1 := by decide +kernel
theorem d46_8 : dQ b46_ 8 (.iconst 1) 1 := by decide +kernel
theorem d46_9 : dQ b46_ 9 .isub 1 := by decide +kernel
theorem d46_10 : dQ b46_ 10 (.istore 4) 2 := by decide +kernel
theorem d46_12 : dQ b46_ 12 (.aload_n 0) 1 := by decide +kernel
theorem d46_13 : dQ b46_ 13 (.iload 4) 2 := by decide +kernel
theorem d46_15 : dQ b46_ 15 (.iload_n 2) 1 := by decide +kernel
theorem d46_16 : dQ b46_ 16 (.iconst 1) 1 := by decide +kernel
theorem d46_17 : dQ b46_ 17 (.invokestatic 68) 3 := by decide +kernel
theorem d46_20 : dQ b46_ 20 (.ifCond .eq 189) 3 := by decide +kernel
theorem d46_23 : dQ b46_ 23 (.iload_n 3) 1 := by decide +kernel
theorem d46_24 : dQ b46_ 24 (.iconst 2) 1 := by decide +kernel
theorem d46_25 : dQ b46_ 25 (.if_icmp .lt 17) 3 := by decide +kernel
theorem d46_28 : dQ b46_ 28 (.aload_n 0) 1 := by decide +kernel
theorem d46_29 : dQ b46_ 29 (.iload 4) 2 := by decide +kernel
theorem d46_31 : dQ b46_ 31 (.iconst 1) 1 := by decide +kernel
theorem d46_32 : dQ b46_ 32 .isub 1 := by decide +kernel
theorem d46_33 : dQ b46_ 33 (.iload_n 2) 1 := by decide +kernel
theorem d46_34 : dQ b46_ 34 (.bipush 10) 2 := by decide +kernel
theorem d46_36 : dQ b46_ 36 (.invokestatic 68) 3 := by decide +kernel
theorem d46_39 : dQ b46_ 39 (.ifCond .eq 170) 3 := by decide +kernel
theorem d46_42 : dQ b46_ 42 (.iload_n 3) 1 := by decide +kernel
theorem d46_43 : dQ b46_ 43 (.iconst 3) 1 := by decide +kernel
theorem d46_44 : dQ b46_ 44 (.if_icmp .lt 17) 3 := by decide +kernel
theorem d46_47 : dQ b46_ 47 (.aload_n 0) 1 := by decide +kernel
theorem d46_48 : dQ b46_ 48 (.iload 4) 2 := by decide +kernel
theorem d46_50 : dQ b46_ 50 (.iconst 2) 1 := by decide +kernel
theorem d46_51 : dQ b46_ 51 .isub 1 := by decide +kernel
theorem d46_52 : dQ b46_ 52 (.iload_n 2) 1 := by decide +kernel
theorem d46_53 : dQ b46_ 53 (.bipush 100) 2 := by decide +kernel
theorem d46_55 : dQ b46_ 55 (.invokestatic 68) 3 := by decide +kernel
theorem d46_58 : dQ b46_ 58 (.ifCond .eq 151) 3 := by decide +kernel
theorem d46_61 : dQ b46_ 61 (.iload_n 3) 1 := by decide +kernel
theorem d46_62 : dQ b46_ 62 (.iconst 4) 1 := by decide +kernel
theorem d46_63 : dQ b46_ 63 (.if_icmp .lt 18) 3 := by decide +kernel
theorem d46_66 : dQ b46_ 66 (.aload_n 0) 1 := by decide +kernel
theorem d46_67 : dQ b46_ 67 (.iload 4) 2 := by decide +kernel
theorem d46_69 : dQ b46_ 69 (.iconst 3) 1 := by decide +kernel
theorem d46_70 : dQ b46_ 70 .isub 1 := by decide +kernel
theorem d46_71 : dQ b46_ 71 (.iload_n 2) 1 := by decide +kernel
theorem d46_72 : dQ b46_ 72 (.sipush 1000) 3 := by decide +kernel
theorem d46_75 : dQ b46_ 75 (.invokestatic 68) 3 := by decide +kernel
theorem d46_78 : dQ b46_ 78 (.ifCond .eq 131) 3 := by decide +kernel
theorem d46_81 : dQ b46_ 81 (.iload_n 3) 1 := by decide +kernel
theorem d46_82 : dQ b46_ 82 (.iconst 5) 1 := by decide +kernel
theorem d46_83 : dQ b46_ 83 (.if_icmp .lt 18) 3 := by decide +kernel
theorem d46_86 : dQ b46_ 86 (.aload_n 0) 1 := by decide +kernel
theorem d46_87 : dQ b46_ 87 (.iload 4) 2 := by decide +kernel
theorem d46_89 : dQ b46_ 89 (.iconst 4) 1 := by decide +kernel
theorem d46_90 : dQ b46_ 90 .isub 1 := by decide +kernel
theorem d46_91 : dQ b46_ 91 (.iload_n 2) 1 := by decide +kernel
theorem d46_92 : dQ b46_ 92 (.sipush 10000) 3 := by decide +kernel
theorem d46_95 : dQ b46_ 95 (.invokestatic 68) 3 := by decide +kernel
theorem d46_98 : dQ b46_ 98 (.ifCond .eq 111) 3 := by decide +kernel
theorem d46_101 : dQ b46_ 101 (.iload_n 3) 1 := by decide +kernel
theorem d46_102 : dQ b46_ 102 (.bipush 6) 2 := by decide +kernel
theorem d46_104 : dQ b46_ 104 (.if_icmp .lt 17) 3 := by decide +kernel
theorem d46_107 : dQ b46_ 107 (.aload_n 0) 1 := by decide +kernel
theorem d46_108 : dQ b46_ 108 (.iload 4) 2 := by decide +kernel
theorem d46_110 : dQ b46_ 110 (.iconst 5) 1 := by decide +kernel
theorem d46_111 : dQ b46_ 111 .isub 1 := by decide +kernel
theorem d46_112 : dQ b46_ 112 (.iload_n 2) 1 := by decide +kernel
theorem d46_113 : dQ b46_ 113 (.ldc 63) 2 := by decide +kernel
theorem d46_115 : dQ b46_ 115 (.invokestatic 68) 3 := by decide +kernel
theorem d46_118 : dQ b46_ 118 (.ifCond .eq 91) 3 := by decide +kernel
theorem d46_121 : dQ b46_ 121 (.iload_n 3) 1 := by decide +kernel
theorem d46_122 : dQ b46_ 122 (.bipush 7) 2 := by decide +kernel
theorem d46_124 : dQ b46_ 124 (.if_icmp .lt 18) 3 := by decide +kernel
theorem d46_127 : dQ b46_ 127 (.aload_n 0) 1 := by decide +kernel
theorem d46_128 : dQ b46_ 128 (.iload 4) 2 := by decide +kernel
theorem d46_130 : dQ b46_ 130 (.bipush 6) 2 := by decide +kernel
theorem d46_132 : dQ b46_ 132 .isub 1 := by decide +kernel
theorem d46_133 : dQ b46_ 133 (.iload_n 2) 1 := by decide +kernel
theorem d46_134 : dQ b46_ 134 (.ldc 64) 2 := by decide +kernel
theorem d46_136 : dQ b46_ 136 (.invokestatic 68) 3 := by decide +kernel
theorem d46_139 : dQ b46_ 139 (.ifCond .eq 70) 3 := by decide +kernel
theorem d46_142 : dQ b46_ 142 (.iload_n 3) 1 := by decide +kernel
theorem d46_143 : dQ b46_ 143 (.bipush 8) 2 := by decide +kernel
theorem d46_145 : dQ b46_ 145 (.if_icmp .lt 18) 3 := by decide +kernel
theorem d46_148 : dQ b46_ 148 (.aload_n 0) 1 := by decide +kernel
theorem d46_149 : dQ b46_ 149 (.iload 4) 2 := by decide +kernel
theorem d46_151 : dQ b46_ 151 (.bipush 7) 2 := by decide +kernel
theorem d46_153 : dQ b46_ 153 .isub 1 := by decide +kernel
theorem d46_154 : dQ b46_ 154 (.iload_n 2) 1 := by decide +kernel
theorem d46_155 : dQ b46_ 155 (.ldc 65) 2 := by decide +kernel
theorem d46_157 : dQ b46_ 157 (.invokestatic 68) 3 := by decide +kernel
theorem d46_160 : dQ b46_ 160 (.ifCond .eq 49) 3 := by decide +kernel
theorem d46_163 : dQ b46_ 163 (.iload_n 3) 1 := by decide +kernel
theorem d46_164 : dQ b46_ 164 (.bipush 9) 2 := by decide +kernel
theorem d46_166 : dQ b46_ 166 (.if_icmp .lt 18) 3 := by decide +kernel
theorem d46_169 : dQ b46_ 169 (.aload_n 0) 1 := by decide +kernel
theorem d46_170 : dQ b46_ 170 (.iload 4) 2 := by decide +kernel
theorem d46_172 : dQ b46_ 172 (.bipush 8) 2 := by decide +kernel
theorem d46_174 : dQ b46_ 174 .isub 1 := by decide +kernel
theorem d46_175 : dQ b46_ 175 (.iload_n 2) 1 := by decide +kernel
theorem d46_176 : dQ b46_ 176 (.ldc 66) 2 := by decide +kernel
theorem d46_178 : dQ b46_ 178 (.invokestatic 68) 3 := by decide +kernel
theorem d46_181 : dQ b46_ 181 (.ifCond .eq 28) 3 := by decide +kernel
theorem d46_184 : dQ b46_ 184 (.iload_n 3) 1 := by decide +kernel
theorem d46_185 : dQ b46_ 185 (.bipush 10) 2 := by decide +kernel
theorem d46_187 : dQ b46_ 187 (.if_icmp .lt 18) 3 := by decide +kernel
theorem d46_190 : dQ b46_ 190 (.aload_n 0) 1 := by decide +kernel
theorem d46_191 : dQ b46_ 191 (.iload 4) 2 := by decide +kernel
theorem d46_193 : dQ b46_ 193 (.bipush 9) 2 := by decide +kernel
theorem d46_195 : dQ b46_ 195 .isub 1 := by decide +kernel
theorem d46_196 : dQ b46_ 196 (.iload_n 2) 1 := by decide +kernel
theorem d46_197 : dQ b46_ 197 (.ldc 67) 2 := by decide +kernel
theorem d46_199 : dQ b46_ 199 (.invokestatic 68) 3 := by decide +kernel
theorem d46_202 : dQ b46_ 202 (.ifCond .eq 7) 3 := by decide +kernel
theorem d46_205 : dQ b46_ 205 (.iconst 1) 1 := by decide +kernel
theorem d46_206 : dQ b46_ 206 (.goto 4) 3 := by decide +kernel
theorem d46_210 : dQ b46_ 210 .ireturn 1 := by decide +kernel
theorem d47_0 : dQ b47_ 0 (.aload_n 0) 1 := by decide +kernel
theorem d47_1 : dQ b47_ 1 (.iload_n 1) 1 := by decide +kernel
theorem d47_2 : dQ b47_ 2 (.invokevirtual 52) 3 := by decide +kernel
theorem d47_5 : dQ b47_ 5 (.bipush 48) 2 := by decide +kernel
theorem d47_7 : dQ b47_ 7 (.iload_n 2) 1 := by decide +kernel
theorem d47_8 : dQ b47_ 8 (.iload_n 3) 1 := by decide +kernel
theorem d47_9 : dQ b47_ 9 .idiv 1 := by decide +kernel
theorem d47_10 : dQ b47_ 10 (.bipush 10) 2 := by decide +kernel
theorem d47_12 : dQ b47_ 12 .irem 1 := by decide +kernel
theorem d47_13 : dQ b47_ 13 .iadd 1 := by decide +kernel
theorem d47_14 : dQ b47_ 14 .i2c 1 := by decide +kernel
theorem d47_15 : dQ b47_ 15 (.if_icmp .ne 7) 3 := by decide +kernel
theorem d47_18 : dQ b47_ 18 (.iconst 1) 1 := by decide +kernel
theorem d47_19 : dQ b47_ 19 (.goto 4) 3 := by decide +kernel
theorem d47_23 : dQ b47_ 23 .ireturn 1 := by decide +kernel
theorem d48_0 : dQ b48_ 0 (.iload_n 2) 1 := by decide +kernel
theorem d48_1 : dQ b48_ 1 (.newarray .byte) 2 := by decide +kernel
theorem d48_3 : dQ b48_ 3 (.astore_n 3) 1 := by decide +kernel
theorem d48_4 : dQ b48_ 4 (.aload_n 0) 1 := by decide +kernel
theorem d48_5 : dQ b48_ 5 (.iload_n 1) 1 := by decide +kernel
theorem d48_6 : dQ b48_ 6 (.aload_n 3) 1 := by decide +kernel
theorem d48_7 : dQ b48_ 7 (.iconst 0) 1 := by decide +kernel
theorem d48_8 : dQ b48_ 8 (.iload_n 2) 1 := by decide +kernel
theorem d48_9 : dQ b48_ 9 (.invokestatic 115) 3 := by decide +kernel
theorem d48_12 : dQ b48_ 12 (.istore 4) 2 := by decide +kernel
theorem d48_14 : dQ b48_ 14 (.iload 4) 2 := by decide +kernel
theorem d48_16 : dQ b48_ 16 (.iload_n 2) 1 := by decide +kernel
theorem d48_17 : dQ b48_ 17 (.if_icmp .eq 40) 3 := by decide +kernel
theorem d48_57 : dQ b48_ 57 (.aload_n 3) 1 := by decide +kernel
theorem d48_58 : dQ b48_ 58 .areturn 1 := by decide +kernel
theorem d49_0 : dQ b49_ 0 (.iconst 0) 1 := by decide +kernel
theorem d49_1 : dQ b49_ 1 (.istore 5) 2 := by decide +kernel
theorem d49_3 : dQ b49_ 3 (.iload 5) 2 := by decide +kernel
theorem d49_5 : dQ b49_ 5 (.iload 4) 2 := by decide +kernel
theorem d49_7 : dQ b49_ 7 (.if_icmp .ge 37) 3 := by decide +kernel
theorem d49_10 : dQ b49_ 10 (.aload_n 0) 1 := by decide +kernel
theorem d49_11 : dQ b49_ 11 (.iload_n 1) 1 := by decide +kernel
theorem d49_12 : dQ b49_ 12 .caload 1 := by decide +kernel
theorem d49_13 : dQ b49_ 13 (.istore 6) 2 := by decide +kernel
theorem d49_15 : dQ b49_ 15 (.iload 6) 2 := by decide +kernel
theorem d49_17 : dQ b49_ 17 (.sipush 255) 3 := by decide +kernel
theorem d49_20 : dQ b49_ 20 (.if_icmp .le 6) 3 := by decide +kernel
theorem d49_26 : dQ b49_ 26 (.aload_n 2) 1 := by decide +kernel
theorem d49_27 : dQ b49_ 27 (.iload_n 3) 1 := by decide +kernel
theorem d49_28 : dQ b49_ 28 (.iload 6) 2 := by decide +kernel
theorem d49_30 : dQ b49_ 30 .i2b 1 := by decide +kernel
theorem d49_31 : dQ b49_ 31 .bastore 1 := by decide +kernel
theorem d49_32 : dQ b49_ 32 (.iinc 1 1) 3 := by decide +kernel
theorem d49_35 : dQ b49_ 35 (.iinc 3 1) 3 := by decide +kernel
theorem d49_38 : dQ b49_ 38 (.iinc 5 1) 3 := by decide +kernel
theorem d49_41 : dQ b49_ 41 (.goto (-38)) 3 := by decide +kernel
theorem d49_44 : dQ b49_ 44 (.iload 4) 2 := by decide +kernel
theorem d49_46 : dQ b49_ 46 .ireturn 1 := by decide +kernel
theorem d50_0 : dQ b50_ 0 (.iload_n 1) 1 := by decide +kernel
theorem d50_1 : dQ b50_ 1 (.aload_n 0) 1 := by decide +kernel
theorem d50_2 : dQ b50_ 2 .arraylength 1 := by decide +kernel
theorem d50_3 : dQ b50_ 3 .isub 1 := by decide +kernel
theorem d50_4 : dQ b50_ 4 (.bipush 31) 2 := by decide +kernel
theorem d50_6 : dQ b50_ 6 .iushr 1 := by decide +kernel
theorem d50_7 : dQ b50_ 7 .i2b 1 := by decide +kernel
theorem d50_8 : dQ b50_ 8 .ireturn 1 := by decide +kernel
theorem d51_0 : dQ b51_ 0 (.aload_n 0) 1 := by decide +kernel
theorem d51_1 : dQ b51_ 1 (.getfield 15) 3 := by decide +kernel
theorem d51_4 : dQ b51_ 4 .arraylength 1 := by decide +kernel
theorem d51_5 : dQ b51_ 5 (.istore_n 2) 1 := by decide +kernel
theorem d51_6 : dQ b51_ 6 (.iload_n 1) 1 := by decide +kernel
theorem d51_7 : dQ b51_ 7 (.aload_n 0) 1 := by decide +kernel
theorem d51_8 : dQ b51_ 8 (.getfield 22) 3 := by decide +kernel
theorem d51_11 : dQ b51_ 11 .ishl 1 := by decide +kernel
theorem d51_12 : dQ b51_ 12 (.istore_n 3) 1 := by decide +kernel
theorem d51_13 : dQ b51_ 13 (.iload_n 3) 1 := by decide +kernel
theorem d51_14 : dQ b51_ 14 (.iload_n 2) 1 := by decide +kernel
theorem d51_15 : dQ b51_ 15 .isub 1 := by decide +kernel
theorem d51_16 : dQ b51_ 16 (.istore 4) 2 := by decide +kernel
theorem d51_18 : dQ b51_ 18 (.iload_n 2) 1 := by decide +kernel
theorem d51_19 : dQ b51_ 19 (.iload 4) 2 := by decide +kernel
theorem d51_21 : dQ b51_ 21 (.iload_n 2) 1 := by decide +kernel
theorem d51_22 : dQ b51_ 22 (.iconst 2) 1 := by decide +kernel
theorem d51_23 : dQ b51_ 23 (.aload_n 0) 1 := by decide +kernel
theorem d51_24 : dQ b51_ 24 (.getfield 22) 3 := by decide +kernel
theorem d51_27 : dQ b51_ 27 .ishl 1 := by decide +kernel
theorem d51_28 : dQ b51_ 28 .iadd 1 := by decide +kernel
theorem d51_29 : dQ b51_ 29 (.invokestatic 114) 3 := by decide +kernel
theorem d51_32 : dQ b51_ 32 (.istore 5) 2 := by decide +kernel
theorem d51_34 : dQ b51_ 34 (.iload 5) 2 := by decide +kernel
theorem d51_36 : dQ b51_ 36 (.ldc 39) 2 := by decide +kernel
theorem d51_38 : dQ b51_ 38 (.if_icmp .ne 13) 3 := by decide +kernel
theorem d51_51 : dQ b51_ 51 (.iload 5) 2 := by decide +kernel
theorem d51_53 : dQ b51_ 53 (.aload_n 0) 1 := by decide +kernel
theorem d51_54 : dQ b51_ 54 (.getfield 22) 3 := by decide +kernel
theorem d51_57 : dQ b51_ 57 .ishr 1 := by decide +kernel
theorem d51_58 : dQ b51_ 58 .ireturn 1 := by decide +kernel
theorem d52_0 : dQ b52_ 0 (.iload_n 0) 1 := by decide +kernel
theorem d52_1 : dQ b52_ 1 (.iload_n 1) 1 := by decide +kernel
theorem d52_2 : dQ b52_ 2 (.iload_n 2) 1 := by decide +kernel
theorem d52_3 : dQ b52_ 3 (.invokestatic 194) 3 := by decide +kernel
theorem d52_6 : dQ b52_ 6 .iadd 1 := by decide +kernel
theorem d52_7 : dQ b52_ 7 (.istore_n 3) 1 := by decide +kernel
theorem d52_8 : dQ b52_ 8 (.iconst 0) 1 := by decide +kernel
theorem d52_9 : dQ b52_ 9 (.iload_n 3) 1 := by decide +kernel
theorem d52_10 : dQ b52_ 10 (.if_icmp .ge 11) 3 := by decide +kernel
theorem d52_13 : dQ b52_ 13 (.iload_n 3) 1 := by decide +kernel
theorem d52_14 : dQ b52_ 14 (.ldc 200) 2 := by decide +kernel
theorem d52_16 : dQ b52_ 16 (.if_icmp .gt 5) 3 := by decide +kernel
theorem d52_19 : dQ b52_ 19 (.iload_n 3) 1 := by decide +kernel
theorem d52_20 : dQ b52_ 20 .ireturn 1 := by decide +kernel
theorem d53_0 : dQ b53_ 0 (.iload_n 0) 1 := by decide +kernel
theorem d53_1 : dQ b53_ 1 (.iload_n 1) 1 := by decide +kernel
theorem d53_2 : dQ b53_ 2 (.if_icmp .lt 7) 3 := by decide +kernel
theorem d53_9 : dQ b53_ 9 (.iload_n 1) 1 := by decide +kernel
theorem d53_10 : dQ b53_ 10 .ireturn 1 := by decide +kernel
theorem d54_0 : dQ b54_ 0 (.iload_n 1) 1 := by decide +kernel
theorem d54_1 : dQ b54_ 1 (.aload_n 0) 1 := by decide +kernel
theorem d54_2 : dQ b54_ 2 .arraylength 1 := by decide +kernel
theorem d54_3 : dQ b54_ 3 (.if_icmp .ne 11) 3 := by decide +kernel
theorem d54_14 : dQ b54_ 14 (.iload_n 1) 1 := by decide +kernel
theorem d54_15 : dQ b54_ 15 (.newarray .byte) 2 := by decide +kernel
theorem d54_17 : dQ b54_ 17 (.astore_n 2) 1 := by decide +kernel
theorem d54_18 : dQ b54_ 18 (.aload_n 0) 1 := by decide +kernel
theorem d54_19 : dQ b54_ 19 (.iconst 0) 1 := by decide +kernel
theorem d54_20 : dQ b54_ 20 (.aload_n 2) 1 := by decide +kernel
theorem d54_21 : dQ b54_ 21 (.iconst 0) 1 := by decide +kernel
theorem d54_22 : dQ b54_ 22 (.aload_n 0) 1 := by decide +kernel
theorem d54_23 : dQ b54_ 23 .arraylength 1 := by decide +kernel
theorem d54_24 : dQ b54_ 24 (.iload_n 1) 1 := by decide +kernel
theorem d54_25 : dQ b54_ 25 (.invokestatic 304) 3 := by decide +kernel
theorem d54_28 : dQ b54_ 28 (.invokestatic 150) 3 := by decide +kernel
theorem d54_31 : dQ b54_ 31 (.aload_n 2) 1 := by decide +kernel
theorem d54_32 : dQ b54_ 32 .areturn 1 := by decide +kernel
theorem pd0 : parseMethodDescriptor "([CI[BII)I" = some ⟨[(.array .char), .int, (.array .byte), .int, .int], some .int⟩ := by decide +kernel
theorem pd1 : parseMethodDescriptor "([CII)[B" = some ⟨[(.array .char), .int, .int], some (.array .byte)⟩ := by decide +kernel
theorem pd2 : parseMethodDescriptor "([BI)B" = some ⟨[(.array .byte), .int], some .byte⟩ := by decide +kernel
theorem pd3 : parseMethodDescriptor zq31 = some ⟨[(.array .char), .int, .int, (.object "java/lang/Void")], none⟩ := by decide +kernel
theorem pd4 : parseMethodDescriptor "()B" = some ⟨[], some .byte⟩ := by decide +kernel
theorem pd5 : parseMethodDescriptor "(I)V" = some ⟨[.int], none⟩ := by decide +kernel
theorem pd6 : parseMethodDescriptor "(II)I" = some ⟨[.int, .int], some .int⟩ := by decide +kernel
theorem pd7 : parseMethodDescriptor "(III)I" = some ⟨[.int, .int, .int], some .int⟩ := by decide +kernel
theorem pd8 : parseMethodDescriptor "(I)I" = some ⟨[.int], some .int⟩ := by decide +kernel
theorem pd9 : parseMethodDescriptor "([BI)[B" = some ⟨[(.array .byte), .int], some (.array .byte)⟩ := by decide +kernel
theorem pd10 : parseMethodDescriptor zq44 = some ⟨[(.object zq0)], none⟩ := by decide +kernel
theorem pd11 : parseMethodDescriptor "([BIB)V" = some ⟨[(.array .byte), .int, .byte], none⟩ := by decide +kernel
theorem pd12 : parseMethodDescriptor "()I" = some ⟨[], some .int⟩ := by decide +kernel
theorem pd13 : parseMethodDescriptor zq45 = some ⟨[.int, (.object zq0)], none⟩ := by decide +kernel
theorem pd14 : parseMethodDescriptor zq27 = some ⟨[(.object zq0)], some (.object zq1)⟩ := by decide +kernel
theorem pd15 : parseMethodDescriptor "(II)V" = some ⟨[.int, .int], none⟩ := by decide +kernel
theorem pd16 : parseMethodDescriptor "([BII)[B" = some ⟨[(.array .byte), .int, .int], some (.array .byte)⟩ := by decide +kernel
theorem pd17 : parseMethodDescriptor "()[B" = some ⟨[], some (.array .byte)⟩ := by decide +kernel
theorem pd18 : parseMethodDescriptor "()Z" = some ⟨[], some .boolean⟩ := by decide +kernel
theorem pd19 : parseMethodDescriptor zq46 = some ⟨[(.object zq1), (.object "java/lang/Void")], none⟩ := by decide +kernel
theorem pd20 : parseMethodDescriptor zq38 = some ⟨[(.object zq3)], none⟩ := by decide +kernel
theorem pd21 : parseMethodDescriptor zq32 = some ⟨[.int, .int, (.object zq33)], some .int⟩ := by decide +kernel
theorem pd22 : parseMethodDescriptor "([BI)C" = some ⟨[(.array .byte), .int], some .char⟩ := by decide +kernel
theorem pd23 : parseMethodDescriptor "(II[B)I" = some ⟨[.int, .int, (.array .byte)], some .int⟩ := by decide +kernel
theorem pd24 : parseMethodDescriptor zq8 = some ⟨[.int], some (.object zq1)⟩ := by decide +kernel
theorem pd25 : parseMethodDescriptor "(I)C" = some ⟨[.int], some .char⟩ := by decide +kernel
theorem pd26 : parseMethodDescriptor zq47 = some ⟨[(.object zq0), .int, .int, .int], some .boolean⟩ := by decide +kernel
theorem pd27 : parseMethodDescriptor "([C)V" = some ⟨[(.array .char)], none⟩ := by decide +kernel
theorem pd28 : parseMethodDescriptor zq21 = some ⟨[(.object zq0), (.object zq4)], none⟩ := by decide +kernel
theorem pd29 : parseMethodDescriptor "()V" = some ⟨[], none⟩ := by decide +kernel
theorem pd30 : parseMethodDescriptor zq39 = some ⟨[(.object zq0)], some (.object zq3)⟩ := by decide +kernel
theorem pd31 : parseMethodDescriptor zq40 = some ⟨[.int], some (.object zq3)⟩ := by decide +kernel
theorem pd32 : parseMethodDescriptor zq20 = some ⟨[], some (.object zq0)⟩ := by decide +kernel
theorem pd33 : parseMethodDescriptor zq48 = some ⟨[(.object zq0), (.object zq4), .boolean], none⟩ := by decide +kernel
theorem pd34 : parseMethodDescriptor zq28 = some ⟨[.int, .int], some (.object zq0)⟩ := by decide +kernel
theorem pd35 : parseMethodDescriptor zq41 = some ⟨[(.object zq0), .int, .int, (.object zq0)], some (.object zq9)⟩ := by decide +kernel
theorem pd36 : parseMethodDescriptor zq29 = some ⟨[(.object zq0), .int, (.object zq0)], some .boolean⟩ := by decide +kernel
theorem pd37 : parseMethodDescriptor zq18 = some ⟨[(.object zq0), .int, .int], some .boolean⟩ := by decide +kernel
theorem pn0 : plainName zq42 = true := by first | (simp [plainName, overriddenIn]; done) | decide +kernel
theorem pn1 : plainName zq14 = true := by first | (simp [plainName, overriddenIn]; done) | decide +kernel
theorem pn2 : plainName zq10 = true := by first | (simp [plainName, overriddenIn]; done) | decide +kernel
theorem pn3 : plainName zq2 = true := by first | (simp [plainName, overriddenIn]; done) | decide +kernel
theorem pn4 : plainName zq7 = true := by first | (simp [plainName, overriddenIn]; done) | decide +kernel
theorem pn5 : plainName zq9 = true := by first | (simp [plainName, overriddenIn]; done) | decide +kernel
theorem wS {a0 : Array Value} {Z : State} (hw : HW a0 Z) : ∀ a ∈ Bundle.stringAtoms, a.before a0 Z = true := by
  intro a ha
  simp only [Bundle.stringAtoms, List.mem_cons, List.not_mem_nil, or_false] at ha
  rcases ha with rfl | rfl | rfl | rfl | rfl | rfl | rfl
  · exact (wd10 hw)
  · exact (wd9 hw)
  · exact (wd23 hw)
  · exact (wd24 hw)
  · exact (wd25 hw)
  · exact (wd26 hw)
  · exact (wd27 hw)
theorem ew {a0 : Array Value} {Z : State} (hw : HW a0 Z) : EW Z a0 consts_1 := (EW.cons (wd103 hw) (by decide +kernel) (EW.cons (wd126 hw) (by decide +kernel) (EW.cons (wd22 hw) (by decide +kernel) EW.nil)))
theorem own_k4 {k x : Int32} (h : x &&& 3 = k) : k = 0 ∨ k = 1 ∨ k = 2 ∨ k = 3 := by
  have q := c_mask x 3 2 (by decide) (by decide)
  rw [h] at q
  have e0 : (0 : Int32).toInt = 0 := by decide
  have e1 : (1 : Int32).toInt = 1 := by decide
  have e2 : (2 : Int32).toInt = 2 := by decide
  have e3 : (3 : Int32).toInt = 3 := by decide
  have h5 : k.toInt = 0 ∨ k.toInt = 1 ∨ k.toInt = 2 ∨ k.toInt = 3 := by omega
  rcases h5 with h | h | h | h
  · exact Or.inl (Int32.toInt_inj.mp (h.trans e0.symm))
  · exact Or.inr (Or.inl (Int32.toInt_inj.mp (h.trans e1.symm)))
  · exact Or.inr (Or.inr (Or.inl (Int32.toInt_inj.mp (h.trans e2.symm))))
  · exact Or.inr (Or.inr (Or.inr (Int32.toInt_inj.mp (h.trans e3.symm))))
theorem own_same (a : Addr) : (Value.ref a == Value.ref a) = true := by simp
/-- a char of the law: below 256 -/
def own_lat (c : Int32) : Prop := ¬ c < 0 ∧ ¬ (255 : Int32) < c
theorem own_lat_mask {x c : Int32} (h : (x &&& (255 : Int32)).toUInt32.toUInt16.toUInt32.toInt32 = c) : own_lat c := by
  have q := c_mask x 255 8 (by decide) (by decide)
  have r := c_i2c (x &&& 255)
  rw [h] at r
  have e0 : (0 : Int32).toInt = 0 := by decide
  have e2 : (255 : Int32).toInt = 255 := by decide
  unfold own_lat
  rw [Int32.lt_iff_toInt_lt, Int32.lt_iff_toInt_lt, e0, e2]; omega
theorem own_nar_lat {c : Int32} (h : own_lat c) : nar .char c = c := by
  obtain ⟨h1, h2⟩ := h
  have e0 : (0 : Int32).toInt = 0 := by decide
  have e2 : (255 : Int32).toInt = 255 := by decide
  rw [Int32.lt_iff_toInt_lt, e0] at h1
  rw [Int32.lt_iff_toInt_lt, e2] at h2
  have r := c_i2c c
  refine Int32.toInt_inj.mp ?_
  show (c.toUInt32.toUInt16.toUInt32.toInt32).toInt = c.toInt
  omega
def own_n (k : Nat) : Int32 := Int32.ofNat k
theorem own_n_int {k : Nat} (h : k < 1000) : (own_n k).toInt = k := Int32.toInt_ofNat_of_lt (by omega)
theorem own_n_cl {k : Nat} (h : k < 1000) : (own_n k).toNatClampNeg = k := by simp [Int32.toNatClampNeg, own_n_int h]
theorem own_n_ge {k : Nat} (h : k < 1000) : ¬ own_n k < 0 := by
  have e0 : (0 : Int32).toInt = 0 := by decide
  rw [Int32.lt_iff_toInt_lt, own_n_int h, e0]; omega
theorem own_n_lt {a b : Nat} (ha : a < 1000) (hb : b < 1000) : own_n a < own_n b ↔ a < b := by
  rw [Int32.lt_iff_toInt_lt, own_n_int ha, own_n_int hb]; omega
theorem own_n_add (a b : Nat) : own_n a + own_n b = own_n (a + b) := (Int32.ofNat_add a b).symm
theorem own_n_app (V W : List Int32) : own_n V.length + own_n W.length = own_n (V ++ W).length := by rw [own_n_add, List.length_append]
theorem own_n_app1 (W : List Int32) (c : Int32) : own_n W.length + (1 : Int32) = own_n (W ++ [c]).length := own_n_app W [c]
theorem own_shr0 (x : Int32) : x >>> ((0 : Int32) &&& 31) = x := by
  rw [show ((0 : Int32) &&& 31) = 0 from by decide]; simp
theorem own_shl0 (x : Int32) : x <<< ((0 : Int32) &&& 31) = x := by
  rw [show ((0 : Int32) &&& 31) = 0 from by decide]; simp
theorem own_sub0 (x : Int32) : x - (0 : Int32) = x := by simp
def own_b (c : Int32) : Int32 := nar .byte (c.toInt8.toInt32)
abbrev eQ (V0 k : Nat) : Value := .int (own_b (own_n (48 + V0 / k % 10)))
def tx (W : List Int32) : List Value := W.map fun c => .int (own_b c)
def tc (W : List Int32) : List Value := W.map fun c => .int c
theorem tx_len (W : List Int32) : (tx W).length = W.length := List.length_map ..
theorem tc_len (W : List Int32) : (tc W).length = W.length := List.length_map ..
theorem tx_app (V W : List Int32) : tx (V ++ W) = tx V ++ tx W := List.map_append ..
theorem tc_app (V W : List Int32) : tc (V ++ W) = tc V ++ tc W := List.map_append ..
theorem own_st1 (W : List Int32) (c : Int32) (d : Value) : (tx W ++ List.replicate 1 d).set W.length (.int (own_b c)) = tx (W ++ [c]) := by
  rw [tx_app, ← tx_len W, List.set_append_right _ _ (Nat.le_refl _), Nat.sub_self]; rfl
theorem own_sc1 (W : List Int32) (c : Int32) (d : Value) : (tc W ++ List.replicate 1 d).set W.length (.int c) = tc (W ++ [c]) := by
  rw [tc_app, ← tc_len W, List.set_append_right _ _ (Nat.le_refl _), Nat.sub_self]; rfl
theorem own_cpy (vs : List Value) (d : Value) (n m : Nat) (h : vs.length ≤ n) : ∀ i, vs.getD i d = (((List.range n).map fun i => vs.getD (0 + i) d) ++ List.replicate m d).getD i d := by
  intro i
  by_cases q : i < n
  · simp [List.getD_eq_getElem?_getD, List.getElem?_append, q]
  · have e : vs[i]? = none := List.getElem?_eq_none (by omega)
    by_cases r : i - n < m
    · simp [List.getD_eq_getElem?_getD, List.getElem?_append, q, e, List.getElem?_replicate, r]
    · simp [List.getD_eq_getElem?_getD, List.getElem?_append, q, e, List.getElem?_replicate, r]
theorem own_us (M : List Int32) (d : Value) (h : M.length < 1000) : tx M = (List.range (own_n M.length).toNatClampNeg).map fun i => (tx M).getD ((0 : Int32).toNatClampNeg + i) d := by
  rw [own_n_cl h, show (0 : Int32).toNatClampNeg = 0 from by decide]
  refine List.ext_getElem (by simp [tx_len]) fun i h1 h2 => ?_
  simp [List.getD_eq_getElem?_getD, h1]
theorem own_vr (W M : List Int32) (d : Value) (h : W.length + M.length < 1000) : (tx W ++ List.replicate M.length d).take (own_n W.length).toNatClampNeg ++ tx M ++ (tx W ++ List.replicate M.length d).drop ((own_n W.length).toNatClampNeg + (own_n M.length).toNatClampNeg) = tx (W ++ M) := by
  rw [own_n_cl (by omega), own_n_cl (by omega), tx_app, ← tx_len W, List.take_left]
  rw [List.drop_eq_nil_of_le (by simp), List.append_nil]
theorem own_vr0 (W : List Int32) (d : Value) (h : W.length < 1000) : (([] : List Value) ++ List.replicate W.length d).take (0 : Int32).toNatClampNeg ++ tx W ++ (([] : List Value) ++ List.replicate W.length d).drop ((0 : Int32).toNatClampNeg + (own_n W.length).toNatClampNeg) = tx W := by
  rw [own_n_cl h, show (0 : Int32).toNatClampNeg = 0 from by decide]
  rw [List.drop_eq_nil_of_le (by simp)]; simp
theorem own_frn {x t t' n : Nat} (h : t' = t ∨ n ≤ t') (h1 : x ≠ t) (h2 : x < n) : x ≠ t' := by
  rcases h with rfl | h
  · exact h1
  · omega
theorem own_frg {t t' n m : Nat} (h : t' = t ∨ n ≤ t') (h1 : m ≤ t) (h2 : m ≤ n) : m ≤ t' := by
  rcases h with rfl | h
  · exact h1
  · omega
theorem own_frw {t t' n m : Nat} {ws : List Nat} (h : t' = t ∨ n ≤ t') (h1 : t ∈ ws ∨ m ≤ t) (h2 : m ≤ n) : t' ∈ ws ∨ m ≤ t' := by
  rcases h with rfl | h
  · exact h1
  · right; omega
theorem own_b_back {c : Int32} (h : own_lat c) : ((own_b c) &&& (255 : Int32)).toUInt32.toUInt16.toUInt32.toInt32 = c := by
  obtain ⟨h1, h2⟩ := h
  have e0 : (0 : Int32).toInt = 0 := by decide
  have e2 : (255 : Int32).toInt = 255 := by decide
  rw [Int32.lt_iff_toInt_lt, e0] at h1
  rw [Int32.lt_iff_toInt_lt, e2] at h2
  have h3 : c = own_n c.toInt.toNat := Int32.toInt_inj.mp (by rw [own_n_int (by omega)]; omega)
  have h4 : ∀ k : Fin 256, ((own_b (own_n k.val)) &&& (255 : Int32)).toUInt32.toUInt16.toUInt32.toInt32 = own_n k.val := by decide +kernel
  have h5 := h4 ⟨c.toInt.toNat, by omega⟩
  rw [h3]; exact h5
theorem own_tx_at {W : List Int32} {i : Nat} (d : Value) (h : i < W.length) : (tx W).getD i d = .int (own_b (W.getD i 0)) := by
  simp [tx, List.getD_eq_getElem?_getD, h]
theorem own_tc_at {W : List Int32} {i : Nat} (d : Value) (h : i < W.length) : (tc W).getD i d = .int (W.getD i 0) := by
  simp [tc, List.getD_eq_getElem?_getD, h]
theorem own_lat_at {W : List Int32} {i : Nat} (hl : ∀ c ∈ W, own_lat c) (h : i < W.length) : own_lat (W.getD i 0) := by
  rw [List.getD_eq_getElem?_getD, List.getElem?_eq_getElem h]; exact hl _ (List.getElem_mem h)
theorem own_fit {n : Nat} {cp : Int32} (hcp : cp = 16 ∨ cp = 34) (h : n ≤ cp.toNatClampNeg) : ¬ (0 : Int32) < own_n n - cp := by
  have e0 : (0 : Int32).toInt = 0 := by decide
  have q : cp.toNatClampNeg ≤ 34 ∧ 0 ≤ cp.toInt ∧ cp.toInt ≤ 34 := by rcases hcp with rfl | rfl <;> decide
  have r := own_n_int (k := n) (by omega)
  have z : cp.toNatClampNeg = cp.toInt.toNat := rfl
  have u := c_isub (own_n n) cp
  have v := rng32 (own_n n - cp)
  rw [Int32.lt_iff_toInt_lt, e0]
  omega
theorem own_grow {n : Nat} (h : 16 < n) (h2 : n < 34) : (0 : Int32) < own_n n - 16 ∧ own_n n - 16 < 18 := by
  have e0 : (0 : Int32).toInt = 0 := by decide
  have e1 : (16 : Int32).toInt = 16 := by decide
  have e2 : (18 : Int32).toInt = 18 := by decide
  have r := own_n_int (k := n) (by omega)
  have u := c_isub (own_n n) 16
  have v := rng32 (own_n n - 16)
  rw [Int32.lt_iff_toInt_lt, Int32.lt_iff_toInt_lt, e0, e2]
  omega
theorem own_cp16 : (16 : Int32).toNatClampNeg = 16 := by decide
theorem own_cp34 : (34 : Int32).toNatClampNeg = 34 := by decide
theorem own_c0 (x : Nat) : (0 : Int32).toNatClampNeg + x ≤ x := by rw [show (0 : Int32).toNatClampNeg = 0 from by decide]; omega
theorem own_wh {W M : List Int32} {cp : Int32} (h : W.length + M.length < 1000) (q : W.length + M.length ≤ cp.toNatClampNeg) : (own_n W.length).toNatClampNeg + (own_n M.length).toNatClampNeg ≤ cp.toNatClampNeg := by rw [own_n_cl (by omega), own_n_cl (by omega)]; exact q
theorem own_wl {W M : List Int32} {d : Value} (h : W.length + M.length < 1000) : (own_n W.length).toNatClampNeg + (own_n M.length).toNatClampNeg ≤ (tx W ++ List.replicate M.length d).length := by rw [own_n_cl (by omega), own_n_cl (by omega)]; simp [tx_len]
theorem own_ix {n : Nat} {cp : Int32} (hc : ¬ cp < 0) (h : n < 1000) (q : n < cp.toNatClampNeg) : ¬ own_n n < 0 ∧ own_n n < cp := by
  have e0 : (0 : Int32).toInt = 0 := by decide
  rw [Int32.lt_iff_toInt_lt, e0] at hc
  refine ⟨own_n_ge h, ?_⟩
  rw [Int32.lt_iff_toInt_lt, own_n_int h]
  have z : cp.toNatClampNeg = cp.toInt.toNat := rfl
  omega
theorem own_cpp {cp : Int32} (h : cp = 16 ∨ cp = 34) : ¬ cp < 0 := by rcases h with rfl | rfl <;> decide
theorem own_cpc {cp : Int32} (h : cp = 16 ∨ cp = 34) : cp.toNatClampNeg ≤ 34 := by rcases h with rfl | rfl <;> decide
theorem own_ne {n : Nat} {cp : Int32} (h : n < 1000) (q : n < cp.toNatClampNeg) : ¬ own_n n = cp := fun e => by rw [← e, own_n_cl h] at q; omega
theorem own_eq {n : Nat} {cp : Int32} (hc : ¬ cp < 0) (h : n < 1000) (q : n = cp.toNatClampNeg) : own_n n = cp := by
  have e0 : (0 : Int32).toInt = 0 := by decide
  rw [Int32.lt_iff_toInt_lt, e0] at hc
  refine Int32.toInt_inj.mp ?_
  rw [own_n_int h]
  have z : cp.toNatClampNeg = cp.toInt.toNat := rfl
  omega
theorem own_mlt {n : Nat} {cp : Int32} (hc : ¬ cp < 0) (h : n < 1000) (q : n < cp.toNatClampNeg) : own_n n < cp := (own_ix hc h q).2
def own_dig (V n : Nat) : List Int32 := (List.range n).map fun j => own_n (48 + V / 10 ^ (n - 1 - j) % 10)
def own_ndN (V : Nat) : Nat := if V < 10 then 1 else if V < 100 then 2 else if V < 1000 then 3 else if V < 10000 then 4 else if V < 100000 then 5 else if V < 1000000 then 6 else if V < 10000000 then 7 else if V < 100000000 then 8 else if V < 1000000000 then 9 else 10
theorem own_dig_len (V n : Nat) : (own_dig V n).length = n := by simp [own_dig]
theorem own_ndN_le (V : Nat) : own_ndN V ≤ 10 := by
  unfold own_ndN
  split
  · decide
  · split
    · decide
    · split
      · decide
      · split
        · decide
        · split
          · decide
          · split
            · decide
            · split
              · decide
              · split
                · decide
                · split <;> decide
theorem own_nlat {k : Nat} (h : k < 256) : own_lat (own_n k) := by
  have e0 : (0 : Int32).toInt = 0 := by decide
  have e2 : (255 : Int32).toInt = 255 := by decide
  unfold own_lat
  rw [Int32.lt_iff_toInt_lt, Int32.lt_iff_toInt_lt, e0, e2, own_n_int (by omega)]; omega
theorem own_dig_lat (V n : Nat) : ∀ c ∈ own_dig V n, own_lat c := by
  intro c hc
  obtain ⟨j, -, rfl⟩ := List.mem_map.mp hc
  exact own_nlat (by omega)
theorem own_dlen (W : List Int32) (V n : Nat) : (W ++ own_dig V n).length = W.length + n := by rw [List.length_append, own_dig_len]
theorem own_nn {v : Int32} {V : Nat} (h : v.toInt = (V : Int)) : ¬ v < 0 := by
  have e0 : (0 : Int32).toInt = 0 := by decide
  rw [Int32.lt_iff_toInt_lt, h, e0]; omega
theorem own_vlt {v p : Int32} {V : Nat} (h : v.toInt = (V : Int)) {k : Int} (hp : p.toInt = k) (q : (V : Int) < k) : v < p := by
  rw [Int32.lt_iff_toInt_lt, h, hp]; exact q
theorem own_vge {v p : Int32} {V : Nat} (h : v.toInt = (V : Int)) {k : Int} (hp : p.toInt = k) (q : k ≤ (V : Int)) : ¬ v < p := by
  rw [Int32.lt_iff_toInt_lt, h, hp]; omega
theorem own_neg {v : Int32} {V : Nat} (h : v.toInt = (V : Int)) : (-v).toInt = -(V : Int) := by
  have a := c_ineg v
  have b := rng32 (-v)
  have c := rng32 v
  omega
theorem own_negp {x r : Int32} {k : Nat} (h : x.toInt = -(k : Int)) (hk : k < 1000) (e : -x = r) : r.toInt = (k : Int) := by
  subst e
  have a := c_ineg x
  have b := rng32 (-x)
  omega
theorem own_plt {x p : Int32} {k : Nat} (h : x.toInt = -(k : Int)) {t : Int} (hp : p.toInt = t) (q : t < -(k : Int)) : p < x := by
  rw [Int32.lt_iff_toInt_lt, h, hp]; exact q
theorem own_pge {x p : Int32} {k : Nat} (h : x.toInt = -(k : Int)) {t : Int} (hp : p.toInt = t) (q : -(k : Int) ≤ t) : ¬ p < x := by
  rw [Int32.lt_iff_toInt_lt, h, hp]; omega
theorem own_xlt {x p : Int32} {k : Nat} (h : x.toInt = -(k : Int)) {t : Int} (hp : p.toInt = t) (q : -(k : Int) < t) : x < p := by
  rw [Int32.lt_iff_toInt_lt, h, hp]; exact q
theorem own_xge {x p : Int32} {k : Nat} (h : x.toInt = -(k : Int)) {t : Int} (hp : p.toInt = t) (q : t ≤ -(k : Int)) : ¬ x < p := by
  rw [Int32.lt_iff_toInt_lt, h, hp]; omega
theorem own_q {x q : Int32} {k : Nat} (h : x.toInt = -(k : Int)) (e : x / (100 : Int32) = q) : q.toInt = -((k / 100 : Nat) : Int) := by
  subst e
  have a := c_idiv x 100 100 (by decide) (by decide)
  by_cases z : k = 0
  · subst z
    have := a.1 (by omega)
    omega
  · have := a.2 (by omega)
    omega
theorem own_r {x q r : Int32} {k : Nat} (h : x.toInt = -(k : Int)) (hq : q.toInt = -((k / 100 : Nat) : Int)) (e : q * (100 : Int32) - x = r) : r.toInt = ((k % 100 : Nat) : Int) := by
  subst e
  have a := c_imul q 100
  have b := c_isub (q * 100) x
  have c := rng32 (q * 100 - x)
  have e : (100 : Int32).toInt = 100 := by decide
  rw [e] at a
  omega
theorem own_dc (k : Nat) : own_n (k + 1) + Int32.ofInt (-1) = own_n k := by
  have e : own_n (k + 1) = own_n k + 1 := (own_n_add k 1).symm
  rw [e, show Int32.ofInt (-1) = (-1 : Int32) from by decide]
  rw [Int32.add_assoc, show (1 : Int32) + -1 = 0 from by decide, Int32.add_zero]
theorem own_sb1 (k j : Nat) (z : Int32) (hz : own_n j = z) : own_n (k + j) - z = own_n k := by
  subst hz
  have e : own_n (k + j) = own_n k + own_n j := (own_n_add k j).symm
  rw [e, Int32.add_sub_cancel]
theorem own_nar_b (c : Int32) : nar .byte c = own_b c := by
  unfold own_b
  have q : ∀ x : Int32, nar .byte x = x.toInt8.toInt32 := fun x => by first | rfl | (unfold nar; rfl)
  rw [q, q]; simp
theorem own_stk (W : List Int32) (D : List Value) (k : Nat) (v : Value) : (tx W ++ D).set (W.length + k) v = tx W ++ D.set k v := by
  rw [← tx_len W, List.set_append_right _ _ (by omega)]
  congr 2; omega
def own_ones : List Value := (List.range 100).map fun j => .int (own_n (48 + j % 10))
def own_tens : List Value := (List.range 100).map fun j => .int (own_n (48 + j / 10))
theorem own_idx {r : Int32} {m : Nat} (h : r.toInt = (m : Int)) (q : m < 100) : ¬ r < 0 ∧ r < 100 := by
  have e0 : (0 : Int32).toInt = 0 := by decide
  have e1 : (100 : Int32).toInt = 100 := by decide
  rw [Int32.lt_iff_toInt_lt, Int32.lt_iff_toInt_lt, e0, e1, h]; omega
theorem own_oat {r : Int32} {m d : Nat} (h : r.toInt = (m : Int)) (q : m < 100) (e : m % 10 = d) (dv : Value) : own_ones.getD r.toNatClampNeg dv = .int (own_n (48 + d)) := by
  have z : r.toNatClampNeg = m := by simp only [Int32.toNatClampNeg, h]; omega
  rw [z, ← e]; simp [own_ones, List.getD_eq_getElem?_getD, q]
theorem own_tat {r : Int32} {m d : Nat} (h : r.toInt = (m : Int)) (q : m < 100) (e : m / 10 = d) (dv : Value) : own_tens.getD r.toNatClampNeg dv = .int (own_n (48 + d)) := by
  have z : r.toNatClampNeg = m := by simp only [Int32.toNatClampNeg, h]; omega
  rw [z, ← e]; simp [own_tens, List.getD_eq_getElem?_getD, q]
theorem own_nk (k j : Nat) (z : Int32) (hz : own_n j = z) : own_n k + z = own_n (k + j) := by subst hz; exact own_n_add k j
theorem own_dig_at (A B : List Int32) (V n j : Nat) (hj : j < n) : (A ++ own_dig V n ++ B).getD (A.length + j) 0 = own_n (48 + V / 10 ^ (n - 1 - j) % 10) := by
  rw [List.getD_eq_getElem?_getD, List.append_assoc, List.getElem?_append_right (by omega), Nat.add_sub_cancel_left, List.getElem?_append_left (by rw [own_dig_len]; exact hj)]
  simp [own_dig, hj]
theorem own_at_mid (A B : List Int32) (x : Int32) : (A ++ x :: B).getD A.length 0 = x := by
  rw [List.getD_eq_getElem?_getD, List.getElem?_append_right (Nat.le_refl _), Nat.sub_self]; rfl
theorem own_at_mid1 (A B : List Int32) (x y : Int32) : (A ++ x :: y :: B).getD (A.length + 1) 0 = y := by
  rw [List.getD_eq_getElem?_getD, List.getElem?_append_right (by omega), Nat.add_sub_cancel_left]; rfl
theorem own_dchr {v p c : Int32} {V P : Nat} (hv : v.toInt = (V : Int)) (hp : p.toInt = (P : Int)) (h0 : 0 < P) (e : c = own_n (48 + V / P % 10)) : ((48 : Int32) + v / p % (10 : Int32)).toUInt32.toUInt16.toUInt32.toInt32 = c := by
  have hne : p ≠ -1 := fun q => by
    subst q
    have : (-1 : Int32).toInt = -1 := by decide
    omega
  have a := (c_idiv v p P hp hne).1 (by omega)
  have a2 : (v / p).toInt = ((V / P : Nat) : Int) := by rw [a, hv]; rfl
  generalize V / P = Q at a2 e
  clear a
  have b := (c_irem (v / p) 10 10 (by decide)).1 (by omega)
  have c1 := c_iadd 48 (v / p % 10)
  have d := rng32 (48 + v / p % 10)
  have e48 : (48 : Int32).toInt = 48 := by decide
  have f := c_i2c (48 + v / p % 10)
  rw [e48] at c1
  have g : (own_n (48 + Q % 10)).toInt = ((48 + Q % 10 : Nat) : Int) := own_n_int (by omega)
  subst e
  refine Int32.toInt_inj.mp ?_
  rw [g]
  omega
def own_dec (V : Nat) : List Int32 := own_dig V (own_ndN V)
theorem own_dec_len (V : Nat) : (own_dec V).length ≤ 10 := by unfold own_dec; rw [own_dig_len]; exact own_ndN_le V
theorem own_dec_lat (V : Nat) : ∀ c ∈ own_dec V, own_lat c := own_dig_lat _ _
theorem own_dec1 {V : Nat} (hhi : V < 10) : own_dec V = own_dig V 1 := by
  unfold own_dec own_ndN
  rw [if_pos hhi]
theorem own_dec2 {V : Nat} (hlo : 10 ≤ V) (hhi : V < 100) : own_dec V = own_dig V 2 := by
  unfold own_dec own_ndN
  rw [if_neg (by omega), if_pos hhi]
theorem own_dec3 {V : Nat} (hlo : 100 ≤ V) (hhi : V < 1000) : own_dec V = own_dig V 3 := by
  unfold own_dec own_ndN
  rw [if_neg (by omega), if_neg (by omega), if_pos hhi]
theorem own_dec4 {V : Nat} (hlo : 1000 ≤ V) (hhi : V < 10000) : own_dec V = own_dig V 4 := by
  unfold own_dec own_ndN
  rw [if_neg (by omega), if_neg (by omega), if_neg (by omega), if_pos hhi]
theorem own_dec5 {V : Nat} (hlo : 10000 ≤ V) (hhi : V < 100000) : own_dec V = own_dig V 5 := by
  unfold own_dec own_ndN
  rw [if_neg (by omega), if_neg (by omega), if_neg (by omega), if_neg (by omega), if_pos hhi]
theorem own_dec6 {V : Nat} (hlo : 100000 ≤ V) (hhi : V < 1000000) : own_dec V = own_dig V 6 := by
  unfold own_dec own_ndN
  rw [if_neg (by omega), if_neg (by omega), if_neg (by omega), if_neg (by omega), if_neg (by omega), if_pos hhi]
theorem own_dec7 {V : Nat} (hlo : 1000000 ≤ V) (hhi : V < 10000000) : own_dec V = own_dig V 7 := by
  unfold own_dec own_ndN
  rw [if_neg (by omega), if_neg (by omega), if_neg (by omega), if_neg (by omega), if_neg (by omega), if_neg (by omega), if_pos hhi]
theorem own_dec8 {V : Nat} (hlo : 10000000 ≤ V) (hhi : V < 100000000) : own_dec V = own_dig V 8 := by
  unfold own_dec own_ndN
  rw [if_neg (by omega), if_neg (by omega), if_neg (by omega), if_neg (by omega), if_neg (by omega), if_neg (by omega), if_neg (by omega), if_pos hhi]
theorem own_dec9 {V : Nat} (hlo : 100000000 ≤ V) (hhi : V < 1000000000) : own_dec V = own_dig V 9 := by
  unfold own_dec own_ndN
  rw [if_neg (by omega), if_neg (by omega), if_neg (by omega), if_neg (by omega), if_neg (by omega), if_neg (by omega), if_neg (by omega), if_neg (by omega), if_pos hhi]
theorem own_dec10 {V : Nat} (hlo : 1000000000 ≤ V) : own_dec V = own_dig V 10 := by
  unfold own_dec own_ndN
  rw [if_neg (by omega), if_neg (by omega), if_neg (by omega), if_neg (by omega), if_neg (by omega), if_neg (by omega), if_neg (by omega), if_neg (by omega), if_neg (by omega)]
theorem own_pne {p : Int32} {P : Nat} (h : p.toInt = (P : Int)) (h0 : 0 < P) : p ≠ 0 := fun q => by
  subst q
  have : (0 : Int32).toInt = 0 := by decide
  omega
def own_k0c (x : Int32) : Int32 := (x &&& (255 : Int32)).toUInt32.toUInt16.toUInt32.toInt32
def own_k1c (x : Int32) : Int32 := ((x.toUInt32 >>> ((8 : Int32) &&& 31).toUInt32).toInt32 &&& (255 : Int32)).toUInt32.toUInt16.toUInt32.toInt32
def own_sx (x : Int32) (F : List Int32) : Prop := F = [] ∨ F = [own_k0c x] ∨ F = [own_k0c x, own_k1c x]
def own_m2 (x r : Int32) : Prop := (x = 0 ∧ r = 0) ∨ (x = 1 ∧ r = 1) ∨ (x = 2 ∧ r = 2) ∨ (x = 3 ∧ r = 2)
theorem own_str_ex (x : Int32) {k : Int32} (h : k = 0 ∨ k = 1 ∨ k = 2 ∨ k = 3) : ∃ F : List Int32, own_m2 k (own_n F.length) ∧ own_sx x F := by
  rcases h with rfl | rfl | rfl | rfl
  · exact ⟨[], Or.inl ⟨rfl, rfl⟩, Or.inl rfl⟩
  · exact ⟨[own_k0c x], Or.inr (Or.inl ⟨rfl, rfl⟩), Or.inr (Or.inl rfl)⟩
  · exact ⟨[own_k0c x, own_k1c x], Or.inr (Or.inr (Or.inl ⟨rfl, rfl⟩)), Or.inr (Or.inr rfl)⟩
  · exact ⟨[own_k0c x, own_k1c x], Or.inr (Or.inr (Or.inr ⟨rfl, rfl⟩)), Or.inr (Or.inr rfl)⟩
theorem own_sx_len {x : Int32} {F : List Int32} (h : own_sx x F) : F.length ≤ 2 := by rcases h with rfl | rfl | rfl <;> simp
theorem own_sx_lat {x : Int32} {F : List Int32} (h : own_sx x F) : ∀ c ∈ F, own_lat c := by
  intro c hc
  have l0 : own_lat (own_k0c x) := own_lat_mask rfl
  have l1 : own_lat (own_k1c x) := own_lat_mask rfl
  rcases h with rfl | rfl | rfl
  · cases hc
  · simp only [List.mem_cons, List.not_mem_nil, or_false] at hc; subst hc; exact l0
  · simp only [List.mem_cons, List.not_mem_nil, or_false] at hc; rcases hc with rfl | rfl <;> assumption
theorem own_m31 {x k : Int32} (h : x &&& (2147483647 : Int32) = k) : ∃ V : Nat, k.toInt = (V : Int) ∧ V < 2147483648 := by
  have q := c_mask x 2147483647 31 (by decide) (by decide)
  rw [h] at q
  exact ⟨k.toInt.toNat, by omega, by omega⟩
theorem own_alA {X Y : List Int32} (h : ∀ x ∈ X, own_lat x) (g : ∀ x ∈ Y, own_lat x) : ∀ x ∈ X ++ Y, own_lat x := fun x hx => (List.mem_append.mp hx).elim (h x) (g x)
theorem own_l58 : ∀ c ∈ ([58] : List Int32), own_lat c := by
  intro c hc
  simp only [List.mem_cons, List.not_mem_nil, or_false] at hc; subst hc; unfold own_lat; decide
theorem own_l5832 : ∀ c ∈ ([58, 32] : List Int32), own_lat c := by
  intro c hc
  simp only [List.mem_cons, List.not_mem_nil, or_false] at hc; rcases hc with rfl | rfl <;> (unfold own_lat; decide)
theorem own_l0 : ∀ c ∈ ([] : List Int32), own_lat c := fun c h => by cases h
theorem own_lenz {Z : State} {args : Array Value} {t : Term} {de : Addr} {cl : Cell} {z : Int32} (ht : t.eval args Z none [] Z = some (.ref de)) (ha : Z.arrayAt? de = some cl) (hl : (Term.length t).eval args Z none [] Z = some (.int z)) : cl.slots.size < 2 ^ 31 ∧ cl.slots.size.toInt32 = z := by
  simp only [Term.eval, Option.bind_eq_bind, ht, Option.bind_some, ha] at hl
  split at hl
  · rename_i q; exact ⟨q, by simpa using hl⟩
  · cases hl
/-- a table of 100 bytes -/
theorem own_table {Z : State} {args : Array Value} {C n : String} {F : Term} {vs : List Value} (hx : (Cond.exactly (.static C n "[B") "[B").value args Z none Z [] = some true) (harr : (Cond.arrayClass .byte).before args Z = true) (hl : (Cond.eq (.length (.static C n "[B")) (.int 100)).value args Z none Z [] = some true)
    (ha : (Cond.all (.static C n "[B") (.eq (.elem (.static C n "[B") (.index 0)) F)).value args Z none Z [] = some true) (hF : ∀ k : Nat, k < 100 → ∃ x : Int32, F.eval args Z none [k] Z = some (.int x) ∧ vs.getD k (.int 0) = .int x ∧ fits .byte (.int x) = true) :
    ∃ (a : Addr) (k : ClassId), (Term.static C n "[B").eval args Z none [] Z = some (.ref a) ∧ Arv Z Z.heap a k .byte (100 : Int32) vs (.int 0) := by
  have el := eqv_i (Term.int_eval (100 : Int32)) hl
  obtain ⟨a, cl, ev, hat, -⟩ := Term.length_spec el
  obtain ⟨q1, q2⟩ := own_lenz ev hat el
  obtain ⟨h1, h2, h3, -⟩ := State.arrayAt?_spec hat
  obtain ⟨a', c', cell', k', x1, x2, x3, x4, x5, x6, -⟩ := Cond.exactly_spec (Cond.before_iff.mpr hx : (Cond.exactly (.static C n "[B") "[B").before args Z = true)
  cases Option.some.inj (ev.symm.trans x1)
  cases h1.symm.trans x3
  obtain ⟨c2, k2, comp, y1, y2, y3⟩ := Cond.arrayClass_spec harr
  have y1' : Z.vm.findClass "[B" = some c2 := y1
  cases Option.some.inj (x2.symm.trans y1')
  subst x6
  have A : Arr Z Z.heap a cl .byte := ⟨h1, ⟨(fun k q => by rw [q] at h3; cases h3), k2, y2, comp, y3⟩, h2⟩
  have hs : cl.slots.size = 100 := by
    have z : (cl.slots.size.toInt32).toInt = 100 := by rw [q2]; decide
    have w : (cl.slots.size.toInt32).toInt = (cl.slots.size : Int) := len_toInt q1
    omega
  have H : ∀ i, i < cl.slots.size → cl.slots[i]? = some (vs.getD i (.int 0)) ∧ fits .byte (vs.getD i (.int 0)) = true := fun i hi => by
    obtain ⟨x, e1, e2, e3⟩ := hF i (by omega)
    have u := eqv_i e1 (Cond.all_elim ev hat ha i hi)
    have hi' : (own_n i).toNatClampNeg = i := own_n_cl (by omega)
    have nn : ¬ own_n i < 0 := own_n_ge (by omega)
    have ev' : (Term.static C n "[B").eval args Z none [i] Z = some (.ref a) := by simp only [Term.eval] at ev ⊢; exact ev
    have ix : (Term.index 0).eval args Z none [i] Z = some (.int (own_n i)) := by have := idx_at (args := args) (s := Z) (first := Z) (o := none) nn; rw [hi'] at this; exact this
    have v := elem_f ev' ix hat nn
    rw [hi'] at v
    rw [e2]
    exact ⟨v.symm.trans u, e3⟩
  exact ⟨a, cl.cls, ev, cl, A, rfl, by rw [hs]; decide, by decide, fun i hi => (H i hi).1, fun i hi => (H i hi).2⟩
theorem own_onesF {Z : State} {args : Array Value} (k : Nat) (h : k < 100) : ∃ x : Int32, (Term.add (.int 48) (.rem (.index 0) (.int 10))).eval args Z none [k] Z = some (.int x) ∧ own_ones.getD k (.int 0) = .int x ∧ fits .byte (.int x) = true := by
  have hi' : (own_n k).toNatClampNeg = k := own_n_cl (by omega)
  have ix : (Term.index 0).eval args Z none [k] Z = some (.int (own_n k)) := by have := idx_at (args := args) (s := Z) (first := Z) (o := none) (own_n_ge (k := k) (by omega)); rw [hi'] at this; exact this
  have r := rem_f ix (Term.int_eval (10 : Int32) (args := args) (first := Z) (o := none) (idx := [k]) (s := Z)) (by decide)
  have q : ∀ j : Fin 100, ((48 : Int32) + own_n j.val % 10 = own_n (48 + j.val % 10)) ∧ fits .byte (.int ((48 : Int32) + own_n j.val % 10)) = true := by decide +kernel
  have q1 := q ⟨k, h⟩
  refine ⟨(48 : Int32) + own_n k % 10, ?_, ?_, q1.2⟩
  · exact Term.add_int (Term.int_eval (48 : Int32)) r
  · rw [q1.1]; simp [own_ones, List.getD_eq_getElem?_getD, h]
theorem own_tensF {Z : State} {args : Array Value} (k : Nat) (h : k < 100) : ∃ x : Int32, (Term.add (.int 48) (.div (.index 0) (.int 10))).eval args Z none [k] Z = some (.int x) ∧ own_tens.getD k (.int 0) = .int x ∧ fits .byte (.int x) = true := by
  have hi' : (own_n k).toNatClampNeg = k := own_n_cl (by omega)
  have ix : (Term.index 0).eval args Z none [k] Z = some (.int (own_n k)) := by have := idx_at (args := args) (s := Z) (first := Z) (o := none) (own_n_ge (k := k) (by omega)); rw [hi'] at this; exact this
  have r := div_f ix (Term.int_eval (10 : Int32) (args := args) (first := Z) (o := none) (idx := [k]) (s := Z)) (by decide)
  have q : ∀ j : Fin 100, ((48 : Int32) + own_n j.val / 10 = own_n (48 + j.val / 10)) ∧ fits .byte (.int ((48 : Int32) + own_n j.val / 10)) = true := by decide +kernel
  have q1 := q ⟨k, h⟩
  refine ⟨(48 : Int32) + own_n k / 10, ?_, ?_, q1.2⟩
  · exact Term.add_int (Term.int_eval (48 : Int32)) r
  · rw [q1.1]; simp [own_tens, List.getD_eq_getElem?_getD, h]
theorem own_sets {Z : State} {args : Array Value} (h : ∀ d ∈ jdkStatics_1, d.before args Z = true) (harr : (Jvm.Cond.arrayClass .byte).before args Z = true) :
    ∃ (do_ dt_ us sp : Addr) (ko kq : ClassId) (cz : Int32) (fmt : Value), Sta Z Z.heap zq2 "DigitOnes" "[B" (.ref do_) ∧ Sta Z Z.heap zq2 "DigitTens" "[B" (.ref dt_) ∧ Arv Z Z.heap do_ ko .byte (100 : Int32) own_ones (.int 0) ∧ Arv Z Z.heap dt_ kq .byte (100 : Int32) own_tens (.int 0) ∧ Sta Z Z.heap zq4 zq34 zq22 (.ref us) ∧ Sta Z Z.heap zq4 zq35 zq23 (.ref sp) ∧ Sta Z Z.heap zq10 zq11 zq12 fmt ∧ fmt.isRef = true ∧ Sta Z Z.heap zq0 zq5 "Z" (.int cz) ∧ ¬ cz = 0 := by
  have w : ∀ (i : Nat) (d : Cond), jdkStatics_1[i]? = some d → d.before args Z = true := fun i d hd => h d (List.mem_of_getElem? hd)
  have v : ∀ (i : Nat) (d : Cond), jdkStatics_1[i]? = some d → d.value args Z none Z [] = some true := fun i d hd => Cond.before_iff.mp (w i d hd)
  obtain ⟨cz, e2⟩ := is_v (v 1 _ rfl)
  obtain ⟨fmt, e3, e4⟩ := isR_v (v 8 _ rfl)
  obtain ⟨do_, ko, e5, V1⟩ := own_table (v 12 _ rfl) harr (v 13 _ rfl) (v 14 _ rfl) own_onesF
  obtain ⟨dt_, kq, e6, V2⟩ := own_table (v 17 _ rfl) harr (v 18 _ rfl) (v 19 _ rfl) own_tensF
  obtain ⟨us, e7⟩ := arr_v (v 28 _ rfl)
  obtain ⟨sp, e8⟩ := exa_v (v 33 _ rfl)
  refine ⟨do_, dt_, us, sp, ko, kq, cz, fmt, Sta.start e5 (Or.inl (w 11 _ rfl)), Sta.start e6 (Or.inl (w 16 _ rfl)), V1, V2, Sta.start e7 (Or.inl (w 26 _ rfl)), Sta.start e8 (Or.inl (w 31 _ rfl)), Sta.start e3 (Or.inl (w 7 _ rfl)), e4, Sta.start e2 (Or.inl (w 0 _ rfl)), fun q => ?_⟩
  subst q
  have h9 := v 2 _ rfl
  simp only [Cond.value] at h9
  rw [e2] at h9
  simp [Term.eval] at h9
theorem own_st {l : Launch} (h : l.flags = flags0) : l.stackTraces = true := by
  unfold Jvm.Launch.stackTraces
  rw [h]; decide

theorem ef49 (m : MethodId) (x0 : Addr) (x1 : Int32) (x2 : Addr) (x3 : Int32) (x4 : Int32) : entryFrame m #[(.ref x0), (.int x1), (.ref x2), (.int x3), (.int x4)] 7 = mkF m 0 #[.val (.ref x0), .val (.int x1), .val (.ref x2), .val (.int x3), .val (.int x4), .unset, .unset] [] := by first | (simp [entryFrame, mkF, argsToLocals, Value.category]; done) | rfl
theorem ctCmp1 {l : Launch} {Z : State} {a0 : Array Value} (hw : HW a0 Z) {n0 : Nat} {h0 : Heap} (hn0 : n0 ≤ h0.size) (ar ds : Addr) (kr kd : ClassId) (c0 : Int32) (Vr : Arv Z h0 ar kr .char (1 : Int32) [(.int c0)] (.int 0)) (Vd : Arv Z h0 ds kd .byte (1 : Int32) [(.int 0)] (.int 0)) (ga : n0 ≤ ds) (hne : ar ≠ ds) (l_c0 : own_lat c0) :
 Ctr l Z (⟨zq19, "compress", "([CI[BII)I"⟩ : MethodName) jdk_52_method_21_code 7 (some .int) (rQ 0 0 0 0) n0 #[(.ref ar), (.int 0), (.ref ds), (.int 0), (.int 1)] h0 (fun v h => v = some (.int 1) ∧ Keep h0 h [ds] ∧ Arv Z h ds kd .byte (1 : Int32) [(.int (nar .byte (c0.toInt8.toInt32)))] (.int 0)) := by
 refine Ctr.of (by decide +kernel) hn0 ?_
 intro p e s m below meth c T0 C hnm hret hlk X0
 rw [ef49 m ar (0 : Int32) ds (0 : Int32) (1 : Int32)]
 refine G.i 1 (z := 0) C X0 d49_0 rfl (by decide) <| G.w 3 C X0 d49_1 rfl (l' := #[vR ar, vI 0, vR ds, vI 0, vI 1, vI 0, .unset]) rfl <| G.f 5 C X0 d49_3 rfl rfl <| G.f 7 C X0 d49_5 rfl rfl <| G.k 10 C X0 d49_7 rfl (tlt (by decide : (0 : Int32) < 1)).2.1 <| G.b 11 C X0 d49_10 rfl rfl rfl <| G.a 12 C X0 d49_11 rfl rfl <| G.au 13 C X0 Vr d49_12 rfl ⟨by decide, by decide⟩ (v := c0) rfl <| G.w 15 C X0 d49_13 rfl (l' := #[vR ar, vI 0, vR ds, vI 0, vI 1, vI 0, vI c0]) rfl <| G.f 17 C X0 d49_15 rfl rfl <| G.G 20 (z := 255) C X0 d49_17 rfl (by decide) <| G.j 26 C X0 d49_20 (flt l_c0.2).2.2.2 (by decide) (by decide) <| G.b 27 C X0 d49_26 rfl rfl rfl <| G.a 28 C X0 d49_27 rfl rfl <| G.f 30 C X0 d49_28 rfl rfl ?_
 refine G.an 31 (z := (c0.toInt8.toInt32)) C X0 d49_30 rfl rfl <| G.A 32 C X0 Vd ga (i := 0) d49_31 rfl ⟨by decide, by decide⟩ (by decide) (nQ rfl) (fun T1 h1 X1 W1 V1 => ?_)
 replace V1 : Arv Z h1 ds kd .byte (1 : Int32) [(.int (nar .byte (c0.toInt8.toInt32)))] (.int 0) := V1
 have K2 := (Keep.refl h0 [ds]).wr W1 (mQ 0 rfl)
 refine G.t 35 C X1 d49_32 rfl rfl (z := (1 : Int32)) (by decide) (l' := #[vR ar, vI 1, vR ds, vI 0, vI 1, vI 0, vI c0]) rfl <| G.t 38 C X1 d49_35 rfl rfl (z := (1 : Int32)) (by decide) (l' := #[vR ar, vI 1, vR ds, vI 1, vI 1, vI 0, vI c0]) rfl <| G.t 41 C X1 d49_38 rfl rfl (z := (1 : Int32)) (by decide) (l' := #[vR ar, vI 1, vR ds, vI 1, vI 1, vI 1, vI c0]) rfl <| G.r 3 C X1 d49_41 (by decide) (by decide) <| G.f 5 C X1 d49_3 rfl rfl <| G.f 7 C X1 d49_5 rfl rfl <| G.j 44 C X1 d49_7 (flt (by decide : ¬ (1 : Int32) < 1)).2.1 (by decide) (by decide) <| G.f 46 C X1 d49_44 rfl rfl ?_
 exact G.E C X1 d49_46 hret hlk (⟨rfl, K2, V1⟩) (by decide) (by decide)
theorem ef48 (m : MethodId) (x0 : Addr) (x1 : Int32) (x2 : Int32) : entryFrame m #[(.ref x0), (.int x1), (.int x2)] 6 = mkF m 0 #[.val (.ref x0), .val (.int x1), .val (.int x2), .unset, .unset, .unset] [] := by first | (simp [entryFrame, mkF, argsToLocals, Value.category]; done) | rfl
theorem ctCom1 {l : Launch} {Z : State} {a0 : Array Value} (hw : HW a0 Z) {n0 : Nat} {h0 : Heap} (hn0 : n0 ≤ h0.size) (ar : Addr) (kr : ClassId) (c0 : Int32) (Vr : Arv Z h0 ar kr .char (1 : Int32) [(.int c0)] (.int 0)) (l_c0 : own_lat c0) :
 Ctr l Z (⟨zq19, "compress", "([CII)[B"⟩ : MethodName) jdk_52_method_16_code 6 (some (.array .byte)) (rQ 1 1 1 20) n0 #[(.ref ar), (.int 0), (.int 1)] h0 (fun v h => ∃ (b : Addr) (kb : ClassId), v = some (.ref b) ∧ Keep h0 h [] ∧ Arv Z h b kb .byte (1 : Int32) [(.int (nar .byte (c0.toInt8.toInt32)))] (.int 0)) := by
 refine Ctr.of (by decide +kernel) hn0 ?_
 intro p e s m below meth c T0 C hnm hret hlk X0
 rw [ef48 m ar (0 : Int32) (1 : Int32)]
 refine G.a 1 C X0 d48_0 rfl rfl <| G.aj 3 (cap := 1) (d0 := (.int 0)) (cells' := 1) (slots' := 1) C X0 (wd23 hw) rfl d48_1 rfl (by decide) (by decide) (by decide) rfl rfl rfl (by decide) (by decide) (fun T1 h1 a1 k1 X1 g1 q1 E1 V1 => ?_)
 have ne2 : ar ≠ a1 := Nat.ne_of_lt (Nat.lt_of_lt_of_eq Vr.lt g1.symm)
 have sz3 : h0.size ≤ a1 := Nat.le_trans (Keep.refl h0 []).1 (Nat.le_of_eq g1.symm)
 have K4 := (Keep.refl h0 []).ext E1
 replace V1 : Arv Z h1 a1 k1 .byte (1 : Int32) [(.int 0)] (.int 0) := V1.pad (pad_rep [] (.int 0) 1)
 refine G.aq 4 C X1 d48_3 rfl rfl (l' := #[vR ar, vI 0, vI 1, vR a1, .unset, .unset]) rfl <| G.b 5 C X1 d48_4 rfl rfl rfl <| G.a 6 C X1 d48_5 rfl rfl <| G.b 7 C X1 d48_6 rfl rfl rfl <| G.i 8 (z := 0) C X1 d48_7 rfl (by decide) <| G.a 9 C X1 d48_8 rfl rfl ?_
 have f5 := (Vr.ext E1)
 refine G.o 12 (cells' := 1) (slots' := 1) (argsL := [(.ref ar), (.int 0), (.ref a1), (.int 0), (.int 1)]) (St := []) C X1 (wd274 hw) (wd275 hw) (by decide) (wd276 hw) (wd272 hw) (ctCmp1 hw X1.2.1 ar a1 kr k1 c0 f5 V1 q1 ne2 l_c0) (lenOf pd0 rfl) rfl d48_9 rfl rfl (by decide) (nQ rfl) rfl rfl (by decide) (by decide) (fun v6 T6 h6 Q6 X6 z6 => ?_)
 obtain ⟨hv6, K6, V6b⟩ := Q6
 subst hv6
 have K7 := K4.trans K6 (allS (Or.inr sz3) all0)
 refine G.w 14 C X6 d48_12 rfl (l' := #[vR ar, vI 0, vI 1, vR a1, vI 1, .unset]) rfl <| G.f 16 C X6 d48_14 rfl rfl <| G.a 17 C X6 d48_16 rfl rfl <| G.j 57 C X6 d48_17 (teq (by decide : (1 : Int32) = 1)).1 (by decide) (by decide) <| G.b 58 C X6 d48_57 rfl rfl rfl ?_
 exact G.J C X6 d48_58 hret rfl rfl hlk (⟨a1, k1, rfl, K7, V6b⟩) (by decide) (by decide)
theorem ef50 (m : MethodId) (x0 : Addr) (x1 : Int32) : entryFrame m #[(.ref x0), (.int x1)] 2 = mkF m 0 #[.val (.ref x0), .val (.int x1)] [] := by first | (simp [entryFrame, mkF, argsToLocals, Value.category]; done) | rfl
theorem ctCod1 {l : Launch} {Z : State} {a0 : Array Value} (hw : HW a0 Z) {n0 : Nat} {h0 : Heap} (hn0 : n0 ≤ h0.size) (b : Addr) (kb : ClassId) (vs : List Value) (Vr : Arv Z h0 b kb .byte (1 : Int32) vs (.int 0)) :
 Ctr l Z (⟨zq19, zq43, "([BI)B"⟩ : MethodName) jdk_52_method_15_code 2 (some .byte) (rQ 0 0 0 0) n0 #[(.ref b), (.int 1)] h0 (fun v h => v = some (.int 0) ∧ h = h0) := by
 refine Ctr.of (by decide +kernel) hn0 ?_
 intro p e s m below meth c T0 C hnm hret hlk X0
 rw [ef50 m b (1 : Int32)]
 refine G.a 1 C X0 d50_0 rfl rfl <| G.b 2 C X0 d50_1 rfl rfl rfl <| G.aa 3 C X0 Vr d50_2 rfl <| G.u 4 (z := (0 : Int32)) C X0 d50_3 rfl (by decide) <| G.d 6 (z := 31) C X0 d50_4 rfl (by decide) <| G.ai 7 (z := (0 : Int32)) C X0 d50_6 rfl (by decide) <| G.an 8 (z := (0 : Int32)) C X0 d50_7 rfl (by decide) ?_
 exact G.U C X0 d50_8 hret (by simp) (z' := (0 : Int32)) (by decide) hlk (⟨rfl, rfl⟩) (by decide) (by decide)
theorem ef4 (m : MethodId) (x0 : Addr) (x1 : Addr) (x2 : Int32) (x3 : Int32) : entryFrame m #[(.ref x0), (.ref x1), (.int x2), (.int x3), .null] 6 = mkF m 0 #[.val (.ref x0), .val (.ref x1), .val (.int x2), .val (.int x3), .val .null, .unset] [] := by first | (simp [entryFrame, mkF, argsToLocals, Value.category]; done) | rfl
theorem ctI4_1 {l : Launch} {Z : State} {a0 : Array Value} (hw : HW a0 Z) {n0 : Nat} {h0 : Heap} (hn0 : n0 ≤ h0.size) (sx ar : Addr) (kr : ClassId) (c0 : Int32) (cz : Int32) (Ex : Exa Z h0 sx zq0) (Fv : Fld Z h0 sx zq0 "value" "[B" .null) (Fc : Fld Z h0 sx zq0 "coder" "B" (.int 0)) (gx : n0 ≤ sx) (Vr : Arv Z h0 ar kr .char (1 : Int32) [(.int c0)] (.int 0)) (l_c0 : own_lat c0) (OD : Old Z n0 h0) (S2 : Sta Z Z.heap zq0 zq5 "Z" (.int cz)) (hcz : ¬ cz = 0) :
 Ctr l Z (⟨zq0, "<init>", zq31⟩ : MethodName) jdk_42_method_149_code 6 none (rQ 2 1 1 40) n0 #[(.ref sx), (.ref ar), (.int 0), (.int 1), .null] h0 (fun v h => ∃ (t : Addr) (kb : ClassId), v = none ∧ Keep h0 h [sx] ∧ Exa Z h sx zq0 ∧ Fld Z h sx zq0 "coder" "B" (.int 0) ∧ Fld Z h sx zq0 "value" "[B" (.ref t) ∧ Arv Z h t kb .byte (1 : Int32) [(.int (nar .byte (c0.toInt8.toInt32)))] (.int 0)) := by
 refine Ctr.of (by decide +kernel) hn0 ?_
 intro p e s m below meth c T0 C hnm hret hlk X0
 rw [ef4 m sx ar (0 : Int32) (1 : Int32)]
 refine G.b 1 C X0 d4_0 rfl rfl rfl <| G.al 4 C X0 (wd19 hw) (wd20 hw) (wd21 hw) d4_1 rfl rfl (by decide) (nQ rfl) fun T1 X1 => G.a 5 C X1 d4_4 rfl rfl <| G.M 27 C X1 d4_5 (feq (by decide : ¬ (1 : Int32) = 0)).2 (by decide) (by decide) <| G.x 30 C X1 (hQ (wd75 hw)) Via.refl (S2.ext OD.2) d4_27 rfl fun T2 X2 => G.q 33 C X2 d4_30 rfl (feq hcz).1 <| G.b 34 C X2 d4_33 rfl rfl rfl <| G.a 35 C X2 d4_34 rfl rfl <| G.a 36 C X2 d4_35 rfl rfl <| G.o 39 (cells' := 1) (slots' := 1) (argsL := [(.ref ar), (.int 0), (.int 1)]) (St := []) C X2 (wd270 hw) (wd271 hw) (by decide) (wd273 hw) (wd272 hw) (ctCom1 hw X2.2.1 ar kr c0 Vr l_c0) (lenOf pd1 rfl) rfl d4_36 rfl rfl (by decide) (nQ rfl) rfl rfl (by decide) (by decide) (fun v3 T3 h3 Q3 X3 z3 => ?_)
 obtain ⟨b3, k3, hv3, K3, V3⟩ := Q3
 subst hv3
 have K4 := (Keep.refl h0 [sx]).trans K3 all0
 have f5 := (Ex.keep K3)
 have nx3 : sx ≠ b3 := Exa.neArv f5 V3 (wd9 hw)
 refine G.ag 41 C X3 d4_39 rfl rfl (l' := #[vR sx, vR ar, vI 0, vI 1, .val .null, vR b3]) rfl <| G.b 42 C X3 d4_41 rfl rfl rfl <| G.P 44 C X3 d4_42 rfl rfl rfl <| G.a 45 C X3 d4_44 rfl rfl <| G.o 48 (cells' := 1) (slots' := 1) (argsL := [(.ref b3), (.int 1)]) (St := [(.ref sx)]) C X3 (wd277 hw) (wd278 hw) (by decide) (wd279 hw) (wd272 hw) (ctCod1 hw X3.2.1 b3 k3 _ V3) (lenOf pd2 rfl) rfl d4_45 rfl rfl (by decide) (nQ rfl) rfl rfl (by decide) (by decide) (fun v6 T6 h6 Q6 X6 z6 => ?_)
 obtain ⟨hv6, hh6⟩ := Q6
 subst hv6; rw [hh6] at X6
 have f7 := (Fc.keep K3 nin0)
 refine G.ao 51 C X6 (wd29 hw) Via.refl f7 f5 gx (Or.inr ⟨(wd25 hw), rfl, hnm⟩) (wd9 hw) (ty := .byte) (by decide) (v' := .int (0 : Int32)) rfl (by decide) d4_48 rfl (fun T8 h8 X8 W8 F8 => ?_)
 have K9 := K4.wr W8 (mQ 0 rfl)
 refine G.b 52 C X8 d4_51 rfl rfl rfl <| G.P 54 C X8 d4_52 rfl rfl rfl ?_
 have f10 := ((Fv.keep K3 nin0).other W8 (Or.inr (sQ0 hw)))
 have f11 := (f5.wr W8)
 refine G.I 57 C X8 (hQ (wd28 hw)) Via.refl f10 f11 gx (Or.inr ⟨(wd24 hw), rfl, hnm⟩) (wd9 hw) (ty := (.array .byte)) (by decide) rfl rfl d4_54 rfl (fun T12 h12 X12 W12 F12 => ?_)
 have K13 := K9.wr W12 (mQ 0 rfl)
 have f14 := (f11.wr W12)
 have f15 := (F8.other W12 (Or.inr (sQ1 hw)))
 have f16 := ((V3.other W8 (Ne.symm nx3)).other W12 (Ne.symm nx3))
 exact G.ab C X12 d4_57 hret hlk (⟨b3, k3, rfl, K13, f14, f15, F12, f16⟩) (by decide) (by decide)
theorem ef3 (m : MethodId) (x0 : Addr) (x1 : Addr) : entryFrame m #[(.ref x0), (.ref x1)] 2 = mkF m 0 #[.val (.ref x0), .val (.ref x1)] [] := by first | (simp [entryFrame, mkF, argsToLocals, Value.category]; done) | rfl
theorem ctNew1 {l : Launch} {Z : State} {a0 : Array Value} (hw : HW a0 Z) {n0 : Nat} {h0 : Heap} (hn0 : n0 ≤ h0.size) (sx ar : Addr) (kr : ClassId) (c0 : Int32) (cz : Int32) (Ex : Exa Z h0 sx zq0) (Fv : Fld Z h0 sx zq0 "value" "[B" .null) (Fc : Fld Z h0 sx zq0 "coder" "B" (.int 0)) (gx : n0 ≤ sx) (Vr : Arv Z h0 ar kr .char (1 : Int32) [(.int c0)] (.int 0)) (l_c0 : own_lat c0) (OD : Old Z n0 h0) (S2 : Sta Z Z.heap zq0 zq5 "Z" (.int cz)) (hcz : ¬ cz = 0) :
 Ctr l Z (⟨zq0, "<init>", "([C)V"⟩ : MethodName) jdk_42_method_3_code 2 none (rQ 3 1 1 60) n0 #[(.ref sx), (.ref ar)] h0 (fun v h => ∃ (t : Addr) (kb : ClassId), v = none ∧ Keep h0 h [sx] ∧ Exa Z h sx zq0 ∧ Fld Z h sx zq0 "coder" "B" (.int 0) ∧ Fld Z h sx zq0 "value" "[B" (.ref t) ∧ Arv Z h t kb .byte (1 : Int32) [(.int (nar .byte (c0.toInt8.toInt32)))] (.int 0)) := by
 refine Ctr.of (by decide +kernel) hn0 ?_
 intro p e s m below meth c T0 C hnm hret hlk X0
 rw [ef3 m sx ar]
 refine G.b 1 C X0 d3_0 rfl rfl rfl <| G.b 2 C X0 d3_1 rfl rfl rfl <| G.i 3 (z := 0) C X0 d3_2 rfl (by decide) <| G.b 4 C X0 d3_3 rfl rfl rfl <| G.aa 5 C X0 Vr d3_4 rfl <| G.am 6 C X0 d3_5 rfl <| G.af 9 (cells' := 1) (slots' := 1) (argsL := [(.ref ar), (.int 0), (.int 1), .null]) (St := []) C X0 rfl rfl (wd15 hw) (wd16 hw) (by decide) (wd18 hw) (wd10 hw) (ctI4_1 hw X0.2.1 sx ar kr c0 cz Ex Fv Fc gx Vr l_c0 OD S2 hcz) (lenOf pd3 rfl) rfl d3_6 rfl rfl (by decide) (nQ rfl) rfl rfl (by decide) (by decide) (fun v1 T1 h1 Q1 X1 z1 => ?_)
 obtain ⟨t1, k1, hv1, K1, E1, F1c, F1v, V1⟩ := Q1
 subst hv1
 have K2 := (Keep.refl h0 [sx]).trans K1 (allS (mQ 0 rfl) all0)
 exact G.ab C X1 d3_9 hret hlk (⟨t1, k1, rfl, K2, E1, F1c, F1v, V1⟩) (by decide) (by decide)
theorem ctCmp2 {l : Launch} {Z : State} {a0 : Array Value} (hw : HW a0 Z) {n0 : Nat} {h0 : Heap} (hn0 : n0 ≤ h0.size) (ar ds : Addr) (kr kd : ClassId) (c0 c1 : Int32) (Vr : Arv Z h0 ar kr .char (2 : Int32) [(.int c0), (.int c1)] (.int 0)) (Vd : Arv Z h0 ds kd .byte (2 : Int32) [(.int 0), (.int 0)] (.int 0)) (ga : n0 ≤ ds) (hne : ar ≠ ds) (l_c0 : own_lat c0) (l_c1 : own_lat c1) :
 Ctr l Z (⟨zq19, "compress", "([CI[BII)I"⟩ : MethodName) jdk_52_method_21_code 7 (some .int) (rQ 0 0 0 0) n0 #[(.ref ar), (.int 0), (.ref ds), (.int 0), (.int 2)] h0 (fun v h => v = some (.int 2) ∧ Keep h0 h [ds] ∧ Arv Z h ds kd .byte (2 : Int32) [(.int (nar .byte (c0.toInt8.toInt32))), (.int (nar .byte (c1.toInt8.toInt32)))] (.int 0)) := by
 refine Ctr.of (by decide +kernel) hn0 ?_
 intro p e s m below meth c T0 C hnm hret hlk X0
 rw [ef49 m ar (0 : Int32) ds (0 : Int32) (2 : Int32)]
 refine G.i 1 (z := 0) C X0 d49_0 rfl (by decide) <| G.w 3 C X0 d49_1 rfl (l' := #[vR ar, vI 0, vR ds, vI 0, vI 2, vI 0, .unset]) rfl <| G.f 5 C X0 d49_3 rfl rfl <| G.f 7 C X0 d49_5 rfl rfl <| G.k 10 C X0 d49_7 rfl (tlt (by decide : (0 : Int32) < 2)).2.1 <| G.b 11 C X0 d49_10 rfl rfl rfl <| G.a 12 C X0 d49_11 rfl rfl <| G.au 13 C X0 Vr d49_12 rfl ⟨by decide, by decide⟩ (v := c0) rfl <| G.w 15 C X0 d49_13 rfl (l' := #[vR ar, vI 0, vR ds, vI 0, vI 2, vI 0, vI c0]) rfl <| G.f 17 C X0 d49_15 rfl rfl <| G.G 20 (z := 255) C X0 d49_17 rfl (by decide) <| G.j 26 C X0 d49_20 (flt l_c0.2).2.2.2 (by decide) (by decide) <| G.b 27 C X0 d49_26 rfl rfl rfl <| G.a 28 C X0 d49_27 rfl rfl <| G.f 30 C X0 d49_28 rfl rfl ?_
 refine G.an 31 (z := (c0.toInt8.toInt32)) C X0 d49_30 rfl rfl <| G.A 32 C X0 Vd ga (i := 0) d49_31 rfl ⟨by decide, by decide⟩ (by decide) (nQ rfl) (fun T1 h1 X1 W1 V1 => ?_)
 replace V1 : Arv Z h1 ds kd .byte (2 : Int32) [(.int (nar .byte (c0.toInt8.toInt32))), (.int 0)] (.int 0) := V1
 have K2 := (Keep.refl h0 [ds]).wr W1 (mQ 0 rfl)
 refine G.t 35 C X1 d49_32 rfl rfl (z := (1 : Int32)) (by decide) (l' := #[vR ar, vI 1, vR ds, vI 0, vI 2, vI 0, vI c0]) rfl <| G.t 38 C X1 d49_35 rfl rfl (z := (1 : Int32)) (by decide) (l' := #[vR ar, vI 1, vR ds, vI 1, vI 2, vI 0, vI c0]) rfl <| G.t 41 C X1 d49_38 rfl rfl (z := (1 : Int32)) (by decide) (l' := #[vR ar, vI 1, vR ds, vI 1, vI 2, vI 1, vI c0]) rfl <| G.r 3 C X1 d49_41 (by decide) (by decide) <| G.f 5 C X1 d49_3 rfl rfl <| G.f 7 C X1 d49_5 rfl rfl <| G.k 10 C X1 d49_7 rfl (tlt (by decide : (1 : Int32) < 2)).2.1 <| G.b 11 C X1 d49_10 rfl rfl rfl <| G.a 12 C X1 d49_11 rfl rfl ?_
 have f3 := (Vr.other W1 hne)
 refine G.au 13 C X1 f3 d49_12 rfl ⟨by decide, by decide⟩ (v := c1) rfl <| G.w 15 C X1 d49_13 rfl (l' := #[vR ar, vI 1, vR ds, vI 1, vI 2, vI 1, vI c1]) rfl <| G.f 17 C X1 d49_15 rfl rfl <| G.G 20 (z := 255) C X1 d49_17 rfl (by decide) <| G.j 26 C X1 d49_20 (flt l_c1.2).2.2.2 (by decide) (by decide) <| G.b 27 C X1 d49_26 rfl rfl rfl <| G.a 28 C X1 d49_27 rfl rfl <| G.f 30 C X1 d49_28 rfl rfl <| G.an 31 (z := (c1.toInt8.toInt32)) C X1 d49_30 rfl rfl <| G.A 32 C X1 V1 ga (i := 1) d49_31 rfl ⟨by decide, by decide⟩ (by decide) (nQ rfl) (fun T4 h4 X4 W4 V4 => ?_)
 replace V4 : Arv Z h4 ds kd .byte (2 : Int32) [(.int (nar .byte (c0.toInt8.toInt32))), (.int (nar .byte (c1.toInt8.toInt32)))] (.int 0) := V4
 have K5 := K2.wr W4 (mQ 0 rfl)
 refine G.t 35 C X4 d49_32 rfl rfl (z := (2 : Int32)) (by decide) (l' := #[vR ar, vI 2, vR ds, vI 1, vI 2, vI 1, vI c1]) rfl <| G.t 38 C X4 d49_35 rfl rfl (z := (2 : Int32)) (by decide) (l' := #[vR ar, vI 2, vR ds, vI 2, vI 2, vI 1, vI c1]) rfl <| G.t 41 C X4 d49_38 rfl rfl (z := (2 : Int32)) (by decide) (l' := #[vR ar, vI 2, vR ds, vI 2, vI 2, vI 2, vI c1]) rfl <| G.r 3 C X4 d49_41 (by decide) (by decide) <| G.f 5 C X4 d49_3 rfl rfl <| G.f 7 C X4 d49_5 rfl rfl <| G.j 44 C X4 d49_7 (flt (by decide : ¬ (2 : Int32) < 2)).2.1 (by decide) (by decide) <| G.f 46 C X4 d49_44 rfl rfl ?_
 exact G.E C X4 d49_46 hret hlk (⟨rfl, K5, V4⟩) (by decide) (by decide)
theorem ctCom2 {l : Launch} {Z : State} {a0 : Array Value} (hw : HW a0 Z) {n0 : Nat} {h0 : Heap} (hn0 : n0 ≤ h0.size) (ar : Addr) (kr : ClassId) (c0 c1 : Int32) (Vr : Arv Z h0 ar kr .char (2 : Int32) [(.int c0), (.int c1)] (.int 0)) (l_c0 : own_lat c0) (l_c1 : own_lat c1) :
 Ctr l Z (⟨zq19, "compress", "([CII)[B"⟩ : MethodName) jdk_52_method_16_code 6 (some (.array .byte)) (rQ 1 1 2 20) n0 #[(.ref ar), (.int 0), (.int 2)] h0 (fun v h => ∃ (b : Addr) (kb : ClassId), v = some (.ref b) ∧ Keep h0 h [] ∧ Arv Z h b kb .byte (2 : Int32) [(.int (nar .byte (c0.toInt8.toInt32))), (.int (nar .byte (c1.toInt8.toInt32)))] (.int 0)) := by
 refine Ctr.of (by decide +kernel) hn0 ?_
 intro p e s m below meth c T0 C hnm hret hlk X0
 rw [ef48 m ar (0 : Int32) (2 : Int32)]
 refine G.a 1 C X0 d48_0 rfl rfl <| G.aj 3 (cap := 2) (d0 := (.int 0)) (cells' := 1) (slots' := 2) C X0 (wd23 hw) rfl d48_1 rfl (by decide) (by decide) (by decide) rfl rfl rfl (by decide) (by decide) (fun T1 h1 a1 k1 X1 g1 q1 E1 V1 => ?_)
 have ne2 : ar ≠ a1 := Nat.ne_of_lt (Nat.lt_of_lt_of_eq Vr.lt g1.symm)
 have sz3 : h0.size ≤ a1 := Nat.le_trans (Keep.refl h0 []).1 (Nat.le_of_eq g1.symm)
 have K4 := (Keep.refl h0 []).ext E1
 replace V1 : Arv Z h1 a1 k1 .byte (2 : Int32) [(.int 0), (.int 0)] (.int 0) := V1.pad (pad_rep [] (.int 0) 2)
 refine G.aq 4 C X1 d48_3 rfl rfl (l' := #[vR ar, vI 0, vI 2, vR a1, .unset, .unset]) rfl <| G.b 5 C X1 d48_4 rfl rfl rfl <| G.a 6 C X1 d48_5 rfl rfl <| G.b 7 C X1 d48_6 rfl rfl rfl <| G.i 8 (z := 0) C X1 d48_7 rfl (by decide) <| G.a 9 C X1 d48_8 rfl rfl ?_
 have f5 := (Vr.ext E1)
 refine G.o 12 (cells' := 1) (slots' := 2) (argsL := [(.ref ar), (.int 0), (.ref a1), (.int 0), (.int 2)]) (St := []) C X1 (wd274 hw) (wd275 hw) (by decide) (wd276 hw) (wd272 hw) (ctCmp2 hw X1.2.1 ar a1 kr k1 c0 c1 f5 V1 q1 ne2 l_c0 l_c1) (lenOf pd0 rfl) rfl d48_9 rfl rfl (by decide) (nQ rfl) rfl rfl (by decide) (by decide) (fun v6 T6 h6 Q6 X6 z6 => ?_)
 obtain ⟨hv6, K6, V6b⟩ := Q6
 subst hv6
 have K7 := K4.trans K6 (allS (Or.inr sz3) all0)
 refine G.w 14 C X6 d48_12 rfl (l' := #[vR ar, vI 0, vI 2, vR a1, vI 2, .unset]) rfl <| G.f 16 C X6 d48_14 rfl rfl <| G.a 17 C X6 d48_16 rfl rfl <| G.j 57 C X6 d48_17 (teq (by decide : (2 : Int32) = 2)).1 (by decide) (by decide) <| G.b 58 C X6 d48_57 rfl rfl rfl ?_
 exact G.J C X6 d48_58 hret rfl rfl hlk (⟨a1, k1, rfl, K7, V6b⟩) (by decide) (by decide)
theorem ctCod2 {l : Launch} {Z : State} {a0 : Array Value} (hw : HW a0 Z) {n0 : Nat} {h0 : Heap} (hn0 : n0 ≤ h0.size) (b : Addr) (kb : ClassId) (vs : List Value) (Vr : Arv Z h0 b kb .byte (2 : Int32) vs (.int 0)) :
 Ctr l Z (⟨zq19, zq43, "([BI)B"⟩ : MethodName) jdk_52_method_15_code 2 (some .byte) (rQ 0 0 0 0) n0 #[(.ref b), (.int 2)] h0 (fun v h => v = some (.int 0) ∧ h = h0) := by
 refine Ctr.of (by decide +kernel) hn0 ?_
 intro p e s m below meth c T0 C hnm hret hlk X0
 rw [ef50 m b (2 : Int32)]
 refine G.a 1 C X0 d50_0 rfl rfl <| G.b 2 C X0 d50_1 rfl rfl rfl <| G.aa 3 C X0 Vr d50_2 rfl <| G.u 4 (z := (0 : Int32)) C X0 d50_3 rfl (by decide) <| G.d 6 (z := 31) C X0 d50_4 rfl (by decide) <| G.ai 7 (z := (0 : Int32)) C X0 d50_6 rfl (by decide) <| G.an 8 (z := (0 : Int32)) C X0 d50_7 rfl (by decide) ?_
 exact G.U C X0 d50_8 hret (by simp) (z' := (0 : Int32)) (by decide) hlk (⟨rfl, rfl⟩) (by decide) (by decide)
theorem ctI4_2 {l : Launch} {Z : State} {a0 : Array Value} (hw : HW a0 Z) {n0 : Nat} {h0 : Heap} (hn0 : n0 ≤ h0.size) (sx ar : Addr) (kr : ClassId) (c0 c1 : Int32) (cz : Int32) (Ex : Exa Z h0 sx zq0) (Fv : Fld Z h0 sx zq0 "value" "[B" .null) (Fc : Fld Z h0 sx zq0 "coder" "B" (.int 0)) (gx : n0 ≤ sx) (Vr : Arv Z h0 ar kr .char (2 : Int32) [(.int c0), (.int c1)] (.int 0)) (l_c0 : own_lat c0) (l_c1 : own_lat c1) (OD : Old Z n0 h0) (S2 : Sta Z Z.heap zq0 zq5 "Z" (.int cz)) (hcz : ¬ cz = 0) :
 Ctr l Z (⟨zq0, "<init>", zq31⟩ : MethodName) jdk_42_method_149_code 6 none (rQ 2 1 2 40) n0 #[(.ref sx), (.ref ar), (.int 0), (.int 2), .null] h0 (fun v h => ∃ (t : Addr) (kb : ClassId), v = none ∧ Keep h0 h [sx] ∧ Exa Z h sx zq0 ∧ Fld Z h sx zq0 "coder" "B" (.int 0) ∧ Fld Z h sx zq0 "value" "[B" (.ref t) ∧ Arv Z h t kb .byte (2 : Int32) [(.int (nar .byte (c0.toInt8.toInt32))), (.int (nar .byte (c1.toInt8.toInt32)))] (.int 0)) := by
 refine Ctr.of (by decide +kernel) hn0 ?_
 intro p e s m below meth c T0 C hnm hret hlk X0
 rw [ef4 m sx ar (0 : Int32) (2 : Int32)]
 refine G.b 1 C X0 d4_0 rfl rfl rfl <| G.al 4 C X0 (wd19 hw) (wd20 hw) (wd21 hw) d4_1 rfl rfl (by decide) (nQ rfl) fun T1 X1 => G.a 5 C X1 d4_4 rfl rfl <| G.M 27 C X1 d4_5 (feq (by decide : ¬ (2 : Int32) = 0)).2 (by decide) (by decide) <| G.x 30 C X1 (hQ (wd75 hw)) Via.refl (S2.ext OD.2) d4_27 rfl fun T2 X2 => G.q 33 C X2 d4_30 rfl (feq hcz).1 <| G.b 34 C X2 d4_33 rfl rfl rfl <| G.a 35 C X2 d4_34 rfl rfl <| G.a 36 C X2 d4_35 rfl rfl <| G.o 39 (cells' := 1) (slots' := 2) (argsL := [(.ref ar), (.int 0), (.int 2)]) (St := []) C X2 (wd270 hw) (wd271 hw) (by decide) (wd273 hw) (wd272 hw) (ctCom2 hw X2.2.1 ar kr c0 c1 Vr l_c0 l_c1) (lenOf pd1 rfl) rfl d4_36 rfl rfl (by decide) (nQ rfl) rfl rfl (by decide) (by decide) (fun v3 T3 h3 Q3 X3 z3 => ?_)
 obtain ⟨b3, k3, hv3, K3, V3⟩ := Q3
 subst hv3
 have K4 := (Keep.refl h0 [sx]).trans K3 all0
 have f5 := (Ex.keep K3)
 have nx3 : sx ≠ b3 := Exa.neArv f5 V3 (wd9 hw)
 refine G.ag 41 C X3 d4_39 rfl rfl (l' := #[vR sx, vR ar, vI 0, vI 2, .val .null, vR b3]) rfl <| G.b 42 C X3 d4_41 rfl rfl rfl <| G.P 44 C X3 d4_42 rfl rfl rfl <| G.a 45 C X3 d4_44 rfl rfl <| G.o 48 (cells' := 1) (slots' := 2) (argsL := [(.ref b3), (.int 2)]) (St := [(.ref sx)]) C X3 (wd277 hw) (wd278 hw) (by decide) (wd279 hw) (wd272 hw) (ctCod2 hw X3.2.1 b3 k3 _ V3) (lenOf pd2 rfl) rfl d4_45 rfl rfl (by decide) (nQ rfl) rfl rfl (by decide) (by decide) (fun v6 T6 h6 Q6 X6 z6 => ?_)
 obtain ⟨hv6, hh6⟩ := Q6
 subst hv6; rw [hh6] at X6
 have f7 := (Fc.keep K3 nin0)
 refine G.ao 51 C X6 (wd29 hw) Via.refl f7 f5 gx (Or.inr ⟨(wd25 hw), rfl, hnm⟩) (wd9 hw) (ty := .byte) (by decide) (v' := .int (0 : Int32)) rfl (by decide) d4_48 rfl (fun T8 h8 X8 W8 F8 => ?_)
 have K9 := K4.wr W8 (mQ 0 rfl)
 refine G.b 52 C X8 d4_51 rfl rfl rfl <| G.P 54 C X8 d4_52 rfl rfl rfl ?_
 have f10 := ((Fv.keep K3 nin0).other W8 (Or.inr (sQ0 hw)))
 have f11 := (f5.wr W8)
 refine G.I 57 C X8 (hQ (wd28 hw)) Via.refl f10 f11 gx (Or.inr ⟨(wd24 hw), rfl, hnm⟩) (wd9 hw) (ty := (.array .byte)) (by decide) rfl rfl d4_54 rfl (fun T12 h12 X12 W12 F12 => ?_)
 have K13 := K9.wr W12 (mQ 0 rfl)
 have f14 := (f11.wr W12)
 have f15 := (F8.other W12 (Or.inr (sQ1 hw)))
 have f16 := ((V3.other W8 (Ne.symm nx3)).other W12 (Ne.symm nx3))
 exact G.ab C X12 d4_57 hret hlk (⟨b3, k3, rfl, K13, f14, f15, F12, f16⟩) (by decide) (by decide)
theorem ctNew2 {l : Launch} {Z : State} {a0 : Array Value} (hw : HW a0 Z) {n0 : Nat} {h0 : Heap} (hn0 : n0 ≤ h0.size) (sx ar : Addr) (kr : ClassId) (c0 c1 : Int32) (cz : Int32) (Ex : Exa Z h0 sx zq0) (Fv : Fld Z h0 sx zq0 "value" "[B" .null) (Fc : Fld Z h0 sx zq0 "coder" "B" (.int 0)) (gx : n0 ≤ sx) (Vr : Arv Z h0 ar kr .char (2 : Int32) [(.int c0), (.int c1)] (.int 0)) (l_c0 : own_lat c0) (l_c1 : own_lat c1) (OD : Old Z n0 h0) (S2 : Sta Z Z.heap zq0 zq5 "Z" (.int cz)) (hcz : ¬ cz = 0) :
 Ctr l Z (⟨zq0, "<init>", "([C)V"⟩ : MethodName) jdk_42_method_3_code 2 none (rQ 3 1 2 60) n0 #[(.ref sx), (.ref ar)] h0 (fun v h => ∃ (t : Addr) (kb : ClassId), v = none ∧ Keep h0 h [sx] ∧ Exa Z h sx zq0 ∧ Fld Z h sx zq0 "coder" "B" (.int 0) ∧ Fld Z h sx zq0 "value" "[B" (.ref t) ∧ Arv Z h t kb .byte (2 : Int32) [(.int (nar .byte (c0.toInt8.toInt32))), (.int (nar .byte (c1.toInt8.toInt32)))] (.int 0)) := by
 refine Ctr.of (by decide +kernel) hn0 ?_
 intro p e s m below meth c T0 C hnm hret hlk X0
 rw [ef3 m sx ar]
 refine G.b 1 C X0 d3_0 rfl rfl rfl <| G.b 2 C X0 d3_1 rfl rfl rfl <| G.i 3 (z := 0) C X0 d3_2 rfl (by decide) <| G.b 4 C X0 d3_3 rfl rfl rfl <| G.aa 5 C X0 Vr d3_4 rfl <| G.am 6 C X0 d3_5 rfl <| G.af 9 (cells' := 1) (slots' := 2) (argsL := [(.ref ar), (.int 0), (.int 2), .null]) (St := []) C X0 rfl rfl (wd15 hw) (wd16 hw) (by decide) (wd18 hw) (wd10 hw) (ctI4_2 hw X0.2.1 sx ar kr c0 c1 cz Ex Fv Fc gx Vr l_c0 l_c1 OD S2 hcz) (lenOf pd3 rfl) rfl d3_6 rfl rfl (by decide) (nQ rfl) rfl rfl (by decide) (by decide) (fun v1 T1 h1 Q1 X1 z1 => ?_)
 obtain ⟨t1, k1, hv1, K1, E1, F1c, F1v, V1⟩ := Q1
 subst hv1
 have K2 := (Keep.refl h0 [sx]).trans K1 (allS (mQ 0 rfl) all0)
 exact G.ab C X1 d3_9 hret hlk (⟨t1, k1, rfl, K2, E1, F1c, F1v, V1⟩) (by decide) (by decide)
theorem ctI4_0 {l : Launch} {Z : State} {a0 : Array Value} (hw : HW a0 Z) {n0 : Nat} {h0 : Heap} (hn0 : n0 ≤ h0.size) (sx ar : Addr) (kr : ClassId) (Ex : Exa Z h0 sx zq0) (Fv : Fld Z h0 sx zq0 "value" "[B" .null) (Fc : Fld Z h0 sx zq0 "coder" "B" (.int 0)) (gx : n0 ≤ sx) (Vr : Arv Z h0 ar kr .char (0 : Int32) [] (.int 0)) :
 CtrW l Z consts_1 [sx] (⟨zq0, "<init>", zq31⟩ : MethodName) jdk_42_method_149_code 6 none (rQ 1 4 8 12) n0 #[(.ref sx), (.ref ar), (.int 0), (.int 0), .null] h0 (fun v h sfe => ∃ (t : Addr) (kb : ClassId), v = none ∧ Keep h0 h [sx] ∧ Exa Z h sx zq0 ∧ Fld Z h sx zq0 "coder" "B" (.int 0) ∧ Fld Z h sx zq0 "value" "[B" (.ref t) ∧ Arv Z h t kb .byte (0 : Int32) [] (.int 0)) := by
 refine CtrW.of (by decide +kernel) hn0 ?_
 intro p e s m below meth c T0 C hnm hret hlk X0 H0 hSf
 rw [ef4 m sx ar (0 : Int32) (0 : Int32)]
 refine G.b 1 C X0 d4_0 rfl rfl rfl <| G.al 4 C X0 (wd19 hw) (wd20 hw) (wd21 hw) d4_1 rfl rfl (by decide) (nQ rfl) fun T1 X1 => G.a 5 C X1 d4_4 rfl rfl <| G.q 8 C X1 d4_5 rfl (teq (by decide : (0 : Int32) = 0)).2 <| G.b 9 C X1 d4_8 rfl rfl rfl <| G.ap 11 (n := 0) (cells' := 2) (slots' := 4) (z := (0 : Int32)) (vs := []) C X1 (ew hw) H0 (wd22 hw) (wS hw) (List.mem_of_getElem? (i := 2) rfl) ⟨by decide +kernel, by first | rfl | decide +kernel⟩ (by decide) rfl d4_9 rfl (by decide +kernel) (by decide) rfl rfl (by decide) (by decide) (fun vm2 T2 h2 a2 b2 k2 C2 X2 Hd2 E2 R2 A2 F2a F2b V2 sf2 => ?_)
 have K3 := (Keep.refl h0 [sx]).ext E2
 have sn4 := sf2 sx (CHr.safe R2 Ex.lt (hSf _ (List.mem_of_getElem? (i := 0) rfl)))
 refine G.v 14 C2 X2 (hQ (wd28 hw)) Via.refl F2b d4_11 rfl (fun T7 X7 => ?_)
 have f8 := (Fv.ext E2)
 have f9 := (Ex.ext E2)
 refine G.I 17 C2 X7 (hQ (wd28 hw)) Via.refl f8 f9 gx (Or.inr ⟨(wd24 hw), rfl, hnm⟩) (wd9 hw) (ty := (.array .byte)) (by decide) rfl rfl d4_14 rfl (fun T10 h10 X10 W10 F10 => ?_)
 have Hd11 := Hd2.wr W10 (CHr.safe R2 Ex.lt (hSf _ (List.mem_of_getElem? (i := 0) rfl)))
 have K12 := K3.wr W10 (mQ 0 rfl)
 refine G.b 18 C2 X10 d4_17 rfl rfl rfl <| G.ap 20 (n := 0) (cells' := 4) (slots' := 8) (z := (0 : Int32)) (vs := []) C2 X10 (ew hw) Hd11 (wd22 hw) (wS hw) (List.mem_of_getElem? (i := 2) rfl) ⟨by decide +kernel, by first | rfl | decide +kernel⟩ (by decide) rfl d4_18 rfl (by decide +kernel) (by decide) rfl rfl (by decide) (by decide) (fun vm13 T13 h13 a13 b13 k13 C13 X13 Hd13 E13 R13 A13 F13a F13b V13 sf13 => ?_)
 have f14 := (f9.wr W10)
 have f15 := (Safe.wr W10 (CHr.safe R2 Ex.lt (hSf _ (List.mem_of_getElem? (i := 0) rfl))) Hd2.cv (CHr.safe R2 Ex.lt (hSf _ (List.mem_of_getElem? (i := 0) rfl))))
 have K16 := K12.ext E13
 refine G.v 23 C13 X13 (hQ (wd29 hw)) Via.refl F13a d4_20 rfl (fun T18 X18 => ?_)
 have f19 := (((Fc.ext E2).other W10 (Or.inr (sQ1 hw))).ext E13)
 have f20 := (f14.ext E13)
 refine G.ao 26 C13 X18 (wd29 hw) Via.refl f19 f20 gx (Or.inr ⟨(wd25 hw), rfl, hnm⟩) (wd9 hw) (ty := .byte) (by decide) (v' := .int (0 : Int32)) rfl (by decide) d4_23 rfl (fun T21 h21 X21 W21 F21 => ?_)
 have Hd22 := Hd13.wr W21 (CHr.safe R13 f14.lt f15)
 have K23 := K16.wr W21 (mQ 0 rfl)
 have f24 := (f20.wr W21)
 have f25 := ((F10.ext E13).other W21 (Or.inr (sQ0 hw)))
 have f26 := (((V2.other W10 (Ne.symm sn4.2)).ext E13).other W21 (Ne.symm sn4.2))
 exact G.aA C13 X21 (ew hw) Hd22 d4_26 hret hlk (fun _ _ => ⟨b2, k2, rfl, K23, f24, F21, f25, f26⟩) (by decide) (by decide)
theorem ctNew0 {l : Launch} {Z : State} {a0 : Array Value} (hw : HW a0 Z) {n0 : Nat} {h0 : Heap} (hn0 : n0 ≤ h0.size) (sx ar : Addr) (kr : ClassId) (Ex : Exa Z h0 sx zq0) (Fv : Fld Z h0 sx zq0 "value" "[B" .null) (Fc : Fld Z h0 sx zq0 "coder" "B" (.int 0)) (gx : n0 ≤ sx) (Vr : Arv Z h0 ar kr .char (0 : Int32) [] (.int 0)) :
 CtrW l Z consts_1 [sx] (⟨zq0, "<init>", "([C)V"⟩ : MethodName) jdk_42_method_3_code 2 none (rQ 2 4 8 32) n0 #[(.ref sx), (.ref ar)] h0 (fun v h sfe => ∃ (t : Addr) (kb : ClassId), v = none ∧ Keep h0 h [sx] ∧ Exa Z h sx zq0 ∧ Fld Z h sx zq0 "coder" "B" (.int 0) ∧ Fld Z h sx zq0 "value" "[B" (.ref t) ∧ Arv Z h t kb .byte (0 : Int32) [] (.int 0)) := by
 refine CtrW.of (by decide +kernel) hn0 ?_
 intro p e s m below meth c T0 C hnm hret hlk X0 H0 hSf
 rw [ef3 m sx ar]
 refine G.b 1 C X0 d3_0 rfl rfl rfl <| G.b 2 C X0 d3_1 rfl rfl rfl <| G.i 3 (z := 0) C X0 d3_2 rfl (by decide) <| G.b 4 C X0 d3_3 rfl rfl rfl <| G.aa 5 C X0 Vr d3_4 rfl <| G.am 6 C X0 d3_5 rfl <| G.aC 9 (cells' := 4) (slots' := 8) (argsL := [(.ref ar), (.int 0), (.int 0), .null]) (St := []) C X0 (ew hw) H0 rfl rfl (wd15 hw) (wd16 hw) (by decide) (wd18 hw) (wd10 hw) (ctI4_0 hw X0.2.1 sx ar kr Ex Fv Fc gx Vr) (sfS ⟨Ex.lt, (hSf _ (List.mem_of_getElem? (i := 0) rfl))⟩ (fun _ hx => by cases hx)) (lenOf pd3 rfl) rfl d3_6 rfl rfl (by decide) (nQ rfl) rfl rfl (by decide) (by decide) (fun v1 vm1 T1 h1 Q1 C1 X1 Hd1 R1 => ?_)
 obtain ⟨t1, k1, hv1, K1, E1, F1c, F1v, V1⟩ := Q1
 subst hv1
 have K2 := (Keep.refl h0 [sx]).trans K1 (allS (mQ 0 rfl) all0)
 exact G.aA C1 X1 (ew hw) Hd1 d3_9 hret hlk (fun _ _ => ⟨t1, k1, rfl, K2, E1, F1c, F1v, V1⟩) (by decide) (by decide)
theorem ef12 (m : MethodId) (x0 : Addr) : entryFrame m #[(.ref x0)] 1 = mkF m 0 #[.val (.ref x0)] [] := by first | (simp [entryFrame, mkF, argsToLocals, Value.category]; done) | rfl
theorem ctCoder {l : Launch} {Z : State} {a0 : Array Value} (hw : HW a0 Z) {n0 : Nat} {h0 : Heap} (hn0 : n0 ≤ h0.size) (sx : Addr) (cz : Int32) (Fc : Fld Z h0 sx zq0 "coder" "B" (.int 0)) (OD : Old Z n0 h0) (S2 : Sta Z Z.heap zq0 zq5 "Z" (.int cz)) (hcz : ¬ cz = 0) :
 Ctr l Z (⟨zq0, "coder", "()B"⟩ : MethodName) jdk_42_method_152_code 1 (some .byte) (rQ 0 0 0 0) n0 #[(.ref sx)] h0 (fun v h => v = some (.int 0) ∧ h = h0) := by
 refine Ctr.of (by decide +kernel) hn0 ?_
 intro p e s m below meth c T0 C hnm hret hlk X0
 rw [ef12 m sx]
 refine G.x 3 C X0 (hQ (wd75 hw)) Via.refl (S2.ext OD.2) d12_0 rfl fun T1 X1 => G.q 6 C X1 d12_3 rfl (feq hcz).1 <| G.b 7 C X1 d12_6 rfl rfl rfl <| G.v 10 C X1 (hQ (wd29 hw)) Via.refl Fc d12_7 rfl fun T2 X2 => G.r 14 C X2 d12_10 (by decide) (by decide) ?_
 exact G.U C X2 d12_14 hret (by simp) (z' := (0 : Int32)) (by decide) hlk (⟨rfl, rfl⟩) (by decide) (by decide)
theorem ef11 (m : MethodId) (x0 : Addr) : entryFrame m #[(.ref x0)] 1 = mkF m 0 #[.val (.ref x0)] [] := by first | (simp [entryFrame, mkF, argsToLocals, Value.category]; done) | rfl
theorem ctLen1 {l : Launch} {Z : State} {a0 : Array Value} (hw : HW a0 Z) {n0 : Nat} {h0 : Heap} (hn0 : n0 ≤ h0.size) (sx t : Addr) (kb : ClassId) (vs : List Value) (cz : Int32) (Ex : Exa Z h0 sx zq0) (Fv : Fld Z h0 sx zq0 "value" "[B" (.ref t)) (Fc : Fld Z h0 sx zq0 "coder" "B" (.int 0)) (Vr : Arv Z h0 t kb .byte (1 : Int32) vs (.int 0)) (OD : Old Z n0 h0) (S2 : Sta Z Z.heap zq0 zq5 "Z" (.int cz)) (hcz : ¬ cz = 0) :
 Ctr l Z (⟨zq0, "length", "()I"⟩ : MethodName) jdk_42_method_54_code 1 (some .int) (rQ 1 0 0 20) n0 #[(.ref sx)] h0 (fun v h => v = some (.int 1) ∧ h = h0) := by
 refine Ctr.of (by decide +kernel) hn0 ?_
 intro p e s m below meth c T0 C hnm hret hlk X0
 rw [ef11 m sx]
 refine G.b 1 C X0 d11_0 rfl rfl rfl <| G.v 4 C X0 (hQ (wd28 hw)) Via.refl Fv d11_1 rfl fun T1 X1 => G.aa 5 C X1 Vr d11_4 rfl <| G.b 6 C X1 d11_5 rfl rfl rfl <| G.D 9 (cells' := 0) (slots' := 0) (argsL := []) (St := [(.int 1)]) C X1 (wd70 hw) (wd71 hw) (wd73 hw) (wd72 hw) (by decide) Ex (wd74 hw) (wd10 hw) (ctCoder hw X1.2.1 sx cz Fc OD S2 hcz) (lenOf pd4 rfl) rfl d11_6 rfl rfl (by decide) (nQ rfl) rfl rfl (by decide) (by decide) (fun v2 T2 h2 Q2 X2 z2 => ?_)
 obtain ⟨hv2, hh2⟩ := Q2
 subst hv2; rw [hh2] at X2
 refine G.ah 10 (z := (1 : Int32)) C X2 d11_9 rfl (by decide) ?_
 exact G.E C X2 d11_10 hret hlk (⟨rfl, rfl⟩) (by decide) (by decide)
theorem ctLen2 {l : Launch} {Z : State} {a0 : Array Value} (hw : HW a0 Z) {n0 : Nat} {h0 : Heap} (hn0 : n0 ≤ h0.size) (sx t : Addr) (kb : ClassId) (vs : List Value) (cz : Int32) (Ex : Exa Z h0 sx zq0) (Fv : Fld Z h0 sx zq0 "value" "[B" (.ref t)) (Fc : Fld Z h0 sx zq0 "coder" "B" (.int 0)) (Vr : Arv Z h0 t kb .byte (2 : Int32) vs (.int 0)) (OD : Old Z n0 h0) (S2 : Sta Z Z.heap zq0 zq5 "Z" (.int cz)) (hcz : ¬ cz = 0) :
 Ctr l Z (⟨zq0, "length", "()I"⟩ : MethodName) jdk_42_method_54_code 1 (some .int) (rQ 1 0 0 20) n0 #[(.ref sx)] h0 (fun v h => v = some (.int 2) ∧ h = h0) := by
 refine Ctr.of (by decide +kernel) hn0 ?_
 intro p e s m below meth c T0 C hnm hret hlk X0
 rw [ef11 m sx]
 refine G.b 1 C X0 d11_0 rfl rfl rfl <| G.v 4 C X0 (hQ (wd28 hw)) Via.refl Fv d11_1 rfl fun T1 X1 => G.aa 5 C X1 Vr d11_4 rfl <| G.b 6 C X1 d11_5 rfl rfl rfl <| G.D 9 (cells' := 0) (slots' := 0) (argsL := []) (St := [(.int 2)]) C X1 (wd70 hw) (wd71 hw) (wd73 hw) (wd72 hw) (by decide) Ex (wd74 hw) (wd10 hw) (ctCoder hw X1.2.1 sx cz Fc OD S2 hcz) (lenOf pd4 rfl) rfl d11_6 rfl rfl (by decide) (nQ rfl) rfl rfl (by decide) (by decide) (fun v2 T2 h2 Q2 X2 z2 => ?_)
 obtain ⟨hv2, hh2⟩ := Q2
 subst hv2; rw [hh2] at X2
 refine G.ah 10 (z := (2 : Int32)) C X2 d11_9 rfl (by decide) ?_
 exact G.E C X2 d11_10 hret hlk (⟨rfl, rfl⟩) (by decide) (by decide)
theorem ctLen0 {l : Launch} {Z : State} {a0 : Array Value} (hw : HW a0 Z) {n0 : Nat} {h0 : Heap} (hn0 : n0 ≤ h0.size) (sx t : Addr) (kb : ClassId) (vs : List Value) (cz : Int32) (Ex : Exa Z h0 sx zq0) (Fv : Fld Z h0 sx zq0 "value" "[B" (.ref t)) (Fc : Fld Z h0 sx zq0 "coder" "B" (.int 0)) (Vr : Arv Z h0 t kb .byte (0 : Int32) vs (.int 0)) (OD : Old Z n0 h0) (S2 : Sta Z Z.heap zq0 zq5 "Z" (.int cz)) (hcz : ¬ cz = 0) :
 Ctr l Z (⟨zq0, "length", "()I"⟩ : MethodName) jdk_42_method_54_code 1 (some .int) (rQ 1 0 0 20) n0 #[(.ref sx)] h0 (fun v h => v = some (.int 0) ∧ h = h0) := by
 refine Ctr.of (by decide +kernel) hn0 ?_
 intro p e s m below meth c T0 C hnm hret hlk X0
 rw [ef11 m sx]
 refine G.b 1 C X0 d11_0 rfl rfl rfl <| G.v 4 C X0 (hQ (wd28 hw)) Via.refl Fv d11_1 rfl fun T1 X1 => G.aa 5 C X1 Vr d11_4 rfl <| G.b 6 C X1 d11_5 rfl rfl rfl <| G.D 9 (cells' := 0) (slots' := 0) (argsL := []) (St := [(.int 0)]) C X1 (wd70 hw) (wd71 hw) (wd73 hw) (wd72 hw) (by decide) Ex (wd74 hw) (wd10 hw) (ctCoder hw X1.2.1 sx cz Fc OD S2 hcz) (lenOf pd4 rfl) rfl d11_6 rfl rfl (by decide) (nQ rfl) rfl rfl (by decide) (by decide) (fun v2 T2 h2 Q2 X2 z2 => ?_)
 obtain ⟨hv2, hh2⟩ := Q2
 subst hv2; rw [hh2] at X2
 refine G.ah 10 (z := (0 : Int32)) C X2 d11_9 rfl (by decide) ?_
 exact G.E C X2 d11_10 hret hlk (⟨rfl, rfl⟩) (by decide) (by decide)
theorem ctCoderA {l : Launch} {Z : State} {a0 : Array Value} (hw : HW a0 Z) {n0 : Nat} {h0 : Heap} (hn0 : n0 ≤ h0.size) (sx : Addr) (cz : Int32) (Fc : Fld Z h0 sx zq0 "coder" "B" (.int 0)) (OD : Old Z n0 h0) (S2 : Sta Z Z.heap zq0 zq5 "Z" (.int cz)) (hcz : ¬ cz = 0) :
 Ctr l Z (⟨zq0, "coder", "()B"⟩ : MethodName) jdk_42_method_152_code 1 (some .byte) (rQ 0 0 0 0) n0 #[(.ref sx)] h0 (fun v h => v = some (.int 0) ∧ h = h0) := by
 refine Ctr.of (by decide +kernel) hn0 ?_
 intro p e s m below meth c T0 C hnm hret hlk X0
 rw [ef12 m sx]
 refine G.x 3 C X0 (hQ (wd75 hw)) Via.refl (S2.ext OD.2) d12_0 rfl fun T1 X1 => G.q 6 C X1 d12_3 rfl (feq hcz).1 <| G.b 7 C X1 d12_6 rfl rfl rfl <| G.v 10 C X1 (hQ (wd29 hw)) Via.refl Fc d12_7 rfl fun T2 X2 => G.r 14 C X2 d12_10 (by decide) (by decide) ?_
 exact G.U C X2 d12_14 hret (by simp) (z' := (0 : Int32)) (by decide) hlk (⟨rfl, rfl⟩) (by decide) (by decide)
theorem ctLenA {l : Launch} {Z : State} {a0 : Array Value} (hw : HW a0 Z) {n0 : Nat} {h0 : Heap} (hn0 : n0 ≤ h0.size) (sr ru : Addr) (kr : ClassId) (M : List Int32) (cz : Int32) (Er : Exa Z h0 sr zq0) (Rv : Fld Z h0 sr zq0 "value" "[B" (.ref ru)) (Rc : Fld Z h0 sr zq0 "coder" "B" (.int 0)) (Vr : Arv Z h0 ru kr .byte (own_n (M).length) (tx M) (.int 0)) (OD : Old Z n0 h0) (S2 : Sta Z Z.heap zq0 zq5 "Z" (.int cz)) (hcz : ¬ cz = 0) :
 Ctr l Z (⟨zq0, "length", "()I"⟩ : MethodName) jdk_42_method_54_code 1 (some .int) (rQ 1 0 0 20) n0 #[(.ref sr)] h0 (fun v h => v = some (.int (own_n (M).length)) ∧ h = h0) := by
 refine Ctr.of (by decide +kernel) hn0 ?_
 intro p e s m below meth c T0 C hnm hret hlk X0
 rw [ef11 m sr]
 refine G.b 1 C X0 d11_0 rfl rfl rfl <| G.v 4 C X0 (hQ (wd28 hw)) Via.refl Rv d11_1 rfl fun T1 X1 => G.aa 5 C X1 Vr d11_4 rfl <| G.b 6 C X1 d11_5 rfl rfl rfl <| G.D 9 (cells' := 0) (slots' := 0) (argsL := []) (St := [(.int (own_n (M).length))]) C X1 (wd70 hw) (wd71 hw) (wd73 hw) (wd72 hw) (by decide) Er (wd74 hw) (wd10 hw) (ctCoderA hw X1.2.1 sr cz Rc OD S2 hcz) (lenOf pd4 rfl) rfl d11_6 rfl rfl (by decide) (nQ rfl) rfl rfl (by decide) (by decide) (fun v2 T2 h2 Q2 X2 z2 => ?_)
 obtain ⟨hv2, hh2⟩ := Q2
 subst hv2; rw [hh2] at X2
 refine G.ah 10 (z := (own_n (M).length)) C X2 d11_9 rfl (own_shr0 _) ?_
 exact G.E C X2 d11_10 hret hlk (⟨rfl, rfl⟩) (by decide) (by decide)
theorem ef20 (m : MethodId) (x0 : Addr) : entryFrame m #[(.ref x0)] 1 = mkF m 0 #[.val (.ref x0)] [] := by first | (simp [entryFrame, mkF, argsToLocals, Value.category]; done) | rfl
theorem ctIlA {l : Launch} {Z : State} {a0 : Array Value} (hw : HW a0 Z) {n0 : Nat} {h0 : Heap} (hn0 : n0 ≤ h0.size) (sb : Addr) (cz : Int32) (Fc : Fld Z h0 sb zq1 "coder" "B" (.int 0)) (OD : Old Z n0 h0) (S2 : Sta Z Z.heap zq0 zq5 "Z" (.int cz)) (hcz : ¬ cz = 0) :
 Ctr l Z (⟨zq1, "isLatin1", "()Z"⟩ : MethodName) jdk_68_method_68_code 1 (some .boolean) (rQ 0 0 0 0) n0 #[(.ref sb)] h0 (fun v h => v = some (.int 1) ∧ h = h0) := by
 refine Ctr.of (by decide +kernel) hn0 ?_
 intro p e s m below meth c T0 C hnm hret hlk X0
 rw [ef20 m sb]
 refine G.x 3 C X0 (hQ (wd50 hw)) Via.refl (S2.ext OD.2) d20_0 rfl fun T1 X1 => G.q 6 C X1 d20_3 rfl (feq hcz).1 <| G.b 7 C X1 d20_6 rfl rfl rfl <| G.v 10 C X1 (hQ (wd53 hw)) Via.refl Fc d20_7 rfl fun T2 X2 => G.q 13 C X2 d20_10 rfl (teq (by decide : (0 : Int32) = 0)).2 <| G.i 14 (z := 1) C X2 d20_13 rfl (by decide) <| G.r 18 C X2 d20_14 (by decide) (by decide) ?_
 exact G.U C X2 d20_18 hret (by simp) (z' := (1 : Int32)) (by decide) hlk (⟨rfl, rfl⟩) (by decide) (by decide)
theorem ef8 (m : MethodId) (x0 : Addr) (x1 : Int32) : entryFrame m #[(.ref x0), (.int x1)] 2 = mkF m 0 #[.val (.ref x0), .val (.int x1)] [] := by first | (simp [entryFrame, mkF, argsToLocals, Value.category]; done) | rfl
theorem ctAsbIA {l : Launch} {Z : State} {a0 : Array Value} (hw : HW a0 Z) {n0 : Nat} {h0 : Heap} (hn0 : n0 ≤ h0.size) (sb : Addr) (cz : Int32) (Es : Exa Z h0 sb zq3) (Fv : Fld Z h0 sb zq1 "value" "[B" .null) (Fc : Fld Z h0 sb zq1 "coder" "B" (.int 0)) (Fn : Fld Z h0 sb zq1 "count" "I" (.int 0)) (gs : n0 ≤ sb) (OD : Old Z n0 h0) (S2 : Sta Z Z.heap zq0 zq5 "Z" (.int cz)) (hcz : ¬ cz = 0) :
 Ctr l Z (⟨zq1, "<init>", "(I)V"⟩ : MethodName) jdk_68_method_2_code 2 none (rQ 1 1 16 12) n0 #[(.ref sb), (.int 16)] h0 (fun v h => ∃ (t : Addr) (k : ClassId), v = none ∧ Keep h0 h [sb] ∧ h0.size ≤ t ∧ sb ≠ t ∧ Exa Z h sb zq3 ∧ Fld Z h sb zq1 "value" "[B" (.ref t) ∧ Fld Z h sb zq1 "coder" "B" (.int 0) ∧ Fld Z h sb zq1 "count" "I" (.int (own_n (([] : List Int32)).length)) ∧ Exa Z h t "[B" ∧ Arv Z h t k .byte (16 : Int32) (tx ([] : List Int32)) (.int 0)) := by
 refine Ctr.of (by decide +kernel) hn0 ?_
 intro p e s m below meth c T0 C hnm hret hlk X0
 rw [ef8 m sb (16 : Int32)]
 refine G.b 1 C X0 d8_0 rfl rfl rfl <| G.al 4 C X0 (wd49 hw) (wd20 hw) (wd21 hw) d8_1 rfl rfl (by decide) (nQ rfl) fun T1 X1 => G.x 7 C X1 (hQ (wd50 hw)) Via.refl (S2.ext OD.2) d8_4 rfl fun T2 X2 => G.q 10 C X2 d8_7 rfl (feq hcz).1 <| G.b 11 C X2 d8_10 rfl rfl rfl <| G.a 12 C X2 d8_11 rfl rfl <| G.az 14 (cap := 16) (d0 := (.int 0)) (cells' := 1) (slots' := 16) C X2 (wd23 hw) rfl (ad := "[B") (by decide) d8_12 rfl (by decide) (by decide) (by decide) rfl rfl rfl (by decide) (by decide) (fun T3 h3 a3 k3 X3 g3 q3 E3 V3 A3 => ?_)
 have ne4 : sb ≠ a3 := Nat.ne_of_lt (Nat.lt_of_lt_of_eq Es.lt g3.symm)
 have sz5 : h0.size ≤ a3 := Nat.le_trans (Keep.refl h0 [sb]).1 (Nat.le_of_eq g3.symm)
 have K6 := (Keep.refl h0 [sb]).ext E3
 replace V3 : Arv Z h3 a3 k3 .byte (16 : Int32) [] (.int 0) := V3.pad (pad_rep [] (.int 0) 0)
 have f7 := (Fv.ext E3)
 have f8 := (Es.ext E3)
 refine G.I 17 C X3 (hQ (wd51 hw)) Via.refl f7 f8 gs (Or.inl (wd52 hw)) (wd38 hw) (ty := (.array .byte)) (by decide) rfl rfl d8_14 rfl (fun T9 h9 X9 W9 F9 => ?_)
 have K10 := K6.wr W9 (mQ 0 rfl)
 refine G.b 18 C X9 d8_17 rfl rfl rfl <| G.i 19 (z := 0) C X9 d8_18 rfl (by decide) ?_
 have f11 := ((Fc.ext E3).other W9 (Or.inr (sQ2 hw)))
 have f12 := (f8.wr W9)
 refine G.ao 22 C X9 (wd53 hw) Via.refl f11 f12 gs (Or.inl (wd54 hw)) (wd38 hw) (ty := .byte) (by decide) (v' := .int (0 : Int32)) rfl (by decide) d8_19 rfl (fun T13 h13 X13 W13 F13 => ?_)
 have K14 := K10.wr W13 (mQ 0 rfl)
 refine G.r 38 C X13 d8_22 (by decide) (by decide) ?_
 have f15 := (f12.wr W13)
 have f16 := (F9.other W13 (Or.inr (sQ3 hw)))
 have f17 := (((Fn.ext E3).other W9 (Or.inr (sQ4 hw))).other W13 (Or.inr (sQ5 hw)))
 have f18 := ((A3.wr W9).wr W13)
 have f19 := ((V3.other W9 (Ne.symm ne4)).other W13 (Ne.symm ne4))
 exact G.ab C X13 d8_38 hret hlk (⟨a3, k3, rfl, K14, sz5, ne4, f15, f16, F13, f17, f18, f19⟩) (by decide) (by decide)
theorem ef7 (m : MethodId) (x0 : Addr) : entryFrame m #[(.ref x0)] 1 = mkF m 0 #[.val (.ref x0)] [] := by first | (simp [entryFrame, mkF, argsToLocals, Value.category]; done) | rfl
theorem ctSbIA {l : Launch} {Z : State} {a0 : Array Value} (hw : HW a0 Z) {n0 : Nat} {h0 : Heap} (hn0 : n0 ≤ h0.size) (sb : Addr) (cz : Int32) (Es : Exa Z h0 sb zq3) (Fv : Fld Z h0 sb zq1 "value" "[B" .null) (Fc : Fld Z h0 sb zq1 "coder" "B" (.int 0)) (Fn : Fld Z h0 sb zq1 "count" "I" (.int 0)) (gs : n0 ≤ sb) (OD : Old Z n0 h0) (S2 : Sta Z Z.heap zq0 zq5 "Z" (.int cz)) (hcz : ¬ cz = 0) :
 Ctr l Z (⟨zq3, "<init>", "()V"⟩ : MethodName) jdk_67_method_1_code 1 none (rQ 2 1 16 28) n0 #[(.ref sb)] h0 (fun v h => ∃ (t : Addr) (k : ClassId), v = none ∧ Keep h0 h [sb] ∧ h0.size ≤ t ∧ sb ≠ t ∧ Exa Z h sb zq3 ∧ Fld Z h sb zq1 "value" "[B" (.ref t) ∧ Fld Z h sb zq1 "coder" "B" (.int 0) ∧ Fld Z h sb zq1 "count" "I" (.int (own_n (([] : List Int32)).length)) ∧ Exa Z h t "[B" ∧ Arv Z h t k .byte (16 : Int32) (tx ([] : List Int32)) (.int 0)) := by
 refine Ctr.of (by decide +kernel) hn0 ?_
 intro p e s m below meth c T0 C hnm hret hlk X0
 rw [ef7 m sb]
 refine G.b 1 C X0 d7_0 rfl rfl rfl <| G.d 3 (z := 16) C X0 d7_1 rfl (by decide) <| G.af 6 (cells' := 1) (slots' := 16) (argsL := [(.int 16)]) (St := []) C X0 rfl rfl (wd43 hw) (wd44 hw) (by decide) (wd48 hw) (wd47 hw) (ctAsbIA hw X0.2.1 sb cz Es Fv Fc Fn gs OD S2 hcz) (lenOf pd5 rfl) rfl d7_3 rfl rfl (by decide) (nQ rfl) rfl rfl (by decide) (by decide) (fun v1 T1 h1 Q1 X1 z1 => ?_)
 obtain ⟨t1, k1, hv1, K1, hz1, ns1, Es1, Fv1, Fc1, Fn1, Et1, Vt1⟩ := Q1
 subst hv1
 have K2 := (Keep.refl h0 [sb]).trans K1 (allS (mQ 0 rfl) all0)
 exact G.ab C X1 d7_6 hret hlk (⟨t1, k1, rfl, K2, hz1, ns1, Es1, Fv1, Fc1, Fn1, Et1, Vt1⟩) (by decide) (by decide)
theorem ef13 (m : MethodId) (x0 : Addr) (x1 : Int32) : entryFrame m #[(.ref x0), (.int x1)] 3 = mkF m 0 #[.val (.ref x0), .val (.int x1), .unset] [] := by first | (simp [entryFrame, mkF, argsToLocals, Value.category]; done) | rfl
theorem ctEcFA {l : Launch} {Z : State} {a0 : Array Value} (hw : HW a0 Z) {n0 : Nat} {h0 : Heap} (hn0 : n0 ≤ h0.size) (sb tb : Addr) (kt : ClassId) (vs : List Value) (cp jj : Int32) (Es : Exa Z h0 sb zq3) (Fv : Fld Z h0 sb zq1 "value" "[B" (.ref tb)) (Fc : Fld Z h0 sb zq1 "coder" "B" (.int 0)) (Vt : Arv Z h0 tb kt .byte cp vs (.int 0)) (hj : ¬ (0 : Int32) < jj - cp) :
 Ctr l Z (⟨zq1, zq49, "(I)V"⟩ : MethodName) jdk_68_method_9_code 3 none (rQ 0 0 0 0) n0 #[(.ref sb), (.int jj)] h0 (fun v h => v = none ∧ h = h0) := by
 refine Ctr.of (by decide +kernel) hn0 ?_
 intro p e s m below meth c T0 C hnm hret hlk X0
 rw [ef13 m sb jj]
 refine G.b 1 C X0 d13_0 rfl rfl rfl <| G.v 4 C X0 (hQ (wd51 hw)) Via.refl Fv d13_1 rfl fun T1 X1 => G.aa 5 C X1 Vt d13_4 rfl <| G.b 6 C X1 d13_5 rfl rfl rfl <| G.v 9 C X1 (hQ (wd53 hw)) Via.refl Fc d13_6 rfl fun T2 X2 => G.ah 10 (z := cp) C X2 d13_9 rfl (own_shr0 _) <| G.g 11 C X2 d13_10 rfl (l' := #[vR sb, vI jj, vI cp]) rfl <| G.a 12 C X2 d13_11 rfl rfl <| G.a 13 C X2 d13_12 rfl rfl <| G.u 14 (z := (jj - cp)) C X2 d13_13 rfl rfl <| G.M 38 C X2 d13_14 (flt hj).2.2.2 (by decide) (by decide) ?_
 exact G.ab C X2 d13_38 hret hlk (⟨rfl, rfl⟩) (by decide) (by decide)
theorem ef53 (m : MethodId) (x0 : Int32) (x1 : Int32) : entryFrame m #[(.int x0), (.int x1)] 2 = mkF m 0 #[.val (.int x0), .val (.int x1)] [] := by first | (simp [entryFrame, mkF, argsToLocals, Value.category]; done) | rfl
theorem ctMxA {l : Launch} {Z : State} {a0 : Array Value} (hw : HW a0 Z) {n0 : Nat} {h0 : Heap} (hn0 : n0 ≤ h0.size) (gr : Int32) (hg : gr < 18) :
 Ctr l Z (⟨zq17, "max", "(II)I"⟩ : MethodName) jdk_29_method_65_code 2 (some .int) (rQ 0 0 0 0) n0 #[(.int gr), (.int 18)] h0 (fun v h => v = some (.int 18) ∧ h = h0) := by
 refine Ctr.of (Jvm.Free.JP.mathPlain rfl (by decide +kernel)) hn0 ?_
 intro p e s m below meth c T0 C hnm hret hlk X0
 rw [ef53 m gr (18 : Int32)]
 refine G.a 1 C X0 d53_0 rfl rfl <| G.a 2 C X0 d53_1 rfl rfl <| G.j 9 C X0 d53_2 (tlt hg).1 (by decide) (by decide) <| G.a 10 C X0 d53_9 rfl rfl ?_
 exact G.E C X0 d53_10 hret hlk (⟨rfl, rfl⟩) (by decide) (by decide)
theorem ef52 (m : MethodId) (x0 : Int32) (x1 : Int32) (x2 : Int32) : entryFrame m #[(.int x0), (.int x1), (.int x2)] 4 = mkF m 0 #[.val (.int x0), .val (.int x1), .val (.int x2), .unset] [] := by first | (simp [entryFrame, mkF, argsToLocals, Value.category]; done) | rfl
theorem ctNlA {l : Launch} {Z : State} {a0 : Array Value} (hw : HW a0 Z) {n0 : Nat} {h0 : Heap} (hn0 : n0 ≤ h0.size) (gr : Int32) (hg : gr < 18) :
 Ctr l Z (⟨zq42, "newLength", "(III)I"⟩ : MethodName) jdk_48_method_27_code 4 (some .int) (rQ 1 0 0 20) n0 #[(.int 16), (.int gr), (.int 18)] h0 (fun v h => v = some (.int 34) ∧ h = h0) := by
 refine Ctr.of (plainFor_of_name pn0) hn0 ?_
 intro p e s m below meth c T0 C hnm hret hlk X0
 rw [ef52 m (16 : Int32) gr (18 : Int32)]
 refine G.a 1 C X0 d52_0 rfl rfl <| G.a 2 C X0 d52_1 rfl rfl <| G.a 3 C X0 d52_2 rfl rfl <| G.o 6 (cells' := 0) (slots' := 0) (argsL := [(.int gr), (.int 18)]) (St := [(.int 16)]) C X0 (wd290 hw) (wd291 hw) (by decide) (wd292 hw) (wd2 hw) (ctMxA hw X0.2.1 gr hg) (lenOf pd6 rfl) rfl d52_3 rfl rfl (by decide) (nQ rfl) rfl rfl (by decide) (by decide) (fun v1 T1 h1 Q1 X1 z1 => ?_)
 obtain ⟨hv1, hh1⟩ := Q1
 subst hv1; rw [hh1] at X1
 refine G.z 7 (z := (34 : Int32)) C X1 d52_6 rfl (by decide) <| G.g 8 C X1 d52_7 rfl (l' := #[vI 16, vI gr, vI 18, vI 34]) rfl <| G.i 9 (z := 0) C X1 d52_8 rfl (by decide) <| G.a 10 C X1 d52_9 rfl rfl <| G.k 13 C X1 d52_10 rfl (tlt (by decide : (0 : Int32) < 34)).2.1 <| G.a 14 C X1 d52_13 rfl rfl <| G.F 16 C X1 (wd293 hw) d52_14 rfl <| G.k 19 C X1 d52_16 rfl (flt (by decide : ¬ (2147483639 : Int32) < 34)).2.2.1 <| G.a 20 C X1 d52_19 rfl rfl ?_
 exact G.E C X1 d52_20 hret hlk (⟨rfl, rfl⟩) (by decide) (by decide)
theorem ef51 (m : MethodId) (x0 : Addr) (x1 : Int32) : entryFrame m #[(.ref x0), (.int x1)] 6 = mkF m 0 #[.val (.ref x0), .val (.int x1), .unset, .unset, .unset, .unset] [] := by first | (simp [entryFrame, mkF, argsToLocals, Value.category]; done) | rfl
theorem ctNcA {l : Launch} {Z : State} {a0 : Array Value} (hw : HW a0 Z) {n0 : Nat} {h0 : Heap} (hn0 : n0 ≤ h0.size) (sb tb : Addr) (kt : ClassId) (W : List Int32) (jj : Int32) (Es : Exa Z h0 sb zq3) (Fv : Fld Z h0 sb zq1 "value" "[B" (.ref tb)) (Fc : Fld Z h0 sb zq1 "coder" "B" (.int 0)) (Vt : Arv Z h0 tb kt .byte (16 : Int32) (tx W) (.int 0)) (hj2 : jj - 16 < 18) :
 Ctr l Z (⟨zq1, "newCapacity", "(I)I"⟩ : MethodName) jdk_68_method_10_code 6 (some .int) (rQ 2 0 0 40) n0 #[(.ref sb), (.int jj)] h0 (fun v h => v = some (.int 34) ∧ h = h0) := by
 refine Ctr.of (by decide +kernel) hn0 ?_
 intro p e s m below meth c T0 C hnm hret hlk X0
 rw [ef51 m sb jj]
 refine G.b 1 C X0 d51_0 rfl rfl rfl <| G.v 4 C X0 (hQ (wd51 hw)) Via.refl Fv d51_1 rfl fun T1 X1 => G.aa 5 C X1 Vt d51_4 rfl <| G.g 6 C X1 d51_5 rfl (l' := #[vR sb, vI jj, vI 16, .unset, .unset, .unset]) rfl <| G.a 7 C X1 d51_6 rfl rfl <| G.b 8 C X1 d51_7 rfl rfl rfl <| G.v 11 C X1 (hQ (wd53 hw)) Via.refl Fc d51_8 rfl fun T2 X2 => G.ar 12 (z := jj) C X2 d51_11 rfl (own_shl0 _) <| G.g 13 C X2 d51_12 rfl (l' := #[vR sb, vI jj, vI 16, vI jj, .unset, .unset]) rfl <| G.a 14 C X2 d51_13 rfl rfl <| G.a 15 C X2 d51_14 rfl rfl <| G.u 16 (z := (jj - (16 : Int32))) C X2 d51_15 rfl rfl <| G.w 18 C X2 d51_16 rfl (l' := #[vR sb, vI jj, vI 16, vI jj, vI (jj - (16 : Int32)), .unset]) rfl <| G.a 19 C X2 d51_18 rfl rfl <| G.f 21 C X2 d51_19 rfl rfl ?_
 refine G.a 22 C X2 d51_21 rfl rfl <| G.i 23 (z := 2) C X2 d51_22 rfl (by decide) <| G.b 24 C X2 d51_23 rfl rfl rfl <| G.v 27 C X2 (hQ (wd53 hw)) Via.refl Fc d51_24 rfl fun T3 X3 => G.ar 28 (z := (2 : Int32)) C X3 d51_27 rfl (by decide) <| G.z 29 (z := (18 : Int32)) C X3 d51_28 rfl (by decide) <| G.o 32 (cells' := 0) (slots' := 0) (argsL := [(.int 16), (.int (jj - (16 : Int32))), (.int 18)]) (St := []) C X3 (wd286 hw) (wd287 hw) (by decide) (wd289 hw) (wd288 hw) (ctNlA hw X3.2.1 _ hj2) (lenOf pd7 rfl) rfl d51_29 rfl rfl (by decide) (nQ rfl) rfl rfl (by decide) (by decide) (fun v4 T4 h4 Q4 X4 z4 => ?_)
 obtain ⟨hv4, hh4⟩ := Q4
 subst hv4; rw [hh4] at X4
 refine G.w 34 C X4 d51_32 rfl (l' := #[vR sb, vI jj, vI 16, vI jj, vI (jj - (16 : Int32)), vI 34]) rfl <| G.f 36 C X4 d51_34 rfl rfl <| G.F 38 C X4 (wd294 hw) d51_36 rfl <| G.j 51 C X4 d51_38 (feq (by decide : ¬ (34 : Int32) = 2147483647)).2 (by decide) (by decide) <| G.f 53 C X4 d51_51 rfl rfl <| G.b 54 C X4 d51_53 rfl rfl rfl <| G.v 57 C X4 (hQ (wd53 hw)) Via.refl Fc d51_54 rfl fun T5 X5 => G.ah 58 (z := (34 : Int32)) C X5 d51_57 rfl (by decide) ?_
 exact G.E C X5 d51_58 hret hlk (⟨rfl, rfl⟩) (by decide) (by decide)
theorem ef1 (m : MethodId) (x0 : Int32) (x1 : Int32) : entryFrame m #[(.int x0), (.int x1)] 2 = mkF m 0 #[.val (.int x0), .val (.int x1)] [] := by first | (simp [entryFrame, mkF, argsToLocals, Value.category]; done) | rfl
theorem ctMn1A {l : Launch} {Z : State} {a0 : Array Value} (hw : HW a0 Z) {n0 : Nat} {h0 : Heap} (hn0 : n0 ≤ h0.size)   :
 Ctr l Z (⟨zq17, "min", "(II)I"⟩ : MethodName) jdk_29_method_69_code 2 (some .int) (rQ 0 0 0 0) n0 #[(.int 16), (.int 34)] h0 (fun v h => v = some (.int 16) ∧ h = h0) := by
 refine Ctr.of (Jvm.Free.JP.mathPlain rfl (by decide +kernel)) hn0 ?_
 intro p e s m below meth c T0 C hnm hret hlk X0
 rw [ef1 m (16 : Int32) (34 : Int32)]
 refine G.a 1 C X0 d1_0 rfl rfl <| G.a 2 C X0 d1_1 rfl rfl <| G.k 5 C X0 d1_2 rfl (flt (by decide : ¬ (34 : Int32) < 16)).2.2.1 <| G.a 6 C X0 d1_5 rfl rfl <| G.r 10 C X0 d1_6 (by decide) (by decide) ?_
 exact G.E C X0 d1_10 hret hlk (⟨rfl, rfl⟩) (by decide) (by decide)
theorem ef54 (m : MethodId) (x0 : Addr) (x1 : Int32) : entryFrame m #[(.ref x0), (.int x1)] 3 = mkF m 0 #[.val (.ref x0), .val (.int x1), .unset] [] := by first | (simp [entryFrame, mkF, argsToLocals, Value.category]; done) | rfl
theorem ctCoA {l : Launch} {Z : State} {a0 : Array Value} (hw : HW a0 Z) {n0 : Nat} {h0 : Heap} (hn0 : n0 ≤ h0.size) (tb : Addr) (kt : ClassId) (W : List Int32) (Vt : Arv Z h0 tb kt .byte (16 : Int32) (tx W) (.int 0)) (hW : W.length ≤ 16) :
 Ctr l Z (⟨zq14, "copyOf", "([BI)[B"⟩ : MethodName) jdk_65_method_121_code 3 (some (.array .byte)) (rQ 1 1 34 30) n0 #[(.ref tb), (.int 34)] h0 (fun v h => ∃ (t : Addr) (k : ClassId), v = some (.ref t) ∧ Keep h0 h [] ∧ h0.size ≤ t ∧ Exa Z h t "[B" ∧ Arv Z h t k .byte (34 : Int32) (tx W) (.int 0)) := by
 refine Ctr.of (plainFor_of_name pn1) hn0 ?_
 intro p e s m below meth c T0 C hnm hret hlk X0
 rw [ef54 m tb (34 : Int32)]
 refine G.a 1 C X0 d54_0 rfl rfl <| G.b 2 C X0 d54_1 rfl rfl rfl <| G.aa 3 C X0 Vt d54_2 rfl <| G.j 14 C X0 d54_3 (feq (by decide : ¬ (34 : Int32) = 16)).2 (by decide) (by decide) <| G.a 15 C X0 d54_14 rfl rfl <| G.az 17 (cap := 34) (d0 := (.int 0)) (cells' := 1) (slots' := 34) C X0 (wd23 hw) rfl (ad := "[B") (by decide) d54_15 rfl (by decide) (by decide) (by decide) rfl rfl rfl (by decide) (by decide) (fun T1 h1 a1 k1 X1 g1 q1 E1 V1 A1 => ?_)
 have sz3 : h0.size ≤ a1 := Nat.le_trans (Keep.refl h0 []).1 (Nat.le_of_eq g1.symm)
 have K4 := (Keep.refl h0 []).ext E1
 replace V1 : Arv Z h1 a1 k1 .byte (34 : Int32) [(.int 0), (.int 0), (.int 0), (.int 0), (.int 0), (.int 0), (.int 0), (.int 0), (.int 0), (.int 0), (.int 0), (.int 0), (.int 0), (.int 0), (.int 0), (.int 0), (.int 0), (.int 0), (.int 0), (.int 0), (.int 0), (.int 0), (.int 0), (.int 0), (.int 0), (.int 0), (.int 0), (.int 0), (.int 0), (.int 0), (.int 0), (.int 0), (.int 0), (.int 0)] (.int 0) := V1.pad (pad_rep [] (.int 0) 34)
 refine G.aq 18 C X1 d54_17 rfl rfl (l' := #[vR tb, vI 34, vR a1]) rfl <| G.b 19 C X1 d54_18 rfl rfl rfl <| G.i 20 (z := 0) C X1 d54_19 rfl (by decide) <| G.b 21 C X1 d54_20 rfl rfl rfl <| G.i 22 (z := 0) C X1 d54_21 rfl (by decide) <| G.b 23 C X1 d54_22 rfl rfl rfl ?_
 have f5 := (Vt.ext E1)
 refine G.aa 24 C X1 f5 d54_23 rfl <| G.a 25 C X1 d54_24 rfl rfl <| G.o 28 (cells' := 1) (slots' := 34) (argsL := [(.int 16), (.int 34)]) (St := [(.int 0), (.ref a1), (.int 0), (.ref tb)]) C X1 (wd163 hw) (wd1 hw) (by decide) (wd3 hw) (wd2 hw) (ctMn1A hw X1.2.1) (lenOf pd6 rfl) rfl d54_25 rfl rfl (by decide) (nQ rfl) rfl rfl (by decide) (by decide) (fun v6 T6 h6 Q6 X6 z6 => ?_)
 obtain ⟨hv6, hh6⟩ := Q6
 subst hv6; rw [hh6] at X6
 refine G.ax 31 (us := ((List.range 16).map fun i => (tx W).getD (0 + i) (.int 0))) (vr := (((List.range 16).map fun i => (tx W).getD (0 + i) (.int 0)) ++ [.int (0 : Int32), .int (0 : Int32), .int (0 : Int32), .int (0 : Int32), .int (0 : Int32), .int (0 : Int32), .int (0 : Int32), .int (0 : Int32), .int (0 : Int32), .int (0 : Int32), .int (0 : Int32), .int (0 : Int32), .int (0 : Int32), .int (0 : Int32), .int (0 : Int32), .int (0 : Int32), .int (0 : Int32), .int (0 : Int32)])) C X6 (wd164 hw) (wd102 hw) (wd100 hw) (wd101 hw) f5 V1 rfl (by decide) (by decide) (by decide) (by decide) (by decide) rfl (nQ rfl) rfl q1 d54_28 rfl rfl (by decide) (nQ rfl) (fun T7 h7 X7 K7 V7 => ?_)
 replace V7 : Arv Z h7 a1 k1 .byte (34 : Int32) (tx W) (.int 0) := V7.pad (own_cpy _ _ 16 18 (by rw [tx_len]; exact hW))
 have K8 := K4.trans K7 (allS (Or.inr sz3) all0)
 refine G.b 32 C X7 d54_31 rfl rfl rfl ?_
 have f9 := (A1.keep K7)
 exact G.J C X7 d54_32 hret rfl rfl hlk (⟨a1, k1, rfl, K8, sz3, f9, V7⟩) (by decide) (by decide)
theorem ctEcGA {l : Launch} {Z : State} {a0 : Array Value} (hw : HW a0 Z) {n0 : Nat} {h0 : Heap} (hn0 : n0 ≤ h0.size) (sb tb : Addr) (kt : ClassId) (W : List Int32) (jj : Int32) (nn : Int32) (Es : Exa Z h0 sb zq3) (Fv : Fld Z h0 sb zq1 "value" "[B" (.ref tb)) (Fc : Fld Z h0 sb zq1 "coder" "B" (.int 0)) (Vt : Arv Z h0 tb kt .byte (16 : Int32) (tx W) (.int 0)) (Fn : Fld Z h0 sb zq1 "count" "I" (.int nn)) (gs : n0 ≤ sb) (hj1 : (0 : Int32) < jj - 16) (hj2 : jj - 16 < 18) (hW : W.length ≤ 16) :
 Ctr l Z (⟨zq1, zq49, "(I)V"⟩ : MethodName) jdk_68_method_9_code 3 none (rQ 3 1 34 64) n0 #[(.ref sb), (.int jj)] h0 (fun v h => ∃ (t : Addr) (k : ClassId), v = none ∧ Keep h0 h [sb] ∧ h0.size ≤ t ∧ Exa Z h sb zq3 ∧ Fld Z h sb zq1 "value" "[B" (.ref t) ∧ Fld Z h sb zq1 "coder" "B" (.int 0) ∧ Fld Z h sb zq1 "count" "I" (.int nn) ∧ Exa Z h t "[B" ∧ Arv Z h t k .byte (34 : Int32) (tx W) (.int 0)) := by
 refine Ctr.of (by decide +kernel) hn0 ?_
 intro p e s m below meth c T0 C hnm hret hlk X0
 rw [ef13 m sb jj]
 refine G.b 1 C X0 d13_0 rfl rfl rfl <| G.v 4 C X0 (hQ (wd51 hw)) Via.refl Fv d13_1 rfl fun T1 X1 => G.aa 5 C X1 Vt d13_4 rfl <| G.b 6 C X1 d13_5 rfl rfl rfl <| G.v 9 C X1 (hQ (wd53 hw)) Via.refl Fc d13_6 rfl fun T2 X2 => G.ah 10 (z := (16 : Int32)) C X2 d13_9 rfl (by decide) <| G.g 11 C X2 d13_10 rfl (l' := #[vR sb, vI jj, vI 16]) rfl <| G.a 12 C X2 d13_11 rfl rfl <| G.a 13 C X2 d13_12 rfl rfl <| G.u 14 (z := (jj - (16 : Int32))) C X2 d13_13 rfl rfl <| G.q 17 C X2 d13_14 rfl (tlt hj1).2.2.2 <| G.b 18 C X2 d13_17 rfl rfl rfl <| G.b 19 C X2 d13_18 rfl rfl rfl <| G.v 22 C X2 (hQ (wd51 hw)) Via.refl Fv d13_19 rfl fun T3 X3 => G.b 23 C X3 d13_22 rfl rfl rfl ?_
 refine G.a 24 C X3 d13_23 rfl rfl <| G.N 27 (cells' := 0) (slots' := 0) (argsL := [(.int jj)]) (St := [(.ref tb), (.ref sb)]) C X3 (wd281 hw) (wd282 hw) (wd283 hw) (wd81 hw) rfl (by decide) Es (wd285 hw) (wd47 hw) (ctNcA hw X3.2.1 sb tb kt W jj Es Fv Fc Vt hj2) (lenOf pd8 rfl) rfl d13_24 rfl rfl (by decide) (nQ rfl) rfl rfl (by decide) (by decide) (fun v4 T4 h4 Q4 X4 z4 => ?_)
 obtain ⟨hv4, hh4⟩ := Q4
 subst hv4; rw [hh4] at X4
 refine G.b 28 C X4 d13_27 rfl rfl rfl <| G.v 31 C X4 (hQ (wd53 hw)) Via.refl Fc d13_28 rfl fun T5 X5 => G.ar 32 (z := (34 : Int32)) C X5 d13_31 rfl (by decide) <| G.o 35 (cells' := 1) (slots' := 34) (argsL := [(.ref tb), (.int 34)]) (St := [(.ref sb)]) C X5 (wd295 hw) (wd296 hw) (by decide) (wd297 hw) (wd155 hw) (ctCoA hw X5.2.1 tb kt W Vt hW) (lenOf pd9 rfl) rfl d13_32 rfl rfl (by decide) (nQ rfl) rfl rfl (by decide) (by decide) (fun v6 T6 h6 Q6 X6 z6 => ?_)
 obtain ⟨t6, k6, hv6, K6, hz6, Et6, Vt6⟩ := Q6
 subst hv6
 have K7 := (Keep.refl h0 [sb]).trans K6 all0
 have ns6 : sb ≠ t6 := Nat.ne_of_lt (Nat.lt_of_lt_of_le Es.lt hz6)
 have f8 := (Fv.keep K6 nin0)
 have f9 := (Es.keep K6)
 refine G.I 38 C X6 (hQ (wd51 hw)) Via.refl f8 f9 gs (Or.inl (wd52 hw)) (wd38 hw) (ty := (.array .byte)) (by decide) rfl rfl d13_35 rfl (fun T10 h10 X10 W10 F10 => ?_)
 have K11 := K7.wr W10 (mQ 0 rfl)
 have f12 := (f9.wr W10)
 have f13 := ((Fc.keep K6 nin0).other W10 (Or.inr (sQ2 hw)))
 have f14 := ((Fn.keep K6 nin0).other W10 (Or.inr (sQ4 hw)))
 have f15 := (Et6.wr W10)
 have f16 := (Vt6.other W10 (Ne.symm ns6))
 exact G.ab C X10 d13_38 hret hlk (⟨t6, k6, rfl, K11, hz6, f12, F10, f13, f14, f15, f16⟩) (by decide) (by decide)
theorem ef15 (m : MethodId) (x0 : Addr) (x1 : Addr) : entryFrame m #[(.ref x0), (.ref x1)] 2 = mkF m 0 #[.val (.ref x0), .val (.ref x1)] [] := by first | (simp [entryFrame, mkF, argsToLocals, Value.category]; done) | rfl
theorem ctIfA {l : Launch} {Z : State} {a0 : Array Value} (hw : HW a0 Z) {n0 : Nat} {h0 : Heap} (hn0 : n0 ≤ h0.size) (sb sr : Addr) (cz : Int32) (Fc : Fld Z h0 sb zq1 "coder" "B" (.int 0)) (Er : Exa Z h0 sr zq0) (Rc : Fld Z h0 sr zq0 "coder" "B" (.int 0)) (OD : Old Z n0 h0) (S2 : Sta Z Z.heap zq0 zq5 "Z" (.int cz)) (hcz : ¬ cz = 0) :
 Ctr l Z (⟨zq1, zq54, zq44⟩ : MethodName) jdk_68_method_71_code 2 none (rQ 1 0 0 16) n0 #[(.ref sb), (.ref sr)] h0 (fun v h => v = none ∧ h = h0) := by
 refine Ctr.of (by decide +kernel) hn0 ?_
 intro p e s m below meth c T0 C hnm hret hlk X0
 rw [ef15 m sb sr]
 refine G.x 3 C X0 (hQ (wd50 hw)) Via.refl (S2.ext OD.2) d15_0 rfl fun T1 X1 => G.q 6 C X1 d15_3 rfl (feq hcz).1 <| G.b 7 C X1 d15_6 rfl rfl rfl <| G.v 10 C X1 (hQ (wd53 hw)) Via.refl Fc d15_7 rfl fun T2 X2 => G.b 11 C X2 d15_10 rfl rfl rfl <| G.D 14 (cells' := 0) (slots' := 0) (argsL := []) (St := [(.int 0)]) C X2 (wd93 hw) (wd71 hw) (wd73 hw) (wd72 hw) (by decide) Er (wd74 hw) (wd10 hw) (ctCoderA hw X2.2.1 sr cz Rc OD S2 hcz) (lenOf pd4 rfl) rfl d15_11 rfl rfl (by decide) (nQ rfl) rfl rfl (by decide) (by decide) (fun v3 T3 h3 Q3 X3 z3 => ?_)
 obtain ⟨hv3, hh3⟩ := Q3
 subst hv3; rw [hh3] at X3
 refine G.j 21 C X3 d15_14 (teq (by decide : (0 : Int32) = 0)).1 (by decide) (by decide) ?_
 exact G.ab C X3 d15_21 hret hlk (⟨rfl, rfl⟩) (by decide) (by decide)
theorem ef16 (m : MethodId) (x0 : Addr) (x1 : Addr) (x2 : Int32) (x3 : Int32) : entryFrame m #[(.ref x0), (.ref x1), (.int x2), (.int x3)] 4 = mkF m 0 #[.val (.ref x0), .val (.ref x1), .val (.int x2), .val (.int x3)] [] := by first | (simp [entryFrame, mkF, argsToLocals, Value.category]; done) | rfl
theorem ctGbA {l : Launch} {Z : State} {a0 : Array Value} (hw : HW a0 Z) {n0 : Nat} {h0 : Heap} (hn0 : n0 ≤ h0.size) (sr ru tb : Addr) (kr kt : ClassId) (M W : List Int32) (cp cz : Int32) (Er : Exa Z h0 sr zq0) (Rv : Fld Z h0 sr zq0 "value" "[B" (.ref ru)) (Rc : Fld Z h0 sr zq0 "coder" "B" (.int 0)) (Vr : Arv Z h0 ru kr .byte (own_n (M).length) (tx M) (.int 0)) (Vt : Arv Z h0 tb kt .byte cp (tx W) (.int 0)) (gt : n0 ≤ tb) (nrt : ru ≠ tb) (hb : W.length + M.length < 1000) (hfit : W.length + M.length ≤ cp.toNatClampNeg) (OD : Old Z n0 h0) (S2 : Sta Z Z.heap zq0 zq5 "Z" (.int cz)) (hcz : ¬ cz = 0) :
 Ctr l Z (⟨zq0, "getBytes", "([BIB)V"⟩ : MethodName) jdk_42_method_147_code 4 none (rQ 1 0 0 24) n0 #[(.ref sr), (.ref tb), (.int (own_n (W).length)), (.int 0)] h0 (fun v h => v = none ∧ Keep h0 h [tb] ∧ Arv Z h tb kt .byte cp (tx (W ++ M)) (.int 0)) := by
 refine Ctr.of (by decide +kernel) hn0 ?_
 intro p e s m below meth c T0 C hnm hret hlk X0
 rw [ef16 m sr tb (own_n (W).length) (0 : Int32)]
 refine G.b 1 C X0 d16_0 rfl rfl rfl <| G.D 4 (cells' := 0) (slots' := 0) (argsL := []) (St := []) C X0 (wd70 hw) (wd71 hw) (wd73 hw) (wd72 hw) (by decide) Er (wd74 hw) (wd10 hw) (ctCoderA hw X0.2.1 sr cz Rc OD S2 hcz) (lenOf pd4 rfl) rfl d16_1 rfl rfl (by decide) (nQ rfl) rfl rfl (by decide) (by decide) (fun v1 T1 h1 Q1 X1 z1 => ?_)
 obtain ⟨hv1, hh1⟩ := Q1
 subst hv1; rw [hh1] at X1
 refine G.a 5 C X1 d16_4 rfl rfl <| G.k 8 C X1 d16_5 rfl (teq (by decide : (0 : Int32) = 0)).2 <| G.b 9 C X1 d16_8 rfl rfl rfl <| G.v 12 C X1 (hQ (wd28 hw)) Via.refl Rv d16_9 rfl fun T2 X2 => G.i 13 (z := 0) C X2 d16_12 rfl (by decide) <| G.b 14 C X2 d16_13 rfl rfl rfl <| G.a 15 C X2 d16_14 rfl rfl <| G.a 16 C X2 d16_15 rfl rfl <| G.ar 17 (z := (own_n (W).length)) C X2 d16_16 rfl (own_shl0 _) <| G.b 18 C X2 d16_17 rfl rfl rfl <| G.v 21 C X2 (hQ (wd28 hw)) Via.refl Rv d16_18 rfl fun T3 X3 => G.aa 22 C X3 Vr d16_21 rfl <| G.ax 25 (us := (tx M)) (vr := (tx (W ++ M))) C X3 (wd99 hw) (wd102 hw) (wd100 hw) (wd101 hw) Vr (Vt.pad (pad_rep (tx W) (.int 0) M.length)) rfl (by decide) (own_n_ge (by omega)) (own_n_ge (by omega)) (own_c0 _) (own_wh hb hfit) (own_us M _ (by omega)) (own_wl hb) (own_vr W M _ hb) gt d16_22 rfl rfl (by decide) (nQ rfl) (fun T4 h4 X4 K4 V4 => ?_)
 have K5 := (Keep.refl h0 [tb]).trans K4 (allS (mQ 0 rfl) all0)
 refine G.r 43 C X4 d16_25 (by decide) (by decide) ?_
 exact G.ab C X4 d16_43 hret hlk (⟨rfl, K5, V4⟩) (by decide) (by decide)
theorem ef14 (m : MethodId) (x0 : Addr) (x1 : Int32) (x2 : Addr) : entryFrame m #[(.ref x0), (.int x1), (.ref x2)] 3 = mkF m 0 #[.val (.ref x0), .val (.int x1), .val (.ref x2)] [] := by first | (simp [entryFrame, mkF, argsToLocals, Value.category]; done) | rfl
theorem ctPutA {l : Launch} {Z : State} {a0 : Array Value} (hw : HW a0 Z) {n0 : Nat} {h0 : Heap} (hn0 : n0 ≤ h0.size) (sb : Addr) (sr ru tb : Addr) (kr kt : ClassId) (M W : List Int32) (cp cz : Int32) (Es : Exa Z h0 sb zq3) (Fv : Fld Z h0 sb zq1 "value" "[B" (.ref tb)) (Fc : Fld Z h0 sb zq1 "coder" "B" (.int 0)) (nst : sb ≠ tb) (Er : Exa Z h0 sr zq0) (Rv : Fld Z h0 sr zq0 "value" "[B" (.ref ru)) (Rc : Fld Z h0 sr zq0 "coder" "B" (.int 0)) (Vr : Arv Z h0 ru kr .byte (own_n (M).length) (tx M) (.int 0)) (Vt : Arv Z h0 tb kt .byte cp (tx W) (.int 0)) (gt : n0 ≤ tb) (nrt : ru ≠ tb) (hb : W.length + M.length < 1000) (hfit : W.length + M.length ≤ cp.toNatClampNeg) (OD : Old Z n0 h0) (S2 : Sta Z Z.heap zq0 zq5 "Z" (.int cz)) (hcz : ¬ cz = 0) :
 Ctr l Z (⟨zq1, "putStringAt", zq45⟩ : MethodName) jdk_68_method_73_code 3 none (rQ 2 0 0 44) n0 #[(.ref sb), (.int (own_n (W).length)), (.ref sr)] h0 (fun v h => v = none ∧ Keep h0 h [tb] ∧ Arv Z h tb kt .byte cp (tx (W ++ M)) (.int 0)) := by
 refine Ctr.of (by decide +kernel) hn0 ?_
 intro p e s m below meth c T0 C hnm hret hlk X0
 rw [ef14 m sb (own_n (W).length) sr]
 refine G.b 1 C X0 d14_0 rfl rfl rfl <| G.b 2 C X0 d14_1 rfl rfl rfl <| G.N 5 (cells' := 0) (slots' := 0) (argsL := [(.ref sr)]) (St := []) C X0 (wd88 hw) (wd89 hw) (wd90 hw) (wd81 hw) rfl (by decide) Es (wd92 hw) (wd47 hw) (ctIfA hw X0.2.1 sb sr cz Fc Er Rc OD S2 hcz) (lenOf pd10 rfl) rfl d14_2 rfl rfl (by decide) (nQ rfl) rfl rfl (by decide) (by decide) (fun v1 T1 h1 Q1 X1 z1 => ?_)
 obtain ⟨hv1, hh1⟩ := Q1
 subst hv1; rw [hh1] at X1
 refine G.b 6 C X1 d14_5 rfl rfl rfl <| G.b 7 C X1 d14_6 rfl rfl rfl <| G.v 10 C X1 (hQ (wd51 hw)) Via.refl Fv d14_7 rfl fun T2 X2 => G.a 11 C X2 d14_10 rfl rfl <| G.b 12 C X2 d14_11 rfl rfl rfl <| G.v 15 C X2 (hQ (wd53 hw)) Via.refl Fc d14_12 rfl fun T3 X3 => G.D 18 (cells' := 0) (slots' := 0) (argsL := [(.ref tb), (.int (own_n (W).length)), (.int 0)]) (St := []) C X3 (wd94 hw) (wd95 hw) (wd97 hw) (wd96 hw) (by decide) Er (wd98 hw) (wd10 hw) (ctGbA hw X3.2.1 sr ru tb kr kt M W cp cz Er Rv Rc Vr Vt gt nrt hb hfit OD S2 hcz) (lenOf pd11 rfl) rfl d14_15 rfl rfl (by decide) (nQ rfl) rfl rfl (by decide) (by decide) (fun v4 T4 h4 Q4 X4 z4 => ?_)
 obtain ⟨hv4, K4, Vt4⟩ := Q4
 subst hv4
 have K5 := (Keep.refl h0 [tb]).trans K4 (allS (mQ 0 rfl) all0)
 exact G.ab C X4 d14_18 hret hlk (⟨rfl, K5, Vt4⟩) (by decide) (by decide)
theorem ef10 (m : MethodId) (x0 : Addr) (x1 : Addr) : entryFrame m #[(.ref x0), (.ref x1)] 3 = mkF m 0 #[.val (.ref x0), .val (.ref x1), .unset] [] := by first | (simp [entryFrame, mkF, argsToLocals, Value.category]; done) | rfl
theorem ctAapFA {l : Launch} {Z : State} {a0 : Array Value} (hw : HW a0 Z) {n0 : Nat} {h0 : Heap} (hn0 : n0 ≤ h0.size) (sb tb : Addr) (kt : ClassId) (W : List Int32) (cp : Int32) (sr ru : Addr) (kr : ClassId) (M : List Int32) (cz : Int32) (Es : Exa Z h0 sb zq3) (Fv : Fld Z h0 sb zq1 "value" "[B" (.ref tb)) (Fc : Fld Z h0 sb zq1 "coder" "B" (.int 0)) (Fn : Fld Z h0 sb zq1 "count" "I" (.int (own_n (W).length))) (Et : Exa Z h0 tb "[B") (Vt : Arv Z h0 tb kt .byte cp (tx W) (.int 0)) (gs : n0 ≤ sb) (gt : n0 ≤ tb) (nst : sb ≠ tb) (Er : Exa Z h0 sr zq0) (Rv : Fld Z h0 sr zq0 "value" "[B" (.ref ru)) (Rc : Fld Z h0 sr zq0 "coder" "B" (.int 0)) (Vr : Arv Z h0 ru kr .byte (own_n (M).length) (tx M) (.int 0)) (nrt : ru ≠ tb) (nsr : sr ≠ sb) (nsq : sr ≠ tb) (hb : W.length + M.length < 1000) (hcp : cp = 16 ∨ cp = 34) (hfit : W.length + M.length ≤ cp.toNatClampNeg) (hj : ¬ (0 : Int32) < (own_n ((W ++ M)).length) - cp) (OD : Old Z n0 h0) (S2 : Sta Z Z.heap zq0 zq5 "Z" (.int cz)) (hcz : ¬ cz = 0) :
 Ctr l Z (⟨zq1, "append", zq27⟩ : MethodName) jdk_68_method_22_code 3 (some (.object zq1)) (rQ 4 1 34 100) n0 #[(.ref sb), (.ref sr)] h0 (fun v h => ∃ (t : Addr) (k : ClassId) (cq : Int32), v = some (.ref sb) ∧ Keep h0 h [sb, tb] ∧ (t = tb ∨ h0.size ≤ t) ∧ (cq = 16 ∨ cq = 34) ∧ (W ++ M).length ≤ cq.toNatClampNeg ∧ sb ≠ t ∧ Exa Z h sb zq3 ∧ Fld Z h sb zq1 "value" "[B" (.ref t) ∧ Fld Z h sb zq1 "coder" "B" (.int 0) ∧ Fld Z h sb zq1 "count" "I" (.int (own_n ((W ++ M)).length)) ∧ Exa Z h t "[B" ∧ Arv Z h t k .byte cq (tx (W ++ M)) (.int 0)) := by
 refine Ctr.of (by decide +kernel) hn0 ?_
 intro p e s m below meth c T0 C hnm hret hlk X0
 rw [ef10 m sb sr]
 refine G.b 1 C X0 d10_0 rfl rfl rfl <| G.at 9 C X0 d10_1 (by decide) (by decide) <| G.b 10 C X0 d10_9 rfl rfl rfl <| G.D 13 (cells' := 0) (slots' := 0) (argsL := []) (St := []) C X0 (wd65 hw) (wd66 hw) (wd68 hw) (wd67 hw) (by decide) Er (wd69 hw) (wd10 hw) (ctLenA hw X0.2.1 sr ru kr M cz Er Rv Rc Vr OD S2 hcz) (lenOf pd12 rfl) rfl d10_10 rfl rfl (by decide) (nQ rfl) rfl rfl (by decide) (by decide) (fun v1 T1 h1 Q1 X1 z1 => ?_)
 obtain ⟨hv1, hh1⟩ := Q1
 subst hv1; rw [hh1] at X1
 refine G.g 14 C X1 d10_13 rfl (l' := #[vR sb, vR sr, vI (own_n (M).length)]) rfl <| G.b 15 C X1 d10_14 rfl rfl rfl <| G.b 16 C X1 d10_15 rfl rfl rfl <| G.v 19 C X1 (hQ (wd76 hw)) Via.refl Fn d10_16 rfl fun T2 X2 => G.a 20 C X2 d10_19 rfl rfl <| G.z 21 (z := (own_n ((W ++ M)).length)) C X2 d10_20 rfl (own_n_app W M) <| G.N 24 (cells' := 0) (slots' := 0) (argsL := [(.int (own_n ((W ++ M)).length))]) (St := []) C X2 (wd78 hw) (wd79 hw) (wd80 hw) (wd81 hw) rfl (by decide) Es (wd82 hw) (wd47 hw) (ctEcFA hw X2.2.1 sb tb kt _ cp _ Es Fv Fc Vt hj) (lenOf pd5 rfl) rfl d10_21 rfl rfl (by decide) (nQ rfl) rfl rfl (by decide) (by decide) (fun v3 T3 h3 Q3 X3 z3 => ?_)
 obtain ⟨hv3, hh3⟩ := Q3
 subst hv3; rw [hh3] at X3
 refine G.b 25 C X3 d10_24 rfl rfl rfl <| G.b 26 C X3 d10_25 rfl rfl rfl <| G.v 29 C X3 (hQ (wd76 hw)) Via.refl Fn d10_26 rfl fun T4 X4 => G.b 30 C X4 d10_29 rfl rfl rfl <| G.N 33 (cells' := 0) (slots' := 0) (argsL := [(.int (own_n (W).length)), (.ref sr)]) (St := []) C X4 (wd83 hw) (wd84 hw) (wd85 hw) (wd81 hw) rfl (by decide) Es (wd87 hw) (wd47 hw) (ctPutA hw X4.2.1 sb sr ru tb kr kt M W cp cz Es Fv Fc nst Er Rv Rc Vr Vt gt nrt hb hfit OD S2 hcz) (lenOf pd13 rfl) rfl d10_30 rfl rfl (by decide) (nQ rfl) rfl rfl (by decide) (by decide) (fun v5 T5 h5 Q5 X5 z5 => ?_)
 obtain ⟨hv5, K5, Vt5⟩ := Q5
 subst hv5
 have K6 := (Keep.refl h0 [sb, tb]).trans K5 (allS (mQ 1 rfl) all0)
 refine G.b 34 C X5 d10_33 rfl rfl rfl <| G.ad 35 C X5 d10_34 rfl rfl ?_
 have f7 := (Fn.keep K5 (ninS nst nin0))
 refine G.v 38 C X5 (hQ (wd76 hw)) Via.refl f7 d10_35 rfl fun T8 X8 => G.a 39 C X8 d10_38 rfl rfl <| G.z 40 (z := (own_n ((W ++ M)).length)) C X8 d10_39 rfl (own_n_app W M) ?_
 have f9 := (Es.keep K5)
 refine G.I 43 C X8 (hQ (wd76 hw)) Via.refl f7 f9 gs (Or.inl (wd77 hw)) (wd38 hw) (ty := .int) (by decide) rfl rfl d10_40 rfl (fun T10 h10 X10 W10 F10 => ?_)
 have K11 := K6.wr W10 (mQ 0 rfl)
 refine G.b 44 C X10 d10_43 rfl rfl rfl ?_
 have f12 := (f9.wr W10)
 have f13 := ((Fv.keep K5 (ninS nst nin0)).other W10 (Or.inr (sQ6 hw)))
 have f14 := ((Fc.keep K5 (ninS nst nin0)).other W10 (Or.inr (sQ7 hw)))
 have f15 := ((Et.keep K5).wr W10)
 have f16 := (Vt5.other W10 (Ne.symm nst))
 exact G.J C X10 d10_44 hret rfl rfl hlk (⟨tb, kt, cp, rfl, K11, Or.inl rfl, hcp, (by rw [List.length_append]; exact hfit), nst, f12, f13, f14, F10, f15, f16⟩) (by decide) (by decide)
theorem ctAapGA {l : Launch} {Z : State} {a0 : Array Value} (hw : HW a0 Z) {n0 : Nat} {h0 : Heap} (hn0 : n0 ≤ h0.size) (sb tb : Addr) (kt : ClassId) (W : List Int32) (sr ru : Addr) (kr : ClassId) (M : List Int32) (cz : Int32) (Es : Exa Z h0 sb zq3) (Fv : Fld Z h0 sb zq1 "value" "[B" (.ref tb)) (Fc : Fld Z h0 sb zq1 "coder" "B" (.int 0)) (Fn : Fld Z h0 sb zq1 "count" "I" (.int (own_n (W).length))) (Et : Exa Z h0 tb "[B") (Vt : Arv Z h0 tb kt .byte (16 : Int32) (tx W) (.int 0)) (gs : n0 ≤ sb) (gt : n0 ≤ tb) (nst : sb ≠ tb) (Er : Exa Z h0 sr zq0) (Rv : Fld Z h0 sr zq0 "value" "[B" (.ref ru)) (Rc : Fld Z h0 sr zq0 "coder" "B" (.int 0)) (Vr : Arv Z h0 ru kr .byte (own_n (M).length) (tx M) (.int 0)) (nrt : ru ≠ tb) (nsr : sr ≠ sb) (nsq : sr ≠ tb) (hb : W.length + M.length < 1000) (hW : W.length ≤ 16) (hg : (0 : Int32) < (own_n ((W ++ M)).length) - 16 ∧ (own_n ((W ++ M)).length) - 16 < 18) (hl34 : W.length + M.length < 34) (OD : Old Z n0 h0) (S2 : Sta Z Z.heap zq0 zq5 "Z" (.int cz)) (hcz : ¬ cz = 0) :
 Ctr l Z (⟨zq1, "append", zq27⟩ : MethodName) jdk_68_method_22_code 3 (some (.object zq1)) (rQ 4 1 34 100) n0 #[(.ref sb), (.ref sr)] h0 (fun v h => ∃ (t : Addr) (k : ClassId) (cq : Int32), v = some (.ref sb) ∧ Keep h0 h [sb, tb] ∧ (t = tb ∨ h0.size ≤ t) ∧ (cq = 16 ∨ cq = 34) ∧ (W ++ M).length ≤ cq.toNatClampNeg ∧ sb ≠ t ∧ Exa Z h sb zq3 ∧ Fld Z h sb zq1 "value" "[B" (.ref t) ∧ Fld Z h sb zq1 "coder" "B" (.int 0) ∧ Fld Z h sb zq1 "count" "I" (.int (own_n ((W ++ M)).length)) ∧ Exa Z h t "[B" ∧ Arv Z h t k .byte cq (tx (W ++ M)) (.int 0)) := by
 refine Ctr.of (by decide +kernel) hn0 ?_
 intro p e s m below meth c T0 C hnm hret hlk X0
 rw [ef10 m sb sr]
 refine G.b 1 C X0 d10_0 rfl rfl rfl <| G.at 9 C X0 d10_1 (by decide) (by decide) <| G.b 10 C X0 d10_9 rfl rfl rfl <| G.D 13 (cells' := 0) (slots' := 0) (argsL := []) (St := []) C X0 (wd65 hw) (wd66 hw) (wd68 hw) (wd67 hw) (by decide) Er (wd69 hw) (wd10 hw) (ctLenA hw X0.2.1 sr ru kr M cz Er Rv Rc Vr OD S2 hcz) (lenOf pd12 rfl) rfl d10_10 rfl rfl (by decide) (nQ rfl) rfl rfl (by decide) (by decide) (fun v1 T1 h1 Q1 X1 z1 => ?_)
 obtain ⟨hv1, hh1⟩ := Q1
 subst hv1; rw [hh1] at X1
 refine G.g 14 C X1 d10_13 rfl (l' := #[vR sb, vR sr, vI (own_n (M).length)]) rfl <| G.b 15 C X1 d10_14 rfl rfl rfl <| G.b 16 C X1 d10_15 rfl rfl rfl <| G.v 19 C X1 (hQ (wd76 hw)) Via.refl Fn d10_16 rfl fun T2 X2 => G.a 20 C X2 d10_19 rfl rfl <| G.z 21 (z := (own_n ((W ++ M)).length)) C X2 d10_20 rfl (own_n_app W M) <| G.N 24 (cells' := 1) (slots' := 34) (argsL := [(.int (own_n ((W ++ M)).length))]) (St := []) C X2 (wd78 hw) (wd79 hw) (wd80 hw) (wd81 hw) rfl (by decide) Es (wd82 hw) (wd47 hw) (ctEcGA hw X2.2.1 sb tb kt W _ _ Es Fv Fc Vt Fn gs hg.1 hg.2 hW) (lenOf pd5 rfl) rfl d10_21 rfl rfl (by decide) (nQ rfl) rfl rfl (by decide) (by decide) (fun v3 T3 h3 Q3 X3 z3 => ?_)
 obtain ⟨t3, k3, hv3, K3, hz3, Es3, Fv3, Fc3, Fn3, Et3, Vt3⟩ := Q3
 subst hv3
 have K4 := (Keep.refl h0 [sb, tb]).trans K3 (allS (mQ 0 rfl) all0)
 have nb3_sb : sb ≠ t3 := Nat.ne_of_lt (Nat.lt_of_lt_of_le Es.lt hz3)
 have nb3_ru : ru ≠ t3 := Nat.ne_of_lt (Nat.lt_of_lt_of_le Vr.lt hz3)
 refine G.b 25 C X3 d10_24 rfl rfl rfl <| G.b 26 C X3 d10_25 rfl rfl rfl <| G.v 29 C X3 (hQ (wd76 hw)) Via.refl Fn3 d10_26 rfl fun T5 X5 => G.b 30 C X5 d10_29 rfl rfl rfl ?_
 have f6 := (Er.keep K3)
 have f7 := (Rv.keep K3 (ninS nsr nin0))
 have f8 := (Rc.keep K3 (ninS nsr nin0))
 have f9 := (Vr.keep K3 (ninS (Ne.symm (Exa.neArv Es Vr (wd38 hw))) nin0))
 have f10 := (OD.keep K3 (allS gs all0))
 refine G.N 33 (cells' := 1) (slots' := 34) (argsL := [(.int (own_n (W).length)), (.ref sr)]) (St := []) C X5 (wd83 hw) (wd84 hw) (wd85 hw) (wd81 hw) rfl (by decide) Es3 (wd87 hw) (wd47 hw) (ctPutA hw X5.2.1 sb sr ru t3 kr k3 M W (34 : Int32) cz Es3 Fv3 Fc3 nb3_sb f6 f7 f8 f9 Vt3 (Nat.le_trans X2.2.1 hz3) nb3_ru hb (by rw [own_cp34]; omega) f10 S2 hcz) (lenOf pd13 rfl) rfl d10_30 rfl rfl (by decide) (nQ rfl) rfl rfl (by decide) (by decide) (fun v11 T11 h11 Q11 X11 z11 => ?_)
 obtain ⟨hv11, K11, Vt11⟩ := Q11
 subst hv11
 have K12 := K4.trans K11 (allS (Or.inr (Nat.le_trans (Keep.refl h0 [sb, tb]).1 hz3)) all0)
 refine G.b 34 C X11 d10_33 rfl rfl rfl <| G.ad 35 C X11 d10_34 rfl rfl ?_
 have f13 := (Fn3.keep K11 (ninS nb3_sb nin0))
 refine G.v 38 C X11 (hQ (wd76 hw)) Via.refl f13 d10_35 rfl fun T14 X14 => G.a 39 C X14 d10_38 rfl rfl <| G.z 40 (z := (own_n ((W ++ M)).length)) C X14 d10_39 rfl (own_n_app W M) ?_
 have f15 := (Es3.keep K11)
 refine G.I 43 C X14 (hQ (wd76 hw)) Via.refl f13 f15 gs (Or.inl (wd77 hw)) (wd38 hw) (ty := .int) (by decide) rfl rfl d10_40 rfl (fun T16 h16 X16 W16 F16 => ?_)
 have K17 := K12.wr W16 (mQ 0 rfl)
 refine G.b 44 C X16 d10_43 rfl rfl rfl ?_
 have f18 := (f15.wr W16)
 have f19 := ((Fv3.keep K11 (ninS nb3_sb nin0)).other W16 (Or.inr (sQ6 hw)))
 have f20 := ((Fc3.keep K11 (ninS nb3_sb nin0)).other W16 (Or.inr (sQ7 hw)))
 have f21 := ((Et3.keep K11).wr W16)
 have f22 := (Vt11.other W16 (Ne.symm nb3_sb))
 exact G.J C X16 d10_44 hret rfl rfl hlk (⟨t3, k3, (34 : Int32), rfl, K17, Or.inr (Nat.le_trans (Keep.refl h0 [sb, tb]).1 hz3), Or.inr rfl, (by rw [own_cp34]; simp only [List.length_append, List.length_cons, List.length_nil]; omega), nb3_sb, f18, f19, f20, F16, f21, f22⟩) (by decide) (by decide)
theorem ctAapA {l : Launch} {Z : State} {a0 : Array Value} (hw : HW a0 Z) {n0 : Nat} {h0 : Heap} (hn0 : n0 ≤ h0.size) (sb tb : Addr) (kt : ClassId) (W : List Int32) (cp : Int32) (sr ru : Addr) (kr : ClassId) (M : List Int32) (cz : Int32) (Es : Exa Z h0 sb zq3) (Fv : Fld Z h0 sb zq1 "value" "[B" (.ref tb)) (Fc : Fld Z h0 sb zq1 "coder" "B" (.int 0)) (Fn : Fld Z h0 sb zq1 "count" "I" (.int (own_n (W).length))) (Et : Exa Z h0 tb "[B") (Vt : Arv Z h0 tb kt .byte cp (tx W) (.int 0)) (gs : n0 ≤ sb) (gt : n0 ≤ tb) (nst : sb ≠ tb) (Er : Exa Z h0 sr zq0) (Rv : Fld Z h0 sr zq0 "value" "[B" (.ref ru)) (Rc : Fld Z h0 sr zq0 "coder" "B" (.int 0)) (Vr : Arv Z h0 ru kr .byte (own_n (M).length) (tx M) (.int 0)) (nrt : ru ≠ tb) (nsr : sr ≠ sb) (nsq : sr ≠ tb) (hb : W.length + M.length < 1000) (hcp : cp = 16 ∨ cp = 34) (hwc : W.length ≤ cp.toNatClampNeg) (hl34 : W.length + M.length < 34) (OD : Old Z n0 h0) (S2 : Sta Z Z.heap zq0 zq5 "Z" (.int cz)) (hcz : ¬ cz = 0) :
    Ctr l Z (⟨zq1, "append", zq27⟩ : MethodName) jdk_68_method_22_code 3 (some (.object zq1)) (rQ 4 1 34 100) n0 #[(.ref sb), (.ref sr)] h0 (fun v h => ∃ (t : Addr) (k : ClassId) (cq : Int32), v = some (.ref sb) ∧ Keep h0 h [sb, tb] ∧ (t = tb ∨ h0.size ≤ t) ∧ (cq = 16 ∨ cq = 34) ∧ (W ++ M).length ≤ cq.toNatClampNeg ∧ sb ≠ t ∧ Exa Z h sb zq3 ∧ Fld Z h sb zq1 "value" "[B" (.ref t) ∧ Fld Z h sb zq1 "coder" "B" (.int 0) ∧ Fld Z h sb zq1 "count" "I" (.int (own_n ((W ++ M)).length)) ∧ Exa Z h t "[B" ∧ Arv Z h t k .byte cq (tx (W ++ M)) (.int 0)) := by
  have el : (W ++ M).length = W.length + M.length := List.length_append
  by_cases q : W.length + M.length ≤ cp.toNatClampNeg
  · exact ctAapFA hw hn0 sb tb kt W cp sr ru kr M cz Es Fv Fc Fn Et Vt gs gt nst Er Rv Rc Vr nrt nsr nsq hb hcp q (by rw [el]; exact own_fit hcp q) OD S2 hcz
  · rcases hcp with rfl | rfl
    · rw [own_cp16] at q hwc; exact ctAapGA hw hn0 sb tb kt W sr ru kr M cz Es Fv Fc Fn Et Vt gs gt nst Er Rv Rc Vr nrt nsr nsq hb hwc (by rw [el]; exact own_grow (by omega) hl34) hl34 OD S2 hcz
    · rw [own_cp34] at q; omega
theorem ef9 (m : MethodId) (x0 : Addr) (x1 : Addr) : entryFrame m #[(.ref x0), (.ref x1)] 2 = mkF m 0 #[.val (.ref x0), .val (.ref x1)] [] := by first | (simp [entryFrame, mkF, argsToLocals, Value.category]; done) | rfl
theorem ctAppA {l : Launch} {Z : State} {a0 : Array Value} (hw : HW a0 Z) {n0 : Nat} {h0 : Heap} (hn0 : n0 ≤ h0.size) (sb tb : Addr) (kt : ClassId) (W : List Int32) (cp : Int32) (sr ru : Addr) (kr : ClassId) (M : List Int32) (cz : Int32) (Es : Exa Z h0 sb zq3) (Fv : Fld Z h0 sb zq1 "value" "[B" (.ref tb)) (Fc : Fld Z h0 sb zq1 "coder" "B" (.int 0)) (Fn : Fld Z h0 sb zq1 "count" "I" (.int (own_n (W).length))) (Et : Exa Z h0 tb "[B") (Vt : Arv Z h0 tb kt .byte cp (tx W) (.int 0)) (gs : n0 ≤ sb) (gt : n0 ≤ tb) (nst : sb ≠ tb) (Er : Exa Z h0 sr zq0) (Rv : Fld Z h0 sr zq0 "value" "[B" (.ref ru)) (Rc : Fld Z h0 sr zq0 "coder" "B" (.int 0)) (Vr : Arv Z h0 ru kr .byte (own_n (M).length) (tx M) (.int 0)) (nrt : ru ≠ tb) (nsr : sr ≠ sb) (nsq : sr ≠ tb) (hb : W.length + M.length < 1000) (hcp : cp = 16 ∨ cp = 34) (hwc : W.length ≤ cp.toNatClampNeg) (hl34 : W.length + M.length < 34) (OD : Old Z n0 h0) (S2 : Sta Z Z.heap zq0 zq5 "Z" (.int cz)) (hcz : ¬ cz = 0) :
 Ctr l Z (⟨zq3, "append", zq39⟩ : MethodName) jdk_67_method_7_code 2 (some (.object zq3)) (rQ 5 1 34 130) n0 #[(.ref sb), (.ref sr)] h0 (fun v h => ∃ (t : Addr) (k : ClassId) (cq : Int32), v = some (.ref sb) ∧ Keep h0 h [sb, tb] ∧ (t = tb ∨ h0.size ≤ t) ∧ (cq = 16 ∨ cq = 34) ∧ (W ++ M).length ≤ cq.toNatClampNeg ∧ sb ≠ t ∧ Exa Z h sb zq3 ∧ Fld Z h sb zq1 "value" "[B" (.ref t) ∧ Fld Z h sb zq1 "coder" "B" (.int 0) ∧ Fld Z h sb zq1 "count" "I" (.int (own_n ((W ++ M)).length)) ∧ Exa Z h t "[B" ∧ Arv Z h t k .byte cq (tx (W ++ M)) (.int 0)) := by
 refine Ctr.of (by decide +kernel) hn0 ?_
 intro p e s m below meth c T0 C hnm hret hlk X0
 rw [ef9 m sb sr]
 refine G.b 1 C X0 d9_0 rfl rfl rfl <| G.b 2 C X0 d9_1 rfl rfl rfl <| G.aw 5 (cells' := 1) (slots' := 34) (argsL := [(.ref sr)]) (St := []) C X0 (wd60 hw) (wd61 hw) (wd81 hw) rfl (wd62 hw) (by decide) (by decide) (Ins.self Es) (wd64 hw) (wd47 hw) (ctAapA hw X0.2.1 sb tb kt W cp sr ru kr M cz Es Fv Fc Fn Et Vt gs gt nst Er Rv Rc Vr nrt nsr nsq hb hcp hwc hl34 OD S2 hcz) (lenOf pd14 rfl) rfl d9_2 rfl rfl (by decide) (nQ rfl) rfl rfl (by decide) (by decide) (fun v1 T1 h1 Q1 X1 z1 => ?_)
 obtain ⟨t1, k1, cq1, hv1, K1, hf1, hq1, hwl1, ns1, Es1, Fv1, Fc1, Fn1, Et1, Vt1⟩ := Q1
 subst hv1
 have K2 := (Keep.refl h0 [sb, tb]).trans K1 (allS (mQ 0 rfl) (allS (mQ 1 rfl) all0))
 have ga1 : n0 ≤ t1 := own_frg hf1 gt X0.2.1
 have iw1 : t1 ∈ [sb, tb] ∨ h0.size ≤ t1 := own_frw hf1 (mQ 1 rfl) (Keep.refl h0 [sb, tb]).1
 refine G.O 6 C X1 d9_5 rfl rfl <| G.b 7 C X1 d9_6 rfl rfl rfl ?_
 exact G.J C X1 d9_7 hret rfl rfl hlk (⟨t1, k1, cq1, rfl, K2, hf1, hq1, hwl1, ns1, Es1, Fv1, Fc1, Fn1, Et1, Vt1⟩) (by decide) (by decide)
theorem ef27 (m : MethodId) (x0 : Addr) : entryFrame m #[(.ref x0)] 1 = mkF m 0 #[.val (.ref x0)] [] := by first | (simp [entryFrame, mkF, argsToLocals, Value.category]; done) | rfl
theorem ctAlnA {l : Launch} {Z : State} {a0 : Array Value} (hw : HW a0 Z) {n0 : Nat} {h0 : Heap} (hn0 : n0 ≤ h0.size) (sb : Addr) (nn : Int32) (Es : Exa Z h0 sb zq3) (Fn : Fld Z h0 sb zq1 "count" "I" (.int nn)) :
 Ctr l Z (⟨zq1, "length", "()I"⟩ : MethodName) jdk_68_method_6_code 1 (some .int) (rQ 0 0 0 0) n0 #[(.ref sb)] h0 (fun v h => v = some (.int nn) ∧ h = h0) := by
 refine Ctr.of (by decide +kernel) hn0 ?_
 intro p e s m below meth c T0 C hnm hret hlk X0
 rw [ef27 m sb]
 refine G.b 1 C X0 d27_0 rfl rfl rfl <| G.v 4 C X0 (hQ (wd76 hw)) Via.refl Fn d27_1 rfl (fun T1 X1 => ?_)
 exact G.E C X1 d27_4 hret hlk (⟨rfl, rfl⟩) (by decide) (by decide)
theorem ef26 (m : MethodId) (x0 : Addr) : entryFrame m #[(.ref x0)] 1 = mkF m 0 #[.val (.ref x0)] [] := by first | (simp [entryFrame, mkF, argsToLocals, Value.category]; done) | rfl
theorem ctSlnA {l : Launch} {Z : State} {a0 : Array Value} (hw : HW a0 Z) {n0 : Nat} {h0 : Heap} (hn0 : n0 ≤ h0.size) (sb : Addr) (nn : Int32) (Es : Exa Z h0 sb zq3) (Fn : Fld Z h0 sb zq1 "count" "I" (.int nn)) :
 Ctr l Z (⟨zq3, "length", "()I"⟩ : MethodName) jdk_67_method_93_code 1 (some .int) (rQ 1 0 0 14) n0 #[(.ref sb)] h0 (fun v h => v = some (.int nn) ∧ h = h0) := by
 refine Ctr.of (by decide +kernel) hn0 ?_
 intro p e s m below meth c T0 C hnm hret hlk X0
 rw [ef26 m sb]
 refine G.b 1 C X0 d26_0 rfl rfl rfl <| G.aw 4 (cells' := 0) (slots' := 0) (argsL := []) (St := []) C X0 (wd150 hw) (wd146 hw) (wd81 hw) rfl (wd62 hw) (by decide) (by decide) (Ins.self Es) (wd151 hw) (wd47 hw) (ctAlnA hw X0.2.1 sb _ Es Fn) (lenOf pd12 rfl) rfl d26_1 rfl rfl (by decide) (nQ rfl) rfl rfl (by decide) (by decide) (fun v1 T1 h1 Q1 X1 z1 => ?_)
 obtain ⟨hv1, hh1⟩ := Q1
 subst hv1; rw [hh1] at X1
 exact G.E C X1 d26_4 hret hlk (⟨rfl, rfl⟩) (by decide) (by decide)
theorem ef25 (m : MethodId) (x0 : Addr) : entryFrame m #[(.ref x0)] 1 = mkF m 0 #[.val (.ref x0)] [] := by first | (simp [entryFrame, mkF, argsToLocals, Value.category]; done) | rfl
theorem ctGvA {l : Launch} {Z : State} {a0 : Array Value} (hw : HW a0 Z) {n0 : Nat} {h0 : Heap} (hn0 : n0 ≤ h0.size) (sb tb : Addr) (Fv : Fld Z h0 sb zq1 "value" "[B" (.ref tb)) :
 Ctr l Z (⟨zq1, "getValue", "()[B"⟩ : MethodName) jdk_68_method_64_code 1 (some (.array .byte)) (rQ 0 0 0 0) n0 #[(.ref sb)] h0 (fun v h => v = some (.ref tb) ∧ h = h0) := by
 refine Ctr.of (by decide +kernel) hn0 ?_
 intro p e s m below meth c T0 C hnm hret hlk X0
 rw [ef25 m sb]
 refine G.b 1 C X0 d25_0 rfl rfl rfl <| G.v 4 C X0 (hQ (wd51 hw)) Via.refl Fv d25_1 rfl (fun T1 X1 => ?_)
 exact G.J C X1 d25_4 hret rfl rfl hlk (⟨rfl, rfl⟩) (by decide) (by decide)
theorem ef30 (m : MethodId) (x0 : Int32) (x1 : Int32) : entryFrame m #[(.int x0), (.int x1)] 2 = mkF m 0 #[.val (.int x0), .val (.int x1)] [] := by first | (simp [entryFrame, mkF, argsToLocals, Value.category]; done) | rfl
theorem ctCkA {l : Launch} {Z : State} {a0 : Array Value} (hw : HW a0 Z) {n0 : Nat} {h0 : Heap} (hn0 : n0 ≤ h0.size) (nn : Int32) (hn : ¬ nn < 0) :
 Ctr l Z (⟨zq14, "checkLength", "(II)V"⟩ : MethodName) jdk_65_method_131_code 2 none (rQ 0 0 0 0) n0 #[(.int 0), (.int nn)] h0 (fun v h => v = none ∧ h = h0) := by
 refine Ctr.of (plainFor_of_name pn1) hn0 ?_
 intro p e s m below meth c T0 C hnm hret hlk X0
 rw [ef30 m (0 : Int32) nn]
 refine G.a 1 C X0 d30_0 rfl rfl <| G.a 2 C X0 d30_1 rfl rfl <| G.j 37 C X0 d30_2 (flt hn).2.1 (by decide) (by decide) ?_
 exact G.ab C X0 d30_37 hret hlk (⟨rfl, rfl⟩) (by decide) (by decide)
theorem ctMnA {l : Launch} {Z : State} {a0 : Array Value} (hw : HW a0 Z) {n0 : Nat} {h0 : Heap} (hn0 : n0 ≤ h0.size) (xx yy : Int32) (hxy : yy < xx) :
 Ctr l Z (⟨zq17, "min", "(II)I"⟩ : MethodName) jdk_29_method_69_code 2 (some .int) (rQ 0 0 0 0) n0 #[(.int xx), (.int yy)] h0 (fun v h => v = some (.int yy) ∧ h = h0) := by
 refine Ctr.of (Jvm.Free.JP.mathPlain rfl (by decide +kernel)) hn0 ?_
 intro p e s m below meth c T0 C hnm hret hlk X0
 rw [ef1 m xx yy]
 refine G.a 1 C X0 d1_0 rfl rfl <| G.a 2 C X0 d1_1 rfl rfl <| G.j 9 C X0 d1_2 (tlt hxy).2.2.1 (by decide) (by decide) <| G.a 10 C X0 d1_9 rfl rfl ?_
 exact G.E C X0 d1_10 hret hlk (⟨rfl, rfl⟩) (by decide) (by decide)
theorem ef29 (m : MethodId) (x0 : Addr) (x1 : Int32) (x2 : Int32) : entryFrame m #[(.ref x0), (.int x1), (.int x2)] 5 = mkF m 0 #[.val (.ref x0), .val (.int x1), .val (.int x2), .unset, .unset] [] := by first | (simp [entryFrame, mkF, argsToLocals, Value.category]; done) | rfl
theorem ctCbA {l : Launch} {Z : State} {a0 : Array Value} (hw : HW a0 Z) {n0 : Nat} {h0 : Heap} (hn0 : n0 ≤ h0.size) (tb : Addr) (kt : ClassId) (W : List Int32) (cp : Int32) (Et : Exa Z h0 tb "[B") (Vt : Arv Z h0 tb kt .byte cp (tx W) (.int 0)) (hcp : cp = 16 ∨ cp = 34) (hb : W.length < 1000) (hlt : W.length < cp.toNatClampNeg) :
 Ctr l Z (⟨zq14, zq55, "([BII)[B"⟩ : MethodName) jdk_65_method_133_code 5 (some (.array .byte)) (rQ 1 1 34 30) n0 #[(.ref tb), (.int 0), (.int (own_n (W).length))] h0 (fun v h => ∃ (t : Addr) (k : ClassId), v = some (.ref t) ∧ Keep h0 h [] ∧ h0.size ≤ t ∧ Arv Z h t k .byte (own_n (W).length) (tx W) (.int 0)) := by
 refine Ctr.of (plainFor_of_name pn1) hn0 ?_
 intro p e s m below meth c T0 C hnm hret hlk X0
 rw [ef29 m tb (0 : Int32) (own_n (W).length)]
 refine G.a 1 C X0 d29_0 rfl rfl <| G.a 2 C X0 d29_1 rfl rfl <| G.o 5 (cells' := 0) (slots' := 0) (argsL := [(.int 0), (.int (own_n (W).length))]) (St := []) C X0 (wd160 hw) (wd161 hw) (by decide) (wd162 hw) (wd155 hw) (ctCkA hw X0.2.1 _ (own_n_ge hb)) (lenOf pd15 rfl) rfl d29_2 rfl rfl (by decide) (nQ rfl) rfl rfl (by decide) (by decide) (fun v1 T1 h1 Q1 X1 z1 => ?_)
 obtain ⟨hv1, hh1⟩ := Q1
 subst hv1; rw [hh1] at X1
 refine G.a 6 C X1 d29_5 rfl rfl <| G.a 7 C X1 d29_6 rfl rfl <| G.u 8 (z := (own_n (W).length)) C X1 d29_7 rfl (own_sub0 _) <| G.g 9 C X1 d29_8 rfl (l' := #[vR tb, vI 0, vI (own_n (W).length), vI (own_n (W).length), .unset]) rfl <| G.a 10 C X1 d29_9 rfl rfl <| G.aj 12 (cap := 34) (d0 := (.int 0)) (cells' := 1) (slots' := 34) C X1 (wd23 hw) rfl d29_10 rfl (own_n_ge hb) (by rw [own_n_cl hb]; have := own_cpc hcp; omega) (by decide) rfl rfl rfl (by decide) (by decide) (fun T2 h2 a2 k2 X2 g2 q2 E2 V2 => ?_)
 have sz4 : h0.size ≤ a2 := Nat.le_trans (Keep.refl h0 []).1 (Nat.le_of_eq g2.symm)
 have K5 := (Keep.refl h0 []).ext E2
 refine G.ag 14 C X2 d29_12 rfl rfl (l' := #[vR tb, vI 0, vI (own_n (W).length), vI (own_n (W).length), vR a2]) rfl <| G.b 15 C X2 d29_14 rfl rfl rfl <| G.a 16 C X2 d29_15 rfl rfl <| G.P 18 C X2 d29_16 rfl rfl rfl <| G.i 19 (z := 0) C X2 d29_18 rfl (by decide) <| G.b 20 C X2 d29_19 rfl rfl rfl ?_
 have f6 := (Vt.ext E2)
 refine G.aa 21 C X2 f6 d29_20 rfl <| G.a 22 C X2 d29_21 rfl rfl <| G.u 23 (z := cp) C X2 d29_22 rfl (own_sub0 _) <| G.a 24 C X2 d29_23 rfl rfl <| G.o 27 (cells' := 1) (slots' := 34) (argsL := [(.int cp), (.int (own_n (W).length))]) (St := [(.int 0), (.ref a2), (.int 0), (.ref tb)]) C X2 (wd163 hw) (wd1 hw) (by decide) (wd3 hw) (wd2 hw) (ctMnA hw X2.2.1 _ _ (own_mlt (own_cpp hcp) hb hlt)) (lenOf pd6 rfl) rfl d29_24 rfl rfl (by decide) (nQ rfl) rfl rfl (by decide) (by decide) (fun v7 T7 h7 Q7 X7 z7 => ?_)
 obtain ⟨hv7, hh7⟩ := Q7
 subst hv7; rw [hh7] at X7
 have Vp8 := V2.pad (pad_rep [] (.int 0) W.length)
 refine G.ax 30 (us := (tx W)) (vr := (tx W)) C X7 (wd164 hw) (wd102 hw) (wd100 hw) (wd101 hw) f6 Vp8 rfl (by decide) (by decide) (own_n_ge hb) (by rw [own_n_cl hb, show (0 : Int32).toNatClampNeg = 0 from by decide]; omega) (own_c0 _) (own_us W _ hb) (by rw [own_n_cl hb, show (0 : Int32).toNatClampNeg = 0 from by decide]; simp) (own_vr0 W _ hb) q2 d29_27 rfl rfl (by decide) (nQ rfl) (fun T9 h9 X9 K9 V9 => ?_)
 have K10 := K5.trans K9 (allS (Or.inr sz4) all0)
 refine G.P 32 C X9 d29_30 rfl rfl rfl ?_
 exact G.J C X9 d29_32 hret rfl rfl hlk (⟨a2, k2, rfl, K10, sz4, V9⟩) (by decide) (by decide)
theorem ef28 (m : MethodId) (x0 : Addr) (x1 : Int32) (x2 : Int32) : entryFrame m #[(.ref x0), (.int x1), (.int x2)] 3 = mkF m 0 #[.val (.ref x0), .val (.int x1), .val (.int x2)] [] := by first | (simp [entryFrame, mkF, argsToLocals, Value.category]; done) | rfl
theorem ctCrNA {l : Launch} {Z : State} {a0 : Array Value} (hw : HW a0 Z) {n0 : Nat} {h0 : Heap} (hn0 : n0 ≤ h0.size) (tb : Addr) (kt : ClassId) (W : List Int32) (cp : Int32) (Et : Exa Z h0 tb "[B") (Vt : Arv Z h0 tb kt .byte cp (tx W) (.int 0)) (hcp : cp = 16 ∨ cp = 34) (hb : W.length < 1000) (hlt : W.length < cp.toNatClampNeg) :
 Ctr l Z (⟨zq14, zq36, "([BII)[B"⟩ : MethodName) jdk_65_method_132_code 3 (some (.array .byte)) (rQ 2 1 34 48) n0 #[(.ref tb), (.int 0), (.int (own_n (W).length))] h0 (fun v h => ∃ (t : Addr) (k : ClassId), v = some (.ref t) ∧ Keep h0 h [] ∧ h0.size ≤ t ∧ Arv Z h t k .byte (own_n (W).length) (tx W) (.int 0)) := by
 refine Ctr.of (plainFor_of_name pn1) hn0 ?_
 intro p e s m below meth c T0 C hnm hret hlk X0
 rw [ef28 m tb (0 : Int32) (own_n (W).length)]
 refine G.a 1 C X0 d28_0 rfl rfl <| G.q 4 C X0 d28_1 rfl (teq (by decide : (0 : Int32) = 0)).2 <| G.a 5 C X0 d28_4 rfl rfl <| G.b 6 C X0 d28_5 rfl rfl rfl <| G.aa 7 C X0 Vt d28_6 rfl <| G.k 10 C X0 d28_7 rfl (feq (own_ne hb hlt)).1 <| G.b 11 C X0 d28_10 rfl rfl rfl <| G.a 12 C X0 d28_11 rfl rfl <| G.a 13 C X0 d28_12 rfl rfl <| G.o 16 (cells' := 1) (slots' := 34) (argsL := [(.ref tb), (.int 0), (.int (own_n (W).length))]) (St := []) C X0 (wd157 hw) (wd158 hw) (by decide) (wd159 hw) (wd155 hw) (ctCbA hw X0.2.1 tb kt W cp Et Vt hcp hb hlt) (lenOf pd16 rfl) rfl d28_13 rfl rfl (by decide) (nQ rfl) rfl rfl (by decide) (by decide) (fun v1 T1 h1 Q1 X1 z1 => ?_)
 obtain ⟨b1, k1, hv1, K1, hz1, Vc1⟩ := Q1
 subst hv1
 have K2 := (Keep.refl h0 []).trans K1 all0
 exact G.J C X1 d28_16 hret rfl rfl hlk (⟨b1, k1, rfl, K2, hz1, Vc1⟩) (by decide) (by decide)
theorem ctCrCA {l : Launch} {Z : State} {a0 : Array Value} (hw : HW a0 Z) {n0 : Nat} {h0 : Heap} (hn0 : n0 ≤ h0.size) (tb : Addr) (kt : ClassId) (W : List Int32) (cp : Int32) (Et : Exa Z h0 tb "[B") (Vt : Arv Z h0 tb kt .byte cp (tx W) (.int 0)) (hcp : cp = 16 ∨ cp = 34) (hb : W.length < 1000) (hq : (own_n (W).length) = cp) :
 Ctr l Z (⟨zq14, zq36, "([BII)[B"⟩ : MethodName) jdk_65_method_132_code 3 (some (.array .byte)) (rQ 2 1 34 48) n0 #[(.ref tb), (.int 0), (.int (own_n (W).length))] h0 (fun v h => ∃ (t : Addr) (k : ClassId), v = some (.ref t) ∧ Keep h0 h [] ∧ h0.size ≤ t ∧ Arv Z h t k .byte (own_n (W).length) (tx W) (.int 0)) := by
 refine Ctr.of (plainFor_of_name pn1) hn0 ?_
 intro p e s m below meth c T0 C hnm hret hlk X0
 rw [ef28 m tb (0 : Int32) (own_n (W).length)]
 refine G.a 1 C X0 d28_0 rfl rfl <| G.q 4 C X0 d28_1 rfl (teq (by decide : (0 : Int32) = 0)).2 <| G.a 5 C X0 d28_4 rfl rfl <| G.b 6 C X0 d28_5 rfl rfl rfl <| G.aa 7 C X0 Vt d28_6 rfl <| G.j 17 C X0 d28_7 (teq hq).1 (by decide) (by decide) <| G.b 18 C X0 d28_17 rfl rfl rfl <| G.aH 21 (cap := 34) (cells' := 1) (slots' := 34) C X0 (wd303 hw) (wd304 hw) (wd308 hw) (wd306 hw) (wd307 hw) (wd309 hw) Vt Et d28_18 rfl rfl (by decide) (nQ rfl) (own_cpc hcp) rfl rfl (by decide) (by decide) (fun T1 h1 b1 X1 g1 q1 E1 V1 A1 => ?_)
 have sz3 : h0.size ≤ b1 := Nat.le_trans (Keep.refl h0 []).1 (Nat.le_of_eq g1.symm)
 have K4 := (Keep.refl h0 []).ext E1
 refine G.aF 24 C X1 (wd310 hw) (Ins.of_exa A1 (wd311 hw)) d28_21 rfl (fun T5 X5 => ?_)
 exact G.J C X5 d28_24 hret rfl rfl hlk (⟨b1, kt, rfl, K4, sz3, (by rw [hq]; exact V1)⟩) (by decide) (by decide)
theorem ctCrA {l : Launch} {Z : State} {a0 : Array Value} (hw : HW a0 Z) {n0 : Nat} {h0 : Heap} (hn0 : n0 ≤ h0.size) (tb : Addr) (kt : ClassId) (W : List Int32) (cp : Int32) (Et : Exa Z h0 tb "[B") (Vt : Arv Z h0 tb kt .byte cp (tx W) (.int 0)) (hcp : cp = 16 ∨ cp = 34) (hb : W.length < 1000) (hwc : W.length ≤ cp.toNatClampNeg) :
    Ctr l Z (⟨zq14, zq36, "([BII)[B"⟩ : MethodName) jdk_65_method_132_code 3 (some (.array .byte)) (rQ 2 1 34 48) n0 #[(.ref tb), (.int 0), (.int (own_n (W).length))] h0 (fun v h => ∃ (t : Addr) (k : ClassId), v = some (.ref t) ∧ Keep h0 h [] ∧ h0.size ≤ t ∧ Arv Z h t k .byte (own_n (W).length) (tx W) (.int 0)) := by
  by_cases q : W.length < cp.toNatClampNeg
  · exact ctCrNA hw hn0 tb kt W cp Et Vt hcp hb q
  · exact ctCrCA hw hn0 tb kt W cp Et Vt hcp hb (own_eq (own_cpp hcp) hb (by omega))
theorem ef24 (m : MethodId) (x0 : Addr) (x1 : Addr) : entryFrame m #[(.ref x0), (.ref x1), .null] 5 = mkF m 0 #[.val (.ref x0), .val (.ref x1), .val .null, .unset, .unset] [] := by first | (simp [entryFrame, mkF, argsToLocals, Value.category]; done) | rfl
theorem ctSi4A {l : Launch} {Z : State} {a0 : Array Value} (hw : HW a0 Z) {n0 : Nat} {h0 : Heap} (hn0 : n0 ≤ h0.size) (sx : Addr) (sb tb : Addr) (kt : ClassId) (W : List Int32) (cp : Int32) (cz : Int32) (Ex : Exa Z h0 sx zq0) (Xv : Fld Z h0 sx zq0 "value" "[B" .null) (Xc : Fld Z h0 sx zq0 "coder" "B" (.int 0)) (gx : n0 ≤ sx) (Es : Exa Z h0 sb zq3) (Fv : Fld Z h0 sb zq1 "value" "[B" (.ref tb)) (Fc : Fld Z h0 sb zq1 "coder" "B" (.int 0)) (Fn : Fld Z h0 sb zq1 "count" "I" (.int (own_n (W).length))) (Et : Exa Z h0 tb "[B") (Vt : Arv Z h0 tb kt .byte cp (tx W) (.int 0)) (hcp : cp = 16 ∨ cp = 34) (hb : W.length < 1000) (hwc : W.length ≤ cp.toNatClampNeg) (OD : Old Z n0 h0) (S2 : Sta Z Z.heap zq0 zq5 "Z" (.int cz)) (hcz : ¬ cz = 0) :
 Ctr l Z (⟨zq0, "<init>", zq46⟩ : MethodName) jdk_42_method_150_code 5 none (rQ 3 1 34 70) n0 #[(.ref sx), (.ref sb), .null] h0 (fun v h => ∃ (t : Addr) (k : ClassId), v = none ∧ Keep h0 h [sx] ∧ h0.size ≤ t ∧ Exa Z h sx zq0 ∧ Fld Z h sx zq0 "coder" "B" (.int 0) ∧ Fld Z h sx zq0 "value" "[B" (.ref t) ∧ Arv Z h t k .byte (own_n (W).length) (tx W) (.int 0)) := by
 refine Ctr.of (by decide +kernel) hn0 ?_
 intro p e s m below meth c T0 C hnm hret hlk X0
 rw [ef24 m sx sb]
 refine G.b 1 C X0 d24_0 rfl rfl rfl <| G.al 4 C X0 (wd19 hw) (wd20 hw) (wd21 hw) d24_1 rfl rfl (by decide) (nQ rfl) fun T1 X1 => G.b 5 C X1 d24_4 rfl rfl rfl <| G.D 8 (cells' := 0) (slots' := 0) (argsL := []) (St := []) C X1 (wd139 hw) (wd140 hw) (wd142 hw) (wd141 hw) (by decide) Es (wd143 hw) (wd47 hw) (ctGvA hw X1.2.1 sb tb Fv) (lenOf pd17 rfl) rfl d24_5 rfl rfl (by decide) (nQ rfl) rfl rfl (by decide) (by decide) (fun v2 T2 h2 Q2 X2 z2 => ?_)
 obtain ⟨hv2, hh2⟩ := Q2
 subst hv2; rw [hh2] at X2
 refine G.aq 9 C X2 d24_8 rfl rfl (l' := #[vR sx, vR sb, .val .null, vR tb, .unset]) rfl <| G.b 10 C X2 d24_9 rfl rfl rfl <| G.aG 13 (cells' := 0) (slots' := 0) (argsL := []) (St := []) C X2 (wd144 hw) (wd145 hw) (notface_of C.2.1 (wd81 hw) rfl) (wd147 hw) (wd148 hw) (by decide) rfl Es (wd149 hw) (wd39 hw) (ctSlnA hw X2.2.1 sb _ Es Fn) (lenOf pd12 rfl) rfl d24_10 rfl rfl (by decide) (nQ rfl) rfl rfl (by decide) (by decide) (fun v3 T3 h3 Q3 X3 z3 => ?_)
 obtain ⟨hv3, hh3⟩ := Q3
 subst hv3; rw [hh3] at X3
 refine G.w 15 C X3 d24_13 rfl (l' := #[vR sx, vR sb, .val .null, vR tb, vI (own_n (W).length)]) rfl <| G.b 16 C X3 d24_15 rfl rfl rfl <| G.D 19 (cells' := 0) (slots' := 0) (argsL := []) (St := []) C X3 (wd152 hw) (wd118 hw) (wd120 hw) (wd119 hw) (by decide) Es (wd121 hw) (wd47 hw) (ctIlA hw X3.2.1 sb cz Fc OD S2 hcz) (lenOf pd18 rfl) rfl d24_16 rfl rfl (by decide) (nQ rfl) rfl rfl (by decide) (by decide) (fun v4 T4 h4 Q4 X4 z4 => ?_)
 obtain ⟨hv4, hh4⟩ := Q4
 subst hv4; rw [hh4] at X4
 refine G.q 22 C X4 d24_19 rfl (feq (by decide : ¬ (1 : Int32) = 0)).1 <| G.b 23 C X4 d24_22 rfl rfl rfl <| G.i 24 (z := 0) C X4 d24_23 rfl (by decide) <| G.ao 27 C X4 (wd29 hw) Via.refl Xc Ex gx (Or.inr ⟨(wd25 hw), rfl, hnm⟩) (wd9 hw) (ty := .byte) (by decide) (v' := .int (0 : Int32)) rfl (by decide) d24_24 rfl (fun T5 h5 X5 W5 F5 => ?_)
 have K6 := (Keep.refl h0 [sx]).wr W5 (mQ 0 rfl)
 refine G.b 28 C X5 d24_27 rfl rfl rfl <| G.b 29 C X5 d24_28 rfl rfl rfl <| G.i 30 (z := 0) C X5 d24_29 rfl (by decide) <| G.f 32 C X5 d24_30 rfl rfl ?_
 have f7 := (Ex.wr W5)
 have f8 := (Et.wr W5)
 have f9 := (Vt.other W5 (Ne.symm (Exa.neArv Ex Vt (wd9 hw))))
 refine G.o 35 (cells' := 1) (slots' := 34) (argsL := [(.ref tb), (.int 0), (.int (own_n (W).length))]) (St := [(.ref sx)]) C X5 (wd153 hw) (wd154 hw) (by decide) (wd156 hw) (wd155 hw) (ctCrA hw X5.2.1 tb kt W cp f8 f9 hcp hb hwc) (lenOf pd16 rfl) rfl d24_32 rfl rfl (by decide) (nQ rfl) rfl rfl (by decide) (by decide) (fun v10 T10 h10 Q10 X10 z10 => ?_)
 obtain ⟨b10, k10, hv10, K10, hz10, Vc10⟩ := Q10
 subst hv10
 have K11 := K6.trans K10 all0
 have nx10 : sx ≠ b10 := Nat.ne_of_lt (Nat.lt_of_lt_of_le f7.lt hz10)
 have f12 := ((Xv.other W5 (Or.inr (sQ0 hw))).keep K10 nin0)
 have f13 := (f7.keep K10)
 refine G.I 38 C X10 (hQ (wd28 hw)) Via.refl f12 f13 gx (Or.inr ⟨(wd24 hw), rfl, hnm⟩) (wd9 hw) (ty := (.array .byte)) (by decide) rfl rfl d24_35 rfl (fun T14 h14 X14 W14 F14 => ?_)
 have K15 := K11.wr W14 (mQ 0 rfl)
 refine G.r 97 C X14 d24_38 (by decide) (by decide) ?_
 have f16 := (f13.wr W14)
 have f17 := ((F5.keep K10 nin0).other W14 (Or.inr (sQ1 hw)))
 have f18 := (Vc10.other W14 (Ne.symm nx10))
 exact G.ab C X14 d24_97 hret hlk (⟨b10, k10, rfl, K15, (Nat.le_trans K6.1 hz10), f16, f17, F14, f18⟩) (by decide) (by decide)
theorem ef23 (m : MethodId) (x0 : Addr) (x1 : Addr) : entryFrame m #[(.ref x0), (.ref x1)] 2 = mkF m 0 #[.val (.ref x0), .val (.ref x1)] [] := by first | (simp [entryFrame, mkF, argsToLocals, Value.category]; done) | rfl
theorem ctSiA {l : Launch} {Z : State} {a0 : Array Value} (hw : HW a0 Z) {n0 : Nat} {h0 : Heap} (hn0 : n0 ≤ h0.size) (sx : Addr) (sb tb : Addr) (kt : ClassId) (W : List Int32) (cp : Int32) (cz : Int32) (Ex : Exa Z h0 sx zq0) (Xv : Fld Z h0 sx zq0 "value" "[B" .null) (Xc : Fld Z h0 sx zq0 "coder" "B" (.int 0)) (gx : n0 ≤ sx) (Es : Exa Z h0 sb zq3) (Fv : Fld Z h0 sb zq1 "value" "[B" (.ref tb)) (Fc : Fld Z h0 sb zq1 "coder" "B" (.int 0)) (Fn : Fld Z h0 sb zq1 "count" "I" (.int (own_n (W).length))) (Et : Exa Z h0 tb "[B") (Vt : Arv Z h0 tb kt .byte cp (tx W) (.int 0)) (hcp : cp = 16 ∨ cp = 34) (hb : W.length < 1000) (hwc : W.length ≤ cp.toNatClampNeg) (OD : Old Z n0 h0) (S2 : Sta Z Z.heap zq0 zq5 "Z" (.int cz)) (hcz : ¬ cz = 0) :
 Ctr l Z (⟨zq0, "<init>", zq38⟩ : MethodName) jdk_42_method_53_code 2 none (rQ 4 1 34 92) n0 #[(.ref sx), (.ref sb)] h0 (fun v h => ∃ (t : Addr) (k : ClassId), v = none ∧ Keep h0 h [sx] ∧ h0.size ≤ t ∧ Exa Z h sx zq0 ∧ Fld Z h sx zq0 "coder" "B" (.int 0) ∧ Fld Z h sx zq0 "value" "[B" (.ref t) ∧ Arv Z h t k .byte (own_n (W).length) (tx W) (.int 0)) := by
 refine Ctr.of (by decide +kernel) hn0 ?_
 intro p e s m below meth c T0 C hnm hret hlk X0
 rw [ef23 m sx sb]
 refine G.b 1 C X0 d23_0 rfl rfl rfl <| G.b 2 C X0 d23_1 rfl rfl rfl <| G.am 3 C X0 d23_2 rfl <| G.af 6 (cells' := 1) (slots' := 34) (argsL := [(.ref sb), .null]) (St := []) C X0 rfl rfl (wd136 hw) (wd137 hw) (by decide) (wd138 hw) (wd10 hw) (ctSi4A hw X0.2.1 sx sb tb kt W cp cz Ex Xv Xc gx Es Fv Fc Fn Et Vt hcp hb hwc OD S2 hcz) (lenOf pd19 rfl) rfl d23_3 rfl rfl (by decide) (nQ rfl) rfl rfl (by decide) (by decide) (fun v1 T1 h1 Q1 X1 z1 => ?_)
 obtain ⟨t1, k1, hv1, K1, hz1, E1, F1c, F1v, V1⟩ := Q1
 subst hv1
 have K2 := (Keep.refl h0 [sx]).trans K1 (allS (mQ 0 rfl) all0)
 exact G.ab C X1 d23_6 hret hlk (⟨t1, k1, rfl, K2, (Nat.le_trans (Keep.refl h0 [sx]).1 hz1), E1, F1c, F1v, V1⟩) (by decide) (by decide)
theorem ef22 (m : MethodId) (x0 : Addr) : entryFrame m #[(.ref x0)] 1 = mkF m 0 #[.val (.ref x0)] [] := by first | (simp [entryFrame, mkF, argsToLocals, Value.category]; done) | rfl
theorem ctToSA {l : Launch} {Z : State} {a0 : Array Value} (hw : HW a0 Z) {n0 : Nat} {h0 : Heap} (hn0 : n0 ≤ h0.size) (sb tb : Addr) (kt : ClassId) (W : List Int32) (cp : Int32) (cz : Int32) (Es : Exa Z h0 sb zq3) (Fv : Fld Z h0 sb zq1 "value" "[B" (.ref tb)) (Fc : Fld Z h0 sb zq1 "coder" "B" (.int 0)) (Fn : Fld Z h0 sb zq1 "count" "I" (.int (own_n (W).length))) (Et : Exa Z h0 tb "[B") (Vt : Arv Z h0 tb kt .byte cp (tx W) (.int 0)) (hcp : cp = 16 ∨ cp = 34) (hb : W.length < 1000) (hwc : W.length ≤ cp.toNatClampNeg) (OD : Old Z n0 h0) (S2 : Sta Z Z.heap zq0 zq5 "Z" (.int cz)) (hcz : ¬ cz = 0) :
 Ctr l Z (⟨zq3, "toString", zq20⟩ : MethodName) jdk_67_method_42_code 1 (some (.object zq0)) (rQ 5 2 38 120) n0 #[(.ref sb)] h0 (fun v h => ∃ (b t : Addr) (k : ClassId), v = some (.ref b) ∧ Keep h0 h [] ∧ h0.size ≤ b ∧ h0.size ≤ t ∧ Exa Z h b zq0 ∧ Fld Z h b zq0 "coder" "B" (.int 0) ∧ Fld Z h b zq0 "value" "[B" (.ref t) ∧ Arv Z h t k .byte (own_n (W).length) (tx W) (.int 0)) := by
 refine Ctr.of (by decide +kernel) hn0 ?_
 intro p e s m below meth c T0 C hnm hret hlk X0
 rw [ef22 m sb]
 refine G.ak 3 (cells' := 1) (slots' := 4) C X0 (wd132 hw) (wd9 hw) (wd10 hw) d22_0 rfl rfl rfl (by decide) (by decide) (fun T1 h1 a1 X1 g1 q1 E1 A1 D1 U1 => ?_)
 have sz4 : h0.size ≤ a1 := Nat.le_trans (Keep.refl h0 []).1 (Nat.le_of_eq g1.symm)
 have K5 := (Keep.refl h0 []).ext E1
 have F1_value : Fld Z h1 a1 zq0 "value" "[B" .null := D1 (Or.inr (wd24 hw)) (ty := (.array .byte)) (by decide)
 have F1_coder : Fld Z h1 a1 zq0 "coder" "B" (.int 0) := D1 (Or.inr (wd25 hw)) (ty := .byte) (by decide)
 refine G.ad 4 C X1 d22_3 rfl rfl <| G.b 5 C X1 d22_4 rfl rfl rfl ?_
 have f6 := (Es.ext E1)
 have f7 := (Fv.ext E1)
 have f8 := (Fc.ext E1)
 have f9 := (Fn.ext E1)
 have f10 := (Et.ext E1)
 have f11 := (Vt.ext E1)
 have f12 := (OD.ext E1)
 refine G.af 8 (cells' := 2) (slots' := 38) (argsL := [(.ref sb)]) (St := [(.ref a1)]) C X1 rfl rfl (wd133 hw) (wd134 hw) (by decide) (wd135 hw) (wd10 hw) (ctSiA hw X1.2.1 a1 sb tb kt W cp cz A1 F1_value F1_coder q1 f6 f7 f8 f9 f10 f11 hcp hb hwc f12 S2 hcz) (lenOf pd20 rfl) rfl d22_5 rfl rfl (by decide) (nQ rfl) rfl rfl (by decide) (by decide) (fun v13 T13 h13 Q13 X13 z13 => ?_)
 obtain ⟨t13, k13, hv13, K13, hz13, E13, F13c, F13v, V13⟩ := Q13
 subst hv13
 have K14 := K5.trans K13 (allS (Or.inr sz4) all0)
 exact G.J C X13 d22_8 hret rfl rfl hlk (⟨a1, t13, k13, rfl, K14, sz4, (Nat.le_trans K5.1 hz13), E13, F13c, F13v, V13⟩) (by decide) (by decide)
theorem ef45 (m : MethodId) (x0 : Int32) (x1 : Int32) : entryFrame m #[(.int x0), (.int x1), .null] 3 = mkF m 0 #[.val (.int x0), .val (.int x1), .val .null] [] := by first | (simp [entryFrame, mkF, argsToLocals, Value.category]; done) | rfl
theorem ctPcNA {l : Launch} {Z : State} {a0 : Array Value} (hw : HW a0 Z) {n0 : Nat} {h0 : Heap} (hn0 : n0 ≤ h0.size) (ii nn : Int32) (hi0 : ¬ ii < 0) (hi1 : ii < nn) :
 Ctr l Z (⟨zq10, "checkIndex", zq32⟩ : MethodName) jdk_41_method_11_code 3 (some .int) (rQ 0 0 0 0) n0 #[(.int ii), (.int nn), .null] h0 (fun v h => v = some (.int ii) ∧ h = h0) := by
 refine Ctr.of (plainFor_of_name pn2) hn0 ?_
 intro p e s m below meth c T0 C hnm hret hlk X0
 rw [ef45 m ii nn]
 refine G.a 1 C X0 d45_0 rfl rfl <| G.q 4 C X0 d45_1 rfl (flt hi0).1 <| G.a 5 C X0 d45_4 rfl rfl <| G.a 6 C X0 d45_5 rfl rfl <| G.j 16 C X0 d45_6 (tlt hi1).1 (by decide) (by decide) <| G.a 17 C X0 d45_16 rfl rfl ?_
 exact G.E C X0 d45_17 hret hlk (⟨rfl, rfl⟩) (by decide) (by decide)
theorem ef44 (m : MethodId) (x0 : Int32) (x1 : Int32) : entryFrame m #[(.int x0), (.int x1)] 2 = mkF m 0 #[.val (.int x0), .val (.int x1)] [] := by first | (simp [entryFrame, mkF, argsToLocals, Value.category]; done) | rfl
theorem ctScNA {l : Launch} {Z : State} {a0 : Array Value} (hw : HW a0 Z) {n0 : Nat} {h0 : Heap} (hn0 : n0 ≤ h0.size) (ii nn : Int32) (hi0 : ¬ ii < 0) (hi1 : ii < nn) (OD : Old Z n0 h0) (Sf : Sta Z Z.heap zq10 zq11 zq12 .null) :
 Ctr l Z (⟨zq0, "checkIndex", "(II)V"⟩ : MethodName) jdk_42_method_155_code 2 none (rQ 1 0 0 16) n0 #[(.int ii), (.int nn)] h0 (fun v h => v = none ∧ h = h0) := by
 refine Ctr.of (by decide +kernel) hn0 ?_
 intro p e s m below meth c T0 C hnm hret hlk X0
 rw [ef44 m ii nn]
 refine G.a 1 C X0 d44_0 rfl rfl <| G.a 2 C X0 d44_1 rfl rfl <| G.x 5 C X0 (hQ (wd259 hw)) Via.refl (Sf.ext OD.2) d44_2 rfl fun T1 X1 => G.o 8 (cells' := 0) (slots' := 0) (argsL := [(.int ii), (.int nn), .null]) (St := []) C X1 (wd261 hw) (wd262 hw) (by decide) (wd263 hw) (wd260 hw) (ctPcNA hw X1.2.1 ii nn hi0 hi1) (lenOf pd21 rfl) rfl d44_5 rfl rfl (by decide) (nQ rfl) rfl rfl (by decide) (by decide) (fun v2 T2 h2 Q2 X2 z2 => ?_)
 obtain ⟨hv2, hh2⟩ := Q2
 subst hv2; rw [hh2] at X2
 refine G.O 9 C X2 d44_8 rfl rfl ?_
 exact G.ab C X2 d44_9 hret hlk (⟨rfl, rfl⟩) (by decide) (by decide)
theorem ef45_IIR (m : MethodId) (x0 : Int32) (x1 : Int32) (x2 : Addr) : entryFrame m #[(.int x0), (.int x1), (.ref x2)] 3 = mkF m 0 #[.val (.int x0), .val (.int x1), .val (.ref x2)] [] := by first | (simp [entryFrame, mkF, argsToLocals, Value.category]; done) | rfl
theorem ctPcRA {l : Launch} {Z : State} {a0 : Array Value} (hw : HW a0 Z) {n0 : Nat} {h0 : Heap} (hn0 : n0 ≤ h0.size) (fr : Addr) (ii nn : Int32) (hi0 : ¬ ii < 0) (hi1 : ii < nn) :
 Ctr l Z (⟨zq10, "checkIndex", zq32⟩ : MethodName) jdk_41_method_11_code 3 (some .int) (rQ 0 0 0 0) n0 #[(.int ii), (.int nn), (.ref fr)] h0 (fun v h => v = some (.int ii) ∧ h = h0) := by
 refine Ctr.of (plainFor_of_name pn2) hn0 ?_
 intro p e s m below meth c T0 C hnm hret hlk X0
 rw [ef45_IIR m ii nn fr]
 refine G.a 1 C X0 d45_0 rfl rfl <| G.q 4 C X0 d45_1 rfl (flt hi0).1 <| G.a 5 C X0 d45_4 rfl rfl <| G.a 6 C X0 d45_5 rfl rfl <| G.j 16 C X0 d45_6 (tlt hi1).1 (by decide) (by decide) <| G.a 17 C X0 d45_16 rfl rfl ?_
 exact G.E C X0 d45_17 hret hlk (⟨rfl, rfl⟩) (by decide) (by decide)
theorem ctScRA {l : Launch} {Z : State} {a0 : Array Value} (hw : HW a0 Z) {n0 : Nat} {h0 : Heap} (hn0 : n0 ≤ h0.size) (fr : Addr) (ii nn : Int32) (hi0 : ¬ ii < 0) (hi1 : ii < nn) (OD : Old Z n0 h0) (Sf : Sta Z Z.heap zq10 zq11 zq12 (.ref fr)) :
 Ctr l Z (⟨zq0, "checkIndex", "(II)V"⟩ : MethodName) jdk_42_method_155_code 2 none (rQ 1 0 0 16) n0 #[(.int ii), (.int nn)] h0 (fun v h => v = none ∧ h = h0) := by
 refine Ctr.of (by decide +kernel) hn0 ?_
 intro p e s m below meth c T0 C hnm hret hlk X0
 rw [ef44 m ii nn]
 refine G.a 1 C X0 d44_0 rfl rfl <| G.a 2 C X0 d44_1 rfl rfl <| G.x 5 C X0 (hQ (wd259 hw)) Via.refl (Sf.ext OD.2) d44_2 rfl fun T1 X1 => G.o 8 (cells' := 0) (slots' := 0) (argsL := [(.int ii), (.int nn), (.ref fr)]) (St := []) C X1 (wd261 hw) (wd262 hw) (by decide) (wd263 hw) (wd260 hw) (ctPcRA hw X1.2.1 fr ii nn hi0 hi1) (lenOf pd21 rfl) rfl d44_5 rfl rfl (by decide) (nQ rfl) rfl rfl (by decide) (by decide) (fun v2 T2 h2 Q2 X2 z2 => ?_)
 obtain ⟨hv2, hh2⟩ := Q2
 subst hv2; rw [hh2] at X2
 refine G.O 9 C X2 d44_8 rfl rfl ?_
 exact G.ab C X2 d44_9 hret hlk (⟨rfl, rfl⟩) (by decide) (by decide)
theorem ctScA {l : Launch} {Z : State} {a0 : Array Value} (hw : HW a0 Z) {n0 : Nat} {h0 : Heap} (hn0 : n0 ≤ h0.size) (fmt : Value) (ii nn : Int32) (hi0 : ¬ ii < 0) (hi1 : ii < nn) (OD : Old Z n0 h0) (Sf : Sta Z Z.heap zq10 zq11 zq12 fmt) (hfm : fmt.isRef = true) :
    Ctr l Z (⟨zq0, "checkIndex", "(II)V"⟩ : MethodName) jdk_42_method_155_code 2 none (rQ 1 0 0 16) n0 #[(.int ii), (.int nn)] h0 (fun v h => v = none ∧ h = h0) := by
  rcases ref_cases hfm with rfl | ⟨fr, rfl⟩
  · exact ctScNA hw hn0 ii nn hi0 hi1 OD Sf
  · exact ctScRA hw hn0 fr ii nn hi0 hi1 OD Sf
theorem ef43 (m : MethodId) (x0 : Addr) (x1 : Int32) : entryFrame m #[(.ref x0), (.int x1)] 2 = mkF m 0 #[.val (.ref x0), .val (.int x1)] [] := by first | (simp [entryFrame, mkF, argsToLocals, Value.category]; done) | rfl
theorem ctLcA {l : Launch} {Z : State} {a0 : Array Value} (hw : HW a0 Z) {n0 : Nat} {h0 : Heap} (hn0 : n0 ≤ h0.size) (tb : Addr) (kt : ClassId) (W : List Int32) (ii : Int32) (fmt : Value) (Vt : Arv Z h0 tb kt .byte (own_n (W).length) (tx W) (.int 0)) (hi0 : ¬ ii < 0) (hi1 : ii < (own_n (W).length)) (hi2 : ii.toNatClampNeg < W.length) (hla : ∀ c ∈ W, own_lat c) (OD : Old Z n0 h0) (Sf : Sta Z Z.heap zq10 zq11 zq12 fmt) (hfm : fmt.isRef = true) :
 Ctr l Z (⟨zq50, "charAt", "([BI)C"⟩ : MethodName) jdk_43_method_2_code 2 (some .char) (rQ 2 0 0 32) n0 #[(.ref tb), (.int ii)] h0 (fun v h => v = some (.int (W.getD ii.toNatClampNeg 0)) ∧ h = h0) := by
 refine Ctr.of (by decide +kernel) hn0 ?_
 intro p e s m below meth c T0 C hnm hret hlk X0
 rw [ef43 m tb ii]
 refine G.a 1 C X0 d43_0 rfl rfl <| G.b 2 C X0 d43_1 rfl rfl rfl <| G.aa 3 C X0 Vt d43_2 rfl <| G.o 6 (cells' := 0) (slots' := 0) (argsL := [(.int ii), (.int (own_n (W).length))]) (St := []) C X0 (wd256 hw) (wd257 hw) (by decide) (wd258 hw) (wd10 hw) (ctScA hw X0.2.1 fmt ii _ hi0 hi1 OD Sf hfm) (lenOf pd15 rfl) rfl d43_3 rfl rfl (by decide) (nQ rfl) rfl rfl (by decide) (by decide) (fun v1 T1 h1 Q1 X1 z1 => ?_)
 obtain ⟨hv1, hh1⟩ := Q1
 subst hv1; rw [hh1] at X1
 refine G.b 7 C X1 d43_6 rfl rfl rfl <| G.a 8 C X1 d43_7 rfl rfl <| G.B 9 C X1 Vt d43_8 rfl ⟨hi0, hi1⟩ (v := (own_b (W.getD ii.toNatClampNeg 0))) (own_tx_at _ hi2) <| G.G 12 (z := 255) C X1 d43_9 rfl (by decide) <| G.ac 13 (z := ((own_b (W.getD ii.toNatClampNeg 0)) &&& (255 : Int32))) C X1 d43_12 rfl rfl <| G.ae 14 (z := (W.getD ii.toNatClampNeg 0)) C X1 d43_13 rfl (own_b_back (own_lat_at hla hi2)) ?_
 exact G.U C X1 d43_14 hret (by simp) (z' := (W.getD ii.toNatClampNeg 0)) (own_nar_lat (own_lat_at hla hi2)) hlk (⟨rfl, rfl⟩) (by decide) (by decide)
theorem ef42 (m : MethodId) (x0 : Addr) : entryFrame m #[(.ref x0)] 1 = mkF m 0 #[.val (.ref x0)] [] := by first | (simp [entryFrame, mkF, argsToLocals, Value.category]; done) | rfl
theorem ctSilA {l : Launch} {Z : State} {a0 : Array Value} (hw : HW a0 Z) {n0 : Nat} {h0 : Heap} (hn0 : n0 ≤ h0.size) (sx : Addr) (cz : Int32) (Fc : Fld Z h0 sx zq0 "coder" "B" (.int 0)) (OD : Old Z n0 h0) (S2 : Sta Z Z.heap zq0 zq5 "Z" (.int cz)) (hcz : ¬ cz = 0) :
 Ctr l Z (⟨zq0, "isLatin1", "()Z"⟩ : MethodName) jdk_42_method_154_code 1 (some .boolean) (rQ 0 0 0 0) n0 #[(.ref sx)] h0 (fun v h => v = some (.int 1) ∧ h = h0) := by
 refine Ctr.of (by decide +kernel) hn0 ?_
 intro p e s m below meth c T0 C hnm hret hlk X0
 rw [ef42 m sx]
 refine G.x 3 C X0 (hQ (wd75 hw)) Via.refl (S2.ext OD.2) d42_0 rfl fun T1 X1 => G.q 6 C X1 d42_3 rfl (feq hcz).1 <| G.b 7 C X1 d42_6 rfl rfl rfl <| G.v 10 C X1 (hQ (wd29 hw)) Via.refl Fc d42_7 rfl fun T2 X2 => G.q 13 C X2 d42_10 rfl (teq (by decide : (0 : Int32) = 0)).2 <| G.i 14 (z := 1) C X2 d42_13 rfl (by decide) <| G.r 18 C X2 d42_14 (by decide) (by decide) ?_
 exact G.U C X2 d42_18 hret (by simp) (z' := (1 : Int32)) (by decide) hlk (⟨rfl, rfl⟩) (by decide) (by decide)
theorem ef41 (m : MethodId) (x0 : Addr) (x1 : Int32) : entryFrame m #[(.ref x0), (.int x1)] 2 = mkF m 0 #[.val (.ref x0), .val (.int x1)] [] := by first | (simp [entryFrame, mkF, argsToLocals, Value.category]; done) | rfl
theorem ctCaA {l : Launch} {Z : State} {a0 : Array Value} (hw : HW a0 Z) {n0 : Nat} {h0 : Heap} (hn0 : n0 ≤ h0.size) (sr ru : Addr) (kr : ClassId) (M : List Int32) (ii : Int32) (fmt : Value) (cz : Int32) (Er : Exa Z h0 sr zq0) (Rv : Fld Z h0 sr zq0 "value" "[B" (.ref ru)) (Rc : Fld Z h0 sr zq0 "coder" "B" (.int 0)) (Vr : Arv Z h0 ru kr .byte (own_n (M).length) (tx M) (.int 0)) (hi0 : ¬ ii < 0) (hi1 : ii < (own_n (M).length)) (hi2 : ii.toNatClampNeg < M.length) (hla : ∀ c ∈ M, own_lat c) (OD : Old Z n0 h0) (Sf : Sta Z Z.heap zq10 zq11 zq12 fmt) (hfm : fmt.isRef = true) (S2 : Sta Z Z.heap zq0 zq5 "Z" (.int cz)) (hcz : ¬ cz = 0) :
 Ctr l Z (⟨zq0, "charAt", "(I)C"⟩ : MethodName) jdk_42_method_56_code 2 (some .char) (rQ 3 0 0 48) n0 #[(.ref sr), (.int ii)] h0 (fun v h => v = some (.int (M.getD ii.toNatClampNeg 0)) ∧ h = h0) := by
 refine Ctr.of (by decide +kernel) hn0 ?_
 intro p e s m below meth c T0 C hnm hret hlk X0
 rw [ef41 m sr ii]
 refine G.b 1 C X0 d41_0 rfl rfl rfl <| G.D 4 (cells' := 0) (slots' := 0) (argsL := []) (St := []) C X0 (wd247 hw) (wd248 hw) (wd250 hw) (wd249 hw) (by decide) Er (wd251 hw) (wd10 hw) (ctSilA hw X0.2.1 sr cz Rc OD S2 hcz) (lenOf pd18 rfl) rfl d41_1 rfl rfl (by decide) (nQ rfl) rfl rfl (by decide) (by decide) (fun v1 T1 h1 Q1 X1 z1 => ?_)
 obtain ⟨hv1, hh1⟩ := Q1
 subst hv1; rw [hh1] at X1
 refine G.q 7 C X1 d41_4 rfl (feq (by decide : ¬ (1 : Int32) = 0)).1 <| G.b 8 C X1 d41_7 rfl rfl rfl <| G.v 11 C X1 (hQ (wd28 hw)) Via.refl Rv d41_8 rfl fun T2 X2 => G.a 12 C X2 d41_11 rfl rfl <| G.o 15 (cells' := 0) (slots' := 0) (argsL := [(.ref ru), (.int ii)]) (St := []) C X2 (wd252 hw) (wd253 hw) (by decide) (wd255 hw) (wd254 hw) (ctLcA hw X2.2.1 ru kr M ii fmt Vr hi0 hi1 hi2 hla OD Sf hfm) (lenOf pd22 rfl) rfl d41_12 rfl rfl (by decide) (nQ rfl) rfl rfl (by decide) (by decide) (fun v3 T3 h3 Q3 X3 z3 => ?_)
 obtain ⟨hv3, hh3⟩ := Q3
 subst hv3; rw [hh3] at X3
 exact G.U C X3 d41_15 hret (by simp) (z' := (M.getD ii.toNatClampNeg 0)) (own_nar_lat (own_lat_at hla hi2)) hlk (⟨rfl, rfl⟩) (by decide) (by decide)
theorem ef19 (m : MethodId) (x0 : Int32) : entryFrame m #[(.int x0)] 4 = mkF m 0 #[.val (.int x0), .unset, .unset, .unset] [] := by first | (simp [entryFrame, mkF, argsToLocals, Value.category]; done) | rfl
theorem ctSs1 {l : Launch} {Z : State} {a0 : Array Value} (hw : HW a0 Z) {n0 : Nat} {h0 : Heap} (hn0 : n0 ≤ h0.size) (vv : Int32) (V0 : Nat) (hV : vv.toInt = (V0 : Int)) (hhi : V0 < 10) :
 Ctr l Z (⟨zq2, "stringSize", "(I)I"⟩ : MethodName) jdk_33_method_13_code 4 (some .int) (rQ 0 0 0 0) n0 #[(.int vv)] h0 (fun v h => v = some (.int 1) ∧ h = h0) := by
 refine Ctr.of (plainFor_of_name pn3) hn0 ?_
 intro p e s m below meth c T0 C hnm hret hlk X0
 rw [ef19 m vv]
 refine G.i 1 (z := 1) C X0 d19_0 rfl (by decide) <| G.g 2 C X0 d19_1 rfl (l' := #[vI vv, vI 1, .unset, .unset]) rfl <| G.a 3 C X0 d19_2 rfl rfl <| G.q 6 C X0 d19_3 rfl (flt (own_nn hV)).1 <| G.i 7 (z := 0) C X0 d19_6 rfl (by decide) <| G.g 8 C X0 d19_7 rfl (l' := #[vI vv, vI 0, .unset, .unset]) rfl <| G.a 9 C X0 d19_8 rfl rfl <| G.H 10 (z := (-vv)) C X0 d19_9 rfl rfl <| G.g 11 C X0 d19_10 rfl (l' := #[vI (-vv), vI 0, .unset, .unset]) rfl <| G.d 13 (z := -10) C X0 d19_11 rfl (by decide) <| G.g 14 C X0 d19_13 rfl (l' := #[vI (-vv), vI 0, vI (-10), .unset]) rfl <| G.i 15 (z := 1) C X0 d19_14 rfl (by decide) <| G.g 16 C X0 d19_15 rfl (l' := #[vI (-vv), vI 0, vI (-10), vI 1]) rfl <| G.a 17 C X0 d19_16 rfl rfl <| G.d 19 (z := 10) C X0 d19_17 rfl (by decide) ?_
 refine G.k 22 C X0 d19_19 rfl (tlt (by decide : (1 : Int32) < 10)).2.1 <| G.a 23 C X0 d19_22 rfl rfl <| G.a 24 C X0 d19_23 rfl rfl <| G.k 27 C X0 d19_24 rfl (tlt (own_plt (own_neg hV) tQ0 (by omega))).2.2.2 <| G.a 28 C X0 d19_27 rfl rfl <| G.a 29 C X0 d19_28 rfl rfl <| G.z 30 (z := (1 : Int32)) C X0 d19_29 rfl (by decide) ?_
 exact G.E C X0 d19_30 hret hlk (⟨rfl, rfl⟩) (by decide) (by decide)
theorem ef39 (m : MethodId) (x0 : Int32) : entryFrame m #[(.int x0)] 1 = mkF m 0 #[.val (.int x0)] [] := by first | (simp [entryFrame, mkF, argsToLocals, Value.category]; done) | rfl
theorem ctNd1 {l : Launch} {Z : State} {a0 : Array Value} (hw : HW a0 Z) {n0 : Nat} {h0 : Heap} (hn0 : n0 ≤ h0.size) (vv : Int32) (V0 : Nat) (hV : vv.toInt = (V0 : Int)) (hhi : V0 < 10) :
 Ctr l Z (⟨zq7, "nd", "(I)I"⟩ : MethodName) method_5_code 1 (some .int) (rQ 0 0 0 0) n0 #[(.int vv)] h0 (fun v h => v = some (.int 1) ∧ h = h0) := by
 refine Ctr.of (plainFor_of_name pn4) hn0 ?_
 intro p e s m below meth c T0 C hnm hret hlk X0
 rw [ef39 m vv]
 refine G.a 1 C X0 d39_0 rfl rfl <| G.d 3 (z := 10) C X0 d39_1 rfl (by decide) <| G.k 6 C X0 d39_3 rfl (tlt (own_vlt hV tQ1 (by omega))).2.1 <| G.i 7 (z := 1) C X0 d39_6 rfl (by decide) ?_
 exact G.E C X0 d39_7 hret hlk (⟨rfl, rfl⟩) (by decide) (by decide)
theorem ef21 (m : MethodId) (x0 : Int32) (x1 : Int32) (x2 : Addr) : entryFrame m #[(.int x0), (.int x1), (.ref x2)] 7 = mkF m 0 #[.val (.int x0), .val (.int x1), .val (.ref x2), .unset, .unset, .unset, .unset] [] := by first | (simp [entryFrame, mkF, argsToLocals, Value.category]; done) | rfl
theorem ctGc1 {l : Launch} {Z : State} {a0 : Array Value} (hw : HW a0 Z) {n0 : Nat} {h0 : Heap} (hn0 : n0 ≤ h0.size) (tb : Addr) (kt : ClassId) (do_ dt_ : Addr) (ko kq : ClassId) (W : List Int32) (cp vv : Int32) (V0 : Nat) (Vt : Arv Z h0 tb kt .byte cp (tx W ++ [(.int 0)]) (.int 0)) (gt : n0 ≤ tb) (OD : Old Z n0 h0) (So : Sta Z Z.heap zq2 "DigitOnes" "[B" (.ref do_)) (Sq : Sta Z Z.heap zq2 "DigitTens" "[B" (.ref dt_)) (Vo : Arv Z Z.heap do_ ko .byte (100 : Int32) own_ones (.int 0)) (Vq : Arv Z Z.heap dt_ kq .byte (100 : Int32) own_tens (.int 0)) (hcp : cp = 16 ∨ cp = 34) (hb : W.length + 1 < 1000) (hfit : W.length + 1 ≤ cp.toNatClampNeg) (hV : vv.toInt = (V0 : Int)) (hhi : V0 < 10) :
 Ctr l Z (⟨zq2, "getChars", "(II[B)I"⟩ : MethodName) jdk_33_method_12_code 7 (some .int) (rQ 0 0 0 0) n0 #[(.int vv), (.int (own_n (W.length + 1))), (.ref tb)] h0 (fun v h => v = some (.int (own_n (W.length + 0))) ∧ Keep h0 h [tb] ∧ Arv Z h tb kt .byte cp (tx (W ++ own_dig V0 1)) (.int 0)) := by
 refine Ctr.of (plainFor_of_name pn3) hn0 ?_
 intro p e s m below meth c T0 C hnm hret hlk X0
 rw [ef21 m vv (own_n (W.length + 1)) tb]
 have hx0 := own_neg hV
 refine G.a 1 C X0 d21_0 rfl rfl <| G.w 3 C X0 d21_1 rfl (l' := #[vI vv, vI (own_n (W.length + 1)), vR tb, .unset, .unset, vI (own_n (W.length + 1)), .unset]) rfl <| G.a 4 C X0 d21_3 rfl rfl <| G.M 11 C X0 d21_4 (flt (own_nn hV)).2.1 (by decide) (by decide) <| G.i 12 (z := 0) C X0 d21_11 rfl (by decide) <| G.w 14 C X0 d21_12 rfl (l' := #[vI vv, vI (own_n (W.length + 1)), vR tb, .unset, .unset, vI (own_n (W.length + 1)), vI 0]) rfl <| G.f 16 C X0 d21_14 rfl rfl <| G.q 19 C X0 d21_16 rfl (teq (by decide : (0 : Int32) = 0)).2 <| G.a 20 C X0 d21_19 rfl rfl <| G.H 21 (z := (-vv)) C X0 d21_20 rfl rfl <| G.g 22 C X0 d21_21 rfl (l' := #[vI (-vv), vI (own_n (W.length + 1)), vR tb, .unset, .unset, vI (own_n (W.length + 1)), vI 0]) rfl <| G.a 23 C X0 d21_22 rfl rfl <| G.d 25 (z := -100) C X0 d21_23 rfl (by decide) <| G.j 72 C X0 d21_25 (tlt (own_plt hx0 tQ2 (by omega))).2.2.1 (by decide) (by decide) <| G.b 73 C X0 d21_72 rfl rfl rfl ?_
 refine G.t 76 C X0 d21_73 rfl rfl (z := (own_n (W.length + 0))) (own_dc (W.length + 0)) (l' := #[vI (-vv), vI (own_n (W.length + 1)), vR tb, .unset, .unset, vI (own_n (W.length + 0)), vI 0]) rfl <| G.f 78 C X0 d21_76 rfl rfl <| G.x 81 C X0 (hQ (wd125 hw)) Via.refl (So.ext OD.2) d21_78 rfl fun T1 X1 => G.a 82 C X1 d21_81 rfl rfl ?_
 obtain ⟨rl, h_rl⟩ : ∃ z : Int32, -(-vv) = z := ⟨_, rfl⟩
 refine G.H 83 (z := rl) C X1 d21_82 rfl h_rl ?_
 have hrl := own_negp hx0 (by omega) h_rl
 refine G.B 84 C X1 (Vo.ext OD.2) d21_83 rfl (own_idx hrl (by omega)) (v := (own_n (48 + V0 / 1 % 10))) (own_oat hrl (by omega) (by omega) _) <| G.A 85 C X1 Vt gt (i := (W.length + 0)) d21_84 rfl (own_ix (own_cpp hcp) (by omega) (by omega)) (own_n_cl (by omega)) (by simp [tx_len]) (fun T2 h2 X2 W2 V2 => ?_)
 replace V2 : Arv Z h2 tb kt .byte cp (tx W ++ [(eQ V0 1)]) (.int 0) := by rw [own_nar_b, own_stk W [(.int 0)] 0 _] at V2; exact V2
 have K3 := (Keep.refl h0 [tb]).wr W2 (mQ 0 rfl)
 refine G.a 86 C X2 d21_85 rfl rfl <| G.d 88 (z := -9) C X2 d21_86 rfl (by decide) <| G.j 104 C X2 d21_88 (flt (own_xge hx0 tQ3 (by omega))).2.1 (by decide) (by decide) <| G.f 106 C X2 d21_104 rfl rfl <| G.M 118 C X2 d21_106 (teq (by decide : (0 : Int32) = 0)).1 (by decide) (by decide) <| G.f 120 C X2 d21_118 rfl rfl ?_
 exact G.E C X2 d21_120 hret hlk (⟨rfl, K3, (by rw [tx_app]; exact V2)⟩) (by decide) (by decide)
theorem ctSs2 {l : Launch} {Z : State} {a0 : Array Value} (hw : HW a0 Z) {n0 : Nat} {h0 : Heap} (hn0 : n0 ≤ h0.size) (vv : Int32) (V0 : Nat) (hV : vv.toInt = (V0 : Int)) (hlo : 10 ≤ V0) (hhi : V0 < 100) :
 Ctr l Z (⟨zq2, "stringSize", "(I)I"⟩ : MethodName) jdk_33_method_13_code 4 (some .int) (rQ 0 0 0 0) n0 #[(.int vv)] h0 (fun v h => v = some (.int 2) ∧ h = h0) := by
 refine Ctr.of (plainFor_of_name pn3) hn0 ?_
 intro p e s m below meth c T0 C hnm hret hlk X0
 rw [ef19 m vv]
 refine G.i 1 (z := 1) C X0 d19_0 rfl (by decide) <| G.g 2 C X0 d19_1 rfl (l' := #[vI vv, vI 1, .unset, .unset]) rfl <| G.a 3 C X0 d19_2 rfl rfl <| G.q 6 C X0 d19_3 rfl (flt (own_nn hV)).1 <| G.i 7 (z := 0) C X0 d19_6 rfl (by decide) <| G.g 8 C X0 d19_7 rfl (l' := #[vI vv, vI 0, .unset, .unset]) rfl <| G.a 9 C X0 d19_8 rfl rfl <| G.H 10 (z := (-vv)) C X0 d19_9 rfl rfl <| G.g 11 C X0 d19_10 rfl (l' := #[vI (-vv), vI 0, .unset, .unset]) rfl <| G.d 13 (z := -10) C X0 d19_11 rfl (by decide) <| G.g 14 C X0 d19_13 rfl (l' := #[vI (-vv), vI 0, vI (-10), .unset]) rfl <| G.i 15 (z := 1) C X0 d19_14 rfl (by decide) <| G.g 16 C X0 d19_15 rfl (l' := #[vI (-vv), vI 0, vI (-10), vI 1]) rfl <| G.a 17 C X0 d19_16 rfl rfl <| G.d 19 (z := 10) C X0 d19_17 rfl (by decide) ?_
 refine G.k 22 C X0 d19_19 rfl (tlt (by decide : (1 : Int32) < 10)).2.1 <| G.a 23 C X0 d19_22 rfl rfl <| G.a 24 C X0 d19_23 rfl rfl <| G.j 31 C X0 d19_24 (flt (own_pge (own_neg hV) tQ0 (by omega))).2.2.2 (by decide) (by decide) <| G.d 33 (z := 10) C X0 d19_31 rfl (by decide) <| G.a 34 C X0 d19_33 rfl rfl <| G.y 35 (z := (-100 : Int32)) C X0 d19_34 rfl (by decide) <| G.g 36 C X0 d19_35 rfl (l' := #[vI (-vv), vI 0, vI (-100), vI 1]) rfl <| G.t 39 C X0 d19_36 rfl rfl (z := (2 : Int32)) (by decide) (l' := #[vI (-vv), vI 0, vI (-100), vI 2]) rfl <| G.r 16 C X0 d19_39 (by decide) (by decide) <| G.a 17 C X0 d19_16 rfl rfl <| G.d 19 (z := 10) C X0 d19_17 rfl (by decide) <| G.k 22 C X0 d19_19 rfl (tlt (by decide : (2 : Int32) < 10)).2.1 <| G.a 23 C X0 d19_22 rfl rfl <| G.a 24 C X0 d19_23 rfl rfl ?_
 refine G.k 27 C X0 d19_24 rfl (tlt (own_plt (own_neg hV) tQ2 (by omega))).2.2.2 <| G.a 28 C X0 d19_27 rfl rfl <| G.a 29 C X0 d19_28 rfl rfl <| G.z 30 (z := (2 : Int32)) C X0 d19_29 rfl (by decide) ?_
 exact G.E C X0 d19_30 hret hlk (⟨rfl, rfl⟩) (by decide) (by decide)
theorem ctNd2 {l : Launch} {Z : State} {a0 : Array Value} (hw : HW a0 Z) {n0 : Nat} {h0 : Heap} (hn0 : n0 ≤ h0.size) (vv : Int32) (V0 : Nat) (hV : vv.toInt = (V0 : Int)) (hlo : 10 ≤ V0) (hhi : V0 < 100) :
 Ctr l Z (⟨zq7, "nd", "(I)I"⟩ : MethodName) method_5_code 1 (some .int) (rQ 0 0 0 0) n0 #[(.int vv)] h0 (fun v h => v = some (.int 2) ∧ h = h0) := by
 refine Ctr.of (plainFor_of_name pn4) hn0 ?_
 intro p e s m below meth c T0 C hnm hret hlk X0
 rw [ef39 m vv]
 refine G.a 1 C X0 d39_0 rfl rfl <| G.d 3 (z := 10) C X0 d39_1 rfl (by decide) <| G.j 8 C X0 d39_3 (flt (own_vge hV tQ1 (by omega))).2.1 (by decide) (by decide) <| G.a 9 C X0 d39_8 rfl rfl <| G.d 11 (z := 100) C X0 d39_9 rfl (by decide) <| G.k 14 C X0 d39_11 rfl (tlt (own_vlt hV tQ4 (by omega))).2.1 <| G.i 15 (z := 2) C X0 d39_14 rfl (by decide) ?_
 exact G.E C X0 d39_15 hret hlk (⟨rfl, rfl⟩) (by decide) (by decide)
theorem ctGc2 {l : Launch} {Z : State} {a0 : Array Value} (hw : HW a0 Z) {n0 : Nat} {h0 : Heap} (hn0 : n0 ≤ h0.size) (tb : Addr) (kt : ClassId) (do_ dt_ : Addr) (ko kq : ClassId) (W : List Int32) (cp vv : Int32) (V0 : Nat) (Vt : Arv Z h0 tb kt .byte cp (tx W ++ [(.int 0), (.int 0)]) (.int 0)) (gt : n0 ≤ tb) (OD : Old Z n0 h0) (So : Sta Z Z.heap zq2 "DigitOnes" "[B" (.ref do_)) (Sq : Sta Z Z.heap zq2 "DigitTens" "[B" (.ref dt_)) (Vo : Arv Z Z.heap do_ ko .byte (100 : Int32) own_ones (.int 0)) (Vq : Arv Z Z.heap dt_ kq .byte (100 : Int32) own_tens (.int 0)) (hcp : cp = 16 ∨ cp = 34) (hb : W.length + 2 < 1000) (hfit : W.length + 2 ≤ cp.toNatClampNeg) (hV : vv.toInt = (V0 : Int)) (hlo : 10 ≤ V0) (hhi : V0 < 100) :
 Ctr l Z (⟨zq2, "getChars", "(II[B)I"⟩ : MethodName) jdk_33_method_12_code 7 (some .int) (rQ 0 0 0 0) n0 #[(.int vv), (.int (own_n (W.length + 2))), (.ref tb)] h0 (fun v h => v = some (.int (own_n (W.length + 0))) ∧ Keep h0 h [tb] ∧ Arv Z h tb kt .byte cp (tx (W ++ own_dig V0 2)) (.int 0)) := by
 refine Ctr.of (plainFor_of_name pn3) hn0 ?_
 intro p e s m below meth c T0 C hnm hret hlk X0
 rw [ef21 m vv (own_n (W.length + 2)) tb]
 have hx0 := own_neg hV
 refine G.a 1 C X0 d21_0 rfl rfl <| G.w 3 C X0 d21_1 rfl (l' := #[vI vv, vI (own_n (W.length + 2)), vR tb, .unset, .unset, vI (own_n (W.length + 2)), .unset]) rfl <| G.a 4 C X0 d21_3 rfl rfl <| G.M 11 C X0 d21_4 (flt (own_nn hV)).2.1 (by decide) (by decide) <| G.i 12 (z := 0) C X0 d21_11 rfl (by decide) <| G.w 14 C X0 d21_12 rfl (l' := #[vI vv, vI (own_n (W.length + 2)), vR tb, .unset, .unset, vI (own_n (W.length + 2)), vI 0]) rfl <| G.f 16 C X0 d21_14 rfl rfl <| G.q 19 C X0 d21_16 rfl (teq (by decide : (0 : Int32) = 0)).2 <| G.a 20 C X0 d21_19 rfl rfl <| G.H 21 (z := (-vv)) C X0 d21_20 rfl rfl <| G.g 22 C X0 d21_21 rfl (l' := #[vI (-vv), vI (own_n (W.length + 2)), vR tb, .unset, .unset, vI (own_n (W.length + 2)), vI 0]) rfl <| G.a 23 C X0 d21_22 rfl rfl <| G.d 25 (z := -100) C X0 d21_23 rfl (by decide) <| G.j 72 C X0 d21_25 (tlt (own_plt hx0 tQ2 (by omega))).2.2.1 (by decide) (by decide) <| G.b 73 C X0 d21_72 rfl rfl rfl ?_
 refine G.t 76 C X0 d21_73 rfl rfl (z := (own_n (W.length + 1))) (own_dc (W.length + 1)) (l' := #[vI (-vv), vI (own_n (W.length + 2)), vR tb, .unset, .unset, vI (own_n (W.length + 1)), vI 0]) rfl <| G.f 78 C X0 d21_76 rfl rfl <| G.x 81 C X0 (hQ (wd125 hw)) Via.refl (So.ext OD.2) d21_78 rfl fun T1 X1 => G.a 82 C X1 d21_81 rfl rfl ?_
 obtain ⟨rl, h_rl⟩ : ∃ z : Int32, -(-vv) = z := ⟨_, rfl⟩
 refine G.H 83 (z := rl) C X1 d21_82 rfl h_rl ?_
 have hrl := own_negp hx0 (by omega) h_rl
 refine G.B 84 C X1 (Vo.ext OD.2) d21_83 rfl (own_idx hrl (by omega)) (v := (own_n (48 + V0 / 1 % 10))) (own_oat hrl (by omega) (by omega) _) <| G.A 85 C X1 Vt gt (i := (W.length + 1)) d21_84 rfl (own_ix (own_cpp hcp) (by omega) (by omega)) (own_n_cl (by omega)) (by simp [tx_len]) (fun T2 h2 X2 W2 V2 => ?_)
 replace V2 : Arv Z h2 tb kt .byte cp (tx W ++ [(.int 0), (eQ V0 1)]) (.int 0) := by rw [own_nar_b, own_stk W [(.int 0), (.int 0)] 1 _] at V2; exact V2
 have K3 := (Keep.refl h0 [tb]).wr W2 (mQ 0 rfl)
 refine G.a 86 C X2 d21_85 rfl rfl <| G.d 88 (z := -9) C X2 d21_86 rfl (by decide) <| G.k 91 C X2 d21_88 rfl (tlt (own_xlt hx0 tQ3 (by omega))).2.1 <| G.b 92 C X2 d21_91 rfl rfl rfl <| G.t 95 C X2 d21_92 rfl rfl (z := (own_n (W.length + 0))) (own_dc (W.length + 0)) (l' := #[vI (-vv), vI (own_n (W.length + 2)), vR tb, .unset, .unset, vI (own_n (W.length + 0)), vI 0]) rfl <| G.f 97 C X2 d21_95 rfl rfl ?_
 have f4 := (OD.wr W2 gt)
 refine G.x 100 C X2 (hQ (wd280 hw)) Via.refl (Sq.ext f4.2) d21_97 rfl fun T5 X5 => G.a 101 C X5 d21_100 rfl rfl <| G.H 102 (z := rl) C X5 d21_101 rfl h_rl <| G.B 103 C X5 (Vq.ext f4.2) d21_102 rfl (own_idx hrl (by omega)) (v := (own_n (48 + V0 / 10 % 10))) (own_tat hrl (by omega) (by omega) _) <| G.A 104 C X5 V2 gt (i := (W.length + 0)) d21_103 rfl (own_ix (own_cpp hcp) (by omega) (by omega)) (own_n_cl (by omega)) (by simp [tx_len]) (fun T6 h6 X6 W6 V6 => ?_)
 replace V6 : Arv Z h6 tb kt .byte cp (tx W ++ [(eQ V0 10), (eQ V0 1)]) (.int 0) := by rw [own_nar_b, own_stk W [(.int 0), (eQ V0 1)] 0 _] at V6; exact V6
 have K7 := K3.wr W6 (mQ 0 rfl)
 refine G.f 106 C X6 d21_104 rfl rfl <| G.M 118 C X6 d21_106 (teq (by decide : (0 : Int32) = 0)).1 (by decide) (by decide) <| G.f 120 C X6 d21_118 rfl rfl ?_
 exact G.E C X6 d21_120 hret hlk (⟨rfl, K7, (by rw [tx_app]; exact V6)⟩) (by decide) (by decide)
theorem ctSs3 {l : Launch} {Z : State} {a0 : Array Value} (hw : HW a0 Z) {n0 : Nat} {h0 : Heap} (hn0 : n0 ≤ h0.size) (vv : Int32) (V0 : Nat) (hV : vv.toInt = (V0 : Int)) (hlo : 100 ≤ V0) (hhi : V0 < 1000) :
 Ctr l Z (⟨zq2, "stringSize", "(I)I"⟩ : MethodName) jdk_33_method_13_code 4 (some .int) (rQ 0 0 0 0) n0 #[(.int vv)] h0 (fun v h => v = some (.int 3) ∧ h = h0) := by
 refine Ctr.of (plainFor_of_name pn3) hn0 ?_
 intro p e s m below meth c T0 C hnm hret hlk X0
 rw [ef19 m vv]
 refine G.i 1 (z := 1) C X0 d19_0 rfl (by decide) <| G.g 2 C X0 d19_1 rfl (l' := #[vI vv, vI 1, .unset, .unset]) rfl <| G.a 3 C X0 d19_2 rfl rfl <| G.q 6 C X0 d19_3 rfl (flt (own_nn hV)).1 <| G.i 7 (z := 0) C X0 d19_6 rfl (by decide) <| G.g 8 C X0 d19_7 rfl (l' := #[vI vv, vI 0, .unset, .unset]) rfl <| G.a 9 C X0 d19_8 rfl rfl <| G.H 10 (z := (-vv)) C X0 d19_9 rfl rfl <| G.g 11 C X0 d19_10 rfl (l' := #[vI (-vv), vI 0, .unset, .unset]) rfl <| G.d 13 (z := -10) C X0 d19_11 rfl (by decide) <| G.g 14 C X0 d19_13 rfl (l' := #[vI (-vv), vI 0, vI (-10), .unset]) rfl <| G.i 15 (z := 1) C X0 d19_14 rfl (by decide) <| G.g 16 C X0 d19_15 rfl (l' := #[vI (-vv), vI 0, vI (-10), vI 1]) rfl <| G.a 17 C X0 d19_16 rfl rfl <| G.d 19 (z := 10) C X0 d19_17 rfl (by decide) ?_
 refine G.k 22 C X0 d19_19 rfl (tlt (by decide : (1 : Int32) < 10)).2.1 <| G.a 23 C X0 d19_22 rfl rfl <| G.a 24 C X0 d19_23 rfl rfl <| G.j 31 C X0 d19_24 (flt (own_pge (own_neg hV) tQ0 (by omega))).2.2.2 (by decide) (by decide) <| G.d 33 (z := 10) C X0 d19_31 rfl (by decide) <| G.a 34 C X0 d19_33 rfl rfl <| G.y 35 (z := (-100 : Int32)) C X0 d19_34 rfl (by decide) <| G.g 36 C X0 d19_35 rfl (l' := #[vI (-vv), vI 0, vI (-100), vI 1]) rfl <| G.t 39 C X0 d19_36 rfl rfl (z := (2 : Int32)) (by decide) (l' := #[vI (-vv), vI 0, vI (-100), vI 2]) rfl <| G.r 16 C X0 d19_39 (by decide) (by decide) <| G.a 17 C X0 d19_16 rfl rfl <| G.d 19 (z := 10) C X0 d19_17 rfl (by decide) <| G.k 22 C X0 d19_19 rfl (tlt (by decide : (2 : Int32) < 10)).2.1 <| G.a 23 C X0 d19_22 rfl rfl <| G.a 24 C X0 d19_23 rfl rfl ?_
 refine G.j 31 C X0 d19_24 (flt (own_pge (own_neg hV) tQ2 (by omega))).2.2.2 (by decide) (by decide) <| G.d 33 (z := 10) C X0 d19_31 rfl (by decide) <| G.a 34 C X0 d19_33 rfl rfl <| G.y 35 (z := (-1000 : Int32)) C X0 d19_34 rfl (by decide) <| G.g 36 C X0 d19_35 rfl (l' := #[vI (-vv), vI 0, vI (-1000), vI 2]) rfl <| G.t 39 C X0 d19_36 rfl rfl (z := (3 : Int32)) (by decide) (l' := #[vI (-vv), vI 0, vI (-1000), vI 3]) rfl <| G.r 16 C X0 d19_39 (by decide) (by decide) <| G.a 17 C X0 d19_16 rfl rfl <| G.d 19 (z := 10) C X0 d19_17 rfl (by decide) <| G.k 22 C X0 d19_19 rfl (tlt (by decide : (3 : Int32) < 10)).2.1 <| G.a 23 C X0 d19_22 rfl rfl <| G.a 24 C X0 d19_23 rfl rfl <| G.k 27 C X0 d19_24 rfl (tlt (own_plt (own_neg hV) tQ5 (by omega))).2.2.2 <| G.a 28 C X0 d19_27 rfl rfl <| G.a 29 C X0 d19_28 rfl rfl ?_
 refine G.z 30 (z := (3 : Int32)) C X0 d19_29 rfl (by decide) ?_
 exact G.E C X0 d19_30 hret hlk (⟨rfl, rfl⟩) (by decide) (by decide)
theorem ctNd3 {l : Launch} {Z : State} {a0 : Array Value} (hw : HW a0 Z) {n0 : Nat} {h0 : Heap} (hn0 : n0 ≤ h0.size) (vv : Int32) (V0 : Nat) (hV : vv.toInt = (V0 : Int)) (hlo : 100 ≤ V0) (hhi : V0 < 1000) :
 Ctr l Z (⟨zq7, "nd", "(I)I"⟩ : MethodName) method_5_code 1 (some .int) (rQ 0 0 0 0) n0 #[(.int vv)] h0 (fun v h => v = some (.int 3) ∧ h = h0) := by
 refine Ctr.of (plainFor_of_name pn4) hn0 ?_
 intro p e s m below meth c T0 C hnm hret hlk X0
 rw [ef39 m vv]
 refine G.a 1 C X0 d39_0 rfl rfl <| G.d 3 (z := 10) C X0 d39_1 rfl (by decide) <| G.j 8 C X0 d39_3 (flt (own_vge hV tQ1 (by omega))).2.1 (by decide) (by decide) <| G.a 9 C X0 d39_8 rfl rfl <| G.d 11 (z := 100) C X0 d39_9 rfl (by decide) <| G.j 16 C X0 d39_11 (flt (own_vge hV tQ4 (by omega))).2.1 (by decide) (by decide) <| G.a 17 C X0 d39_16 rfl rfl <| G.G 20 (z := 1000) C X0 d39_17 rfl (by decide) <| G.k 23 C X0 d39_20 rfl (tlt (own_vlt hV tQ6 (by omega))).2.1 <| G.i 24 (z := 3) C X0 d39_23 rfl (by decide) ?_
 exact G.E C X0 d39_24 hret hlk (⟨rfl, rfl⟩) (by decide) (by decide)
theorem ctGc3 {l : Launch} {Z : State} {a0 : Array Value} (hw : HW a0 Z) {n0 : Nat} {h0 : Heap} (hn0 : n0 ≤ h0.size) (tb : Addr) (kt : ClassId) (do_ dt_ : Addr) (ko kq : ClassId) (W : List Int32) (cp vv : Int32) (V0 : Nat) (Vt : Arv Z h0 tb kt .byte cp (tx W ++ [(.int 0), (.int 0), (.int 0)]) (.int 0)) (gt : n0 ≤ tb) (OD : Old Z n0 h0) (So : Sta Z Z.heap zq2 "DigitOnes" "[B" (.ref do_)) (Sq : Sta Z Z.heap zq2 "DigitTens" "[B" (.ref dt_)) (Vo : Arv Z Z.heap do_ ko .byte (100 : Int32) own_ones (.int 0)) (Vq : Arv Z Z.heap dt_ kq .byte (100 : Int32) own_tens (.int 0)) (hcp : cp = 16 ∨ cp = 34) (hb : W.length + 3 < 1000) (hfit : W.length + 3 ≤ cp.toNatClampNeg) (hV : vv.toInt = (V0 : Int)) (hlo : 100 ≤ V0) (hhi : V0 < 1000) :
 Ctr l Z (⟨zq2, "getChars", "(II[B)I"⟩ : MethodName) jdk_33_method_12_code 7 (some .int) (rQ 0 0 0 0) n0 #[(.int vv), (.int (own_n (W.length + 3))), (.ref tb)] h0 (fun v h => v = some (.int (own_n (W.length + 0))) ∧ Keep h0 h [tb] ∧ Arv Z h tb kt .byte cp (tx (W ++ own_dig V0 3)) (.int 0)) := by
 refine Ctr.of (plainFor_of_name pn3) hn0 ?_
 intro p e s m below meth c T0 C hnm hret hlk X0
 rw [ef21 m vv (own_n (W.length + 3)) tb]
 have hx0 := own_neg hV
 refine G.a 1 C X0 d21_0 rfl rfl <| G.w 3 C X0 d21_1 rfl (l' := #[vI vv, vI (own_n (W.length + 3)), vR tb, .unset, .unset, vI (own_n (W.length + 3)), .unset]) rfl <| G.a 4 C X0 d21_3 rfl rfl <| G.M 11 C X0 d21_4 (flt (own_nn hV)).2.1 (by decide) (by decide) <| G.i 12 (z := 0) C X0 d21_11 rfl (by decide) <| G.w 14 C X0 d21_12 rfl (l' := #[vI vv, vI (own_n (W.length + 3)), vR tb, .unset, .unset, vI (own_n (W.length + 3)), vI 0]) rfl <| G.f 16 C X0 d21_14 rfl rfl <| G.q 19 C X0 d21_16 rfl (teq (by decide : (0 : Int32) = 0)).2 <| G.a 20 C X0 d21_19 rfl rfl <| G.H 21 (z := (-vv)) C X0 d21_20 rfl rfl <| G.g 22 C X0 d21_21 rfl (l' := #[vI (-vv), vI (own_n (W.length + 3)), vR tb, .unset, .unset, vI (own_n (W.length + 3)), vI 0]) rfl <| G.a 23 C X0 d21_22 rfl rfl <| G.d 25 (z := -100) C X0 d21_23 rfl (by decide) <| G.k 28 C X0 d21_25 rfl (flt (own_pge hx0 tQ2 (by omega))).2.2.1 <| G.a 29 C X0 d21_28 rfl rfl ?_
 refine G.d 31 (z := 100) C X0 d21_29 rfl (by decide) ?_
 obtain ⟨q1_, h_q1_⟩ : ∃ z : Int32, (-vv) / (100 : Int32) = z := ⟨_, rfl⟩
 refine G.Y 32 (z := q1_) C X0 d21_31 rfl (by decide) h_q1_ ?_
 have hx1 := own_q hx0 h_q1_
 refine G.g 33 C X0 d21_32 rfl (l' := #[vI (-vv), vI (own_n (W.length + 3)), vR tb, vI q1_, .unset, vI (own_n (W.length + 3)), vI 0]) rfl <| G.a 34 C X0 d21_33 rfl rfl <| G.d 36 (z := 100) C X0 d21_34 rfl (by decide) <| G.y 37 (z := (q1_ * (100 : Int32))) C X0 d21_36 rfl rfl <| G.a 38 C X0 d21_37 rfl rfl ?_
 obtain ⟨r1_, h_r1_⟩ : ∃ z : Int32, (q1_ * (100 : Int32)) - (-vv) = z := ⟨_, rfl⟩
 refine G.u 39 (z := r1_) C X0 d21_38 rfl h_r1_ ?_
 have hr1 := own_r hx0 hx1 h_r1_
 refine G.w 41 C X0 d21_39 rfl (l' := #[vI (-vv), vI (own_n (W.length + 3)), vR tb, vI q1_, vI r1_, vI (own_n (W.length + 3)), vI 0]) rfl <| G.a 42 C X0 d21_41 rfl rfl <| G.g 43 C X0 d21_42 rfl (l' := #[vI q1_, vI (own_n (W.length + 3)), vR tb, vI q1_, vI r1_, vI (own_n (W.length + 3)), vI 0]) rfl <| G.b 44 C X0 d21_43 rfl rfl rfl <| G.t 47 C X0 d21_44 rfl rfl (z := (own_n (W.length + 2))) (own_dc (W.length + 2)) (l' := #[vI q1_, vI (own_n (W.length + 3)), vR tb, vI q1_, vI r1_, vI (own_n (W.length + 2)), vI 0]) rfl <| G.f 49 C X0 d21_47 rfl rfl <| G.x 52 C X0 (hQ (wd125 hw)) Via.refl (So.ext OD.2) d21_49 rfl fun T1 X1 => G.f 54 C X1 d21_52 rfl rfl <| G.B 55 C X1 (Vo.ext OD.2) d21_54 rfl (own_idx hr1 (by omega)) (v := (own_n (48 + V0 / 1 % 10))) (own_oat hr1 (by omega) (by omega) _) <| G.A 56 C X1 Vt gt (i := (W.length + 2)) d21_55 rfl (own_ix (own_cpp hcp) (by omega) (by omega)) (own_n_cl (by omega)) (by simp [tx_len]) (fun T2 h2 X2 W2 V2 => ?_)
 replace V2 : Arv Z h2 tb kt .byte cp (tx W ++ [(.int 0), (.int 0), (eQ V0 1)]) (.int 0) := by rw [own_nar_b, own_stk W [(.int 0), (.int 0), (.int 0)] 2 _] at V2; exact V2
 have K3 := (Keep.refl h0 [tb]).wr W2 (mQ 0 rfl)
 refine G.b 57 C X2 d21_56 rfl rfl rfl <| G.t 60 C X2 d21_57 rfl rfl (z := (own_n (W.length + 1))) (own_dc (W.length + 1)) (l' := #[vI q1_, vI (own_n (W.length + 3)), vR tb, vI q1_, vI r1_, vI (own_n (W.length + 1)), vI 0]) rfl <| G.f 62 C X2 d21_60 rfl rfl ?_
 have f4 := (OD.wr W2 gt)
 refine G.x 65 C X2 (hQ (wd280 hw)) Via.refl (Sq.ext f4.2) d21_62 rfl fun T5 X5 => G.f 67 C X5 d21_65 rfl rfl <| G.B 68 C X5 (Vq.ext f4.2) d21_67 rfl (own_idx hr1 (by omega)) (v := (own_n (48 + V0 / 10 % 10))) (own_tat hr1 (by omega) (by omega) _) <| G.A 69 C X5 V2 gt (i := (W.length + 1)) d21_68 rfl (own_ix (own_cpp hcp) (by omega) (by omega)) (own_n_cl (by omega)) (by simp [tx_len]) (fun T6 h6 X6 W6 V6 => ?_)
 replace V6 : Arv Z h6 tb kt .byte cp (tx W ++ [(.int 0), (eQ V0 10), (eQ V0 1)]) (.int 0) := by rw [own_nar_b, own_stk W [(.int 0), (.int 0), (eQ V0 1)] 1 _] at V6; exact V6
 have K7 := K3.wr W6 (mQ 0 rfl)
 refine G.r 22 C X6 d21_69 (by decide) (by decide) <| G.a 23 C X6 d21_22 rfl rfl <| G.d 25 (z := -100) C X6 d21_23 rfl (by decide) <| G.j 72 C X6 d21_25 (tlt (own_plt hx1 tQ2 (by omega))).2.2.1 (by decide) (by decide) <| G.b 73 C X6 d21_72 rfl rfl rfl <| G.t 76 C X6 d21_73 rfl rfl (z := (own_n (W.length + 0))) (own_dc (W.length + 0)) (l' := #[vI q1_, vI (own_n (W.length + 3)), vR tb, vI q1_, vI r1_, vI (own_n (W.length + 0)), vI 0]) rfl <| G.f 78 C X6 d21_76 rfl rfl ?_
 have f8 := (f4.wr W6 gt)
 refine G.x 81 C X6 (hQ (wd125 hw)) Via.refl (So.ext f8.2) d21_78 rfl fun T9 X9 => G.a 82 C X9 d21_81 rfl rfl ?_
 obtain ⟨rl, h_rl⟩ : ∃ z : Int32, -q1_ = z := ⟨_, rfl⟩
 refine G.H 83 (z := rl) C X9 d21_82 rfl h_rl ?_
 have hrl := own_negp hx1 (by omega) h_rl
 refine G.B 84 C X9 (Vo.ext f8.2) d21_83 rfl (own_idx hrl (by omega)) (v := (own_n (48 + V0 / 100 % 10))) (own_oat hrl (by omega) (by omega) _) <| G.A 85 C X9 V6 gt (i := (W.length + 0)) d21_84 rfl (own_ix (own_cpp hcp) (by omega) (by omega)) (own_n_cl (by omega)) (by simp [tx_len]) (fun T10 h10 X10 W10 V10 => ?_)
 replace V10 : Arv Z h10 tb kt .byte cp (tx W ++ [(eQ V0 100), (eQ V0 10), (eQ V0 1)]) (.int 0) := by rw [own_nar_b, own_stk W [(.int 0), (eQ V0 10), (eQ V0 1)] 0 _] at V10; exact V10
 have K11 := K7.wr W10 (mQ 0 rfl)
 refine G.a 86 C X10 d21_85 rfl rfl <| G.d 88 (z := -9) C X10 d21_86 rfl (by decide) <| G.j 104 C X10 d21_88 (flt (own_xge hx1 tQ3 (by omega))).2.1 (by decide) (by decide) <| G.f 106 C X10 d21_104 rfl rfl <| G.M 118 C X10 d21_106 (teq (by decide : (0 : Int32) = 0)).1 (by decide) (by decide) <| G.f 120 C X10 d21_118 rfl rfl ?_
 exact G.E C X10 d21_120 hret hlk (⟨rfl, K11, (by rw [tx_app]; exact V10)⟩) (by decide) (by decide)
theorem ctSs4 {l : Launch} {Z : State} {a0 : Array Value} (hw : HW a0 Z) {n0 : Nat} {h0 : Heap} (hn0 : n0 ≤ h0.size) (vv : Int32) (V0 : Nat) (hV : vv.toInt = (V0 : Int)) (hlo : 1000 ≤ V0) (hhi : V0 < 10000) :
 Ctr l Z (⟨zq2, "stringSize", "(I)I"⟩ : MethodName) jdk_33_method_13_code 4 (some .int) (rQ 0 0 0 0) n0 #[(.int vv)] h0 (fun v h => v = some (.int 4) ∧ h = h0) := by
 refine Ctr.of (plainFor_of_name pn3) hn0 ?_
 intro p e s m below meth c T0 C hnm hret hlk X0
 rw [ef19 m vv]
 refine G.i 1 (z := 1) C X0 d19_0 rfl (by decide) <| G.g 2 C X0 d19_1 rfl (l' := #[vI vv, vI 1, .unset, .unset]) rfl <| G.a 3 C X0 d19_2 rfl rfl <| G.q 6 C X0 d19_3 rfl (flt (own_nn hV)).1 <| G.i 7 (z := 0) C X0 d19_6 rfl (by decide) <| G.g 8 C X0 d19_7 rfl (l' := #[vI vv, vI 0, .unset, .unset]) rfl <| G.a 9 C X0 d19_8 rfl rfl <| G.H 10 (z := (-vv)) C X0 d19_9 rfl rfl <| G.g 11 C X0 d19_10 rfl (l' := #[vI (-vv), vI 0, .unset, .unset]) rfl <| G.d 13 (z := -10) C X0 d19_11 rfl (by decide) <| G.g 14 C X0 d19_13 rfl (l' := #[vI (-vv), vI 0, vI (-10), .unset]) rfl <| G.i 15 (z := 1) C X0 d19_14 rfl (by decide) <| G.g 16 C X0 d19_15 rfl (l' := #[vI (-vv), vI 0, vI (-10), vI 1]) rfl <| G.a 17 C X0 d19_16 rfl rfl <| G.d 19 (z := 10) C X0 d19_17 rfl (by decide) ?_
 refine G.k 22 C X0 d19_19 rfl (tlt (by decide : (1 : Int32) < 10)).2.1 <| G.a 23 C X0 d19_22 rfl rfl <| G.a 24 C X0 d19_23 rfl rfl <| G.j 31 C X0 d19_24 (flt (own_pge (own_neg hV) tQ0 (by omega))).2.2.2 (by decide) (by decide) <| G.d 33 (z := 10) C X0 d19_31 rfl (by decide) <| G.a 34 C X0 d19_33 rfl rfl <| G.y 35 (z := (-100 : Int32)) C X0 d19_34 rfl (by decide) <| G.g 36 C X0 d19_35 rfl (l' := #[vI (-vv), vI 0, vI (-100), vI 1]) rfl <| G.t 39 C X0 d19_36 rfl rfl (z := (2 : Int32)) (by decide) (l' := #[vI (-vv), vI 0, vI (-100), vI 2]) rfl <| G.r 16 C X0 d19_39 (by decide) (by decide) <| G.a 17 C X0 d19_16 rfl rfl <| G.d 19 (z := 10) C X0 d19_17 rfl (by decide) <| G.k 22 C X0 d19_19 rfl (tlt (by decide : (2 : Int32) < 10)).2.1 <| G.a 23 C X0 d19_22 rfl rfl <| G.a 24 C X0 d19_23 rfl rfl ?_
 refine G.j 31 C X0 d19_24 (flt (own_pge (own_neg hV) tQ2 (by omega))).2.2.2 (by decide) (by decide) <| G.d 33 (z := 10) C X0 d19_31 rfl (by decide) <| G.a 34 C X0 d19_33 rfl rfl <| G.y 35 (z := (-1000 : Int32)) C X0 d19_34 rfl (by decide) <| G.g 36 C X0 d19_35 rfl (l' := #[vI (-vv), vI 0, vI (-1000), vI 2]) rfl <| G.t 39 C X0 d19_36 rfl rfl (z := (3 : Int32)) (by decide) (l' := #[vI (-vv), vI 0, vI (-1000), vI 3]) rfl <| G.r 16 C X0 d19_39 (by decide) (by decide) <| G.a 17 C X0 d19_16 rfl rfl <| G.d 19 (z := 10) C X0 d19_17 rfl (by decide) <| G.k 22 C X0 d19_19 rfl (tlt (by decide : (3 : Int32) < 10)).2.1 <| G.a 23 C X0 d19_22 rfl rfl <| G.a 24 C X0 d19_23 rfl rfl <| G.j 31 C X0 d19_24 (flt (own_pge (own_neg hV) tQ5 (by omega))).2.2.2 (by decide) (by decide) <| G.d 33 (z := 10) C X0 d19_31 rfl (by decide) <| G.a 34 C X0 d19_33 rfl rfl ?_
 refine G.y 35 (z := (-10000 : Int32)) C X0 d19_34 rfl (by decide) <| G.g 36 C X0 d19_35 rfl (l' := #[vI (-vv), vI 0, vI (-10000), vI 3]) rfl <| G.t 39 C X0 d19_36 rfl rfl (z := (4 : Int32)) (by decide) (l' := #[vI (-vv), vI 0, vI (-10000), vI 4]) rfl <| G.r 16 C X0 d19_39 (by decide) (by decide) <| G.a 17 C X0 d19_16 rfl rfl <| G.d 19 (z := 10) C X0 d19_17 rfl (by decide) <| G.k 22 C X0 d19_19 rfl (tlt (by decide : (4 : Int32) < 10)).2.1 <| G.a 23 C X0 d19_22 rfl rfl <| G.a 24 C X0 d19_23 rfl rfl <| G.k 27 C X0 d19_24 rfl (tlt (own_plt (own_neg hV) tQ7 (by omega))).2.2.2 <| G.a 28 C X0 d19_27 rfl rfl <| G.a 29 C X0 d19_28 rfl rfl <| G.z 30 (z := (4 : Int32)) C X0 d19_29 rfl (by decide) ?_
 exact G.E C X0 d19_30 hret hlk (⟨rfl, rfl⟩) (by decide) (by decide)
theorem ctNd4 {l : Launch} {Z : State} {a0 : Array Value} (hw : HW a0 Z) {n0 : Nat} {h0 : Heap} (hn0 : n0 ≤ h0.size) (vv : Int32) (V0 : Nat) (hV : vv.toInt = (V0 : Int)) (hlo : 1000 ≤ V0) (hhi : V0 < 10000) :
 Ctr l Z (⟨zq7, "nd", "(I)I"⟩ : MethodName) method_5_code 1 (some .int) (rQ 0 0 0 0) n0 #[(.int vv)] h0 (fun v h => v = some (.int 4) ∧ h = h0) := by
 refine Ctr.of (plainFor_of_name pn4) hn0 ?_
 intro p e s m below meth c T0 C hnm hret hlk X0
 rw [ef39 m vv]
 refine G.a 1 C X0 d39_0 rfl rfl <| G.d 3 (z := 10) C X0 d39_1 rfl (by decide) <| G.j 8 C X0 d39_3 (flt (own_vge hV tQ1 (by omega))).2.1 (by decide) (by decide) <| G.a 9 C X0 d39_8 rfl rfl <| G.d 11 (z := 100) C X0 d39_9 rfl (by decide) <| G.j 16 C X0 d39_11 (flt (own_vge hV tQ4 (by omega))).2.1 (by decide) (by decide) <| G.a 17 C X0 d39_16 rfl rfl <| G.G 20 (z := 1000) C X0 d39_17 rfl (by decide) <| G.j 25 C X0 d39_20 (flt (own_vge hV tQ6 (by omega))).2.1 (by decide) (by decide) <| G.a 26 C X0 d39_25 rfl rfl <| G.G 29 (z := 10000) C X0 d39_26 rfl (by decide) <| G.k 32 C X0 d39_29 rfl (tlt (own_vlt hV tQ8 (by omega))).2.1 <| G.i 33 (z := 4) C X0 d39_32 rfl (by decide) ?_
 exact G.E C X0 d39_33 hret hlk (⟨rfl, rfl⟩) (by decide) (by decide)
theorem ctGc4 {l : Launch} {Z : State} {a0 : Array Value} (hw : HW a0 Z) {n0 : Nat} {h0 : Heap} (hn0 : n0 ≤ h0.size) (tb : Addr) (kt : ClassId) (do_ dt_ : Addr) (ko kq : ClassId) (W : List Int32) (cp vv : Int32) (V0 : Nat) (Vt : Arv Z h0 tb kt .byte cp (tx W ++ [(.int 0), (.int 0), (.int 0), (.int 0)]) (.int 0)) (gt : n0 ≤ tb) (OD : Old Z n0 h0) (So : Sta Z Z.heap zq2 "DigitOnes" "[B" (.ref do_)) (Sq : Sta Z Z.heap zq2 "DigitTens" "[B" (.ref dt_)) (Vo : Arv Z Z.heap do_ ko .byte (100 : Int32) own_ones (.int 0)) (Vq : Arv Z Z.heap dt_ kq .byte (100 : Int32) own_tens (.int 0)) (hcp : cp = 16 ∨ cp = 34) (hb : W.length + 4 < 1000) (hfit : W.length + 4 ≤ cp.toNatClampNeg) (hV : vv.toInt = (V0 : Int)) (hlo : 1000 ≤ V0) (hhi : V0 < 10000) :
 Ctr l Z (⟨zq2, "getChars", "(II[B)I"⟩ : MethodName) jdk_33_method_12_code 7 (some .int) (rQ 0 0 0 0) n0 #[(.int vv), (.int (own_n (W.length + 4))), (.ref tb)] h0 (fun v h => v = some (.int (own_n (W.length + 0))) ∧ Keep h0 h [tb] ∧ Arv Z h tb kt .byte cp (tx (W ++ own_dig V0 4)) (.int 0)) := by
 refine Ctr.of (plainFor_of_name pn3) hn0 ?_
 intro p e s m below meth c T0 C hnm hret hlk X0
 rw [ef21 m vv (own_n (W.length + 4)) tb]
 have hx0 := own_neg hV
 refine G.a 1 C X0 d21_0 rfl rfl <| G.w 3 C X0 d21_1 rfl (l' := #[vI vv, vI (own_n (W.length + 4)), vR tb, .unset, .unset, vI (own_n (W.length + 4)), .unset]) rfl <| G.a 4 C X0 d21_3 rfl rfl <| G.M 11 C X0 d21_4 (flt (own_nn hV)).2.1 (by decide) (by decide) <| G.i 12 (z := 0) C X0 d21_11 rfl (by decide) <| G.w 14 C X0 d21_12 rfl (l' := #[vI vv, vI (own_n (W.length + 4)), vR tb, .unset, .unset, vI (own_n (W.length + 4)), vI 0]) rfl <| G.f 16 C X0 d21_14 rfl rfl <| G.q 19 C X0 d21_16 rfl (teq (by decide : (0 : Int32) = 0)).2 <| G.a 20 C X0 d21_19 rfl rfl <| G.H 21 (z := (-vv)) C X0 d21_20 rfl rfl <| G.g 22 C X0 d21_21 rfl (l' := #[vI (-vv), vI (own_n (W.length + 4)), vR tb, .unset, .unset, vI (own_n (W.length + 4)), vI 0]) rfl <| G.a 23 C X0 d21_22 rfl rfl <| G.d 25 (z := -100) C X0 d21_23 rfl (by decide) <| G.k 28 C X0 d21_25 rfl (flt (own_pge hx0 tQ2 (by omega))).2.2.1 <| G.a 29 C X0 d21_28 rfl rfl ?_
 refine G.d 31 (z := 100) C X0 d21_29 rfl (by decide) ?_
 obtain ⟨q1_, h_q1_⟩ : ∃ z : Int32, (-vv) / (100 : Int32) = z := ⟨_, rfl⟩
 refine G.Y 32 (z := q1_) C X0 d21_31 rfl (by decide) h_q1_ ?_
 have hx1 := own_q hx0 h_q1_
 refine G.g 33 C X0 d21_32 rfl (l' := #[vI (-vv), vI (own_n (W.length + 4)), vR tb, vI q1_, .unset, vI (own_n (W.length + 4)), vI 0]) rfl <| G.a 34 C X0 d21_33 rfl rfl <| G.d 36 (z := 100) C X0 d21_34 rfl (by decide) <| G.y 37 (z := (q1_ * (100 : Int32))) C X0 d21_36 rfl rfl <| G.a 38 C X0 d21_37 rfl rfl ?_
 obtain ⟨r1_, h_r1_⟩ : ∃ z : Int32, (q1_ * (100 : Int32)) - (-vv) = z := ⟨_, rfl⟩
 refine G.u 39 (z := r1_) C X0 d21_38 rfl h_r1_ ?_
 have hr1 := own_r hx0 hx1 h_r1_
 refine G.w 41 C X0 d21_39 rfl (l' := #[vI (-vv), vI (own_n (W.length + 4)), vR tb, vI q1_, vI r1_, vI (own_n (W.length + 4)), vI 0]) rfl <| G.a 42 C X0 d21_41 rfl rfl <| G.g 43 C X0 d21_42 rfl (l' := #[vI q1_, vI (own_n (W.length + 4)), vR tb, vI q1_, vI r1_, vI (own_n (W.length + 4)), vI 0]) rfl <| G.b 44 C X0 d21_43 rfl rfl rfl <| G.t 47 C X0 d21_44 rfl rfl (z := (own_n (W.length + 3))) (own_dc (W.length + 3)) (l' := #[vI q1_, vI (own_n (W.length + 4)), vR tb, vI q1_, vI r1_, vI (own_n (W.length + 3)), vI 0]) rfl <| G.f 49 C X0 d21_47 rfl rfl <| G.x 52 C X0 (hQ (wd125 hw)) Via.refl (So.ext OD.2) d21_49 rfl fun T1 X1 => G.f 54 C X1 d21_52 rfl rfl <| G.B 55 C X1 (Vo.ext OD.2) d21_54 rfl (own_idx hr1 (by omega)) (v := (own_n (48 + V0 / 1 % 10))) (own_oat hr1 (by omega) (by omega) _) <| G.A 56 C X1 Vt gt (i := (W.length + 3)) d21_55 rfl (own_ix (own_cpp hcp) (by omega) (by omega)) (own_n_cl (by omega)) (by simp [tx_len]) (fun T2 h2 X2 W2 V2 => ?_)
 replace V2 : Arv Z h2 tb kt .byte cp (tx W ++ [(.int 0), (.int 0), (.int 0), (eQ V0 1)]) (.int 0) := by rw [own_nar_b, own_stk W [(.int 0), (.int 0), (.int 0), (.int 0)] 3 _] at V2; exact V2
 have K3 := (Keep.refl h0 [tb]).wr W2 (mQ 0 rfl)
 refine G.b 57 C X2 d21_56 rfl rfl rfl <| G.t 60 C X2 d21_57 rfl rfl (z := (own_n (W.length + 2))) (own_dc (W.length + 2)) (l' := #[vI q1_, vI (own_n (W.length + 4)), vR tb, vI q1_, vI r1_, vI (own_n (W.length + 2)), vI 0]) rfl <| G.f 62 C X2 d21_60 rfl rfl ?_
 have f4 := (OD.wr W2 gt)
 refine G.x 65 C X2 (hQ (wd280 hw)) Via.refl (Sq.ext f4.2) d21_62 rfl fun T5 X5 => G.f 67 C X5 d21_65 rfl rfl <| G.B 68 C X5 (Vq.ext f4.2) d21_67 rfl (own_idx hr1 (by omega)) (v := (own_n (48 + V0 / 10 % 10))) (own_tat hr1 (by omega) (by omega) _) <| G.A 69 C X5 V2 gt (i := (W.length + 2)) d21_68 rfl (own_ix (own_cpp hcp) (by omega) (by omega)) (own_n_cl (by omega)) (by simp [tx_len]) (fun T6 h6 X6 W6 V6 => ?_)
 replace V6 : Arv Z h6 tb kt .byte cp (tx W ++ [(.int 0), (.int 0), (eQ V0 10), (eQ V0 1)]) (.int 0) := by rw [own_nar_b, own_stk W [(.int 0), (.int 0), (.int 0), (eQ V0 1)] 2 _] at V6; exact V6
 have K7 := K3.wr W6 (mQ 0 rfl)
 refine G.r 22 C X6 d21_69 (by decide) (by decide) <| G.a 23 C X6 d21_22 rfl rfl <| G.d 25 (z := -100) C X6 d21_23 rfl (by decide) <| G.j 72 C X6 d21_25 (tlt (own_plt hx1 tQ2 (by omega))).2.2.1 (by decide) (by decide) <| G.b 73 C X6 d21_72 rfl rfl rfl <| G.t 76 C X6 d21_73 rfl rfl (z := (own_n (W.length + 1))) (own_dc (W.length + 1)) (l' := #[vI q1_, vI (own_n (W.length + 4)), vR tb, vI q1_, vI r1_, vI (own_n (W.length + 1)), vI 0]) rfl <| G.f 78 C X6 d21_76 rfl rfl ?_
 have f8 := (f4.wr W6 gt)
 refine G.x 81 C X6 (hQ (wd125 hw)) Via.refl (So.ext f8.2) d21_78 rfl fun T9 X9 => G.a 82 C X9 d21_81 rfl rfl ?_
 obtain ⟨rl, h_rl⟩ : ∃ z : Int32, -q1_ = z := ⟨_, rfl⟩
 refine G.H 83 (z := rl) C X9 d21_82 rfl h_rl ?_
 have hrl := own_negp hx1 (by omega) h_rl
 refine G.B 84 C X9 (Vo.ext f8.2) d21_83 rfl (own_idx hrl (by omega)) (v := (own_n (48 + V0 / 100 % 10))) (own_oat hrl (by omega) (by omega) _) <| G.A 85 C X9 V6 gt (i := (W.length + 1)) d21_84 rfl (own_ix (own_cpp hcp) (by omega) (by omega)) (own_n_cl (by omega)) (by simp [tx_len]) (fun T10 h10 X10 W10 V10 => ?_)
 replace V10 : Arv Z h10 tb kt .byte cp (tx W ++ [(.int 0), (eQ V0 100), (eQ V0 10), (eQ V0 1)]) (.int 0) := by rw [own_nar_b, own_stk W [(.int 0), (.int 0), (eQ V0 10), (eQ V0 1)] 1 _] at V10; exact V10
 have K11 := K7.wr W10 (mQ 0 rfl)
 refine G.a 86 C X10 d21_85 rfl rfl <| G.d 88 (z := -9) C X10 d21_86 rfl (by decide) <| G.k 91 C X10 d21_88 rfl (tlt (own_xlt hx1 tQ3 (by omega))).2.1 <| G.b 92 C X10 d21_91 rfl rfl rfl <| G.t 95 C X10 d21_92 rfl rfl (z := (own_n (W.length + 0))) (own_dc (W.length + 0)) (l' := #[vI q1_, vI (own_n (W.length + 4)), vR tb, vI q1_, vI r1_, vI (own_n (W.length + 0)), vI 0]) rfl <| G.f 97 C X10 d21_95 rfl rfl ?_
 have f12 := (f8.wr W10 gt)
 refine G.x 100 C X10 (hQ (wd280 hw)) Via.refl (Sq.ext f12.2) d21_97 rfl fun T13 X13 => G.a 101 C X13 d21_100 rfl rfl <| G.H 102 (z := rl) C X13 d21_101 rfl h_rl <| G.B 103 C X13 (Vq.ext f12.2) d21_102 rfl (own_idx hrl (by omega)) (v := (own_n (48 + V0 / 1000 % 10))) (own_tat hrl (by omega) (by omega) _) <| G.A 104 C X13 V10 gt (i := (W.length + 0)) d21_103 rfl (own_ix (own_cpp hcp) (by omega) (by omega)) (own_n_cl (by omega)) (by simp [tx_len]) (fun T14 h14 X14 W14 V14 => ?_)
 replace V14 : Arv Z h14 tb kt .byte cp (tx W ++ [(eQ V0 1000), (eQ V0 100), (eQ V0 10), (eQ V0 1)]) (.int 0) := by rw [own_nar_b, own_stk W [(.int 0), (eQ V0 100), (eQ V0 10), (eQ V0 1)] 0 _] at V14; exact V14
 have K15 := K11.wr W14 (mQ 0 rfl)
 refine G.f 106 C X14 d21_104 rfl rfl <| G.M 118 C X14 d21_106 (teq (by decide : (0 : Int32) = 0)).1 (by decide) (by decide) <| G.f 120 C X14 d21_118 rfl rfl ?_
 exact G.E C X14 d21_120 hret hlk (⟨rfl, K15, (by rw [tx_app]; exact V14)⟩) (by decide) (by decide)
theorem ctSs5 {l : Launch} {Z : State} {a0 : Array Value} (hw : HW a0 Z) {n0 : Nat} {h0 : Heap} (hn0 : n0 ≤ h0.size) (vv : Int32) (V0 : Nat) (hV : vv.toInt = (V0 : Int)) (hlo : 10000 ≤ V0) (hhi : V0 < 100000) :
 Ctr l Z (⟨zq2, "stringSize", "(I)I"⟩ : MethodName) jdk_33_method_13_code 4 (some .int) (rQ 0 0 0 0) n0 #[(.int vv)] h0 (fun v h => v = some (.int 5) ∧ h = h0) := by
 refine Ctr.of (plainFor_of_name pn3) hn0 ?_
 intro p e s m below meth c T0 C hnm hret hlk X0
 rw [ef19 m vv]
 refine G.i 1 (z := 1) C X0 d19_0 rfl (by decide) <| G.g 2 C X0 d19_1 rfl (l' := #[vI vv, vI 1, .unset, .unset]) rfl <| G.a 3 C X0 d19_2 rfl rfl <| G.q 6 C X0 d19_3 rfl (flt (own_nn hV)).1 <| G.i 7 (z := 0) C X0 d19_6 rfl (by decide) <| G.g 8 C X0 d19_7 rfl (l' := #[vI vv, vI 0, .unset, .unset]) rfl <| G.a 9 C X0 d19_8 rfl rfl <| G.H 10 (z := (-vv)) C X0 d19_9 rfl rfl <| G.g 11 C X0 d19_10 rfl (l' := #[vI (-vv), vI 0, .unset, .unset]) rfl <| G.d 13 (z := -10) C X0 d19_11 rfl (by decide) <| G.g 14 C X0 d19_13 rfl (l' := #[vI (-vv), vI 0, vI (-10), .unset]) rfl <| G.i 15 (z := 1) C X0 d19_14 rfl (by decide) <| G.g 16 C X0 d19_15 rfl (l' := #[vI (-vv), vI 0, vI (-10), vI 1]) rfl <| G.a 17 C X0 d19_16 rfl rfl <| G.d 19 (z := 10) C X0 d19_17 rfl (by decide) ?_
 refine G.k 22 C X0 d19_19 rfl (tlt (by decide : (1 : Int32) < 10)).2.1 <| G.a 23 C X0 d19_22 rfl rfl <| G.a 24 C X0 d19_23 rfl rfl <| G.j 31 C X0 d19_24 (flt (own_pge (own_neg hV) tQ0 (by omega))).2.2.2 (by decide) (by decide) <| G.d 33 (z := 10) C X0 d19_31 rfl (by decide) <| G.a 34 C X0 d19_33 rfl rfl <| G.y 35 (z := (-100 : Int32)) C X0 d19_34 rfl (by decide) <| G.g 36 C X0 d19_35 rfl (l' := #[vI (-vv), vI 0, vI (-100), vI 1]) rfl <| G.t 39 C X0 d19_36 rfl rfl (z := (2 : Int32)) (by decide) (l' := #[vI (-vv), vI 0, vI (-100), vI 2]) rfl <| G.r 16 C X0 d19_39 (by decide) (by decide) <| G.a 17 C X0 d19_16 rfl rfl <| G.d 19 (z := 10) C X0 d19_17 rfl (by decide) <| G.k 22 C X0 d19_19 rfl (tlt (by decide : (2 : Int32) < 10)).2.1 <| G.a 23 C X0 d19_22 rfl rfl <| G.a 24 C X0 d19_23 rfl rfl ?_
 refine G.j 31 C X0 d19_24 (flt (own_pge (own_neg hV) tQ2 (by omega))).2.2.2 (by decide) (by decide) <| G.d 33 (z := 10) C X0 d19_31 rfl (by decide) <| G.a 34 C X0 d19_33 rfl rfl <| G.y 35 (z := (-1000 : Int32)) C X0 d19_34 rfl (by decide) <| G.g 36 C X0 d19_35 rfl (l' := #[vI (-vv), vI 0, vI (-1000), vI 2]) rfl <| G.t 39 C X0 d19_36 rfl rfl (z := (3 : Int32)) (by decide) (l' := #[vI (-vv), vI 0, vI (-1000), vI 3]) rfl <| G.r 16 C X0 d19_39 (by decide) (by decide) <| G.a 17 C X0 d19_16 rfl rfl <| G.d 19 (z := 10) C X0 d19_17 rfl (by decide) <| G.k 22 C X0 d19_19 rfl (tlt (by decide : (3 : Int32) < 10)).2.1 <| G.a 23 C X0 d19_22 rfl rfl <| G.a 24 C X0 d19_23 rfl rfl <| G.j 31 C X0 d19_24 (flt (own_pge (own_neg hV) tQ5 (by omega))).2.2.2 (by decide) (by decide) <| G.d 33 (z := 10) C X0 d19_31 rfl (by decide) <| G.a 34 C X0 d19_33 rfl rfl ?_
 refine G.y 35 (z := (-10000 : Int32)) C X0 d19_34 rfl (by decide) <| G.g 36 C X0 d19_35 rfl (l' := #[vI (-vv), vI 0, vI (-10000), vI 3]) rfl <| G.t 39 C X0 d19_36 rfl rfl (z := (4 : Int32)) (by decide) (l' := #[vI (-vv), vI 0, vI (-10000), vI 4]) rfl <| G.r 16 C X0 d19_39 (by decide) (by decide) <| G.a 17 C X0 d19_16 rfl rfl <| G.d 19 (z := 10) C X0 d19_17 rfl (by decide) <| G.k 22 C X0 d19_19 rfl (tlt (by decide : (4 : Int32) < 10)).2.1 <| G.a 23 C X0 d19_22 rfl rfl <| G.a 24 C X0 d19_23 rfl rfl <| G.j 31 C X0 d19_24 (flt (own_pge (own_neg hV) tQ7 (by omega))).2.2.2 (by decide) (by decide) <| G.d 33 (z := 10) C X0 d19_31 rfl (by decide) <| G.a 34 C X0 d19_33 rfl rfl <| G.y 35 (z := (-100000 : Int32)) C X0 d19_34 rfl (by decide) <| G.g 36 C X0 d19_35 rfl (l' := #[vI (-vv), vI 0, vI (-100000), vI 4]) rfl <| G.t 39 C X0 d19_36 rfl rfl (z := (5 : Int32)) (by decide) (l' := #[vI (-vv), vI 0, vI (-100000), vI 5]) rfl ?_
 refine G.r 16 C X0 d19_39 (by decide) (by decide) <| G.a 17 C X0 d19_16 rfl rfl <| G.d 19 (z := 10) C X0 d19_17 rfl (by decide) <| G.k 22 C X0 d19_19 rfl (tlt (by decide : (5 : Int32) < 10)).2.1 <| G.a 23 C X0 d19_22 rfl rfl <| G.a 24 C X0 d19_23 rfl rfl <| G.k 27 C X0 d19_24 rfl (tlt (own_plt (own_neg hV) tQ9 (by omega))).2.2.2 <| G.a 28 C X0 d19_27 rfl rfl <| G.a 29 C X0 d19_28 rfl rfl <| G.z 30 (z := (5 : Int32)) C X0 d19_29 rfl (by decide) ?_
 exact G.E C X0 d19_30 hret hlk (⟨rfl, rfl⟩) (by decide) (by decide)
theorem ctNd5 {l : Launch} {Z : State} {a0 : Array Value} (hw : HW a0 Z) {n0 : Nat} {h0 : Heap} (hn0 : n0 ≤ h0.size) (vv : Int32) (V0 : Nat) (hV : vv.toInt = (V0 : Int)) (hlo : 10000 ≤ V0) (hhi : V0 < 100000) :
 Ctr l Z (⟨zq7, "nd", "(I)I"⟩ : MethodName) method_5_code 1 (some .int) (rQ 0 0 0 0) n0 #[(.int vv)] h0 (fun v h => v = some (.int 5) ∧ h = h0) := by
 refine Ctr.of (plainFor_of_name pn4) hn0 ?_
 intro p e s m below meth c T0 C hnm hret hlk X0
 rw [ef39 m vv]
 refine G.a 1 C X0 d39_0 rfl rfl <| G.d 3 (z := 10) C X0 d39_1 rfl (by decide) <| G.j 8 C X0 d39_3 (flt (own_vge hV tQ1 (by omega))).2.1 (by decide) (by decide) <| G.a 9 C X0 d39_8 rfl rfl <| G.d 11 (z := 100) C X0 d39_9 rfl (by decide) <| G.j 16 C X0 d39_11 (flt (own_vge hV tQ4 (by omega))).2.1 (by decide) (by decide) <| G.a 17 C X0 d39_16 rfl rfl <| G.G 20 (z := 1000) C X0 d39_17 rfl (by decide) <| G.j 25 C X0 d39_20 (flt (own_vge hV tQ6 (by omega))).2.1 (by decide) (by decide) <| G.a 26 C X0 d39_25 rfl rfl <| G.G 29 (z := 10000) C X0 d39_26 rfl (by decide) <| G.j 34 C X0 d39_29 (flt (own_vge hV tQ8 (by omega))).2.1 (by decide) (by decide) <| G.a 35 C X0 d39_34 rfl rfl <| G.F 37 C X0 (wd298 hw) d39_35 rfl <| G.k 40 C X0 d39_37 rfl (tlt (own_vlt hV tQ10 (by omega))).2.1 ?_
 refine G.i 41 (z := 5) C X0 d39_40 rfl (by decide) ?_
 exact G.E C X0 d39_41 hret hlk (⟨rfl, rfl⟩) (by decide) (by decide)
theorem ctGc5 {l : Launch} {Z : State} {a0 : Array Value} (hw : HW a0 Z) {n0 : Nat} {h0 : Heap} (hn0 : n0 ≤ h0.size) (tb : Addr) (kt : ClassId) (do_ dt_ : Addr) (ko kq : ClassId) (W : List Int32) (cp vv : Int32) (V0 : Nat) (Vt : Arv Z h0 tb kt .byte cp (tx W ++ [(.int 0), (.int 0), (.int 0), (.int 0), (.int 0)]) (.int 0)) (gt : n0 ≤ tb) (OD : Old Z n0 h0) (So : Sta Z Z.heap zq2 "DigitOnes" "[B" (.ref do_)) (Sq : Sta Z Z.heap zq2 "DigitTens" "[B" (.ref dt_)) (Vo : Arv Z Z.heap do_ ko .byte (100 : Int32) own_ones (.int 0)) (Vq : Arv Z Z.heap dt_ kq .byte (100 : Int32) own_tens (.int 0)) (hcp : cp = 16 ∨ cp = 34) (hb : W.length + 5 < 1000) (hfit : W.length + 5 ≤ cp.toNatClampNeg) (hV : vv.toInt = (V0 : Int)) (hlo : 10000 ≤ V0) (hhi : V0 < 100000) :
 Ctr l Z (⟨zq2, "getChars", "(II[B)I"⟩ : MethodName) jdk_33_method_12_code 7 (some .int) (rQ 0 0 0 0) n0 #[(.int vv), (.int (own_n (W.length + 5))), (.ref tb)] h0 (fun v h => v = some (.int (own_n (W.length + 0))) ∧ Keep h0 h [tb] ∧ Arv Z h tb kt .byte cp (tx (W ++ own_dig V0 5)) (.int 0)) := by
 refine Ctr.of (plainFor_of_name pn3) hn0 ?_
 intro p e s m below meth c T0 C hnm hret hlk X0
 rw [ef21 m vv (own_n (W.length + 5)) tb]
 have hx0 := own_neg hV
 refine G.a 1 C X0 d21_0 rfl rfl <| G.w 3 C X0 d21_1 rfl (l' := #[vI vv, vI (own_n (W.length + 5)), vR tb, .unset, .unset, vI (own_n (W.length + 5)), .unset]) rfl <| G.a 4 C X0 d21_3 rfl rfl <| G.M 11 C X0 d21_4 (flt (own_nn hV)).2.1 (by decide) (by decide) <| G.i 12 (z := 0) C X0 d21_11 rfl (by decide) <| G.w 14 C X0 d21_12 rfl (l' := #[vI vv, vI (own_n (W.length + 5)), vR tb, .unset, .unset, vI (own_n (W.length + 5)), vI 0]) rfl <| G.f 16 C X0 d21_14 rfl rfl <| G.q 19 C X0 d21_16 rfl (teq (by decide : (0 : Int32) = 0)).2 <| G.a 20 C X0 d21_19 rfl rfl <| G.H 21 (z := (-vv)) C X0 d21_20 rfl rfl <| G.g 22 C X0 d21_21 rfl (l' := #[vI (-vv), vI (own_n (W.length + 5)), vR tb, .unset, .unset, vI (own_n (W.length + 5)), vI 0]) rfl <| G.a 23 C X0 d21_22 rfl rfl <| G.d 25 (z := -100) C X0 d21_23 rfl (by decide) <| G.k 28 C X0 d21_25 rfl (flt (own_pge hx0 tQ2 (by omega))).2.2.1 <| G.a 29 C X0 d21_28 rfl rfl ?_
 refine G.d 31 (z := 100) C X0 d21_29 rfl (by decide) ?_
 obtain ⟨q1_, h_q1_⟩ : ∃ z : Int32, (-vv) / (100 : Int32) = z := ⟨_, rfl⟩
 refine G.Y 32 (z := q1_) C X0 d21_31 rfl (by decide) h_q1_ ?_
 have hx1 := own_q hx0 h_q1_
 refine G.g 33 C X0 d21_32 rfl (l' := #[vI (-vv), vI (own_n (W.length + 5)), vR tb, vI q1_, .unset, vI (own_n (W.length + 5)), vI 0]) rfl <| G.a 34 C X0 d21_33 rfl rfl <| G.d 36 (z := 100) C X0 d21_34 rfl (by decide) <| G.y 37 (z := (q1_ * (100 : Int32))) C X0 d21_36 rfl rfl <| G.a 38 C X0 d21_37 rfl rfl ?_
 obtain ⟨r1_, h_r1_⟩ : ∃ z : Int32, (q1_ * (100 : Int32)) - (-vv) = z := ⟨_, rfl⟩
 refine G.u 39 (z := r1_) C X0 d21_38 rfl h_r1_ ?_
 have hr1 := own_r hx0 hx1 h_r1_
 refine G.w 41 C X0 d21_39 rfl (l' := #[vI (-vv), vI (own_n (W.length + 5)), vR tb, vI q1_, vI r1_, vI (own_n (W.length + 5)), vI 0]) rfl <| G.a 42 C X0 d21_41 rfl rfl <| G.g 43 C X0 d21_42 rfl (l' := #[vI q1_, vI (own_n (W.length + 5)), vR tb, vI q1_, vI r1_, vI (own_n (W.length + 5)), vI 0]) rfl <| G.b 44 C X0 d21_43 rfl rfl rfl <| G.t 47 C X0 d21_44 rfl rfl (z := (own_n (W.length + 4))) (own_dc (W.length + 4)) (l' := #[vI q1_, vI (own_n (W.length + 5)), vR tb, vI q1_, vI r1_, vI (own_n (W.length + 4)), vI 0]) rfl <| G.f 49 C X0 d21_47 rfl rfl <| G.x 52 C X0 (hQ (wd125 hw)) Via.refl (So.ext OD.2) d21_49 rfl fun T1 X1 => G.f 54 C X1 d21_52 rfl rfl <| G.B 55 C X1 (Vo.ext OD.2) d21_54 rfl (own_idx hr1 (by omega)) (v := (own_n (48 + V0 / 1 % 10))) (own_oat hr1 (by omega) (by omega) _) <| G.A 56 C X1 Vt gt (i := (W.length + 4)) d21_55 rfl (own_ix (own_cpp hcp) (by omega) (by omega)) (own_n_cl (by omega)) (by simp [tx_len]) (fun T2 h2 X2 W2 V2 => ?_)
 replace V2 : Arv Z h2 tb kt .byte cp (tx W ++ [(.int 0), (.int 0), (.int 0), (.int 0), (eQ V0 1)]) (.int 0) := by rw [own_nar_b, own_stk W [(.int 0), (.int 0), (.int 0), (.int 0), (.int 0)] 4 _] at V2; exact V2
 have K3 := (Keep.refl h0 [tb]).wr W2 (mQ 0 rfl)
 refine G.b 57 C X2 d21_56 rfl rfl rfl <| G.t 60 C X2 d21_57 rfl rfl (z := (own_n (W.length + 3))) (own_dc (W.length + 3)) (l' := #[vI q1_, vI (own_n (W.length + 5)), vR tb, vI q1_, vI r1_, vI (own_n (W.length + 3)), vI 0]) rfl <| G.f 62 C X2 d21_60 rfl rfl ?_
 have f4 := (OD.wr W2 gt)
 refine G.x 65 C X2 (hQ (wd280 hw)) Via.refl (Sq.ext f4.2) d21_62 rfl fun T5 X5 => G.f 67 C X5 d21_65 rfl rfl <| G.B 68 C X5 (Vq.ext f4.2) d21_67 rfl (own_idx hr1 (by omega)) (v := (own_n (48 + V0 / 10 % 10))) (own_tat hr1 (by omega) (by omega) _) <| G.A 69 C X5 V2 gt (i := (W.length + 3)) d21_68 rfl (own_ix (own_cpp hcp) (by omega) (by omega)) (own_n_cl (by omega)) (by simp [tx_len]) (fun T6 h6 X6 W6 V6 => ?_)
 replace V6 : Arv Z h6 tb kt .byte cp (tx W ++ [(.int 0), (.int 0), (.int 0), (eQ V0 10), (eQ V0 1)]) (.int 0) := by rw [own_nar_b, own_stk W [(.int 0), (.int 0), (.int 0), (.int 0), (eQ V0 1)] 3 _] at V6; exact V6
 have K7 := K3.wr W6 (mQ 0 rfl)
 refine G.r 22 C X6 d21_69 (by decide) (by decide) <| G.a 23 C X6 d21_22 rfl rfl <| G.d 25 (z := -100) C X6 d21_23 rfl (by decide) <| G.k 28 C X6 d21_25 rfl (flt (own_pge hx1 tQ2 (by omega))).2.2.1 <| G.a 29 C X6 d21_28 rfl rfl <| G.d 31 (z := 100) C X6 d21_29 rfl (by decide) ?_
 obtain ⟨q2_, h_q2_⟩ : ∃ z : Int32, q1_ / (100 : Int32) = z := ⟨_, rfl⟩
 refine G.Y 32 (z := q2_) C X6 d21_31 rfl (by decide) h_q2_ ?_
 have hx2 := own_q hx1 h_q2_
 refine G.g 33 C X6 d21_32 rfl (l' := #[vI q1_, vI (own_n (W.length + 5)), vR tb, vI q2_, vI r1_, vI (own_n (W.length + 3)), vI 0]) rfl <| G.a 34 C X6 d21_33 rfl rfl <| G.d 36 (z := 100) C X6 d21_34 rfl (by decide) <| G.y 37 (z := (q2_ * (100 : Int32))) C X6 d21_36 rfl rfl <| G.a 38 C X6 d21_37 rfl rfl ?_
 obtain ⟨r2_, h_r2_⟩ : ∃ z : Int32, (q2_ * (100 : Int32)) - q1_ = z := ⟨_, rfl⟩
 refine G.u 39 (z := r2_) C X6 d21_38 rfl h_r2_ ?_
 have hr2 := own_r hx1 hx2 h_r2_
 refine G.w 41 C X6 d21_39 rfl (l' := #[vI q1_, vI (own_n (W.length + 5)), vR tb, vI q2_, vI r2_, vI (own_n (W.length + 3)), vI 0]) rfl <| G.a 42 C X6 d21_41 rfl rfl <| G.g 43 C X6 d21_42 rfl (l' := #[vI q2_, vI (own_n (W.length + 5)), vR tb, vI q2_, vI r2_, vI (own_n (W.length + 3)), vI 0]) rfl <| G.b 44 C X6 d21_43 rfl rfl rfl <| G.t 47 C X6 d21_44 rfl rfl (z := (own_n (W.length + 2))) (own_dc (W.length + 2)) (l' := #[vI q2_, vI (own_n (W.length + 5)), vR tb, vI q2_, vI r2_, vI (own_n (W.length + 2)), vI 0]) rfl <| G.f 49 C X6 d21_47 rfl rfl ?_
 have f8 := (f4.wr W6 gt)
 refine G.x 52 C X6 (hQ (wd125 hw)) Via.refl (So.ext f8.2) d21_49 rfl fun T9 X9 => G.f 54 C X9 d21_52 rfl rfl <| G.B 55 C X9 (Vo.ext f8.2) d21_54 rfl (own_idx hr2 (by omega)) (v := (own_n (48 + V0 / 100 % 10))) (own_oat hr2 (by omega) (by omega) _) <| G.A 56 C X9 V6 gt (i := (W.length + 2)) d21_55 rfl (own_ix (own_cpp hcp) (by omega) (by omega)) (own_n_cl (by omega)) (by simp [tx_len]) (fun T10 h10 X10 W10 V10 => ?_)
 replace V10 : Arv Z h10 tb kt .byte cp (tx W ++ [(.int 0), (.int 0), (eQ V0 100), (eQ V0 10), (eQ V0 1)]) (.int 0) := by rw [own_nar_b, own_stk W [(.int 0), (.int 0), (.int 0), (eQ V0 10), (eQ V0 1)] 2 _] at V10; exact V10
 have K11 := K7.wr W10 (mQ 0 rfl)
 refine G.b 57 C X10 d21_56 rfl rfl rfl <| G.t 60 C X10 d21_57 rfl rfl (z := (own_n (W.length + 1))) (own_dc (W.length + 1)) (l' := #[vI q2_, vI (own_n (W.length + 5)), vR tb, vI q2_, vI r2_, vI (own_n (W.length + 1)), vI 0]) rfl <| G.f 62 C X10 d21_60 rfl rfl ?_
 have f12 := (f8.wr W10 gt)
 refine G.x 65 C X10 (hQ (wd280 hw)) Via.refl (Sq.ext f12.2) d21_62 rfl fun T13 X13 => G.f 67 C X13 d21_65 rfl rfl <| G.B 68 C X13 (Vq.ext f12.2) d21_67 rfl (own_idx hr2 (by omega)) (v := (own_n (48 + V0 / 1000 % 10))) (own_tat hr2 (by omega) (by omega) _) <| G.A 69 C X13 V10 gt (i := (W.length + 1)) d21_68 rfl (own_ix (own_cpp hcp) (by omega) (by omega)) (own_n_cl (by omega)) (by simp [tx_len]) (fun T14 h14 X14 W14 V14 => ?_)
 replace V14 : Arv Z h14 tb kt .byte cp (tx W ++ [(.int 0), (eQ V0 1000), (eQ V0 100), (eQ V0 10), (eQ V0 1)]) (.int 0) := by rw [own_nar_b, own_stk W [(.int 0), (.int 0), (eQ V0 100), (eQ V0 10), (eQ V0 1)] 1 _] at V14; exact V14
 have K15 := K11.wr W14 (mQ 0 rfl)
 refine G.r 22 C X14 d21_69 (by decide) (by decide) <| G.a 23 C X14 d21_22 rfl rfl <| G.d 25 (z := -100) C X14 d21_23 rfl (by decide) <| G.j 72 C X14 d21_25 (tlt (own_plt hx2 tQ2 (by omega))).2.2.1 (by decide) (by decide) <| G.b 73 C X14 d21_72 rfl rfl rfl <| G.t 76 C X14 d21_73 rfl rfl (z := (own_n (W.length + 0))) (own_dc (W.length + 0)) (l' := #[vI q2_, vI (own_n (W.length + 5)), vR tb, vI q2_, vI r2_, vI (own_n (W.length + 0)), vI 0]) rfl <| G.f 78 C X14 d21_76 rfl rfl ?_
 have f16 := (f12.wr W14 gt)
 refine G.x 81 C X14 (hQ (wd125 hw)) Via.refl (So.ext f16.2) d21_78 rfl fun T17 X17 => G.a 82 C X17 d21_81 rfl rfl ?_
 obtain ⟨rl, h_rl⟩ : ∃ z : Int32, -q2_ = z := ⟨_, rfl⟩
 refine G.H 83 (z := rl) C X17 d21_82 rfl h_rl ?_
 have hrl := own_negp hx2 (by omega) h_rl
 refine G.B 84 C X17 (Vo.ext f16.2) d21_83 rfl (own_idx hrl (by omega)) (v := (own_n (48 + V0 / 10000 % 10))) (own_oat hrl (by omega) (by omega) _) <| G.A 85 C X17 V14 gt (i := (W.length + 0)) d21_84 rfl (own_ix (own_cpp hcp) (by omega) (by omega)) (own_n_cl (by omega)) (by simp [tx_len]) (fun T18 h18 X18 W18 V18 => ?_)
 replace V18 : Arv Z h18 tb kt .byte cp (tx W ++ [(eQ V0 10000), (eQ V0 1000), (eQ V0 100), (eQ V0 10), (eQ V0 1)]) (.int 0) := by rw [own_nar_b, own_stk W [(.int 0), (eQ V0 1000), (eQ V0 100), (eQ V0 10), (eQ V0 1)] 0 _] at V18; exact V18
 have K19 := K15.wr W18 (mQ 0 rfl)
 refine G.a 86 C X18 d21_85 rfl rfl <| G.d 88 (z := -9) C X18 d21_86 rfl (by decide) <| G.j 104 C X18 d21_88 (flt (own_xge hx2 tQ3 (by omega))).2.1 (by decide) (by decide) <| G.f 106 C X18 d21_104 rfl rfl <| G.M 118 C X18 d21_106 (teq (by decide : (0 : Int32) = 0)).1 (by decide) (by decide) <| G.f 120 C X18 d21_118 rfl rfl ?_
 exact G.E C X18 d21_120 hret hlk (⟨rfl, K19, (by rw [tx_app]; exact V18)⟩) (by decide) (by decide)
theorem ctSs6 {l : Launch} {Z : State} {a0 : Array Value} (hw : HW a0 Z) {n0 : Nat} {h0 : Heap} (hn0 : n0 ≤ h0.size) (vv : Int32) (V0 : Nat) (hV : vv.toInt = (V0 : Int)) (hlo : 100000 ≤ V0) (hhi : V0 < 1000000) :
 Ctr l Z (⟨zq2, "stringSize", "(I)I"⟩ : MethodName) jdk_33_method_13_code 4 (some .int) (rQ 0 0 0 0) n0 #[(.int vv)] h0 (fun v h => v = some (.int 6) ∧ h = h0) := by
 refine Ctr.of (plainFor_of_name pn3) hn0 ?_
 intro p e s m below meth c T0 C hnm hret hlk X0
 rw [ef19 m vv]
 refine G.i 1 (z := 1) C X0 d19_0 rfl (by decide) <| G.g 2 C X0 d19_1 rfl (l' := #[vI vv, vI 1, .unset, .unset]) rfl <| G.a 3 C X0 d19_2 rfl rfl <| G.q 6 C X0 d19_3 rfl (flt (own_nn hV)).1 <| G.i 7 (z := 0) C X0 d19_6 rfl (by decide) <| G.g 8 C X0 d19_7 rfl (l' := #[vI vv, vI 0, .unset, .unset]) rfl <| G.a 9 C X0 d19_8 rfl rfl <| G.H 10 (z := (-vv)) C X0 d19_9 rfl rfl <| G.g 11 C X0 d19_10 rfl (l' := #[vI (-vv), vI 0, .unset, .unset]) rfl <| G.d 13 (z := -10) C X0 d19_11 rfl (by decide) <| G.g 14 C X0 d19_13 rfl (l' := #[vI (-vv), vI 0, vI (-10), .unset]) rfl <| G.i 15 (z := 1) C X0 d19_14 rfl (by decide) <| G.g 16 C X0 d19_15 rfl (l' := #[vI (-vv), vI 0, vI (-10), vI 1]) rfl <| G.a 17 C X0 d19_16 rfl rfl <| G.d 19 (z := 10) C X0 d19_17 rfl (by decide) ?_
 refine G.k 22 C X0 d19_19 rfl (tlt (by decide : (1 : Int32) < 10)).2.1 <| G.a 23 C X0 d19_22 rfl rfl <| G.a 24 C X0 d19_23 rfl rfl <| G.j 31 C X0 d19_24 (flt (own_pge (own_neg hV) tQ0 (by omega))).2.2.2 (by decide) (by decide) <| G.d 33 (z := 10) C X0 d19_31 rfl (by decide) <| G.a 34 C X0 d19_33 rfl rfl <| G.y 35 (z := (-100 : Int32)) C X0 d19_34 rfl (by decide) <| G.g 36 C X0 d19_35 rfl (l' := #[vI (-vv), vI 0, vI (-100), vI 1]) rfl <| G.t 39 C X0 d19_36 rfl rfl (z := (2 : Int32)) (by decide) (l' := #[vI (-vv), vI 0, vI (-100), vI 2]) rfl <| G.r 16 C X0 d19_39 (by decide) (by decide) <| G.a 17 C X0 d19_16 rfl rfl <| G.d 19 (z := 10) C X0 d19_17 rfl (by decide) <| G.k 22 C X0 d19_19 rfl (tlt (by decide : (2 : Int32) < 10)).2.1 <| G.a 23 C X0 d19_22 rfl rfl <| G.a 24 C X0 d19_23 rfl rfl ?_
 refine G.j 31 C X0 d19_24 (flt (own_pge (own_neg hV) tQ2 (by omega))).2.2.2 (by decide) (by decide) <| G.d 33 (z := 10) C X0 d19_31 rfl (by decide) <| G.a 34 C X0 d19_33 rfl rfl <| G.y 35 (z := (-1000 : Int32)) C X0 d19_34 rfl (by decide) <| G.g 36 C X0 d19_35 rfl (l' := #[vI (-vv), vI 0, vI (-1000), vI 2]) rfl <| G.t 39 C X0 d19_36 rfl rfl (z := (3 : Int32)) (by decide) (l' := #[vI (-vv), vI 0, vI (-1000), vI 3]) rfl <| G.r 16 C X0 d19_39 (by decide) (by decide) <| G.a 17 C X0 d19_16 rfl rfl <| G.d 19 (z := 10) C X0 d19_17 rfl (by decide) <| G.k 22 C X0 d19_19 rfl (tlt (by decide : (3 : Int32) < 10)).2.1 <| G.a 23 C X0 d19_22 rfl rfl <| G.a 24 C X0 d19_23 rfl rfl <| G.j 31 C X0 d19_24 (flt (own_pge (own_neg hV) tQ5 (by omega))).2.2.2 (by decide) (by decide) <| G.d 33 (z := 10) C X0 d19_31 rfl (by decide) <| G.a 34 C X0 d19_33 rfl rfl ?_
 refine G.y 35 (z := (-10000 : Int32)) C X0 d19_34 rfl (by decide) <| G.g 36 C X0 d19_35 rfl (l' := #[vI (-vv), vI 0, vI (-10000), vI 3]) rfl <| G.t 39 C X0 d19_36 rfl rfl (z := (4 : Int32)) (by decide) (l' := #[vI (-vv), vI 0, vI (-10000), vI 4]) rfl <| G.r 16 C X0 d19_39 (by decide) (by decide) <| G.a 17 C X0 d19_16 rfl rfl <| G.d 19 (z := 10) C X0 d19_17 rfl (by decide) <| G.k 22 C X0 d19_19 rfl (tlt (by decide : (4 : Int32) < 10)).2.1 <| G.a 23 C X0 d19_22 rfl rfl <| G.a 24 C X0 d19_23 rfl rfl <| G.j 31 C X0 d19_24 (flt (own_pge (own_neg hV) tQ7 (by omega))).2.2.2 (by decide) (by decide) <| G.d 33 (z := 10) C X0 d19_31 rfl (by decide) <| G.a 34 C X0 d19_33 rfl rfl <| G.y 35 (z := (-100000 : Int32)) C X0 d19_34 rfl (by decide) <| G.g 36 C X0 d19_35 rfl (l' := #[vI (-vv), vI 0, vI (-100000), vI 4]) rfl <| G.t 39 C X0 d19_36 rfl rfl (z := (5 : Int32)) (by decide) (l' := #[vI (-vv), vI 0, vI (-100000), vI 5]) rfl ?_
 refine G.r 16 C X0 d19_39 (by decide) (by decide) <| G.a 17 C X0 d19_16 rfl rfl <| G.d 19 (z := 10) C X0 d19_17 rfl (by decide) <| G.k 22 C X0 d19_19 rfl (tlt (by decide : (5 : Int32) < 10)).2.1 <| G.a 23 C X0 d19_22 rfl rfl <| G.a 24 C X0 d19_23 rfl rfl <| G.j 31 C X0 d19_24 (flt (own_pge (own_neg hV) tQ9 (by omega))).2.2.2 (by decide) (by decide) <| G.d 33 (z := 10) C X0 d19_31 rfl (by decide) <| G.a 34 C X0 d19_33 rfl rfl <| G.y 35 (z := (-1000000 : Int32)) C X0 d19_34 rfl (by decide) <| G.g 36 C X0 d19_35 rfl (l' := #[vI (-vv), vI 0, vI (-1000000), vI 5]) rfl <| G.t 39 C X0 d19_36 rfl rfl (z := (6 : Int32)) (by decide) (l' := #[vI (-vv), vI 0, vI (-1000000), vI 6]) rfl <| G.r 16 C X0 d19_39 (by decide) (by decide) <| G.a 17 C X0 d19_16 rfl rfl <| G.d 19 (z := 10) C X0 d19_17 rfl (by decide) ?_
 refine G.k 22 C X0 d19_19 rfl (tlt (by decide : (6 : Int32) < 10)).2.1 <| G.a 23 C X0 d19_22 rfl rfl <| G.a 24 C X0 d19_23 rfl rfl <| G.k 27 C X0 d19_24 rfl (tlt (own_plt (own_neg hV) tQ11 (by omega))).2.2.2 <| G.a 28 C X0 d19_27 rfl rfl <| G.a 29 C X0 d19_28 rfl rfl <| G.z 30 (z := (6 : Int32)) C X0 d19_29 rfl (by decide) ?_
 exact G.E C X0 d19_30 hret hlk (⟨rfl, rfl⟩) (by decide) (by decide)
theorem ctNd6 {l : Launch} {Z : State} {a0 : Array Value} (hw : HW a0 Z) {n0 : Nat} {h0 : Heap} (hn0 : n0 ≤ h0.size) (vv : Int32) (V0 : Nat) (hV : vv.toInt = (V0 : Int)) (hlo : 100000 ≤ V0) (hhi : V0 < 1000000) :
 Ctr l Z (⟨zq7, "nd", "(I)I"⟩ : MethodName) method_5_code 1 (some .int) (rQ 0 0 0 0) n0 #[(.int vv)] h0 (fun v h => v = some (.int 6) ∧ h = h0) := by
 refine Ctr.of (plainFor_of_name pn4) hn0 ?_
 intro p e s m below meth c T0 C hnm hret hlk X0
 rw [ef39 m vv]
 refine G.a 1 C X0 d39_0 rfl rfl <| G.d 3 (z := 10) C X0 d39_1 rfl (by decide) <| G.j 8 C X0 d39_3 (flt (own_vge hV tQ1 (by omega))).2.1 (by decide) (by decide) <| G.a 9 C X0 d39_8 rfl rfl <| G.d 11 (z := 100) C X0 d39_9 rfl (by decide) <| G.j 16 C X0 d39_11 (flt (own_vge hV tQ4 (by omega))).2.1 (by decide) (by decide) <| G.a 17 C X0 d39_16 rfl rfl <| G.G 20 (z := 1000) C X0 d39_17 rfl (by decide) <| G.j 25 C X0 d39_20 (flt (own_vge hV tQ6 (by omega))).2.1 (by decide) (by decide) <| G.a 26 C X0 d39_25 rfl rfl <| G.G 29 (z := 10000) C X0 d39_26 rfl (by decide) <| G.j 34 C X0 d39_29 (flt (own_vge hV tQ8 (by omega))).2.1 (by decide) (by decide) <| G.a 35 C X0 d39_34 rfl rfl <| G.F 37 C X0 (wd298 hw) d39_35 rfl <| G.j 42 C X0 d39_37 (flt (own_vge hV tQ10 (by omega))).2.1 (by decide) (by decide) ?_
 refine G.a 43 C X0 d39_42 rfl rfl <| G.F 45 C X0 (wd299 hw) d39_43 rfl <| G.k 48 C X0 d39_45 rfl (tlt (own_vlt hV tQ12 (by omega))).2.1 <| G.d 50 (z := 6) C X0 d39_48 rfl (by decide) ?_
 exact G.E C X0 d39_50 hret hlk (⟨rfl, rfl⟩) (by decide) (by decide)
theorem ctGc6 {l : Launch} {Z : State} {a0 : Array Value} (hw : HW a0 Z) {n0 : Nat} {h0 : Heap} (hn0 : n0 ≤ h0.size) (tb : Addr) (kt : ClassId) (do_ dt_ : Addr) (ko kq : ClassId) (W : List Int32) (cp vv : Int32) (V0 : Nat) (Vt : Arv Z h0 tb kt .byte cp (tx W ++ [(.int 0), (.int 0), (.int 0), (.int 0), (.int 0), (.int 0)]) (.int 0)) (gt : n0 ≤ tb) (OD : Old Z n0 h0) (So : Sta Z Z.heap zq2 "DigitOnes" "[B" (.ref do_)) (Sq : Sta Z Z.heap zq2 "DigitTens" "[B" (.ref dt_)) (Vo : Arv Z Z.heap do_ ko .byte (100 : Int32) own_ones (.int 0)) (Vq : Arv Z Z.heap dt_ kq .byte (100 : Int32) own_tens (.int 0)) (hcp : cp = 16 ∨ cp = 34) (hb : W.length + 6 < 1000) (hfit : W.length + 6 ≤ cp.toNatClampNeg) (hV : vv.toInt = (V0 : Int)) (hlo : 100000 ≤ V0) (hhi : V0 < 1000000) :
 Ctr l Z (⟨zq2, "getChars", "(II[B)I"⟩ : MethodName) jdk_33_method_12_code 7 (some .int) (rQ 0 0 0 0) n0 #[(.int vv), (.int (own_n (W.length + 6))), (.ref tb)] h0 (fun v h => v = some (.int (own_n (W.length + 0))) ∧ Keep h0 h [tb] ∧ Arv Z h tb kt .byte cp (tx (W ++ own_dig V0 6)) (.int 0)) := by
 refine Ctr.of (plainFor_of_name pn3) hn0 ?_
 intro p e s m below meth c T0 C hnm hret hlk X0
 rw [ef21 m vv (own_n (W.length + 6)) tb]
 have hx0 := own_neg hV
 refine G.a 1 C X0 d21_0 rfl rfl <| G.w 3 C X0 d21_1 rfl (l' := #[vI vv, vI (own_n (W.length + 6)), vR tb, .unset, .unset, vI (own_n (W.length + 6)), .unset]) rfl <| G.a 4 C X0 d21_3 rfl rfl <| G.M 11 C X0 d21_4 (flt (own_nn hV)).2.1 (by decide) (by decide) <| G.i 12 (z := 0) C X0 d21_11 rfl (by decide) <| G.w 14 C X0 d21_12 rfl (l' := #[vI vv, vI (own_n (W.length + 6)), vR tb, .unset, .unset, vI (own_n (W.length + 6)), vI 0]) rfl <| G.f 16 C X0 d21_14 rfl rfl <| G.q 19 C X0 d21_16 rfl (teq (by decide : (0 : Int32) = 0)).2 <| G.a 20 C X0 d21_19 rfl rfl <| G.H 21 (z := (-vv)) C X0 d21_20 rfl rfl <| G.g 22 C X0 d21_21 rfl (l' := #[vI (-vv), vI (own_n (W.length + 6)), vR tb, .unset, .unset, vI (own_n (W.length + 6)), vI 0]) rfl <| G.a 23 C X0 d21_22 rfl rfl <| G.d 25 (z := -100) C X0 d21_23 rfl (by decide) <| G.k 28 C X0 d21_25 rfl (flt (own_pge hx0 tQ2 (by omega))).2.2.1 <| G.a 29 C X0 d21_28 rfl rfl ?_
 refine G.d 31 (z := 100) C X0 d21_29 rfl (by decide) ?_
 obtain ⟨q1_, h_q1_⟩ : ∃ z : Int32, (-vv) / (100 : Int32) = z := ⟨_, rfl⟩
 refine G.Y 32 (z := q1_) C X0 d21_31 rfl (by decide) h_q1_ ?_
 have hx1 := own_q hx0 h_q1_
 refine G.g 33 C X0 d21_32 rfl (l' := #[vI (-vv), vI (own_n (W.length + 6)), vR tb, vI q1_, .unset, vI (own_n (W.length + 6)), vI 0]) rfl <| G.a 34 C X0 d21_33 rfl rfl <| G.d 36 (z := 100) C X0 d21_34 rfl (by decide) <| G.y 37 (z := (q1_ * (100 : Int32))) C X0 d21_36 rfl rfl <| G.a 38 C X0 d21_37 rfl rfl ?_
 obtain ⟨r1_, h_r1_⟩ : ∃ z : Int32, (q1_ * (100 : Int32)) - (-vv) = z := ⟨_, rfl⟩
 refine G.u 39 (z := r1_) C X0 d21_38 rfl h_r1_ ?_
 have hr1 := own_r hx0 hx1 h_r1_
 refine G.w 41 C X0 d21_39 rfl (l' := #[vI (-vv), vI (own_n (W.length + 6)), vR tb, vI q1_, vI r1_, vI (own_n (W.length + 6)), vI 0]) rfl <| G.a 42 C X0 d21_41 rfl rfl <| G.g 43 C X0 d21_42 rfl (l' := #[vI q1_, vI (own_n (W.length + 6)), vR tb, vI q1_, vI r1_, vI (own_n (W.length + 6)), vI 0]) rfl <| G.b 44 C X0 d21_43 rfl rfl rfl <| G.t 47 C X0 d21_44 rfl rfl (z := (own_n (W.length + 5))) (own_dc (W.length + 5)) (l' := #[vI q1_, vI (own_n (W.length + 6)), vR tb, vI q1_, vI r1_, vI (own_n (W.length + 5)), vI 0]) rfl <| G.f 49 C X0 d21_47 rfl rfl <| G.x 52 C X0 (hQ (wd125 hw)) Via.refl (So.ext OD.2) d21_49 rfl fun T1 X1 => G.f 54 C X1 d21_52 rfl rfl <| G.B 55 C X1 (Vo.ext OD.2) d21_54 rfl (own_idx hr1 (by omega)) (v := (own_n (48 + V0 / 1 % 10))) (own_oat hr1 (by omega) (by omega) _) <| G.A 56 C X1 Vt gt (i := (W.length + 5)) d21_55 rfl (own_ix (own_cpp hcp) (by omega) (by omega)) (own_n_cl (by omega)) (by simp [tx_len]) (fun T2 h2 X2 W2 V2 => ?_)
 replace V2 : Arv Z h2 tb kt .byte cp (tx W ++ [(.int 0), (.int 0), (.int 0), (.int 0), (.int 0), (eQ V0 1)]) (.int 0) := by rw [own_nar_b, own_stk W [(.int 0), (.int 0), (.int 0), (.int 0), (.int 0), (.int 0)] 5 _] at V2; exact V2
 have K3 := (Keep.refl h0 [tb]).wr W2 (mQ 0 rfl)
 refine G.b 57 C X2 d21_56 rfl rfl rfl <| G.t 60 C X2 d21_57 rfl rfl (z := (own_n (W.length + 4))) (own_dc (W.length + 4)) (l' := #[vI q1_, vI (own_n (W.length + 6)), vR tb, vI q1_, vI r1_, vI (own_n (W.length + 4)), vI 0]) rfl <| G.f 62 C X2 d21_60 rfl rfl ?_
 have f4 := (OD.wr W2 gt)
 refine G.x 65 C X2 (hQ (wd280 hw)) Via.refl (Sq.ext f4.2) d21_62 rfl fun T5 X5 => G.f 67 C X5 d21_65 rfl rfl <| G.B 68 C X5 (Vq.ext f4.2) d21_67 rfl (own_idx hr1 (by omega)) (v := (own_n (48 + V0 / 10 % 10))) (own_tat hr1 (by omega) (by omega) _) <| G.A 69 C X5 V2 gt (i := (W.length + 4)) d21_68 rfl (own_ix (own_cpp hcp) (by omega) (by omega)) (own_n_cl (by omega)) (by simp [tx_len]) (fun T6 h6 X6 W6 V6 => ?_)
 replace V6 : Arv Z h6 tb kt .byte cp (tx W ++ [(.int 0), (.int 0), (.int 0), (.int 0), (eQ V0 10), (eQ V0 1)]) (.int 0) := by rw [own_nar_b, own_stk W [(.int 0), (.int 0), (.int 0), (.int 0), (.int 0), (eQ V0 1)] 4 _] at V6; exact V6
 have K7 := K3.wr W6 (mQ 0 rfl)
 refine G.r 22 C X6 d21_69 (by decide) (by decide) <| G.a 23 C X6 d21_22 rfl rfl <| G.d 25 (z := -100) C X6 d21_23 rfl (by decide) <| G.k 28 C X6 d21_25 rfl (flt (own_pge hx1 tQ2 (by omega))).2.2.1 <| G.a 29 C X6 d21_28 rfl rfl <| G.d 31 (z := 100) C X6 d21_29 rfl (by decide) ?_
 obtain ⟨q2_, h_q2_⟩ : ∃ z : Int32, q1_ / (100 : Int32) = z := ⟨_, rfl⟩
 refine G.Y 32 (z := q2_) C X6 d21_31 rfl (by decide) h_q2_ ?_
 have hx2 := own_q hx1 h_q2_
 refine G.g 33 C X6 d21_32 rfl (l' := #[vI q1_, vI (own_n (W.length + 6)), vR tb, vI q2_, vI r1_, vI (own_n (W.length + 4)), vI 0]) rfl <| G.a 34 C X6 d21_33 rfl rfl <| G.d 36 (z := 100) C X6 d21_34 rfl (by decide) <| G.y 37 (z := (q2_ * (100 : Int32))) C X6 d21_36 rfl rfl <| G.a 38 C X6 d21_37 rfl rfl ?_
 obtain ⟨r2_, h_r2_⟩ : ∃ z : Int32, (q2_ * (100 : Int32)) - q1_ = z := ⟨_, rfl⟩
 refine G.u 39 (z := r2_) C X6 d21_38 rfl h_r2_ ?_
 have hr2 := own_r hx1 hx2 h_r2_
 refine G.w 41 C X6 d21_39 rfl (l' := #[vI q1_, vI (own_n (W.length + 6)), vR tb, vI q2_, vI r2_, vI (own_n (W.length + 4)), vI 0]) rfl <| G.a 42 C X6 d21_41 rfl rfl <| G.g 43 C X6 d21_42 rfl (l' := #[vI q2_, vI (own_n (W.length + 6)), vR tb, vI q2_, vI r2_, vI (own_n (W.length + 4)), vI 0]) rfl <| G.b 44 C X6 d21_43 rfl rfl rfl <| G.t 47 C X6 d21_44 rfl rfl (z := (own_n (W.length + 3))) (own_dc (W.length + 3)) (l' := #[vI q2_, vI (own_n (W.length + 6)), vR tb, vI q2_, vI r2_, vI (own_n (W.length + 3)), vI 0]) rfl <| G.f 49 C X6 d21_47 rfl rfl ?_
 have f8 := (f4.wr W6 gt)
 refine G.x 52 C X6 (hQ (wd125 hw)) Via.refl (So.ext f8.2) d21_49 rfl fun T9 X9 => G.f 54 C X9 d21_52 rfl rfl <| G.B 55 C X9 (Vo.ext f8.2) d21_54 rfl (own_idx hr2 (by omega)) (v := (own_n (48 + V0 / 100 % 10))) (own_oat hr2 (by omega) (by omega) _) <| G.A 56 C X9 V6 gt (i := (W.length + 3)) d21_55 rfl (own_ix (own_cpp hcp) (by omega) (by omega)) (own_n_cl (by omega)) (by simp [tx_len]) (fun T10 h10 X10 W10 V10 => ?_)
 replace V10 : Arv Z h10 tb kt .byte cp (tx W ++ [(.int 0), (.int 0), (.int 0), (eQ V0 100), (eQ V0 10), (eQ V0 1)]) (.int 0) := by rw [own_nar_b, own_stk W [(.int 0), (.int 0), (.int 0), (.int 0), (eQ V0 10), (eQ V0 1)] 3 _] at V10; exact V10
 have K11 := K7.wr W10 (mQ 0 rfl)
 refine G.b 57 C X10 d21_56 rfl rfl rfl <| G.t 60 C X10 d21_57 rfl rfl (z := (own_n (W.length + 2))) (own_dc (W.length + 2)) (l' := #[vI q2_, vI (own_n (W.length + 6)), vR tb, vI q2_, vI r2_, vI (own_n (W.length + 2)), vI 0]) rfl <| G.f 62 C X10 d21_60 rfl rfl ?_
 have f12 := (f8.wr W10 gt)
 refine G.x 65 C X10 (hQ (wd280 hw)) Via.refl (Sq.ext f12.2) d21_62 rfl fun T13 X13 => G.f 67 C X13 d21_65 rfl rfl <| G.B 68 C X13 (Vq.ext f12.2) d21_67 rfl (own_idx hr2 (by omega)) (v := (own_n (48 + V0 / 1000 % 10))) (own_tat hr2 (by omega) (by omega) _) <| G.A 69 C X13 V10 gt (i := (W.length + 2)) d21_68 rfl (own_ix (own_cpp hcp) (by omega) (by omega)) (own_n_cl (by omega)) (by simp [tx_len]) (fun T14 h14 X14 W14 V14 => ?_)
 replace V14 : Arv Z h14 tb kt .byte cp (tx W ++ [(.int 0), (.int 0), (eQ V0 1000), (eQ V0 100), (eQ V0 10), (eQ V0 1)]) (.int 0) := by rw [own_nar_b, own_stk W [(.int 0), (.int 0), (.int 0), (eQ V0 100), (eQ V0 10), (eQ V0 1)] 2 _] at V14; exact V14
 have K15 := K11.wr W14 (mQ 0 rfl)
 refine G.r 22 C X14 d21_69 (by decide) (by decide) <| G.a 23 C X14 d21_22 rfl rfl <| G.d 25 (z := -100) C X14 d21_23 rfl (by decide) <| G.j 72 C X14 d21_25 (tlt (own_plt hx2 tQ2 (by omega))).2.2.1 (by decide) (by decide) <| G.b 73 C X14 d21_72 rfl rfl rfl <| G.t 76 C X14 d21_73 rfl rfl (z := (own_n (W.length + 1))) (own_dc (W.length + 1)) (l' := #[vI q2_, vI (own_n (W.length + 6)), vR tb, vI q2_, vI r2_, vI (own_n (W.length + 1)), vI 0]) rfl <| G.f 78 C X14 d21_76 rfl rfl ?_
 have f16 := (f12.wr W14 gt)
 refine G.x 81 C X14 (hQ (wd125 hw)) Via.refl (So.ext f16.2) d21_78 rfl fun T17 X17 => G.a 82 C X17 d21_81 rfl rfl ?_
 obtain ⟨rl, h_rl⟩ : ∃ z : Int32, -q2_ = z := ⟨_, rfl⟩
 refine G.H 83 (z := rl) C X17 d21_82 rfl h_rl ?_
 have hrl := own_negp hx2 (by omega) h_rl
 refine G.B 84 C X17 (Vo.ext f16.2) d21_83 rfl (own_idx hrl (by omega)) (v := (own_n (48 + V0 / 10000 % 10))) (own_oat hrl (by omega) (by omega) _) <| G.A 85 C X17 V14 gt (i := (W.length + 1)) d21_84 rfl (own_ix (own_cpp hcp) (by omega) (by omega)) (own_n_cl (by omega)) (by simp [tx_len]) (fun T18 h18 X18 W18 V18 => ?_)
 replace V18 : Arv Z h18 tb kt .byte cp (tx W ++ [(.int 0), (eQ V0 10000), (eQ V0 1000), (eQ V0 100), (eQ V0 10), (eQ V0 1)]) (.int 0) := by rw [own_nar_b, own_stk W [(.int 0), (.int 0), (eQ V0 1000), (eQ V0 100), (eQ V0 10), (eQ V0 1)] 1 _] at V18; exact V18
 have K19 := K15.wr W18 (mQ 0 rfl)
 refine G.a 86 C X18 d21_85 rfl rfl <| G.d 88 (z := -9) C X18 d21_86 rfl (by decide) <| G.k 91 C X18 d21_88 rfl (tlt (own_xlt hx2 tQ3 (by omega))).2.1 <| G.b 92 C X18 d21_91 rfl rfl rfl <| G.t 95 C X18 d21_92 rfl rfl (z := (own_n (W.length + 0))) (own_dc (W.length + 0)) (l' := #[vI q2_, vI (own_n (W.length + 6)), vR tb, vI q2_, vI r2_, vI (own_n (W.length + 0)), vI 0]) rfl <| G.f 97 C X18 d21_95 rfl rfl ?_
 have f20 := (f16.wr W18 gt)
 refine G.x 100 C X18 (hQ (wd280 hw)) Via.refl (Sq.ext f20.2) d21_97 rfl fun T21 X21 => G.a 101 C X21 d21_100 rfl rfl <| G.H 102 (z := rl) C X21 d21_101 rfl h_rl <| G.B 103 C X21 (Vq.ext f20.2) d21_102 rfl (own_idx hrl (by omega)) (v := (own_n (48 + V0 / 100000 % 10))) (own_tat hrl (by omega) (by omega) _) <| G.A 104 C X21 V18 gt (i := (W.length + 0)) d21_103 rfl (own_ix (own_cpp hcp) (by omega) (by omega)) (own_n_cl (by omega)) (by simp [tx_len]) (fun T22 h22 X22 W22 V22 => ?_)
 replace V22 : Arv Z h22 tb kt .byte cp (tx W ++ [(eQ V0 100000), (eQ V0 10000), (eQ V0 1000), (eQ V0 100), (eQ V0 10), (eQ V0 1)]) (.int 0) := by rw [own_nar_b, own_stk W [(.int 0), (eQ V0 10000), (eQ V0 1000), (eQ V0 100), (eQ V0 10), (eQ V0 1)] 0 _] at V22; exact V22
 have K23 := K19.wr W22 (mQ 0 rfl)
 refine G.f 106 C X22 d21_104 rfl rfl <| G.M 118 C X22 d21_106 (teq (by decide : (0 : Int32) = 0)).1 (by decide) (by decide) <| G.f 120 C X22 d21_118 rfl rfl ?_
 exact G.E C X22 d21_120 hret hlk (⟨rfl, K23, (by rw [tx_app]; exact V22)⟩) (by decide) (by decide)
theorem ctSs7 {l : Launch} {Z : State} {a0 : Array Value} (hw : HW a0 Z) {n0 : Nat} {h0 : Heap} (hn0 : n0 ≤ h0.size) (vv : Int32) (V0 : Nat) (hV : vv.toInt = (V0 : Int)) (hlo : 1000000 ≤ V0) (hhi : V0 < 10000000) :
 Ctr l Z (⟨zq2, "stringSize", "(I)I"⟩ : MethodName) jdk_33_method_13_code 4 (some .int) (rQ 0 0 0 0) n0 #[(.int vv)] h0 (fun v h => v = some (.int 7) ∧ h = h0) := by
 refine Ctr.of (plainFor_of_name pn3) hn0 ?_
 intro p e s m below meth c T0 C hnm hret hlk X0
 rw [ef19 m vv]
 refine G.i 1 (z := 1) C X0 d19_0 rfl (by decide) <| G.g 2 C X0 d19_1 rfl (l' := #[vI vv, vI 1, .unset, .unset]) rfl <| G.a 3 C X0 d19_2 rfl rfl <| G.q 6 C X0 d19_3 rfl (flt (own_nn hV)).1 <| G.i 7 (z := 0) C X0 d19_6 rfl (by decide) <| G.g 8 C X0 d19_7 rfl (l' := #[vI vv, vI 0, .unset, .unset]) rfl <| G.a 9 C X0 d19_8 rfl rfl <| G.H 10 (z := (-vv)) C X0 d19_9 rfl rfl <| G.g 11 C X0 d19_10 rfl (l' := #[vI (-vv), vI 0, .unset, .unset]) rfl <| G.d 13 (z := -10) C X0 d19_11 rfl (by decide) <| G.g 14 C X0 d19_13 rfl (l' := #[vI (-vv), vI 0, vI (-10), .unset]) rfl <| G.i 15 (z := 1) C X0 d19_14 rfl (by decide) <| G.g 16 C X0 d19_15 rfl (l' := #[vI (-vv), vI 0, vI (-10), vI 1]) rfl <| G.a 17 C X0 d19_16 rfl rfl <| G.d 19 (z := 10) C X0 d19_17 rfl (by decide) ?_
 refine G.k 22 C X0 d19_19 rfl (tlt (by decide : (1 : Int32) < 10)).2.1 <| G.a 23 C X0 d19_22 rfl rfl <| G.a 24 C X0 d19_23 rfl rfl <| G.j 31 C X0 d19_24 (flt (own_pge (own_neg hV) tQ0 (by omega))).2.2.2 (by decide) (by decide) <| G.d 33 (z := 10) C X0 d19_31 rfl (by decide) <| G.a 34 C X0 d19_33 rfl rfl <| G.y 35 (z := (-100 : Int32)) C X0 d19_34 rfl (by decide) <| G.g 36 C X0 d19_35 rfl (l' := #[vI (-vv), vI 0, vI (-100), vI 1]) rfl <| G.t 39 C X0 d19_36 rfl rfl (z := (2 : Int32)) (by decide) (l' := #[vI (-vv), vI 0, vI (-100), vI 2]) rfl <| G.r 16 C X0 d19_39 (by decide) (by decide) <| G.a 17 C X0 d19_16 rfl rfl <| G.d 19 (z := 10) C X0 d19_17 rfl (by decide) <| G.k 22 C X0 d19_19 rfl (tlt (by decide : (2 : Int32) < 10)).2.1 <| G.a 23 C X0 d19_22 rfl rfl <| G.a 24 C X0 d19_23 rfl rfl ?_
 refine G.j 31 C X0 d19_24 (flt (own_pge (own_neg hV) tQ2 (by omega))).2.2.2 (by decide) (by decide) <| G.d 33 (z := 10) C X0 d19_31 rfl (by decide) <| G.a 34 C X0 d19_33 rfl rfl <| G.y 35 (z := (-1000 : Int32)) C X0 d19_34 rfl (by decide) <| G.g 36 C X0 d19_35 rfl (l' := #[vI (-vv), vI 0, vI (-1000), vI 2]) rfl <| G.t 39 C X0 d19_36 rfl rfl (z := (3 : Int32)) (by decide) (l' := #[vI (-vv), vI 0, vI (-1000), vI 3]) rfl <| G.r 16 C X0 d19_39 (by decide) (by decide) <| G.a 17 C X0 d19_16 rfl rfl <| G.d 19 (z := 10) C X0 d19_17 rfl (by decide) <| G.k 22 C X0 d19_19 rfl (tlt (by decide : (3 : Int32) < 10)).2.1 <| G.a 23 C X0 d19_22 rfl rfl <| G.a 24 C X0 d19_23 rfl rfl <| G.j 31 C X0 d19_24 (flt (own_pge (own_neg hV) tQ5 (by omega))).2.2.2 (by decide) (by decide) <| G.d 33 (z := 10) C X0 d19_31 rfl (by decide) <| G.a 34 C X0 d19_33 rfl rfl ?_
 refine G.y 35 (z := (-10000 : Int32)) C X0 d19_34 rfl (by decide) <| G.g 36 C X0 d19_35 rfl (l' := #[vI (-vv), vI 0, vI (-10000), vI 3]) rfl <| G.t 39 C X0 d19_36 rfl rfl (z := (4 : Int32)) (by decide) (l' := #[vI (-vv), vI 0, vI (-10000), vI 4]) rfl <| G.r 16 C X0 d19_39 (by decide) (by decide) <| G.a 17 C X0 d19_16 rfl rfl <| G.d 19 (z := 10) C X0 d19_17 rfl (by decide) <| G.k 22 C X0 d19_19 rfl (tlt (by decide : (4 : Int32) < 10)).2.1 <| G.a 23 C X0 d19_22 rfl rfl <| G.a 24 C X0 d19_23 rfl rfl <| G.j 31 C X0 d19_24 (flt (own_pge (own_neg hV) tQ7 (by omega))).2.2.2 (by decide) (by decide) <| G.d 33 (z := 10) C X0 d19_31 rfl (by decide) <| G.a 34 C X0 d19_33 rfl rfl <| G.y 35 (z := (-100000 : Int32)) C X0 d19_34 rfl (by decide) <| G.g 36 C X0 d19_35 rfl (l' := #[vI (-vv), vI 0, vI (-100000), vI 4]) rfl <| G.t 39 C X0 d19_36 rfl rfl (z := (5 : Int32)) (by decide) (l' := #[vI (-vv), vI 0, vI (-100000), vI 5]) rfl ?_
 refine G.r 16 C X0 d19_39 (by decide) (by decide) <| G.a 17 C X0 d19_16 rfl rfl <| G.d 19 (z := 10) C X0 d19_17 rfl (by decide) <| G.k 22 C X0 d19_19 rfl (tlt (by decide : (5 : Int32) < 10)).2.1 <| G.a 23 C X0 d19_22 rfl rfl <| G.a 24 C X0 d19_23 rfl rfl <| G.j 31 C X0 d19_24 (flt (own_pge (own_neg hV) tQ9 (by omega))).2.2.2 (by decide) (by decide) <| G.d 33 (z := 10) C X0 d19_31 rfl (by decide) <| G.a 34 C X0 d19_33 rfl rfl <| G.y 35 (z := (-1000000 : Int32)) C X0 d19_34 rfl (by decide) <| G.g 36 C X0 d19_35 rfl (l' := #[vI (-vv), vI 0, vI (-1000000), vI 5]) rfl <| G.t 39 C X0 d19_36 rfl rfl (z := (6 : Int32)) (by decide) (l' := #[vI (-vv), vI 0, vI (-1000000), vI 6]) rfl <| G.r 16 C X0 d19_39 (by decide) (by decide) <| G.a 17 C X0 d19_16 rfl rfl <| G.d 19 (z := 10) C X0 d19_17 rfl (by decide) ?_
 refine G.k 22 C X0 d19_19 rfl (tlt (by decide : (6 : Int32) < 10)).2.1 <| G.a 23 C X0 d19_22 rfl rfl <| G.a 24 C X0 d19_23 rfl rfl <| G.j 31 C X0 d19_24 (flt (own_pge (own_neg hV) tQ11 (by omega))).2.2.2 (by decide) (by decide) <| G.d 33 (z := 10) C X0 d19_31 rfl (by decide) <| G.a 34 C X0 d19_33 rfl rfl <| G.y 35 (z := (-10000000 : Int32)) C X0 d19_34 rfl (by decide) <| G.g 36 C X0 d19_35 rfl (l' := #[vI (-vv), vI 0, vI (-10000000), vI 6]) rfl <| G.t 39 C X0 d19_36 rfl rfl (z := (7 : Int32)) (by decide) (l' := #[vI (-vv), vI 0, vI (-10000000), vI 7]) rfl <| G.r 16 C X0 d19_39 (by decide) (by decide) <| G.a 17 C X0 d19_16 rfl rfl <| G.d 19 (z := 10) C X0 d19_17 rfl (by decide) <| G.k 22 C X0 d19_19 rfl (tlt (by decide : (7 : Int32) < 10)).2.1 <| G.a 23 C X0 d19_22 rfl rfl <| G.a 24 C X0 d19_23 rfl rfl ?_
 refine G.k 27 C X0 d19_24 rfl (tlt (own_plt (own_neg hV) tQ13 (by omega))).2.2.2 <| G.a 28 C X0 d19_27 rfl rfl <| G.a 29 C X0 d19_28 rfl rfl <| G.z 30 (z := (7 : Int32)) C X0 d19_29 rfl (by decide) ?_
 exact G.E C X0 d19_30 hret hlk (⟨rfl, rfl⟩) (by decide) (by decide)
theorem ctNd7 {l : Launch} {Z : State} {a0 : Array Value} (hw : HW a0 Z) {n0 : Nat} {h0 : Heap} (hn0 : n0 ≤ h0.size) (vv : Int32) (V0 : Nat) (hV : vv.toInt = (V0 : Int)) (hlo : 1000000 ≤ V0) (hhi : V0 < 10000000) :
 Ctr l Z (⟨zq7, "nd", "(I)I"⟩ : MethodName) method_5_code 1 (some .int) (rQ 0 0 0 0) n0 #[(.int vv)] h0 (fun v h => v = some (.int 7) ∧ h = h0) := by
 refine Ctr.of (plainFor_of_name pn4) hn0 ?_
 intro p e s m below meth c T0 C hnm hret hlk X0
 rw [ef39 m vv]
 refine G.a 1 C X0 d39_0 rfl rfl <| G.d 3 (z := 10) C X0 d39_1 rfl (by decide) <| G.j 8 C X0 d39_3 (flt (own_vge hV tQ1 (by omega))).2.1 (by decide) (by decide) <| G.a 9 C X0 d39_8 rfl rfl <| G.d 11 (z := 100) C X0 d39_9 rfl (by decide) <| G.j 16 C X0 d39_11 (flt (own_vge hV tQ4 (by omega))).2.1 (by decide) (by decide) <| G.a 17 C X0 d39_16 rfl rfl <| G.G 20 (z := 1000) C X0 d39_17 rfl (by decide) <| G.j 25 C X0 d39_20 (flt (own_vge hV tQ6 (by omega))).2.1 (by decide) (by decide) <| G.a 26 C X0 d39_25 rfl rfl <| G.G 29 (z := 10000) C X0 d39_26 rfl (by decide) <| G.j 34 C X0 d39_29 (flt (own_vge hV tQ8 (by omega))).2.1 (by decide) (by decide) <| G.a 35 C X0 d39_34 rfl rfl <| G.F 37 C X0 (wd298 hw) d39_35 rfl <| G.j 42 C X0 d39_37 (flt (own_vge hV tQ10 (by omega))).2.1 (by decide) (by decide) ?_
 refine G.a 43 C X0 d39_42 rfl rfl <| G.F 45 C X0 (wd299 hw) d39_43 rfl <| G.j 51 C X0 d39_45 (flt (own_vge hV tQ12 (by omega))).2.1 (by decide) (by decide) <| G.a 52 C X0 d39_51 rfl rfl <| G.F 54 C X0 (wd300 hw) d39_52 rfl <| G.k 57 C X0 d39_54 rfl (tlt (own_vlt hV tQ14 (by omega))).2.1 <| G.d 59 (z := 7) C X0 d39_57 rfl (by decide) ?_
 exact G.E C X0 d39_59 hret hlk (⟨rfl, rfl⟩) (by decide) (by decide)
theorem ctGc7 {l : Launch} {Z : State} {a0 : Array Value} (hw : HW a0 Z) {n0 : Nat} {h0 : Heap} (hn0 : n0 ≤ h0.size) (tb : Addr) (kt : ClassId) (do_ dt_ : Addr) (ko kq : ClassId) (W : List Int32) (cp vv : Int32) (V0 : Nat) (Vt : Arv Z h0 tb kt .byte cp (tx W ++ [(.int 0), (.int 0), (.int 0), (.int 0), (.int 0), (.int 0), (.int 0)]) (.int 0)) (gt : n0 ≤ tb) (OD : Old Z n0 h0) (So : Sta Z Z.heap zq2 "DigitOnes" "[B" (.ref do_)) (Sq : Sta Z Z.heap zq2 "DigitTens" "[B" (.ref dt_)) (Vo : Arv Z Z.heap do_ ko .byte (100 : Int32) own_ones (.int 0)) (Vq : Arv Z Z.heap dt_ kq .byte (100 : Int32) own_tens (.int 0)) (hcp : cp = 16 ∨ cp = 34) (hb : W.length + 7 < 1000) (hfit : W.length + 7 ≤ cp.toNatClampNeg) (hV : vv.toInt = (V0 : Int)) (hlo : 1000000 ≤ V0) (hhi : V0 < 10000000) :
 Ctr l Z (⟨zq2, "getChars", "(II[B)I"⟩ : MethodName) jdk_33_method_12_code 7 (some .int) (rQ 0 0 0 0) n0 #[(.int vv), (.int (own_n (W.length + 7))), (.ref tb)] h0 (fun v h => v = some (.int (own_n (W.length + 0))) ∧ Keep h0 h [tb] ∧ Arv Z h tb kt .byte cp (tx (W ++ own_dig V0 7)) (.int 0)) := by
 refine Ctr.of (plainFor_of_name pn3) hn0 ?_
 intro p e s m below meth c T0 C hnm hret hlk X0
 rw [ef21 m vv (own_n (W.length + 7)) tb]
 have hx0 := own_neg hV
 refine G.a 1 C X0 d21_0 rfl rfl <| G.w 3 C X0 d21_1 rfl (l' := #[vI vv, vI (own_n (W.length + 7)), vR tb, .unset, .unset, vI (own_n (W.length + 7)), .unset]) rfl <| G.a 4 C X0 d21_3 rfl rfl <| G.M 11 C X0 d21_4 (flt (own_nn hV)).2.1 (by decide) (by decide) <| G.i 12 (z := 0) C X0 d21_11 rfl (by decide) <| G.w 14 C X0 d21_12 rfl (l' := #[vI vv, vI (own_n (W.length + 7)), vR tb, .unset, .unset, vI (own_n (W.length + 7)), vI 0]) rfl <| G.f 16 C X0 d21_14 rfl rfl <| G.q 19 C X0 d21_16 rfl (teq (by decide : (0 : Int32) = 0)).2 <| G.a 20 C X0 d21_19 rfl rfl <| G.H 21 (z := (-vv)) C X0 d21_20 rfl rfl <| G.g 22 C X0 d21_21 rfl (l' := #[vI (-vv), vI (own_n (W.length + 7)), vR tb, .unset, .unset, vI (own_n (W.length + 7)), vI 0]) rfl <| G.a 23 C X0 d21_22 rfl rfl <| G.d 25 (z := -100) C X0 d21_23 rfl (by decide) <| G.k 28 C X0 d21_25 rfl (flt (own_pge hx0 tQ2 (by omega))).2.2.1 <| G.a 29 C X0 d21_28 rfl rfl ?_
 refine G.d 31 (z := 100) C X0 d21_29 rfl (by decide) ?_
 obtain ⟨q1_, h_q1_⟩ : ∃ z : Int32, (-vv) / (100 : Int32) = z := ⟨_, rfl⟩
 refine G.Y 32 (z := q1_) C X0 d21_31 rfl (by decide) h_q1_ ?_
 have hx1 := own_q hx0 h_q1_
 refine G.g 33 C X0 d21_32 rfl (l' := #[vI (-vv), vI (own_n (W.length + 7)), vR tb, vI q1_, .unset, vI (own_n (W.length + 7)), vI 0]) rfl <| G.a 34 C X0 d21_33 rfl rfl <| G.d 36 (z := 100) C X0 d21_34 rfl (by decide) <| G.y 37 (z := (q1_ * (100 : Int32))) C X0 d21_36 rfl rfl <| G.a 38 C X0 d21_37 rfl rfl ?_
 obtain ⟨r1_, h_r1_⟩ : ∃ z : Int32, (q1_ * (100 : Int32)) - (-vv) = z := ⟨_, rfl⟩
 refine G.u 39 (z := r1_) C X0 d21_38 rfl h_r1_ ?_
 have hr1 := own_r hx0 hx1 h_r1_
 refine G.w 41 C X0 d21_39 rfl (l' := #[vI (-vv), vI (own_n (W.length + 7)), vR tb, vI q1_, vI r1_, vI (own_n (W.length + 7)), vI 0]) rfl <| G.a 42 C X0 d21_41 rfl rfl <| G.g 43 C X0 d21_42 rfl (l' := #[vI q1_, vI (own_n (W.length + 7)), vR tb, vI q1_, vI r1_, vI (own_n (W.length + 7)), vI 0]) rfl <| G.b 44 C X0 d21_43 rfl rfl rfl <| G.t 47 C X0 d21_44 rfl rfl (z := (own_n (W.length + 6))) (own_dc (W.length + 6)) (l' := #[vI q1_, vI (own_n (W.length + 7)), vR tb, vI q1_, vI r1_, vI (own_n (W.length + 6)), vI 0]) rfl <| G.f 49 C X0 d21_47 rfl rfl <| G.x 52 C X0 (hQ (wd125 hw)) Via.refl (So.ext OD.2) d21_49 rfl fun T1 X1 => G.f 54 C X1 d21_52 rfl rfl <| G.B 55 C X1 (Vo.ext OD.2) d21_54 rfl (own_idx hr1 (by omega)) (v := (own_n (48 + V0 / 1 % 10))) (own_oat hr1 (by omega) (by omega) _) <| G.A 56 C X1 Vt gt (i := (W.length + 6)) d21_55 rfl (own_ix (own_cpp hcp) (by omega) (by omega)) (own_n_cl (by omega)) (by simp [tx_len]) (fun T2 h2 X2 W2 V2 => ?_)
 replace V2 : Arv Z h2 tb kt .byte cp (tx W ++ [(.int 0), (.int 0), (.int 0), (.int 0), (.int 0), (.int 0), (eQ V0 1)]) (.int 0) := by rw [own_nar_b, own_stk W [(.int 0), (.int 0), (.int 0), (.int 0), (.int 0), (.int 0), (.int 0)] 6 _] at V2; exact V2
 have K3 := (Keep.refl h0 [tb]).wr W2 (mQ 0 rfl)
 refine G.b 57 C X2 d21_56 rfl rfl rfl <| G.t 60 C X2 d21_57 rfl rfl (z := (own_n (W.length + 5))) (own_dc (W.length + 5)) (l' := #[vI q1_, vI (own_n (W.length + 7)), vR tb, vI q1_, vI r1_, vI (own_n (W.length + 5)), vI 0]) rfl <| G.f 62 C X2 d21_60 rfl rfl ?_
 have f4 := (OD.wr W2 gt)
 refine G.x 65 C X2 (hQ (wd280 hw)) Via.refl (Sq.ext f4.2) d21_62 rfl fun T5 X5 => G.f 67 C X5 d21_65 rfl rfl <| G.B 68 C X5 (Vq.ext f4.2) d21_67 rfl (own_idx hr1 (by omega)) (v := (own_n (48 + V0 / 10 % 10))) (own_tat hr1 (by omega) (by omega) _) <| G.A 69 C X5 V2 gt (i := (W.length + 5)) d21_68 rfl (own_ix (own_cpp hcp) (by omega) (by omega)) (own_n_cl (by omega)) (by simp [tx_len]) (fun T6 h6 X6 W6 V6 => ?_)
 replace V6 : Arv Z h6 tb kt .byte cp (tx W ++ [(.int 0), (.int 0), (.int 0), (.int 0), (.int 0), (eQ V0 10), (eQ V0 1)]) (.int 0) := by rw [own_nar_b, own_stk W [(.int 0), (.int 0), (.int 0), (.int 0), (.int 0), (.int 0), (eQ V0 1)] 5 _] at V6; exact V6
 have K7 := K3.wr W6 (mQ 0 rfl)
 refine G.r 22 C X6 d21_69 (by decide) (by decide) <| G.a 23 C X6 d21_22 rfl rfl <| G.d 25 (z := -100) C X6 d21_23 rfl (by decide) <| G.k 28 C X6 d21_25 rfl (flt (own_pge hx1 tQ2 (by omega))).2.2.1 <| G.a 29 C X6 d21_28 rfl rfl <| G.d 31 (z := 100) C X6 d21_29 rfl (by decide) ?_
 obtain ⟨q2_, h_q2_⟩ : ∃ z : Int32, q1_ / (100 : Int32) = z := ⟨_, rfl⟩
 refine G.Y 32 (z := q2_) C X6 d21_31 rfl (by decide) h_q2_ ?_
 have hx2 := own_q hx1 h_q2_
 refine G.g 33 C X6 d21_32 rfl (l' := #[vI q1_, vI (own_n (W.length + 7)), vR tb, vI q2_, vI r1_, vI (own_n (W.length + 5)), vI 0]) rfl <| G.a 34 C X6 d21_33 rfl rfl <| G.d 36 (z := 100) C X6 d21_34 rfl (by decide) <| G.y 37 (z := (q2_ * (100 : Int32))) C X6 d21_36 rfl rfl <| G.a 38 C X6 d21_37 rfl rfl ?_
 obtain ⟨r2_, h_r2_⟩ : ∃ z : Int32, (q2_ * (100 : Int32)) - q1_ = z := ⟨_, rfl⟩
 refine G.u 39 (z := r2_) C X6 d21_38 rfl h_r2_ ?_
 have hr2 := own_r hx1 hx2 h_r2_
 refine G.w 41 C X6 d21_39 rfl (l' := #[vI q1_, vI (own_n (W.length + 7)), vR tb, vI q2_, vI r2_, vI (own_n (W.length + 5)), vI 0]) rfl <| G.a 42 C X6 d21_41 rfl rfl <| G.g 43 C X6 d21_42 rfl (l' := #[vI q2_, vI (own_n (W.length + 7)), vR tb, vI q2_, vI r2_, vI (own_n (W.length + 5)), vI 0]) rfl <| G.b 44 C X6 d21_43 rfl rfl rfl <| G.t 47 C X6 d21_44 rfl rfl (z := (own_n (W.length + 4))) (own_dc (W.length + 4)) (l' := #[vI q2_, vI (own_n (W.length + 7)), vR tb, vI q2_, vI r2_, vI (own_n (W.length + 4)), vI 0]) rfl <| G.f 49 C X6 d21_47 rfl rfl ?_
 have f8 := (f4.wr W6 gt)
 refine G.x 52 C X6 (hQ (wd125 hw)) Via.refl (So.ext f8.2) d21_49 rfl fun T9 X9 => G.f 54 C X9 d21_52 rfl rfl <| G.B 55 C X9 (Vo.ext f8.2) d21_54 rfl (own_idx hr2 (by omega)) (v := (own_n (48 + V0 / 100 % 10))) (own_oat hr2 (by omega) (by omega) _) <| G.A 56 C X9 V6 gt (i := (W.length + 4)) d21_55 rfl (own_ix (own_cpp hcp) (by omega) (by omega)) (own_n_cl (by omega)) (by simp [tx_len]) (fun T10 h10 X10 W10 V10 => ?_)
 replace V10 : Arv Z h10 tb kt .byte cp (tx W ++ [(.int 0), (.int 0), (.int 0), (.int 0), (eQ V0 100), (eQ V0 10), (eQ V0 1)]) (.int 0) := by rw [own_nar_b, own_stk W [(.int 0), (.int 0), (.int 0), (.int 0), (.int 0), (eQ V0 10), (eQ V0 1)] 4 _] at V10; exact V10
 have K11 := K7.wr W10 (mQ 0 rfl)
 refine G.b 57 C X10 d21_56 rfl rfl rfl <| G.t 60 C X10 d21_57 rfl rfl (z := (own_n (W.length + 3))) (own_dc (W.length + 3)) (l' := #[vI q2_, vI (own_n (W.length + 7)), vR tb, vI q2_, vI r2_, vI (own_n (W.length + 3)), vI 0]) rfl <| G.f 62 C X10 d21_60 rfl rfl ?_
 have f12 := (f8.wr W10 gt)
 refine G.x 65 C X10 (hQ (wd280 hw)) Via.refl (Sq.ext f12.2) d21_62 rfl fun T13 X13 => G.f 67 C X13 d21_65 rfl rfl <| G.B 68 C X13 (Vq.ext f12.2) d21_67 rfl (own_idx hr2 (by omega)) (v := (own_n (48 + V0 / 1000 % 10))) (own_tat hr2 (by omega) (by omega) _) <| G.A 69 C X13 V10 gt (i := (W.length + 3)) d21_68 rfl (own_ix (own_cpp hcp) (by omega) (by omega)) (own_n_cl (by omega)) (by simp [tx_len]) (fun T14 h14 X14 W14 V14 => ?_)
 replace V14 : Arv Z h14 tb kt .byte cp (tx W ++ [(.int 0), (.int 0), (.int 0), (eQ V0 1000), (eQ V0 100), (eQ V0 10), (eQ V0 1)]) (.int 0) := by rw [own_nar_b, own_stk W [(.int 0), (.int 0), (.int 0), (.int 0), (eQ V0 100), (eQ V0 10), (eQ V0 1)] 3 _] at V14; exact V14
 have K15 := K11.wr W14 (mQ 0 rfl)
 refine G.r 22 C X14 d21_69 (by decide) (by decide) <| G.a 23 C X14 d21_22 rfl rfl <| G.d 25 (z := -100) C X14 d21_23 rfl (by decide) <| G.k 28 C X14 d21_25 rfl (flt (own_pge hx2 tQ2 (by omega))).2.2.1 <| G.a 29 C X14 d21_28 rfl rfl <| G.d 31 (z := 100) C X14 d21_29 rfl (by decide) ?_
 obtain ⟨q3_, h_q3_⟩ : ∃ z : Int32, q2_ / (100 : Int32) = z := ⟨_, rfl⟩
 refine G.Y 32 (z := q3_) C X14 d21_31 rfl (by decide) h_q3_ ?_
 have hx3 := own_q hx2 h_q3_
 refine G.g 33 C X14 d21_32 rfl (l' := #[vI q2_, vI (own_n (W.length + 7)), vR tb, vI q3_, vI r2_, vI (own_n (W.length + 3)), vI 0]) rfl <| G.a 34 C X14 d21_33 rfl rfl <| G.d 36 (z := 100) C X14 d21_34 rfl (by decide) <| G.y 37 (z := (q3_ * (100 : Int32))) C X14 d21_36 rfl rfl <| G.a 38 C X14 d21_37 rfl rfl ?_
 obtain ⟨r3_, h_r3_⟩ : ∃ z : Int32, (q3_ * (100 : Int32)) - q2_ = z := ⟨_, rfl⟩
 refine G.u 39 (z := r3_) C X14 d21_38 rfl h_r3_ ?_
 have hr3 := own_r hx2 hx3 h_r3_
 refine G.w 41 C X14 d21_39 rfl (l' := #[vI q2_, vI (own_n (W.length + 7)), vR tb, vI q3_, vI r3_, vI (own_n (W.length + 3)), vI 0]) rfl <| G.a 42 C X14 d21_41 rfl rfl <| G.g 43 C X14 d21_42 rfl (l' := #[vI q3_, vI (own_n (W.length + 7)), vR tb, vI q3_, vI r3_, vI (own_n (W.length + 3)), vI 0]) rfl <| G.b 44 C X14 d21_43 rfl rfl rfl <| G.t 47 C X14 d21_44 rfl rfl (z := (own_n (W.length + 2))) (own_dc (W.length + 2)) (l' := #[vI q3_, vI (own_n (W.length + 7)), vR tb, vI q3_, vI r3_, vI (own_n (W.length + 2)), vI 0]) rfl <| G.f 49 C X14 d21_47 rfl rfl ?_
 have f16 := (f12.wr W14 gt)
 refine G.x 52 C X14 (hQ (wd125 hw)) Via.refl (So.ext f16.2) d21_49 rfl fun T17 X17 => G.f 54 C X17 d21_52 rfl rfl <| G.B 55 C X17 (Vo.ext f16.2) d21_54 rfl (own_idx hr3 (by omega)) (v := (own_n (48 + V0 / 10000 % 10))) (own_oat hr3 (by omega) (by omega) _) <| G.A 56 C X17 V14 gt (i := (W.length + 2)) d21_55 rfl (own_ix (own_cpp hcp) (by omega) (by omega)) (own_n_cl (by omega)) (by simp [tx_len]) (fun T18 h18 X18 W18 V18 => ?_)
 replace V18 : Arv Z h18 tb kt .byte cp (tx W ++ [(.int 0), (.int 0), (eQ V0 10000), (eQ V0 1000), (eQ V0 100), (eQ V0 10), (eQ V0 1)]) (.int 0) := by rw [own_nar_b, own_stk W [(.int 0), (.int 0), (.int 0), (eQ V0 1000), (eQ V0 100), (eQ V0 10), (eQ V0 1)] 2 _] at V18; exact V18
 have K19 := K15.wr W18 (mQ 0 rfl)
 refine G.b 57 C X18 d21_56 rfl rfl rfl <| G.t 60 C X18 d21_57 rfl rfl (z := (own_n (W.length + 1))) (own_dc (W.length + 1)) (l' := #[vI q3_, vI (own_n (W.length + 7)), vR tb, vI q3_, vI r3_, vI (own_n (W.length + 1)), vI 0]) rfl <| G.f 62 C X18 d21_60 rfl rfl ?_
 have f20 := (f16.wr W18 gt)
 refine G.x 65 C X18 (hQ (wd280 hw)) Via.refl (Sq.ext f20.2) d21_62 rfl fun T21 X21 => G.f 67 C X21 d21_65 rfl rfl <| G.B 68 C X21 (Vq.ext f20.2) d21_67 rfl (own_idx hr3 (by omega)) (v := (own_n (48 + V0 / 100000 % 10))) (own_tat hr3 (by omega) (by omega) _) <| G.A 69 C X21 V18 gt (i := (W.length + 1)) d21_68 rfl (own_ix (own_cpp hcp) (by omega) (by omega)) (own_n_cl (by omega)) (by simp [tx_len]) (fun T22 h22 X22 W22 V22 => ?_)
 replace V22 : Arv Z h22 tb kt .byte cp (tx W ++ [(.int 0), (eQ V0 100000), (eQ V0 10000), (eQ V0 1000), (eQ V0 100), (eQ V0 10), (eQ V0 1)]) (.int 0) := by rw [own_nar_b, own_stk W [(.int 0), (.int 0), (eQ V0 10000), (eQ V0 1000), (eQ V0 100), (eQ V0 10), (eQ V0 1)] 1 _] at V22; exact V22
 have K23 := K19.wr W22 (mQ 0 rfl)
 refine G.r 22 C X22 d21_69 (by decide) (by decide) <| G.a 23 C X22 d21_22 rfl rfl <| G.d 25 (z := -100) C X22 d21_23 rfl (by decide) <| G.j 72 C X22 d21_25 (tlt (own_plt hx3 tQ2 (by omega))).2.2.1 (by decide) (by decide) <| G.b 73 C X22 d21_72 rfl rfl rfl <| G.t 76 C X22 d21_73 rfl rfl (z := (own_n (W.length + 0))) (own_dc (W.length + 0)) (l' := #[vI q3_, vI (own_n (W.length + 7)), vR tb, vI q3_, vI r3_, vI (own_n (W.length + 0)), vI 0]) rfl <| G.f 78 C X22 d21_76 rfl rfl ?_
 have f24 := (f20.wr W22 gt)
 refine G.x 81 C X22 (hQ (wd125 hw)) Via.refl (So.ext f24.2) d21_78 rfl fun T25 X25 => G.a 82 C X25 d21_81 rfl rfl ?_
 obtain ⟨rl, h_rl⟩ : ∃ z : Int32, -q3_ = z := ⟨_, rfl⟩
 refine G.H 83 (z := rl) C X25 d21_82 rfl h_rl ?_
 have hrl := own_negp hx3 (by omega) h_rl
 refine G.B 84 C X25 (Vo.ext f24.2) d21_83 rfl (own_idx hrl (by omega)) (v := (own_n (48 + V0 / 1000000 % 10))) (own_oat hrl (by omega) (by omega) _) <| G.A 85 C X25 V22 gt (i := (W.length + 0)) d21_84 rfl (own_ix (own_cpp hcp) (by omega) (by omega)) (own_n_cl (by omega)) (by simp [tx_len]) (fun T26 h26 X26 W26 V26 => ?_)
 replace V26 : Arv Z h26 tb kt .byte cp (tx W ++ [(eQ V0 1000000), (eQ V0 100000), (eQ V0 10000), (eQ V0 1000), (eQ V0 100), (eQ V0 10), (eQ V0 1)]) (.int 0) := by rw [own_nar_b, own_stk W [(.int 0), (eQ V0 100000), (eQ V0 10000), (eQ V0 1000), (eQ V0 100), (eQ V0 10), (eQ V0 1)] 0 _] at V26; exact V26
 have K27 := K23.wr W26 (mQ 0 rfl)
 refine G.a 86 C X26 d21_85 rfl rfl <| G.d 88 (z := -9) C X26 d21_86 rfl (by decide) <| G.j 104 C X26 d21_88 (flt (own_xge hx3 tQ3 (by omega))).2.1 (by decide) (by decide) <| G.f 106 C X26 d21_104 rfl rfl <| G.M 118 C X26 d21_106 (teq (by decide : (0 : Int32) = 0)).1 (by decide) (by decide) <| G.f 120 C X26 d21_118 rfl rfl ?_
 exact G.E C X26 d21_120 hret hlk (⟨rfl, K27, (by rw [tx_app]; exact V26)⟩) (by decide) (by decide)
theorem ctSs8 {l : Launch} {Z : State} {a0 : Array Value} (hw : HW a0 Z) {n0 : Nat} {h0 : Heap} (hn0 : n0 ≤ h0.size) (vv : Int32) (V0 : Nat) (hV : vv.toInt = (V0 : Int)) (hlo : 10000000 ≤ V0) (hhi : V0 < 100000000) :
 Ctr l Z (⟨zq2, "stringSize", "(I)I"⟩ : MethodName) jdk_33_method_13_code 4 (some .int) (rQ 0 0 0 0) n0 #[(.int vv)] h0 (fun v h => v = some (.int 8) ∧ h = h0) := by
 refine Ctr.of (plainFor_of_name pn3) hn0 ?_
 intro p e s m below meth c T0 C hnm hret hlk X0
 rw [ef19 m vv]
 refine G.i 1 (z := 1) C X0 d19_0 rfl (by decide) <| G.g 2 C X0 d19_1 rfl (l' := #[vI vv, vI 1, .unset, .unset]) rfl <| G.a 3 C X0 d19_2 rfl rfl <| G.q 6 C X0 d19_3 rfl (flt (own_nn hV)).1 <| G.i 7 (z := 0) C X0 d19_6 rfl (by decide) <| G.g 8 C X0 d19_7 rfl (l' := #[vI vv, vI 0, .unset, .unset]) rfl <| G.a 9 C X0 d19_8 rfl rfl <| G.H 10 (z := (-vv)) C X0 d19_9 rfl rfl <| G.g 11 C X0 d19_10 rfl (l' := #[vI (-vv), vI 0, .unset, .unset]) rfl <| G.d 13 (z := -10) C X0 d19_11 rfl (by decide) <| G.g 14 C X0 d19_13 rfl (l' := #[vI (-vv), vI 0, vI (-10), .unset]) rfl <| G.i 15 (z := 1) C X0 d19_14 rfl (by decide) <| G.g 16 C X0 d19_15 rfl (l' := #[vI (-vv), vI 0, vI (-10), vI 1]) rfl <| G.a 17 C X0 d19_16 rfl rfl <| G.d 19 (z := 10) C X0 d19_17 rfl (by decide) ?_
 refine G.k 22 C X0 d19_19 rfl (tlt (by decide : (1 : Int32) < 10)).2.1 <| G.a 23 C X0 d19_22 rfl rfl <| G.a 24 C X0 d19_23 rfl rfl <| G.j 31 C X0 d19_24 (flt (own_pge (own_neg hV) tQ0 (by omega))).2.2.2 (by decide) (by decide) <| G.d 33 (z := 10) C X0 d19_31 rfl (by decide) <| G.a 34 C X0 d19_33 rfl rfl <| G.y 35 (z := (-100 : Int32)) C X0 d19_34 rfl (by decide) <| G.g 36 C X0 d19_35 rfl (l' := #[vI (-vv), vI 0, vI (-100), vI 1]) rfl <| G.t 39 C X0 d19_36 rfl rfl (z := (2 : Int32)) (by decide) (l' := #[vI (-vv), vI 0, vI (-100), vI 2]) rfl <| G.r 16 C X0 d19_39 (by decide) (by decide) <| G.a 17 C X0 d19_16 rfl rfl <| G.d 19 (z := 10) C X0 d19_17 rfl (by decide) <| G.k 22 C X0 d19_19 rfl (tlt (by decide : (2 : Int32) < 10)).2.1 <| G.a 23 C X0 d19_22 rfl rfl <| G.a 24 C X0 d19_23 rfl rfl ?_
 refine G.j 31 C X0 d19_24 (flt (own_pge (own_neg hV) tQ2 (by omega))).2.2.2 (by decide) (by decide) <| G.d 33 (z := 10) C X0 d19_31 rfl (by decide) <| G.a 34 C X0 d19_33 rfl rfl <| G.y 35 (z := (-1000 : Int32)) C X0 d19_34 rfl (by decide) <| G.g 36 C X0 d19_35 rfl (l' := #[vI (-vv), vI 0, vI (-1000), vI 2]) rfl <| G.t 39 C X0 d19_36 rfl rfl (z := (3 : Int32)) (by decide) (l' := #[vI (-vv), vI 0, vI (-1000), vI 3]) rfl <| G.r 16 C X0 d19_39 (by decide) (by decide) <| G.a 17 C X0 d19_16 rfl rfl <| G.d 19 (z := 10) C X0 d19_17 rfl (by decide) <| G.k 22 C X0 d19_19 rfl (tlt (by decide : (3 : Int32) < 10)).2.1 <| G.a 23 C X0 d19_22 rfl rfl <| G.a 24 C X0 d19_23 rfl rfl <| G.j 31 C X0 d19_24 (flt (own_pge (own_neg hV) tQ5 (by omega))).2.2.2 (by decide) (by decide) <| G.d 33 (z := 10) C X0 d19_31 rfl (by decide) <| G.a 34 C X0 d19_33 rfl rfl ?_
 refine G.y 35 (z := (-10000 : Int32)) C X0 d19_34 rfl (by decide) <| G.g 36 C X0 d19_35 rfl (l' := #[vI (-vv), vI 0, vI (-10000), vI 3]) rfl <| G.t 39 C X0 d19_36 rfl rfl (z := (4 : Int32)) (by decide) (l' := #[vI (-vv), vI 0, vI (-10000), vI 4]) rfl <| G.r 16 C X0 d19_39 (by decide) (by decide) <| G.a 17 C X0 d19_16 rfl rfl <| G.d 19 (z := 10) C X0 d19_17 rfl (by decide) <| G.k 22 C X0 d19_19 rfl (tlt (by decide : (4 : Int32) < 10)).2.1 <| G.a 23 C X0 d19_22 rfl rfl <| G.a 24 C X0 d19_23 rfl rfl <| G.j 31 C X0 d19_24 (flt (own_pge (own_neg hV) tQ7 (by omega))).2.2.2 (by decide) (by decide) <| G.d 33 (z := 10) C X0 d19_31 rfl (by decide) <| G.a 34 C X0 d19_33 rfl rfl <| G.y 35 (z := (-100000 : Int32)) C X0 d19_34 rfl (by decide) <| G.g 36 C X0 d19_35 rfl (l' := #[vI (-vv), vI 0, vI (-100000), vI 4]) rfl <| G.t 39 C X0 d19_36 rfl rfl (z := (5 : Int32)) (by decide) (l' := #[vI (-vv), vI 0, vI (-100000), vI 5]) rfl ?_
 refine G.r 16 C X0 d19_39 (by decide) (by decide) <| G.a 17 C X0 d19_16 rfl rfl <| G.d 19 (z := 10) C X0 d19_17 rfl (by decide) <| G.k 22 C X0 d19_19 rfl (tlt (by decide : (5 : Int32) < 10)).2.1 <| G.a 23 C X0 d19_22 rfl rfl <| G.a 24 C X0 d19_23 rfl rfl <| G.j 31 C X0 d19_24 (flt (own_pge (own_neg hV) tQ9 (by omega))).2.2.2 (by decide) (by decide) <| G.d 33 (z := 10) C X0 d19_31 rfl (by decide) <| G.a 34 C X0 d19_33 rfl rfl <| G.y 35 (z := (-1000000 : Int32)) C X0 d19_34 rfl (by decide) <| G.g 36 C X0 d19_35 rfl (l' := #[vI (-vv), vI 0, vI (-1000000), vI 5]) rfl <| G.t 39 C X0 d19_36 rfl rfl (z := (6 : Int32)) (by decide) (l' := #[vI (-vv), vI 0, vI (-1000000), vI 6]) rfl <| G.r 16 C X0 d19_39 (by decide) (by decide) <| G.a 17 C X0 d19_16 rfl rfl <| G.d 19 (z := 10) C X0 d19_17 rfl (by decide) ?_
 refine G.k 22 C X0 d19_19 rfl (tlt (by decide : (6 : Int32) < 10)).2.1 <| G.a 23 C X0 d19_22 rfl rfl <| G.a 24 C X0 d19_23 rfl rfl <| G.j 31 C X0 d19_24 (flt (own_pge (own_neg hV) tQ11 (by omega))).2.2.2 (by decide) (by decide) <| G.d 33 (z := 10) C X0 d19_31 rfl (by decide) <| G.a 34 C X0 d19_33 rfl rfl <| G.y 35 (z := (-10000000 : Int32)) C X0 d19_34 rfl (by decide) <| G.g 36 C X0 d19_35 rfl (l' := #[vI (-vv), vI 0, vI (-10000000), vI 6]) rfl <| G.t 39 C X0 d19_36 rfl rfl (z := (7 : Int32)) (by decide) (l' := #[vI (-vv), vI 0, vI (-10000000), vI 7]) rfl <| G.r 16 C X0 d19_39 (by decide) (by decide) <| G.a 17 C X0 d19_16 rfl rfl <| G.d 19 (z := 10) C X0 d19_17 rfl (by decide) <| G.k 22 C X0 d19_19 rfl (tlt (by decide : (7 : Int32) < 10)).2.1 <| G.a 23 C X0 d19_22 rfl rfl <| G.a 24 C X0 d19_23 rfl rfl ?_
 refine G.j 31 C X0 d19_24 (flt (own_pge (own_neg hV) tQ13 (by omega))).2.2.2 (by decide) (by decide) <| G.d 33 (z := 10) C X0 d19_31 rfl (by decide) <| G.a 34 C X0 d19_33 rfl rfl <| G.y 35 (z := (-100000000 : Int32)) C X0 d19_34 rfl (by decide) <| G.g 36 C X0 d19_35 rfl (l' := #[vI (-vv), vI 0, vI (-100000000), vI 7]) rfl <| G.t 39 C X0 d19_36 rfl rfl (z := (8 : Int32)) (by decide) (l' := #[vI (-vv), vI 0, vI (-100000000), vI 8]) rfl <| G.r 16 C X0 d19_39 (by decide) (by decide) <| G.a 17 C X0 d19_16 rfl rfl <| G.d 19 (z := 10) C X0 d19_17 rfl (by decide) <| G.k 22 C X0 d19_19 rfl (tlt (by decide : (8 : Int32) < 10)).2.1 <| G.a 23 C X0 d19_22 rfl rfl <| G.a 24 C X0 d19_23 rfl rfl <| G.k 27 C X0 d19_24 rfl (tlt (own_plt (own_neg hV) tQ15 (by omega))).2.2.2 <| G.a 28 C X0 d19_27 rfl rfl <| G.a 29 C X0 d19_28 rfl rfl ?_
 refine G.z 30 (z := (8 : Int32)) C X0 d19_29 rfl (by decide) ?_
 exact G.E C X0 d19_30 hret hlk (⟨rfl, rfl⟩) (by decide) (by decide)
theorem ctNd8 {l : Launch} {Z : State} {a0 : Array Value} (hw : HW a0 Z) {n0 : Nat} {h0 : Heap} (hn0 : n0 ≤ h0.size) (vv : Int32) (V0 : Nat) (hV : vv.toInt = (V0 : Int)) (hlo : 10000000 ≤ V0) (hhi : V0 < 100000000) :
 Ctr l Z (⟨zq7, "nd", "(I)I"⟩ : MethodName) method_5_code 1 (some .int) (rQ 0 0 0 0) n0 #[(.int vv)] h0 (fun v h => v = some (.int 8) ∧ h = h0) := by
 refine Ctr.of (plainFor_of_name pn4) hn0 ?_
 intro p e s m below meth c T0 C hnm hret hlk X0
 rw [ef39 m vv]
 refine G.a 1 C X0 d39_0 rfl rfl <| G.d 3 (z := 10) C X0 d39_1 rfl (by decide) <| G.j 8 C X0 d39_3 (flt (own_vge hV tQ1 (by omega))).2.1 (by decide) (by decide) <| G.a 9 C X0 d39_8 rfl rfl <| G.d 11 (z := 100) C X0 d39_9 rfl (by decide) <| G.j 16 C X0 d39_11 (flt (own_vge hV tQ4 (by omega))).2.1 (by decide) (by decide) <| G.a 17 C X0 d39_16 rfl rfl <| G.G 20 (z := 1000) C X0 d39_17 rfl (by decide) <| G.j 25 C X0 d39_20 (flt (own_vge hV tQ6 (by omega))).2.1 (by decide) (by decide) <| G.a 26 C X0 d39_25 rfl rfl <| G.G 29 (z := 10000) C X0 d39_26 rfl (by decide) <| G.j 34 C X0 d39_29 (flt (own_vge hV tQ8 (by omega))).2.1 (by decide) (by decide) <| G.a 35 C X0 d39_34 rfl rfl <| G.F 37 C X0 (wd298 hw) d39_35 rfl <| G.j 42 C X0 d39_37 (flt (own_vge hV tQ10 (by omega))).2.1 (by decide) (by decide) ?_
 refine G.a 43 C X0 d39_42 rfl rfl <| G.F 45 C X0 (wd299 hw) d39_43 rfl <| G.j 51 C X0 d39_45 (flt (own_vge hV tQ12 (by omega))).2.1 (by decide) (by decide) <| G.a 52 C X0 d39_51 rfl rfl <| G.F 54 C X0 (wd300 hw) d39_52 rfl <| G.j 60 C X0 d39_54 (flt (own_vge hV tQ14 (by omega))).2.1 (by decide) (by decide) <| G.a 61 C X0 d39_60 rfl rfl <| G.F 63 C X0 (wd301 hw) d39_61 rfl <| G.k 66 C X0 d39_63 rfl (tlt (own_vlt hV tQ16 (by omega))).2.1 <| G.d 68 (z := 8) C X0 d39_66 rfl (by decide) ?_
 exact G.E C X0 d39_68 hret hlk (⟨rfl, rfl⟩) (by decide) (by decide)
theorem ctGc8 {l : Launch} {Z : State} {a0 : Array Value} (hw : HW a0 Z) {n0 : Nat} {h0 : Heap} (hn0 : n0 ≤ h0.size) (tb : Addr) (kt : ClassId) (do_ dt_ : Addr) (ko kq : ClassId) (W : List Int32) (cp vv : Int32) (V0 : Nat) (Vt : Arv Z h0 tb kt .byte cp (tx W ++ [(.int 0), (.int 0), (.int 0), (.int 0), (.int 0), (.int 0), (.int 0), (.int 0)]) (.int 0)) (gt : n0 ≤ tb) (OD : Old Z n0 h0) (So : Sta Z Z.heap zq2 "DigitOnes" "[B" (.ref do_)) (Sq : Sta Z Z.heap zq2 "DigitTens" "[B" (.ref dt_)) (Vo : Arv Z Z.heap do_ ko .byte (100 : Int32) own_ones (.int 0)) (Vq : Arv Z Z.heap dt_ kq .byte (100 : Int32) own_tens (.int 0)) (hcp : cp = 16 ∨ cp = 34) (hb : W.length + 8 < 1000) (hfit : W.length + 8 ≤ cp.toNatClampNeg) (hV : vv.toInt = (V0 : Int)) (hlo : 10000000 ≤ V0) (hhi : V0 < 100000000) :
 Ctr l Z (⟨zq2, "getChars", "(II[B)I"⟩ : MethodName) jdk_33_method_12_code 7 (some .int) (rQ 0 0 0 0) n0 #[(.int vv), (.int (own_n (W.length + 8))), (.ref tb)] h0 (fun v h => v = some (.int (own_n (W.length + 0))) ∧ Keep h0 h [tb] ∧ Arv Z h tb kt .byte cp (tx (W ++ own_dig V0 8)) (.int 0)) := by
 refine Ctr.of (plainFor_of_name pn3) hn0 ?_
 intro p e s m below meth c T0 C hnm hret hlk X0
 rw [ef21 m vv (own_n (W.length + 8)) tb]
 have hx0 := own_neg hV
 refine G.a 1 C X0 d21_0 rfl rfl <| G.w 3 C X0 d21_1 rfl (l' := #[vI vv, vI (own_n (W.length + 8)), vR tb, .unset, .unset, vI (own_n (W.length + 8)), .unset]) rfl <| G.a 4 C X0 d21_3 rfl rfl <| G.M 11 C X0 d21_4 (flt (own_nn hV)).2.1 (by decide) (by decide) <| G.i 12 (z := 0) C X0 d21_11 rfl (by decide) <| G.w 14 C X0 d21_12 rfl (l' := #[vI vv, vI (own_n (W.length + 8)), vR tb, .unset, .unset, vI (own_n (W.length + 8)), vI 0]) rfl <| G.f 16 C X0 d21_14 rfl rfl <| G.q 19 C X0 d21_16 rfl (teq (by decide : (0 : Int32) = 0)).2 <| G.a 20 C X0 d21_19 rfl rfl <| G.H 21 (z := (-vv)) C X0 d21_20 rfl rfl <| G.g 22 C X0 d21_21 rfl (l' := #[vI (-vv), vI (own_n (W.length + 8)), vR tb, .unset, .unset, vI (own_n (W.length + 8)), vI 0]) rfl <| G.a 23 C X0 d21_22 rfl rfl <| G.d 25 (z := -100) C X0 d21_23 rfl (by decide) <| G.k 28 C X0 d21_25 rfl (flt (own_pge hx0 tQ2 (by omega))).2.2.1 <| G.a 29 C X0 d21_28 rfl rfl ?_
 refine G.d 31 (z := 100) C X0 d21_29 rfl (by decide) ?_
 obtain ⟨q1_, h_q1_⟩ : ∃ z : Int32, (-vv) / (100 : Int32) = z := ⟨_, rfl⟩
 refine G.Y 32 (z := q1_) C X0 d21_31 rfl (by decide) h_q1_ ?_
 have hx1 := own_q hx0 h_q1_
 refine G.g 33 C X0 d21_32 rfl (l' := #[vI (-vv), vI (own_n (W.length + 8)), vR tb, vI q1_, .unset, vI (own_n (W.length + 8)), vI 0]) rfl <| G.a 34 C X0 d21_33 rfl rfl <| G.d 36 (z := 100) C X0 d21_34 rfl (by decide) <| G.y 37 (z := (q1_ * (100 : Int32))) C X0 d21_36 rfl rfl <| G.a 38 C X0 d21_37 rfl rfl ?_
 obtain ⟨r1_, h_r1_⟩ : ∃ z : Int32, (q1_ * (100 : Int32)) - (-vv) = z := ⟨_, rfl⟩
 refine G.u 39 (z := r1_) C X0 d21_38 rfl h_r1_ ?_
 have hr1 := own_r hx0 hx1 h_r1_
 refine G.w 41 C X0 d21_39 rfl (l' := #[vI (-vv), vI (own_n (W.length + 8)), vR tb, vI q1_, vI r1_, vI (own_n (W.length + 8)), vI 0]) rfl <| G.a 42 C X0 d21_41 rfl rfl <| G.g 43 C X0 d21_42 rfl (l' := #[vI q1_, vI (own_n (W.length + 8)), vR tb, vI q1_, vI r1_, vI (own_n (W.length + 8)), vI 0]) rfl <| G.b 44 C X0 d21_43 rfl rfl rfl <| G.t 47 C X0 d21_44 rfl rfl (z := (own_n (W.length + 7))) (own_dc (W.length + 7)) (l' := #[vI q1_, vI (own_n (W.length + 8)), vR tb, vI q1_, vI r1_, vI (own_n (W.length + 7)), vI 0]) rfl <| G.f 49 C X0 d21_47 rfl rfl <| G.x 52 C X0 (hQ (wd125 hw)) Via.refl (So.ext OD.2) d21_49 rfl fun T1 X1 => G.f 54 C X1 d21_52 rfl rfl <| G.B 55 C X1 (Vo.ext OD.2) d21_54 rfl (own_idx hr1 (by omega)) (v := (own_n (48 + V0 / 1 % 10))) (own_oat hr1 (by omega) (by omega) _) <| G.A 56 C X1 Vt gt (i := (W.length + 7)) d21_55 rfl (own_ix (own_cpp hcp) (by omega) (by omega)) (own_n_cl (by omega)) (by simp [tx_len]) (fun T2 h2 X2 W2 V2 => ?_)
 replace V2 : Arv Z h2 tb kt .byte cp (tx W ++ [(.int 0), (.int 0), (.int 0), (.int 0), (.int 0), (.int 0), (.int 0), (eQ V0 1)]) (.int 0) := by rw [own_nar_b, own_stk W [(.int 0), (.int 0), (.int 0), (.int 0), (.int 0), (.int 0), (.int 0), (.int 0)] 7 _] at V2; exact V2
 have K3 := (Keep.refl h0 [tb]).wr W2 (mQ 0 rfl)
 refine G.b 57 C X2 d21_56 rfl rfl rfl <| G.t 60 C X2 d21_57 rfl rfl (z := (own_n (W.length + 6))) (own_dc (W.length + 6)) (l' := #[vI q1_, vI (own_n (W.length + 8)), vR tb, vI q1_, vI r1_, vI (own_n (W.length + 6)), vI 0]) rfl <| G.f 62 C X2 d21_60 rfl rfl ?_
 have f4 := (OD.wr W2 gt)
 refine G.x 65 C X2 (hQ (wd280 hw)) Via.refl (Sq.ext f4.2) d21_62 rfl fun T5 X5 => G.f 67 C X5 d21_65 rfl rfl <| G.B 68 C X5 (Vq.ext f4.2) d21_67 rfl (own_idx hr1 (by omega)) (v := (own_n (48 + V0 / 10 % 10))) (own_tat hr1 (by omega) (by omega) _) <| G.A 69 C X5 V2 gt (i := (W.length + 6)) d21_68 rfl (own_ix (own_cpp hcp) (by omega) (by omega)) (own_n_cl (by omega)) (by simp [tx_len]) (fun T6 h6 X6 W6 V6 => ?_)
 replace V6 : Arv Z h6 tb kt .byte cp (tx W ++ [(.int 0), (.int 0), (.int 0), (.int 0), (.int 0), (.int 0), (eQ V0 10), (eQ V0 1)]) (.int 0) := by rw [own_nar_b, own_stk W [(.int 0), (.int 0), (.int 0), (.int 0), (.int 0), (.int 0), (.int 0), (eQ V0 1)] 6 _] at V6; exact V6
 have K7 := K3.wr W6 (mQ 0 rfl)
 refine G.r 22 C X6 d21_69 (by decide) (by decide) <| G.a 23 C X6 d21_22 rfl rfl <| G.d 25 (z := -100) C X6 d21_23 rfl (by decide) <| G.k 28 C X6 d21_25 rfl (flt (own_pge hx1 tQ2 (by omega))).2.2.1 <| G.a 29 C X6 d21_28 rfl rfl <| G.d 31 (z := 100) C X6 d21_29 rfl (by decide) ?_
 obtain ⟨q2_, h_q2_⟩ : ∃ z : Int32, q1_ / (100 : Int32) = z := ⟨_, rfl⟩
 refine G.Y 32 (z := q2_) C X6 d21_31 rfl (by decide) h_q2_ ?_
 have hx2 := own_q hx1 h_q2_
 refine G.g 33 C X6 d21_32 rfl (l' := #[vI q1_, vI (own_n (W.length + 8)), vR tb, vI q2_, vI r1_, vI (own_n (W.length + 6)), vI 0]) rfl <| G.a 34 C X6 d21_33 rfl rfl <| G.d 36 (z := 100) C X6 d21_34 rfl (by decide) <| G.y 37 (z := (q2_ * (100 : Int32))) C X6 d21_36 rfl rfl <| G.a 38 C X6 d21_37 rfl rfl ?_
 obtain ⟨r2_, h_r2_⟩ : ∃ z : Int32, (q2_ * (100 : Int32)) - q1_ = z := ⟨_, rfl⟩
 refine G.u 39 (z := r2_) C X6 d21_38 rfl h_r2_ ?_
 have hr2 := own_r hx1 hx2 h_r2_
 refine G.w 41 C X6 d21_39 rfl (l' := #[vI q1_, vI (own_n (W.length + 8)), vR tb, vI q2_, vI r2_, vI (own_n (W.length + 6)), vI 0]) rfl <| G.a 42 C X6 d21_41 rfl rfl <| G.g 43 C X6 d21_42 rfl (l' := #[vI q2_, vI (own_n (W.length + 8)), vR tb, vI q2_, vI r2_, vI (own_n (W.length + 6)), vI 0]) rfl <| G.b 44 C X6 d21_43 rfl rfl rfl <| G.t 47 C X6 d21_44 rfl rfl (z := (own_n (W.length + 5))) (own_dc (W.length + 5)) (l' := #[vI q2_, vI (own_n (W.length + 8)), vR tb, vI q2_, vI r2_, vI (own_n (W.length + 5)), vI 0]) rfl <| G.f 49 C X6 d21_47 rfl rfl ?_
 have f8 := (f4.wr W6 gt)
 refine G.x 52 C X6 (hQ (wd125 hw)) Via.refl (So.ext f8.2) d21_49 rfl fun T9 X9 => G.f 54 C X9 d21_52 rfl rfl <| G.B 55 C X9 (Vo.ext f8.2) d21_54 rfl (own_idx hr2 (by omega)) (v := (own_n (48 + V0 / 100 % 10))) (own_oat hr2 (by omega) (by omega) _) <| G.A 56 C X9 V6 gt (i := (W.length + 5)) d21_55 rfl (own_ix (own_cpp hcp) (by omega) (by omega)) (own_n_cl (by omega)) (by simp [tx_len]) (fun T10 h10 X10 W10 V10 => ?_)
 replace V10 : Arv Z h10 tb kt .byte cp (tx W ++ [(.int 0), (.int 0), (.int 0), (.int 0), (.int 0), (eQ V0 100), (eQ V0 10), (eQ V0 1)]) (.int 0) := by rw [own_nar_b, own_stk W [(.int 0), (.int 0), (.int 0), (.int 0), (.int 0), (.int 0), (eQ V0 10), (eQ V0 1)] 5 _] at V10; exact V10
 have K11 := K7.wr W10 (mQ 0 rfl)
 refine G.b 57 C X10 d21_56 rfl rfl rfl <| G.t 60 C X10 d21_57 rfl rfl (z := (own_n (W.length + 4))) (own_dc (W.length + 4)) (l' := #[vI q2_, vI (own_n (W.length + 8)), vR tb, vI q2_, vI r2_, vI (own_n (W.length + 4)), vI 0]) rfl <| G.f 62 C X10 d21_60 rfl rfl ?_
 have f12 := (f8.wr W10 gt)
 refine G.x 65 C X10 (hQ (wd280 hw)) Via.refl (Sq.ext f12.2) d21_62 rfl fun T13 X13 => G.f 67 C X13 d21_65 rfl rfl <| G.B 68 C X13 (Vq.ext f12.2) d21_67 rfl (own_idx hr2 (by omega)) (v := (own_n (48 + V0 / 1000 % 10))) (own_tat hr2 (by omega) (by omega) _) <| G.A 69 C X13 V10 gt (i := (W.length + 4)) d21_68 rfl (own_ix (own_cpp hcp) (by omega) (by omega)) (own_n_cl (by omega)) (by simp [tx_len]) (fun T14 h14 X14 W14 V14 => ?_)
 replace V14 : Arv Z h14 tb kt .byte cp (tx W ++ [(.int 0), (.int 0), (.int 0), (.int 0), (eQ V0 1000), (eQ V0 100), (eQ V0 10), (eQ V0 1)]) (.int 0) := by rw [own_nar_b, own_stk W [(.int 0), (.int 0), (.int 0), (.int 0), (.int 0), (eQ V0 100), (eQ V0 10), (eQ V0 1)] 4 _] at V14; exact V14
 have K15 := K11.wr W14 (mQ 0 rfl)
 refine G.r 22 C X14 d21_69 (by decide) (by decide) <| G.a 23 C X14 d21_22 rfl rfl <| G.d 25 (z := -100) C X14 d21_23 rfl (by decide) <| G.k 28 C X14 d21_25 rfl (flt (own_pge hx2 tQ2 (by omega))).2.2.1 <| G.a 29 C X14 d21_28 rfl rfl <| G.d 31 (z := 100) C X14 d21_29 rfl (by decide) ?_
 obtain ⟨q3_, h_q3_⟩ : ∃ z : Int32, q2_ / (100 : Int32) = z := ⟨_, rfl⟩
 refine G.Y 32 (z := q3_) C X14 d21_31 rfl (by decide) h_q3_ ?_
 have hx3 := own_q hx2 h_q3_
 refine G.g 33 C X14 d21_32 rfl (l' := #[vI q2_, vI (own_n (W.length + 8)), vR tb, vI q3_, vI r2_, vI (own_n (W.length + 4)), vI 0]) rfl <| G.a 34 C X14 d21_33 rfl rfl <| G.d 36 (z := 100) C X14 d21_34 rfl (by decide) <| G.y 37 (z := (q3_ * (100 : Int32))) C X14 d21_36 rfl rfl <| G.a 38 C X14 d21_37 rfl rfl ?_
 obtain ⟨r3_, h_r3_⟩ : ∃ z : Int32, (q3_ * (100 : Int32)) - q2_ = z := ⟨_, rfl⟩
 refine G.u 39 (z := r3_) C X14 d21_38 rfl h_r3_ ?_
 have hr3 := own_r hx2 hx3 h_r3_
 refine G.w 41 C X14 d21_39 rfl (l' := #[vI q2_, vI (own_n (W.length + 8)), vR tb, vI q3_, vI r3_, vI (own_n (W.length + 4)), vI 0]) rfl <| G.a 42 C X14 d21_41 rfl rfl <| G.g 43 C X14 d21_42 rfl (l' := #[vI q3_, vI (own_n (W.length + 8)), vR tb, vI q3_, vI r3_, vI (own_n (W.length + 4)), vI 0]) rfl <| G.b 44 C X14 d21_43 rfl rfl rfl <| G.t 47 C X14 d21_44 rfl rfl (z := (own_n (W.length + 3))) (own_dc (W.length + 3)) (l' := #[vI q3_, vI (own_n (W.length + 8)), vR tb, vI q3_, vI r3_, vI (own_n (W.length + 3)), vI 0]) rfl <| G.f 49 C X14 d21_47 rfl rfl ?_
 have f16 := (f12.wr W14 gt)
 refine G.x 52 C X14 (hQ (wd125 hw)) Via.refl (So.ext f16.2) d21_49 rfl fun T17 X17 => G.f 54 C X17 d21_52 rfl rfl <| G.B 55 C X17 (Vo.ext f16.2) d21_54 rfl (own_idx hr3 (by omega)) (v := (own_n (48 + V0 / 10000 % 10))) (own_oat hr3 (by omega) (by omega) _) <| G.A 56 C X17 V14 gt (i := (W.length + 3)) d21_55 rfl (own_ix (own_cpp hcp) (by omega) (by omega)) (own_n_cl (by omega)) (by simp [tx_len]) (fun T18 h18 X18 W18 V18 => ?_)
 replace V18 : Arv Z h18 tb kt .byte cp (tx W ++ [(.int 0), (.int 0), (.int 0), (eQ V0 10000), (eQ V0 1000), (eQ V0 100), (eQ V0 10), (eQ V0 1)]) (.int 0) := by rw [own_nar_b, own_stk W [(.int 0), (.int 0), (.int 0), (.int 0), (eQ V0 1000), (eQ V0 100), (eQ V0 10), (eQ V0 1)] 3 _] at V18; exact V18
 have K19 := K15.wr W18 (mQ 0 rfl)
 refine G.b 57 C X18 d21_56 rfl rfl rfl <| G.t 60 C X18 d21_57 rfl rfl (z := (own_n (W.length + 2))) (own_dc (W.length + 2)) (l' := #[vI q3_, vI (own_n (W.length + 8)), vR tb, vI q3_, vI r3_, vI (own_n (W.length + 2)), vI 0]) rfl <| G.f 62 C X18 d21_60 rfl rfl ?_
 have f20 := (f16.wr W18 gt)
 refine G.x 65 C X18 (hQ (wd280 hw)) Via.refl (Sq.ext f20.2) d21_62 rfl fun T21 X21 => G.f 67 C X21 d21_65 rfl rfl <| G.B 68 C X21 (Vq.ext f20.2) d21_67 rfl (own_idx hr3 (by omega)) (v := (own_n (48 + V0 / 100000 % 10))) (own_tat hr3 (by omega) (by omega) _) <| G.A 69 C X21 V18 gt (i := (W.length + 2)) d21_68 rfl (own_ix (own_cpp hcp) (by omega) (by omega)) (own_n_cl (by omega)) (by simp [tx_len]) (fun T22 h22 X22 W22 V22 => ?_)
 replace V22 : Arv Z h22 tb kt .byte cp (tx W ++ [(.int 0), (.int 0), (eQ V0 100000), (eQ V0 10000), (eQ V0 1000), (eQ V0 100), (eQ V0 10), (eQ V0 1)]) (.int 0) := by rw [own_nar_b, own_stk W [(.int 0), (.int 0), (.int 0), (eQ V0 10000), (eQ V0 1000), (eQ V0 100), (eQ V0 10), (eQ V0 1)] 2 _] at V22; exact V22
 have K23 := K19.wr W22 (mQ 0 rfl)
 refine G.r 22 C X22 d21_69 (by decide) (by decide) <| G.a 23 C X22 d21_22 rfl rfl <| G.d 25 (z := -100) C X22 d21_23 rfl (by decide) <| G.j 72 C X22 d21_25 (tlt (own_plt hx3 tQ2 (by omega))).2.2.1 (by decide) (by decide) <| G.b 73 C X22 d21_72 rfl rfl rfl <| G.t 76 C X22 d21_73 rfl rfl (z := (own_n (W.length + 1))) (own_dc (W.length + 1)) (l' := #[vI q3_, vI (own_n (W.length + 8)), vR tb, vI q3_, vI r3_, vI (own_n (W.length + 1)), vI 0]) rfl <| G.f 78 C X22 d21_76 rfl rfl ?_
 have f24 := (f20.wr W22 gt)
 refine G.x 81 C X22 (hQ (wd125 hw)) Via.refl (So.ext f24.2) d21_78 rfl fun T25 X25 => G.a 82 C X25 d21_81 rfl rfl ?_
 obtain ⟨rl, h_rl⟩ : ∃ z : Int32, -q3_ = z := ⟨_, rfl⟩
 refine G.H 83 (z := rl) C X25 d21_82 rfl h_rl ?_
 have hrl := own_negp hx3 (by omega) h_rl
 refine G.B 84 C X25 (Vo.ext f24.2) d21_83 rfl (own_idx hrl (by omega)) (v := (own_n (48 + V0 / 1000000 % 10))) (own_oat hrl (by omega) (by omega) _) <| G.A 85 C X25 V22 gt (i := (W.length + 1)) d21_84 rfl (own_ix (own_cpp hcp) (by omega) (by omega)) (own_n_cl (by omega)) (by simp [tx_len]) (fun T26 h26 X26 W26 V26 => ?_)
 replace V26 : Arv Z h26 tb kt .byte cp (tx W ++ [(.int 0), (eQ V0 1000000), (eQ V0 100000), (eQ V0 10000), (eQ V0 1000), (eQ V0 100), (eQ V0 10), (eQ V0 1)]) (.int 0) := by rw [own_nar_b, own_stk W [(.int 0), (.int 0), (eQ V0 100000), (eQ V0 10000), (eQ V0 1000), (eQ V0 100), (eQ V0 10), (eQ V0 1)] 1 _] at V26; exact V26
 have K27 := K23.wr W26 (mQ 0 rfl)
 refine G.a 86 C X26 d21_85 rfl rfl <| G.d 88 (z := -9) C X26 d21_86 rfl (by decide) <| G.k 91 C X26 d21_88 rfl (tlt (own_xlt hx3 tQ3 (by omega))).2.1 <| G.b 92 C X26 d21_91 rfl rfl rfl <| G.t 95 C X26 d21_92 rfl rfl (z := (own_n (W.length + 0))) (own_dc (W.length + 0)) (l' := #[vI q3_, vI (own_n (W.length + 8)), vR tb, vI q3_, vI r3_, vI (own_n (W.length + 0)), vI 0]) rfl <| G.f 97 C X26 d21_95 rfl rfl ?_
 have f28 := (f24.wr W26 gt)
 refine G.x 100 C X26 (hQ (wd280 hw)) Via.refl (Sq.ext f28.2) d21_97 rfl fun T29 X29 => G.a 101 C X29 d21_100 rfl rfl <| G.H 102 (z := rl) C X29 d21_101 rfl h_rl <| G.B 103 C X29 (Vq.ext f28.2) d21_102 rfl (own_idx hrl (by omega)) (v := (own_n (48 + V0 / 10000000 % 10))) (own_tat hrl (by omega) (by omega) _) <| G.A 104 C X29 V26 gt (i := (W.length + 0)) d21_103 rfl (own_ix (own_cpp hcp) (by omega) (by omega)) (own_n_cl (by omega)) (by simp [tx_len]) (fun T30 h30 X30 W30 V30 => ?_)
 replace V30 : Arv Z h30 tb kt .byte cp (tx W ++ [(eQ V0 10000000), (eQ V0 1000000), (eQ V0 100000), (eQ V0 10000), (eQ V0 1000), (eQ V0 100), (eQ V0 10), (eQ V0 1)]) (.int 0) := by rw [own_nar_b, own_stk W [(.int 0), (eQ V0 1000000), (eQ V0 100000), (eQ V0 10000), (eQ V0 1000), (eQ V0 100), (eQ V0 10), (eQ V0 1)] 0 _] at V30; exact V30
 have K31 := K27.wr W30 (mQ 0 rfl)
 refine G.f 106 C X30 d21_104 rfl rfl <| G.M 118 C X30 d21_106 (teq (by decide : (0 : Int32) = 0)).1 (by decide) (by decide) <| G.f 120 C X30 d21_118 rfl rfl ?_
 exact G.E C X30 d21_120 hret hlk (⟨rfl, K31, (by rw [tx_app]; exact V30)⟩) (by decide) (by decide)
theorem ctSs9 {l : Launch} {Z : State} {a0 : Array Value} (hw : HW a0 Z) {n0 : Nat} {h0 : Heap} (hn0 : n0 ≤ h0.size) (vv : Int32) (V0 : Nat) (hV : vv.toInt = (V0 : Int)) (hlo : 100000000 ≤ V0) (hhi : V0 < 1000000000) :
 Ctr l Z (⟨zq2, "stringSize", "(I)I"⟩ : MethodName) jdk_33_method_13_code 4 (some .int) (rQ 0 0 0 0) n0 #[(.int vv)] h0 (fun v h => v = some (.int 9) ∧ h = h0) := by
 refine Ctr.of (plainFor_of_name pn3) hn0 ?_
 intro p e s m below meth c T0 C hnm hret hlk X0
 rw [ef19 m vv]
 refine G.i 1 (z := 1) C X0 d19_0 rfl (by decide) <| G.g 2 C X0 d19_1 rfl (l' := #[vI vv, vI 1, .unset, .unset]) rfl <| G.a 3 C X0 d19_2 rfl rfl <| G.q 6 C X0 d19_3 rfl (flt (own_nn hV)).1 <| G.i 7 (z := 0) C X0 d19_6 rfl (by decide) <| G.g 8 C X0 d19_7 rfl (l' := #[vI vv, vI 0, .unset, .unset]) rfl <| G.a 9 C X0 d19_8 rfl rfl <| G.H 10 (z := (-vv)) C X0 d19_9 rfl rfl <| G.g 11 C X0 d19_10 rfl (l' := #[vI (-vv), vI 0, .unset, .unset]) rfl <| G.d 13 (z := -10) C X0 d19_11 rfl (by decide) <| G.g 14 C X0 d19_13 rfl (l' := #[vI (-vv), vI 0, vI (-10), .unset]) rfl <| G.i 15 (z := 1) C X0 d19_14 rfl (by decide) <| G.g 16 C X0 d19_15 rfl (l' := #[vI (-vv), vI 0, vI (-10), vI 1]) rfl <| G.a 17 C X0 d19_16 rfl rfl <| G.d 19 (z := 10) C X0 d19_17 rfl (by decide) ?_
 refine G.k 22 C X0 d19_19 rfl (tlt (by decide : (1 : Int32) < 10)).2.1 <| G.a 23 C X0 d19_22 rfl rfl <| G.a 24 C X0 d19_23 rfl rfl <| G.j 31 C X0 d19_24 (flt (own_pge (own_neg hV) tQ0 (by omega))).2.2.2 (by decide) (by decide) <| G.d 33 (z := 10) C X0 d19_31 rfl (by decide) <| G.a 34 C X0 d19_33 rfl rfl <| G.y 35 (z := (-100 : Int32)) C X0 d19_34 rfl (by decide) <| G.g 36 C X0 d19_35 rfl (l' := #[vI (-vv), vI 0, vI (-100), vI 1]) rfl <| G.t 39 C X0 d19_36 rfl rfl (z := (2 : Int32)) (by decide) (l' := #[vI (-vv), vI 0, vI (-100), vI 2]) rfl <| G.r 16 C X0 d19_39 (by decide) (by decide) <| G.a 17 C X0 d19_16 rfl rfl <| G.d 19 (z := 10) C X0 d19_17 rfl (by decide) <| G.k 22 C X0 d19_19 rfl (tlt (by decide : (2 : Int32) < 10)).2.1 <| G.a 23 C X0 d19_22 rfl rfl <| G.a 24 C X0 d19_23 rfl rfl ?_
 refine G.j 31 C X0 d19_24 (flt (own_pge (own_neg hV) tQ2 (by omega))).2.2.2 (by decide) (by decide) <| G.d 33 (z := 10) C X0 d19_31 rfl (by decide) <| G.a 34 C X0 d19_33 rfl rfl <| G.y 35 (z := (-1000 : Int32)) C X0 d19_34 rfl (by decide) <| G.g 36 C X0 d19_35 rfl (l' := #[vI (-vv), vI 0, vI (-1000), vI 2]) rfl <| G.t 39 C X0 d19_36 rfl rfl (z := (3 : Int32)) (by decide) (l' := #[vI (-vv), vI 0, vI (-1000), vI 3]) rfl <| G.r 16 C X0 d19_39 (by decide) (by decide) <| G.a 17 C X0 d19_16 rfl rfl <| G.d 19 (z := 10) C X0 d19_17 rfl (by decide) <| G.k 22 C X0 d19_19 rfl (tlt (by decide : (3 : Int32) < 10)).2.1 <| G.a 23 C X0 d19_22 rfl rfl <| G.a 24 C X0 d19_23 rfl rfl <| G.j 31 C X0 d19_24 (flt (own_pge (own_neg hV) tQ5 (by omega))).2.2.2 (by decide) (by decide) <| G.d 33 (z := 10) C X0 d19_31 rfl (by decide) <| G.a 34 C X0 d19_33 rfl rfl ?_
 refine G.y 35 (z := (-10000 : Int32)) C X0 d19_34 rfl (by decide) <| G.g 36 C X0 d19_35 rfl (l' := #[vI (-vv), vI 0, vI (-10000), vI 3]) rfl <| G.t 39 C X0 d19_36 rfl rfl (z := (4 : Int32)) (by decide) (l' := #[vI (-vv), vI 0, vI (-10000), vI 4]) rfl <| G.r 16 C X0 d19_39 (by decide) (by decide) <| G.a 17 C X0 d19_16 rfl rfl <| G.d 19 (z := 10) C X0 d19_17 rfl (by decide) <| G.k 22 C X0 d19_19 rfl (tlt (by decide : (4 : Int32) < 10)).2.1 <| G.a 23 C X0 d19_22 rfl rfl <| G.a 24 C X0 d19_23 rfl rfl <| G.j 31 C X0 d19_24 (flt (own_pge (own_neg hV) tQ7 (by omega))).2.2.2 (by decide) (by decide) <| G.d 33 (z := 10) C X0 d19_31 rfl (by decide) <| G.a 34 C X0 d19_33 rfl rfl <| G.y 35 (z := (-100000 : Int32)) C X0 d19_34 rfl (by decide) <| G.g 36 C X0 d19_35 rfl (l' := #[vI (-vv), vI 0, vI (-100000), vI 4]) rfl <| G.t 39 C X0 d19_36 rfl rfl (z := (5 : Int32)) (by decide) (l' := #[vI (-vv), vI 0, vI (-100000), vI 5]) rfl ?_
 refine G.r 16 C X0 d19_39 (by decide) (by decide) <| G.a 17 C X0 d19_16 rfl rfl <| G.d 19 (z := 10) C X0 d19_17 rfl (by decide) <| G.k 22 C X0 d19_19 rfl (tlt (by decide : (5 : Int32) < 10)).2.1 <| G.a 23 C X0 d19_22 rfl rfl <| G.a 24 C X0 d19_23 rfl rfl <| G.j 31 C X0 d19_24 (flt (own_pge (own_neg hV) tQ9 (by omega))).2.2.2 (by decide) (by decide) <| G.d 33 (z := 10) C X0 d19_31 rfl (by decide) <| G.a 34 C X0 d19_33 rfl rfl <| G.y 35 (z := (-1000000 : Int32)) C X0 d19_34 rfl (by decide) <| G.g 36 C X0 d19_35 rfl (l' := #[vI (-vv), vI 0, vI (-1000000), vI 5]) rfl <| G.t 39 C X0 d19_36 rfl rfl (z := (6 : Int32)) (by decide) (l' := #[vI (-vv), vI 0, vI (-1000000), vI 6]) rfl <| G.r 16 C X0 d19_39 (by decide) (by decide) <| G.a 17 C X0 d19_16 rfl rfl <| G.d 19 (z := 10) C X0 d19_17 rfl (by decide) ?_
 refine G.k 22 C X0 d19_19 rfl (tlt (by decide : (6 : Int32) < 10)).2.1 <| G.a 23 C X0 d19_22 rfl rfl <| G.a 24 C X0 d19_23 rfl rfl <| G.j 31 C X0 d19_24 (flt (own_pge (own_neg hV) tQ11 (by omega))).2.2.2 (by decide) (by decide) <| G.d 33 (z := 10) C X0 d19_31 rfl (by decide) <| G.a 34 C X0 d19_33 rfl rfl <| G.y 35 (z := (-10000000 : Int32)) C X0 d19_34 rfl (by decide) <| G.g 36 C X0 d19_35 rfl (l' := #[vI (-vv), vI 0, vI (-10000000), vI 6]) rfl <| G.t 39 C X0 d19_36 rfl rfl (z := (7 : Int32)) (by decide) (l' := #[vI (-vv), vI 0, vI (-10000000), vI 7]) rfl <| G.r 16 C X0 d19_39 (by decide) (by decide) <| G.a 17 C X0 d19_16 rfl rfl <| G.d 19 (z := 10) C X0 d19_17 rfl (by decide) <| G.k 22 C X0 d19_19 rfl (tlt (by decide : (7 : Int32) < 10)).2.1 <| G.a 23 C X0 d19_22 rfl rfl <| G.a 24 C X0 d19_23 rfl rfl ?_
 refine G.j 31 C X0 d19_24 (flt (own_pge (own_neg hV) tQ13 (by omega))).2.2.2 (by decide) (by decide) <| G.d 33 (z := 10) C X0 d19_31 rfl (by decide) <| G.a 34 C X0 d19_33 rfl rfl <| G.y 35 (z := (-100000000 : Int32)) C X0 d19_34 rfl (by decide) <| G.g 36 C X0 d19_35 rfl (l' := #[vI (-vv), vI 0, vI (-100000000), vI 7]) rfl <| G.t 39 C X0 d19_36 rfl rfl (z := (8 : Int32)) (by decide) (l' := #[vI (-vv), vI 0, vI (-100000000), vI 8]) rfl <| G.r 16 C X0 d19_39 (by decide) (by decide) <| G.a 17 C X0 d19_16 rfl rfl <| G.d 19 (z := 10) C X0 d19_17 rfl (by decide) <| G.k 22 C X0 d19_19 rfl (tlt (by decide : (8 : Int32) < 10)).2.1 <| G.a 23 C X0 d19_22 rfl rfl <| G.a 24 C X0 d19_23 rfl rfl <| G.j 31 C X0 d19_24 (flt (own_pge (own_neg hV) tQ15 (by omega))).2.2.2 (by decide) (by decide) <| G.d 33 (z := 10) C X0 d19_31 rfl (by decide) <| G.a 34 C X0 d19_33 rfl rfl ?_
 refine G.y 35 (z := (-1000000000 : Int32)) C X0 d19_34 rfl (by decide) <| G.g 36 C X0 d19_35 rfl (l' := #[vI (-vv), vI 0, vI (-1000000000), vI 8]) rfl <| G.t 39 C X0 d19_36 rfl rfl (z := (9 : Int32)) (by decide) (l' := #[vI (-vv), vI 0, vI (-1000000000), vI 9]) rfl <| G.r 16 C X0 d19_39 (by decide) (by decide) <| G.a 17 C X0 d19_16 rfl rfl <| G.d 19 (z := 10) C X0 d19_17 rfl (by decide) <| G.k 22 C X0 d19_19 rfl (tlt (by decide : (9 : Int32) < 10)).2.1 <| G.a 23 C X0 d19_22 rfl rfl <| G.a 24 C X0 d19_23 rfl rfl <| G.k 27 C X0 d19_24 rfl (tlt (own_plt (own_neg hV) tQ17 (by omega))).2.2.2 <| G.a 28 C X0 d19_27 rfl rfl <| G.a 29 C X0 d19_28 rfl rfl <| G.z 30 (z := (9 : Int32)) C X0 d19_29 rfl (by decide) ?_
 exact G.E C X0 d19_30 hret hlk (⟨rfl, rfl⟩) (by decide) (by decide)
theorem ctNd9 {l : Launch} {Z : State} {a0 : Array Value} (hw : HW a0 Z) {n0 : Nat} {h0 : Heap} (hn0 : n0 ≤ h0.size) (vv : Int32) (V0 : Nat) (hV : vv.toInt = (V0 : Int)) (hlo : 100000000 ≤ V0) (hhi : V0 < 1000000000) :
 Ctr l Z (⟨zq7, "nd", "(I)I"⟩ : MethodName) method_5_code 1 (some .int) (rQ 0 0 0 0) n0 #[(.int vv)] h0 (fun v h => v = some (.int 9) ∧ h = h0) := by
 refine Ctr.of (plainFor_of_name pn4) hn0 ?_
 intro p e s m below meth c T0 C hnm hret hlk X0
 rw [ef39 m vv]
 refine G.a 1 C X0 d39_0 rfl rfl <| G.d 3 (z := 10) C X0 d39_1 rfl (by decide) <| G.j 8 C X0 d39_3 (flt (own_vge hV tQ1 (by omega))).2.1 (by decide) (by decide) <| G.a 9 C X0 d39_8 rfl rfl <| G.d 11 (z := 100) C X0 d39_9 rfl (by decide) <| G.j 16 C X0 d39_11 (flt (own_vge hV tQ4 (by omega))).2.1 (by decide) (by decide) <| G.a 17 C X0 d39_16 rfl rfl <| G.G 20 (z := 1000) C X0 d39_17 rfl (by decide) <| G.j 25 C X0 d39_20 (flt (own_vge hV tQ6 (by omega))).2.1 (by decide) (by decide) <| G.a 26 C X0 d39_25 rfl rfl <| G.G 29 (z := 10000) C X0 d39_26 rfl (by decide) <| G.j 34 C X0 d39_29 (flt (own_vge hV tQ8 (by omega))).2.1 (by decide) (by decide) <| G.a 35 C X0 d39_34 rfl rfl <| G.F 37 C X0 (wd298 hw) d39_35 rfl <| G.j 42 C X0 d39_37 (flt (own_vge hV tQ10 (by omega))).2.1 (by decide) (by decide) ?_
 refine G.a 43 C X0 d39_42 rfl rfl <| G.F 45 C X0 (wd299 hw) d39_43 rfl <| G.j 51 C X0 d39_45 (flt (own_vge hV tQ12 (by omega))).2.1 (by decide) (by decide) <| G.a 52 C X0 d39_51 rfl rfl <| G.F 54 C X0 (wd300 hw) d39_52 rfl <| G.j 60 C X0 d39_54 (flt (own_vge hV tQ14 (by omega))).2.1 (by decide) (by decide) <| G.a 61 C X0 d39_60 rfl rfl <| G.F 63 C X0 (wd301 hw) d39_61 rfl <| G.j 69 C X0 d39_63 (flt (own_vge hV tQ16 (by omega))).2.1 (by decide) (by decide) <| G.a 70 C X0 d39_69 rfl rfl <| G.F 72 C X0 (wd302 hw) d39_70 rfl <| G.k 75 C X0 d39_72 rfl (tlt (own_vlt hV tQ18 (by omega))).2.1 <| G.d 77 (z := 9) C X0 d39_75 rfl (by decide) ?_
 exact G.E C X0 d39_77 hret hlk (⟨rfl, rfl⟩) (by decide) (by decide)
theorem ctGc9 {l : Launch} {Z : State} {a0 : Array Value} (hw : HW a0 Z) {n0 : Nat} {h0 : Heap} (hn0 : n0 ≤ h0.size) (tb : Addr) (kt : ClassId) (do_ dt_ : Addr) (ko kq : ClassId) (W : List Int32) (cp vv : Int32) (V0 : Nat) (Vt : Arv Z h0 tb kt .byte cp (tx W ++ [(.int 0), (.int 0), (.int 0), (.int 0), (.int 0), (.int 0), (.int 0), (.int 0), (.int 0)]) (.int 0)) (gt : n0 ≤ tb) (OD : Old Z n0 h0) (So : Sta Z Z.heap zq2 "DigitOnes" "[B" (.ref do_)) (Sq : Sta Z Z.heap zq2 "DigitTens" "[B" (.ref dt_)) (Vo : Arv Z Z.heap do_ ko .byte (100 : Int32) own_ones (.int 0)) (Vq : Arv Z Z.heap dt_ kq .byte (100 : Int32) own_tens (.int 0)) (hcp : cp = 16 ∨ cp = 34) (hb : W.length + 9 < 1000) (hfit : W.length + 9 ≤ cp.toNatClampNeg) (hV : vv.toInt = (V0 : Int)) (hlo : 100000000 ≤ V0) (hhi : V0 < 1000000000) :
 Ctr l Z (⟨zq2, "getChars", "(II[B)I"⟩ : MethodName) jdk_33_method_12_code 7 (some .int) (rQ 0 0 0 0) n0 #[(.int vv), (.int (own_n (W.length + 9))), (.ref tb)] h0 (fun v h => v = some (.int (own_n (W.length + 0))) ∧ Keep h0 h [tb] ∧ Arv Z h tb kt .byte cp (tx (W ++ own_dig V0 9)) (.int 0)) := by
 refine Ctr.of (plainFor_of_name pn3) hn0 ?_
 intro p e s m below meth c T0 C hnm hret hlk X0
 rw [ef21 m vv (own_n (W.length + 9)) tb]
 have hx0 := own_neg hV
 refine G.a 1 C X0 d21_0 rfl rfl <| G.w 3 C X0 d21_1 rfl (l' := #[vI vv, vI (own_n (W.length + 9)), vR tb, .unset, .unset, vI (own_n (W.length + 9)), .unset]) rfl <| G.a 4 C X0 d21_3 rfl rfl <| G.M 11 C X0 d21_4 (flt (own_nn hV)).2.1 (by decide) (by decide) <| G.i 12 (z := 0) C X0 d21_11 rfl (by decide) <| G.w 14 C X0 d21_12 rfl (l' := #[vI vv, vI (own_n (W.length + 9)), vR tb, .unset, .unset, vI (own_n (W.length + 9)), vI 0]) rfl <| G.f 16 C X0 d21_14 rfl rfl <| G.q 19 C X0 d21_16 rfl (teq (by decide : (0 : Int32) = 0)).2 <| G.a 20 C X0 d21_19 rfl rfl <| G.H 21 (z := (-vv)) C X0 d21_20 rfl rfl <| G.g 22 C X0 d21_21 rfl (l' := #[vI (-vv), vI (own_n (W.length + 9)), vR tb, .unset, .unset, vI (own_n (W.length + 9)), vI 0]) rfl <| G.a 23 C X0 d21_22 rfl rfl <| G.d 25 (z := -100) C X0 d21_23 rfl (by decide) <| G.k 28 C X0 d21_25 rfl (flt (own_pge hx0 tQ2 (by omega))).2.2.1 <| G.a 29 C X0 d21_28 rfl rfl ?_
 refine G.d 31 (z := 100) C X0 d21_29 rfl (by decide) ?_
 obtain ⟨q1_, h_q1_⟩ : ∃ z : Int32, (-vv) / (100 : Int32) = z := ⟨_, rfl⟩
 refine G.Y 32 (z := q1_) C X0 d21_31 rfl (by decide) h_q1_ ?_
 have hx1 := own_q hx0 h_q1_
 refine G.g 33 C X0 d21_32 rfl (l' := #[vI (-vv), vI (own_n (W.length + 9)), vR tb, vI q1_, .unset, vI (own_n (W.length + 9)), vI 0]) rfl <| G.a 34 C X0 d21_33 rfl rfl <| G.d 36 (z := 100) C X0 d21_34 rfl (by decide) <| G.y 37 (z := (q1_ * (100 : Int32))) C X0 d21_36 rfl rfl <| G.a 38 C X0 d21_37 rfl rfl ?_
 obtain ⟨r1_, h_r1_⟩ : ∃ z : Int32, (q1_ * (100 : Int32)) - (-vv) = z := ⟨_, rfl⟩
 refine G.u 39 (z := r1_) C X0 d21_38 rfl h_r1_ ?_
 have hr1 := own_r hx0 hx1 h_r1_
 refine G.w 41 C X0 d21_39 rfl (l' := #[vI (-vv), vI (own_n (W.length + 9)), vR tb, vI q1_, vI r1_, vI (own_n (W.length + 9)), vI 0]) rfl <| G.a 42 C X0 d21_41 rfl rfl <| G.g 43 C X0 d21_42 rfl (l' := #[vI q1_, vI (own_n (W.length + 9)), vR tb, vI q1_, vI r1_, vI (own_n (W.length + 9)), vI 0]) rfl <| G.b 44 C X0 d21_43 rfl rfl rfl <| G.t 47 C X0 d21_44 rfl rfl (z := (own_n (W.length + 8))) (own_dc (W.length + 8)) (l' := #[vI q1_, vI (own_n (W.length + 9)), vR tb, vI q1_, vI r1_, vI (own_n (W.length + 8)), vI 0]) rfl <| G.f 49 C X0 d21_47 rfl rfl <| G.x 52 C X0 (hQ (wd125 hw)) Via.refl (So.ext OD.2) d21_49 rfl fun T1 X1 => G.f 54 C X1 d21_52 rfl rfl <| G.B 55 C X1 (Vo.ext OD.2) d21_54 rfl (own_idx hr1 (by omega)) (v := (own_n (48 + V0 / 1 % 10))) (own_oat hr1 (by omega) (by omega) _) <| G.A 56 C X1 Vt gt (i := (W.length + 8)) d21_55 rfl (own_ix (own_cpp hcp) (by omega) (by omega)) (own_n_cl (by omega)) (by simp [tx_len]) (fun T2 h2 X2 W2 V2 => ?_)
 replace V2 : Arv Z h2 tb kt .byte cp (tx W ++ [(.int 0), (.int 0), (.int 0), (.int 0), (.int 0), (.int 0), (.int 0), (.int 0), (eQ V0 1)]) (.int 0) := by rw [own_nar_b, own_stk W [(.int 0), (.int 0), (.int 0), (.int 0), (.int 0), (.int 0), (.int 0), (.int 0), (.int 0)] 8 _] at V2; exact V2
 have K3 := (Keep.refl h0 [tb]).wr W2 (mQ 0 rfl)
 refine G.b 57 C X2 d21_56 rfl rfl rfl <| G.t 60 C X2 d21_57 rfl rfl (z := (own_n (W.length + 7))) (own_dc (W.length + 7)) (l' := #[vI q1_, vI (own_n (W.length + 9)), vR tb, vI q1_, vI r1_, vI (own_n (W.length + 7)), vI 0]) rfl <| G.f 62 C X2 d21_60 rfl rfl ?_
 have f4 := (OD.wr W2 gt)
 refine G.x 65 C X2 (hQ (wd280 hw)) Via.refl (Sq.ext f4.2) d21_62 rfl fun T5 X5 => G.f 67 C X5 d21_65 rfl rfl <| G.B 68 C X5 (Vq.ext f4.2) d21_67 rfl (own_idx hr1 (by omega)) (v := (own_n (48 + V0 / 10 % 10))) (own_tat hr1 (by omega) (by omega) _) <| G.A 69 C X5 V2 gt (i := (W.length + 7)) d21_68 rfl (own_ix (own_cpp hcp) (by omega) (by omega)) (own_n_cl (by omega)) (by simp [tx_len]) (fun T6 h6 X6 W6 V6 => ?_)
 replace V6 : Arv Z h6 tb kt .byte cp (tx W ++ [(.int 0), (.int 0), (.int 0), (.int 0), (.int 0), (.int 0), (.int 0), (eQ V0 10), (eQ V0 1)]) (.int 0) := by rw [own_nar_b, own_stk W [(.int 0), (.int 0), (.int 0), (.int 0), (.int 0), (.int 0), (.int 0), (.int 0), (eQ V0 1)] 7 _] at V6; exact V6
 have K7 := K3.wr W6 (mQ 0 rfl)
 refine G.r 22 C X6 d21_69 (by decide) (by decide) <| G.a 23 C X6 d21_22 rfl rfl <| G.d 25 (z := -100) C X6 d21_23 rfl (by decide) <| G.k 28 C X6 d21_25 rfl (flt (own_pge hx1 tQ2 (by omega))).2.2.1 <| G.a 29 C X6 d21_28 rfl rfl <| G.d 31 (z := 100) C X6 d21_29 rfl (by decide) ?_
 obtain ⟨q2_, h_q2_⟩ : ∃ z : Int32, q1_ / (100 : Int32) = z := ⟨_, rfl⟩
 refine G.Y 32 (z := q2_) C X6 d21_31 rfl (by decide) h_q2_ ?_
 have hx2 := own_q hx1 h_q2_
 refine G.g 33 C X6 d21_32 rfl (l' := #[vI q1_, vI (own_n (W.length + 9)), vR tb, vI q2_, vI r1_, vI (own_n (W.length + 7)), vI 0]) rfl <| G.a 34 C X6 d21_33 rfl rfl <| G.d 36 (z := 100) C X6 d21_34 rfl (by decide) <| G.y 37 (z := (q2_ * (100 : Int32))) C X6 d21_36 rfl rfl <| G.a 38 C X6 d21_37 rfl rfl ?_
 obtain ⟨r2_, h_r2_⟩ : ∃ z : Int32, (q2_ * (100 : Int32)) - q1_ = z := ⟨_, rfl⟩
 refine G.u 39 (z := r2_) C X6 d21_38 rfl h_r2_ ?_
 have hr2 := own_r hx1 hx2 h_r2_
 refine G.w 41 C X6 d21_39 rfl (l' := #[vI q1_, vI (own_n (W.length + 9)), vR tb, vI q2_, vI r2_, vI (own_n (W.length + 7)), vI 0]) rfl <| G.a 42 C X6 d21_41 rfl rfl <| G.g 43 C X6 d21_42 rfl (l' := #[vI q2_, vI (own_n (W.length + 9)), vR tb, vI q2_, vI r2_, vI (own_n (W.length + 7)), vI 0]) rfl <| G.b 44 C X6 d21_43 rfl rfl rfl <| G.t 47 C X6 d21_44 rfl rfl (z := (own_n (W.length + 6))) (own_dc (W.length + 6)) (l' := #[vI q2_, vI (own_n (W.length + 9)), vR tb, vI q2_, vI r2_, vI (own_n (W.length + 6)), vI 0]) rfl <| G.f 49 C X6 d21_47 rfl rfl ?_
 have f8 := (f4.wr W6 gt)
 refine G.x 52 C X6 (hQ (wd125 hw)) Via.refl (So.ext f8.2) d21_49 rfl fun T9 X9 => G.f 54 C X9 d21_52 rfl rfl <| G.B 55 C X9 (Vo.ext f8.2) d21_54 rfl (own_idx hr2 (by omega)) (v := (own_n (48 + V0 / 100 % 10))) (own_oat hr2 (by omega) (by omega) _) <| G.A 56 C X9 V6 gt (i := (W.length + 6)) d21_55 rfl (own_ix (own_cpp hcp) (by omega) (by omega)) (own_n_cl (by omega)) (by simp [tx_len]) (fun T10 h10 X10 W10 V10 => ?_)
 replace V10 : Arv Z h10 tb kt .byte cp (tx W ++ [(.int 0), (.int 0), (.int 0), (.int 0), (.int 0), (.int 0), (eQ V0 100), (eQ V0 10), (eQ V0 1)]) (.int 0) := by rw [own_nar_b, own_stk W [(.int 0), (.int 0), (.int 0), (.int 0), (.int 0), (.int 0), (.int 0), (eQ V0 10), (eQ V0 1)] 6 _] at V10; exact V10
 have K11 := K7.wr W10 (mQ 0 rfl)
 refine G.b 57 C X10 d21_56 rfl rfl rfl <| G.t 60 C X10 d21_57 rfl rfl (z := (own_n (W.length + 5))) (own_dc (W.length + 5)) (l' := #[vI q2_, vI (own_n (W.length + 9)), vR tb, vI q2_, vI r2_, vI (own_n (W.length + 5)), vI 0]) rfl <| G.f 62 C X10 d21_60 rfl rfl ?_
 have f12 := (f8.wr W10 gt)
 refine G.x 65 C X10 (hQ (wd280 hw)) Via.refl (Sq.ext f12.2) d21_62 rfl fun T13 X13 => G.f 67 C X13 d21_65 rfl rfl <| G.B 68 C X13 (Vq.ext f12.2) d21_67 rfl (own_idx hr2 (by omega)) (v := (own_n (48 + V0 / 1000 % 10))) (own_tat hr2 (by omega) (by omega) _) <| G.A 69 C X13 V10 gt (i := (W.length + 5)) d21_68 rfl (own_ix (own_cpp hcp) (by omega) (by omega)) (own_n_cl (by omega)) (by simp [tx_len]) (fun T14 h14 X14 W14 V14 => ?_)
 replace V14 : Arv Z h14 tb kt .byte cp (tx W ++ [(.int 0), (.int 0), (.int 0), (.int 0), (.int 0), (eQ V0 1000), (eQ V0 100), (eQ V0 10), (eQ V0 1)]) (.int 0) := by rw [own_nar_b, own_stk W [(.int 0), (.int 0), (.int 0), (.int 0), (.int 0), (.int 0), (eQ V0 100), (eQ V0 10), (eQ V0 1)] 5 _] at V14; exact V14
 have K15 := K11.wr W14 (mQ 0 rfl)
 refine G.r 22 C X14 d21_69 (by decide) (by decide) <| G.a 23 C X14 d21_22 rfl rfl <| G.d 25 (z := -100) C X14 d21_23 rfl (by decide) <| G.k 28 C X14 d21_25 rfl (flt (own_pge hx2 tQ2 (by omega))).2.2.1 <| G.a 29 C X14 d21_28 rfl rfl <| G.d 31 (z := 100) C X14 d21_29 rfl (by decide) ?_
 obtain ⟨q3_, h_q3_⟩ : ∃ z : Int32, q2_ / (100 : Int32) = z := ⟨_, rfl⟩
 refine G.Y 32 (z := q3_) C X14 d21_31 rfl (by decide) h_q3_ ?_
 have hx3 := own_q hx2 h_q3_
 refine G.g 33 C X14 d21_32 rfl (l' := #[vI q2_, vI (own_n (W.length + 9)), vR tb, vI q3_, vI r2_, vI (own_n (W.length + 5)), vI 0]) rfl <| G.a 34 C X14 d21_33 rfl rfl <| G.d 36 (z := 100) C X14 d21_34 rfl (by decide) <| G.y 37 (z := (q3_ * (100 : Int32))) C X14 d21_36 rfl rfl <| G.a 38 C X14 d21_37 rfl rfl ?_
 obtain ⟨r3_, h_r3_⟩ : ∃ z : Int32, (q3_ * (100 : Int32)) - q2_ = z := ⟨_, rfl⟩
 refine G.u 39 (z := r3_) C X14 d21_38 rfl h_r3_ ?_
 have hr3 := own_r hx2 hx3 h_r3_
 refine G.w 41 C X14 d21_39 rfl (l' := #[vI q2_, vI (own_n (W.length + 9)), vR tb, vI q3_, vI r3_, vI (own_n (W.length + 5)), vI 0]) rfl <| G.a 42 C X14 d21_41 rfl rfl <| G.g 43 C X14 d21_42 rfl (l' := #[vI q3_, vI (own_n (W.length + 9)), vR tb, vI q3_, vI r3_, vI (own_n (W.length + 5)), vI 0]) rfl <| G.b 44 C X14 d21_43 rfl rfl rfl <| G.t 47 C X14 d21_44 rfl rfl (z := (own_n (W.length + 4))) (own_dc (W.length + 4)) (l' := #[vI q3_, vI (own_n (W.length + 9)), vR tb, vI q3_, vI r3_, vI (own_n (W.length + 4)), vI 0]) rfl <| G.f 49 C X14 d21_47 rfl rfl ?_
 have f16 := (f12.wr W14 gt)
 refine G.x 52 C X14 (hQ (wd125 hw)) Via.refl (So.ext f16.2) d21_49 rfl fun T17 X17 => G.f 54 C X17 d21_52 rfl rfl <| G.B 55 C X17 (Vo.ext f16.2) d21_54 rfl (own_idx hr3 (by omega)) (v := (own_n (48 + V0 / 10000 % 10))) (own_oat hr3 (by omega) (by omega) _) <| G.A 56 C X17 V14 gt (i := (W.length + 4)) d21_55 rfl (own_ix (own_cpp hcp) (by omega) (by omega)) (own_n_cl (by omega)) (by simp [tx_len]) (fun T18 h18 X18 W18 V18 => ?_)
 replace V18 : Arv Z h18 tb kt .byte cp (tx W ++ [(.int 0), (.int 0), (.int 0), (.int 0), (eQ V0 10000), (eQ V0 1000), (eQ V0 100), (eQ V0 10), (eQ V0 1)]) (.int 0) := by rw [own_nar_b, own_stk W [(.int 0), (.int 0), (.int 0), (.int 0), (.int 0), (eQ V0 1000), (eQ V0 100), (eQ V0 10), (eQ V0 1)] 4 _] at V18; exact V18
 have K19 := K15.wr W18 (mQ 0 rfl)
 refine G.b 57 C X18 d21_56 rfl rfl rfl <| G.t 60 C X18 d21_57 rfl rfl (z := (own_n (W.length + 3))) (own_dc (W.length + 3)) (l' := #[vI q3_, vI (own_n (W.length + 9)), vR tb, vI q3_, vI r3_, vI (own_n (W.length + 3)), vI 0]) rfl <| G.f 62 C X18 d21_60 rfl rfl ?_
 have f20 := (f16.wr W18 gt)
 refine G.x 65 C X18 (hQ (wd280 hw)) Via.refl (Sq.ext f20.2) d21_62 rfl fun T21 X21 => G.f 67 C X21 d21_65 rfl rfl <| G.B 68 C X21 (Vq.ext f20.2) d21_67 rfl (own_idx hr3 (by omega)) (v := (own_n (48 + V0 / 100000 % 10))) (own_tat hr3 (by omega) (by omega) _) <| G.A 69 C X21 V18 gt (i := (W.length + 3)) d21_68 rfl (own_ix (own_cpp hcp) (by omega) (by omega)) (own_n_cl (by omega)) (by simp [tx_len]) (fun T22 h22 X22 W22 V22 => ?_)
 replace V22 : Arv Z h22 tb kt .byte cp (tx W ++ [(.int 0), (.int 0), (.int 0), (eQ V0 100000), (eQ V0 10000), (eQ V0 1000), (eQ V0 100), (eQ V0 10), (eQ V0 1)]) (.int 0) := by rw [own_nar_b, own_stk W [(.int 0), (.int 0), (.int 0), (.int 0), (eQ V0 10000), (eQ V0 1000), (eQ V0 100), (eQ V0 10), (eQ V0 1)] 3 _] at V22; exact V22
 have K23 := K19.wr W22 (mQ 0 rfl)
 refine G.r 22 C X22 d21_69 (by decide) (by decide) <| G.a 23 C X22 d21_22 rfl rfl <| G.d 25 (z := -100) C X22 d21_23 rfl (by decide) <| G.k 28 C X22 d21_25 rfl (flt (own_pge hx3 tQ2 (by omega))).2.2.1 <| G.a 29 C X22 d21_28 rfl rfl <| G.d 31 (z := 100) C X22 d21_29 rfl (by decide) ?_
 obtain ⟨q4_, h_q4_⟩ : ∃ z : Int32, q3_ / (100 : Int32) = z := ⟨_, rfl⟩
 refine G.Y 32 (z := q4_) C X22 d21_31 rfl (by decide) h_q4_ ?_
 have hx4 := own_q hx3 h_q4_
 refine G.g 33 C X22 d21_32 rfl (l' := #[vI q3_, vI (own_n (W.length + 9)), vR tb, vI q4_, vI r3_, vI (own_n (W.length + 3)), vI 0]) rfl <| G.a 34 C X22 d21_33 rfl rfl <| G.d 36 (z := 100) C X22 d21_34 rfl (by decide) <| G.y 37 (z := (q4_ * (100 : Int32))) C X22 d21_36 rfl rfl <| G.a 38 C X22 d21_37 rfl rfl ?_
 obtain ⟨r4_, h_r4_⟩ : ∃ z : Int32, (q4_ * (100 : Int32)) - q3_ = z := ⟨_, rfl⟩
 refine G.u 39 (z := r4_) C X22 d21_38 rfl h_r4_ ?_
 have hr4 := own_r hx3 hx4 h_r4_
 refine G.w 41 C X22 d21_39 rfl (l' := #[vI q3_, vI (own_n (W.length + 9)), vR tb, vI q4_, vI r4_, vI (own_n (W.length + 3)), vI 0]) rfl <| G.a 42 C X22 d21_41 rfl rfl <| G.g 43 C X22 d21_42 rfl (l' := #[vI q4_, vI (own_n (W.length + 9)), vR tb, vI q4_, vI r4_, vI (own_n (W.length + 3)), vI 0]) rfl <| G.b 44 C X22 d21_43 rfl rfl rfl <| G.t 47 C X22 d21_44 rfl rfl (z := (own_n (W.length + 2))) (own_dc (W.length + 2)) (l' := #[vI q4_, vI (own_n (W.length + 9)), vR tb, vI q4_, vI r4_, vI (own_n (W.length + 2)), vI 0]) rfl <| G.f 49 C X22 d21_47 rfl rfl ?_
 have f24 := (f20.wr W22 gt)
 refine G.x 52 C X22 (hQ (wd125 hw)) Via.refl (So.ext f24.2) d21_49 rfl fun T25 X25 => G.f 54 C X25 d21_52 rfl rfl <| G.B 55 C X25 (Vo.ext f24.2) d21_54 rfl (own_idx hr4 (by omega)) (v := (own_n (48 + V0 / 1000000 % 10))) (own_oat hr4 (by omega) (by omega) _) <| G.A 56 C X25 V22 gt (i := (W.length + 2)) d21_55 rfl (own_ix (own_cpp hcp) (by omega) (by omega)) (own_n_cl (by omega)) (by simp [tx_len]) (fun T26 h26 X26 W26 V26 => ?_)
 replace V26 : Arv Z h26 tb kt .byte cp (tx W ++ [(.int 0), (.int 0), (eQ V0 1000000), (eQ V0 100000), (eQ V0 10000), (eQ V0 1000), (eQ V0 100), (eQ V0 10), (eQ V0 1)]) (.int 0) := by rw [own_nar_b, own_stk W [(.int 0), (.int 0), (.int 0), (eQ V0 100000), (eQ V0 10000), (eQ V0 1000), (eQ V0 100), (eQ V0 10), (eQ V0 1)] 2 _] at V26; exact V26
 have K27 := K23.wr W26 (mQ 0 rfl)
 refine G.b 57 C X26 d21_56 rfl rfl rfl <| G.t 60 C X26 d21_57 rfl rfl (z := (own_n (W.length + 1))) (own_dc (W.length + 1)) (l' := #[vI q4_, vI (own_n (W.length + 9)), vR tb, vI q4_, vI r4_, vI (own_n (W.length + 1)), vI 0]) rfl <| G.f 62 C X26 d21_60 rfl rfl ?_
 have f28 := (f24.wr W26 gt)
 refine G.x 65 C X26 (hQ (wd280 hw)) Via.refl (Sq.ext f28.2) d21_62 rfl fun T29 X29 => G.f 67 C X29 d21_65 rfl rfl <| G.B 68 C X29 (Vq.ext f28.2) d21_67 rfl (own_idx hr4 (by omega)) (v := (own_n (48 + V0 / 10000000 % 10))) (own_tat hr4 (by omega) (by omega) _) <| G.A 69 C X29 V26 gt (i := (W.length + 1)) d21_68 rfl (own_ix (own_cpp hcp) (by omega) (by omega)) (own_n_cl (by omega)) (by simp [tx_len]) (fun T30 h30 X30 W30 V30 => ?_)
 replace V30 : Arv Z h30 tb kt .byte cp (tx W ++ [(.int 0), (eQ V0 10000000), (eQ V0 1000000), (eQ V0 100000), (eQ V0 10000), (eQ V0 1000), (eQ V0 100), (eQ V0 10), (eQ V0 1)]) (.int 0) := by rw [own_nar_b, own_stk W [(.int 0), (.int 0), (eQ V0 1000000), (eQ V0 100000), (eQ V0 10000), (eQ V0 1000), (eQ V0 100), (eQ V0 10), (eQ V0 1)] 1 _] at V30; exact V30
 have K31 := K27.wr W30 (mQ 0 rfl)
 refine G.r 22 C X30 d21_69 (by decide) (by decide) <| G.a 23 C X30 d21_22 rfl rfl <| G.d 25 (z := -100) C X30 d21_23 rfl (by decide) <| G.j 72 C X30 d21_25 (tlt (own_plt hx4 tQ2 (by omega))).2.2.1 (by decide) (by decide) <| G.b 73 C X30 d21_72 rfl rfl rfl <| G.t 76 C X30 d21_73 rfl rfl (z := (own_n (W.length + 0))) (own_dc (W.length + 0)) (l' := #[vI q4_, vI (own_n (W.length + 9)), vR tb, vI q4_, vI r4_, vI (own_n (W.length + 0)), vI 0]) rfl <| G.f 78 C X30 d21_76 rfl rfl ?_
 have f32 := (f28.wr W30 gt)
 refine G.x 81 C X30 (hQ (wd125 hw)) Via.refl (So.ext f32.2) d21_78 rfl fun T33 X33 => G.a 82 C X33 d21_81 rfl rfl ?_
 obtain ⟨rl, h_rl⟩ : ∃ z : Int32, -q4_ = z := ⟨_, rfl⟩
 refine G.H 83 (z := rl) C X33 d21_82 rfl h_rl ?_
 have hrl := own_negp hx4 (by omega) h_rl
 refine G.B 84 C X33 (Vo.ext f32.2) d21_83 rfl (own_idx hrl (by omega)) (v := (own_n (48 + V0 / 100000000 % 10))) (own_oat hrl (by omega) (by omega) _) <| G.A 85 C X33 V30 gt (i := (W.length + 0)) d21_84 rfl (own_ix (own_cpp hcp) (by omega) (by omega)) (own_n_cl (by omega)) (by simp [tx_len]) (fun T34 h34 X34 W34 V34 => ?_)
 replace V34 : Arv Z h34 tb kt .byte cp (tx W ++ [(eQ V0 100000000), (eQ V0 10000000), (eQ V0 1000000), (eQ V0 100000), (eQ V0 10000), (eQ V0 1000), (eQ V0 100), (eQ V0 10), (eQ V0 1)]) (.int 0) := by rw [own_nar_b, own_stk W [(.int 0), (eQ V0 10000000), (eQ V0 1000000), (eQ V0 100000), (eQ V0 10000), (eQ V0 1000), (eQ V0 100), (eQ V0 10), (eQ V0 1)] 0 _] at V34; exact V34
 have K35 := K31.wr W34 (mQ 0 rfl)
 refine G.a 86 C X34 d21_85 rfl rfl <| G.d 88 (z := -9) C X34 d21_86 rfl (by decide) <| G.j 104 C X34 d21_88 (flt (own_xge hx4 tQ3 (by omega))).2.1 (by decide) (by decide) <| G.f 106 C X34 d21_104 rfl rfl <| G.M 118 C X34 d21_106 (teq (by decide : (0 : Int32) = 0)).1 (by decide) (by decide) <| G.f 120 C X34 d21_118 rfl rfl ?_
 exact G.E C X34 d21_120 hret hlk (⟨rfl, K35, (by rw [tx_app]; exact V34)⟩) (by decide) (by decide)
theorem ctSs10 {l : Launch} {Z : State} {a0 : Array Value} (hw : HW a0 Z) {n0 : Nat} {h0 : Heap} (hn0 : n0 ≤ h0.size) (vv : Int32) (V0 : Nat) (hV : vv.toInt = (V0 : Int)) (hlo : 1000000000 ≤ V0) (hhi : V0 < 2147483648) :
 Ctr l Z (⟨zq2, "stringSize", "(I)I"⟩ : MethodName) jdk_33_method_13_code 4 (some .int) (rQ 0 0 0 0) n0 #[(.int vv)] h0 (fun v h => v = some (.int 10) ∧ h = h0) := by
 refine Ctr.of (plainFor_of_name pn3) hn0 ?_
 intro p e s m below meth c T0 C hnm hret hlk X0
 rw [ef19 m vv]
 refine G.i 1 (z := 1) C X0 d19_0 rfl (by decide) <| G.g 2 C X0 d19_1 rfl (l' := #[vI vv, vI 1, .unset, .unset]) rfl <| G.a 3 C X0 d19_2 rfl rfl <| G.q 6 C X0 d19_3 rfl (flt (own_nn hV)).1 <| G.i 7 (z := 0) C X0 d19_6 rfl (by decide) <| G.g 8 C X0 d19_7 rfl (l' := #[vI vv, vI 0, .unset, .unset]) rfl <| G.a 9 C X0 d19_8 rfl rfl <| G.H 10 (z := (-vv)) C X0 d19_9 rfl rfl <| G.g 11 C X0 d19_10 rfl (l' := #[vI (-vv), vI 0, .unset, .unset]) rfl <| G.d 13 (z := -10) C X0 d19_11 rfl (by decide) <| G.g 14 C X0 d19_13 rfl (l' := #[vI (-vv), vI 0, vI (-10), .unset]) rfl <| G.i 15 (z := 1) C X0 d19_14 rfl (by decide) <| G.g 16 C X0 d19_15 rfl (l' := #[vI (-vv), vI 0, vI (-10), vI 1]) rfl <| G.a 17 C X0 d19_16 rfl rfl <| G.d 19 (z := 10) C X0 d19_17 rfl (by decide) ?_
 refine G.k 22 C X0 d19_19 rfl (tlt (by decide : (1 : Int32) < 10)).2.1 <| G.a 23 C X0 d19_22 rfl rfl <| G.a 24 C X0 d19_23 rfl rfl <| G.j 31 C X0 d19_24 (flt (own_pge (own_neg hV) tQ0 (by omega))).2.2.2 (by decide) (by decide) <| G.d 33 (z := 10) C X0 d19_31 rfl (by decide) <| G.a 34 C X0 d19_33 rfl rfl <| G.y 35 (z := (-100 : Int32)) C X0 d19_34 rfl (by decide) <| G.g 36 C X0 d19_35 rfl (l' := #[vI (-vv), vI 0, vI (-100), vI 1]) rfl <| G.t 39 C X0 d19_36 rfl rfl (z := (2 : Int32)) (by decide) (l' := #[vI (-vv), vI 0, vI (-100), vI 2]) rfl <| G.r 16 C X0 d19_39 (by decide) (by decide) <| G.a 17 C X0 d19_16 rfl rfl <| G.d 19 (z := 10) C X0 d19_17 rfl (by decide) <| G.k 22 C X0 d19_19 rfl (tlt (by decide : (2 : Int32) < 10)).2.1 <| G.a 23 C X0 d19_22 rfl rfl <| G.a 24 C X0 d19_23 rfl rfl ?_
 refine G.j 31 C X0 d19_24 (flt (own_pge (own_neg hV) tQ2 (by omega))).2.2.2 (by decide) (by decide) <| G.d 33 (z := 10) C X0 d19_31 rfl (by decide) <| G.a 34 C X0 d19_33 rfl rfl <| G.y 35 (z := (-1000 : Int32)) C X0 d19_34 rfl (by decide) <| G.g 36 C X0 d19_35 rfl (l' := #[vI (-vv), vI 0, vI (-1000), vI 2]) rfl <| G.t 39 C X0 d19_36 rfl rfl (z := (3 : Int32)) (by decide) (l' := #[vI (-vv), vI 0, vI (-1000), vI 3]) rfl <| G.r 16 C X0 d19_39 (by decide) (by decide) <| G.a 17 C X0 d19_16 rfl rfl <| G.d 19 (z := 10) C X0 d19_17 rfl (by decide) <| G.k 22 C X0 d19_19 rfl (tlt (by decide : (3 : Int32) < 10)).2.1 <| G.a 23 C X0 d19_22 rfl rfl <| G.a 24 C X0 d19_23 rfl rfl <| G.j 31 C X0 d19_24 (flt (own_pge (own_neg hV) tQ5 (by omega))).2.2.2 (by decide) (by decide) <| G.d 33 (z := 10) C X0 d19_31 rfl (by decide) <| G.a 34 C X0 d19_33 rfl rfl ?_
 refine G.y 35 (z := (-10000 : Int32)) C X0 d19_34 rfl (by decide) <| G.g 36 C X0 d19_35 rfl (l' := #[vI (-vv), vI 0, vI (-10000), vI 3]) rfl <| G.t 39 C X0 d19_36 rfl rfl (z := (4 : Int32)) (by decide) (l' := #[vI (-vv), vI 0, vI (-10000), vI 4]) rfl <| G.r 16 C X0 d19_39 (by decide) (by decide) <| G.a 17 C X0 d19_16 rfl rfl <| G.d 19 (z := 10) C X0 d19_17 rfl (by decide) <| G.k 22 C X0 d19_19 rfl (tlt (by decide : (4 : Int32) < 10)).2.1 <| G.a 23 C X0 d19_22 rfl rfl <| G.a 24 C X0 d19_23 rfl rfl <| G.j 31 C X0 d19_24 (flt (own_pge (own_neg hV) tQ7 (by omega))).2.2.2 (by decide) (by decide) <| G.d 33 (z := 10) C X0 d19_31 rfl (by decide) <| G.a 34 C X0 d19_33 rfl rfl <| G.y 35 (z := (-100000 : Int32)) C X0 d19_34 rfl (by decide) <| G.g 36 C X0 d19_35 rfl (l' := #[vI (-vv), vI 0, vI (-100000), vI 4]) rfl <| G.t 39 C X0 d19_36 rfl rfl (z := (5 : Int32)) (by decide) (l' := #[vI (-vv), vI 0, vI (-100000), vI 5]) rfl ?_
 refine G.r 16 C X0 d19_39 (by decide) (by decide) <| G.a 17 C X0 d19_16 rfl rfl <| G.d 19 (z := 10) C X0 d19_17 rfl (by decide) <| G.k 22 C X0 d19_19 rfl (tlt (by decide : (5 : Int32) < 10)).2.1 <| G.a 23 C X0 d19_22 rfl rfl <| G.a 24 C X0 d19_23 rfl rfl <| G.j 31 C X0 d19_24 (flt (own_pge (own_neg hV) tQ9 (by omega))).2.2.2 (by decide) (by decide) <| G.d 33 (z := 10) C X0 d19_31 rfl (by decide) <| G.a 34 C X0 d19_33 rfl rfl <| G.y 35 (z := (-1000000 : Int32)) C X0 d19_34 rfl (by decide) <| G.g 36 C X0 d19_35 rfl (l' := #[vI (-vv), vI 0, vI (-1000000), vI 5]) rfl <| G.t 39 C X0 d19_36 rfl rfl (z := (6 : Int32)) (by decide) (l' := #[vI (-vv), vI 0, vI (-1000000), vI 6]) rfl <| G.r 16 C X0 d19_39 (by decide) (by decide) <| G.a 17 C X0 d19_16 rfl rfl <| G.d 19 (z := 10) C X0 d19_17 rfl (by decide) ?_
 refine G.k 22 C X0 d19_19 rfl (tlt (by decide : (6 : Int32) < 10)).2.1 <| G.a 23 C X0 d19_22 rfl rfl <| G.a 24 C X0 d19_23 rfl rfl <| G.j 31 C X0 d19_24 (flt (own_pge (own_neg hV) tQ11 (by omega))).2.2.2 (by decide) (by decide) <| G.d 33 (z := 10) C X0 d19_31 rfl (by decide) <| G.a 34 C X0 d19_33 rfl rfl <| G.y 35 (z := (-10000000 : Int32)) C X0 d19_34 rfl (by decide) <| G.g 36 C X0 d19_35 rfl (l' := #[vI (-vv), vI 0, vI (-10000000), vI 6]) rfl <| G.t 39 C X0 d19_36 rfl rfl (z := (7 : Int32)) (by decide) (l' := #[vI (-vv), vI 0, vI (-10000000), vI 7]) rfl <| G.r 16 C X0 d19_39 (by decide) (by decide) <| G.a 17 C X0 d19_16 rfl rfl <| G.d 19 (z := 10) C X0 d19_17 rfl (by decide) <| G.k 22 C X0 d19_19 rfl (tlt (by decide : (7 : Int32) < 10)).2.1 <| G.a 23 C X0 d19_22 rfl rfl <| G.a 24 C X0 d19_23 rfl rfl ?_
 refine G.j 31 C X0 d19_24 (flt (own_pge (own_neg hV) tQ13 (by omega))).2.2.2 (by decide) (by decide) <| G.d 33 (z := 10) C X0 d19_31 rfl (by decide) <| G.a 34 C X0 d19_33 rfl rfl <| G.y 35 (z := (-100000000 : Int32)) C X0 d19_34 rfl (by decide) <| G.g 36 C X0 d19_35 rfl (l' := #[vI (-vv), vI 0, vI (-100000000), vI 7]) rfl <| G.t 39 C X0 d19_36 rfl rfl (z := (8 : Int32)) (by decide) (l' := #[vI (-vv), vI 0, vI (-100000000), vI 8]) rfl <| G.r 16 C X0 d19_39 (by decide) (by decide) <| G.a 17 C X0 d19_16 rfl rfl <| G.d 19 (z := 10) C X0 d19_17 rfl (by decide) <| G.k 22 C X0 d19_19 rfl (tlt (by decide : (8 : Int32) < 10)).2.1 <| G.a 23 C X0 d19_22 rfl rfl <| G.a 24 C X0 d19_23 rfl rfl <| G.j 31 C X0 d19_24 (flt (own_pge (own_neg hV) tQ15 (by omega))).2.2.2 (by decide) (by decide) <| G.d 33 (z := 10) C X0 d19_31 rfl (by decide) <| G.a 34 C X0 d19_33 rfl rfl ?_
 refine G.y 35 (z := (-1000000000 : Int32)) C X0 d19_34 rfl (by decide) <| G.g 36 C X0 d19_35 rfl (l' := #[vI (-vv), vI 0, vI (-1000000000), vI 8]) rfl <| G.t 39 C X0 d19_36 rfl rfl (z := (9 : Int32)) (by decide) (l' := #[vI (-vv), vI 0, vI (-1000000000), vI 9]) rfl <| G.r 16 C X0 d19_39 (by decide) (by decide) <| G.a 17 C X0 d19_16 rfl rfl <| G.d 19 (z := 10) C X0 d19_17 rfl (by decide) <| G.k 22 C X0 d19_19 rfl (tlt (by decide : (9 : Int32) < 10)).2.1 <| G.a 23 C X0 d19_22 rfl rfl <| G.a 24 C X0 d19_23 rfl rfl <| G.j 31 C X0 d19_24 (flt (own_pge (own_neg hV) tQ17 (by omega))).2.2.2 (by decide) (by decide) <| G.d 33 (z := 10) C X0 d19_31 rfl (by decide) <| G.a 34 C X0 d19_33 rfl rfl <| G.y 35 (z := (-1410065408 : Int32)) C X0 d19_34 rfl (by decide) <| G.g 36 C X0 d19_35 rfl (l' := #[vI (-vv), vI 0, vI (-1410065408), vI 9]) rfl <| G.t 39 C X0 d19_36 rfl rfl (z := (10 : Int32)) (by decide) (l' := #[vI (-vv), vI 0, vI (-1410065408), vI 10]) rfl ?_
 refine G.r 16 C X0 d19_39 (by decide) (by decide) <| G.a 17 C X0 d19_16 rfl rfl <| G.d 19 (z := 10) C X0 d19_17 rfl (by decide) <| G.j 42 C X0 d19_19 (flt (by decide : ¬ (10 : Int32) < 10)).2.1 (by decide) (by decide) <| G.d 44 (z := 10) C X0 d19_42 rfl (by decide) <| G.a 45 C X0 d19_44 rfl rfl <| G.z 46 (z := (10 : Int32)) C X0 d19_45 rfl (by decide) ?_
 exact G.E C X0 d19_46 hret hlk (⟨rfl, rfl⟩) (by decide) (by decide)
theorem ctNd10 {l : Launch} {Z : State} {a0 : Array Value} (hw : HW a0 Z) {n0 : Nat} {h0 : Heap} (hn0 : n0 ≤ h0.size) (vv : Int32) (V0 : Nat) (hV : vv.toInt = (V0 : Int)) (hlo : 1000000000 ≤ V0) (hhi : V0 < 2147483648) :
 Ctr l Z (⟨zq7, "nd", "(I)I"⟩ : MethodName) method_5_code 1 (some .int) (rQ 0 0 0 0) n0 #[(.int vv)] h0 (fun v h => v = some (.int 10) ∧ h = h0) := by
 refine Ctr.of (plainFor_of_name pn4) hn0 ?_
 intro p e s m below meth c T0 C hnm hret hlk X0
 rw [ef39 m vv]
 refine G.a 1 C X0 d39_0 rfl rfl <| G.d 3 (z := 10) C X0 d39_1 rfl (by decide) <| G.j 8 C X0 d39_3 (flt (own_vge hV tQ1 (by omega))).2.1 (by decide) (by decide) <| G.a 9 C X0 d39_8 rfl rfl <| G.d 11 (z := 100) C X0 d39_9 rfl (by decide) <| G.j 16 C X0 d39_11 (flt (own_vge hV tQ4 (by omega))).2.1 (by decide) (by decide) <| G.a 17 C X0 d39_16 rfl rfl <| G.G 20 (z := 1000) C X0 d39_17 rfl (by decide) <| G.j 25 C X0 d39_20 (flt (own_vge hV tQ6 (by omega))).2.1 (by decide) (by decide) <| G.a 26 C X0 d39_25 rfl rfl <| G.G 29 (z := 10000) C X0 d39_26 rfl (by decide) <| G.j 34 C X0 d39_29 (flt (own_vge hV tQ8 (by omega))).2.1 (by decide) (by decide) <| G.a 35 C X0 d39_34 rfl rfl <| G.F 37 C X0 (wd298 hw) d39_35 rfl <| G.j 42 C X0 d39_37 (flt (own_vge hV tQ10 (by omega))).2.1 (by decide) (by decide) ?_
 refine G.a 43 C X0 d39_42 rfl rfl <| G.F 45 C X0 (wd299 hw) d39_43 rfl <| G.j 51 C X0 d39_45 (flt (own_vge hV tQ12 (by omega))).2.1 (by decide) (by decide) <| G.a 52 C X0 d39_51 rfl rfl <| G.F 54 C X0 (wd300 hw) d39_52 rfl <| G.j 60 C X0 d39_54 (flt (own_vge hV tQ14 (by omega))).2.1 (by decide) (by decide) <| G.a 61 C X0 d39_60 rfl rfl <| G.F 63 C X0 (wd301 hw) d39_61 rfl <| G.j 69 C X0 d39_63 (flt (own_vge hV tQ16 (by omega))).2.1 (by decide) (by decide) <| G.a 70 C X0 d39_69 rfl rfl <| G.F 72 C X0 (wd302 hw) d39_70 rfl <| G.j 78 C X0 d39_72 (flt (own_vge hV tQ18 (by omega))).2.1 (by decide) (by decide) <| G.d 80 (z := 10) C X0 d39_78 rfl (by decide) ?_
 exact G.E C X0 d39_80 hret hlk (⟨rfl, rfl⟩) (by decide) (by decide)
theorem ctGc10 {l : Launch} {Z : State} {a0 : Array Value} (hw : HW a0 Z) {n0 : Nat} {h0 : Heap} (hn0 : n0 ≤ h0.size) (tb : Addr) (kt : ClassId) (do_ dt_ : Addr) (ko kq : ClassId) (W : List Int32) (cp vv : Int32) (V0 : Nat) (Vt : Arv Z h0 tb kt .byte cp (tx W ++ [(.int 0), (.int 0), (.int 0), (.int 0), (.int 0), (.int 0), (.int 0), (.int 0), (.int 0), (.int 0)]) (.int 0)) (gt : n0 ≤ tb) (OD : Old Z n0 h0) (So : Sta Z Z.heap zq2 "DigitOnes" "[B" (.ref do_)) (Sq : Sta Z Z.heap zq2 "DigitTens" "[B" (.ref dt_)) (Vo : Arv Z Z.heap do_ ko .byte (100 : Int32) own_ones (.int 0)) (Vq : Arv Z Z.heap dt_ kq .byte (100 : Int32) own_tens (.int 0)) (hcp : cp = 16 ∨ cp = 34) (hb : W.length + 10 < 1000) (hfit : W.length + 10 ≤ cp.toNatClampNeg) (hV : vv.toInt = (V0 : Int)) (hlo : 1000000000 ≤ V0) (hhi : V0 < 2147483648) :
 Ctr l Z (⟨zq2, "getChars", "(II[B)I"⟩ : MethodName) jdk_33_method_12_code 7 (some .int) (rQ 0 0 0 0) n0 #[(.int vv), (.int (own_n (W.length + 10))), (.ref tb)] h0 (fun v h => v = some (.int (own_n (W.length + 0))) ∧ Keep h0 h [tb] ∧ Arv Z h tb kt .byte cp (tx (W ++ own_dig V0 10)) (.int 0)) := by
 refine Ctr.of (plainFor_of_name pn3) hn0 ?_
 intro p e s m below meth c T0 C hnm hret hlk X0
 rw [ef21 m vv (own_n (W.length + 10)) tb]
 have hx0 := own_neg hV
 refine G.a 1 C X0 d21_0 rfl rfl <| G.w 3 C X0 d21_1 rfl (l' := #[vI vv, vI (own_n (W.length + 10)), vR tb, .unset, .unset, vI (own_n (W.length + 10)), .unset]) rfl <| G.a 4 C X0 d21_3 rfl rfl <| G.M 11 C X0 d21_4 (flt (own_nn hV)).2.1 (by decide) (by decide) <| G.i 12 (z := 0) C X0 d21_11 rfl (by decide) <| G.w 14 C X0 d21_12 rfl (l' := #[vI vv, vI (own_n (W.length + 10)), vR tb, .unset, .unset, vI (own_n (W.length + 10)), vI 0]) rfl <| G.f 16 C X0 d21_14 rfl rfl <| G.q 19 C X0 d21_16 rfl (teq (by decide : (0 : Int32) = 0)).2 <| G.a 20 C X0 d21_19 rfl rfl <| G.H 21 (z := (-vv)) C X0 d21_20 rfl rfl <| G.g 22 C X0 d21_21 rfl (l' := #[vI (-vv), vI (own_n (W.length + 10)), vR tb, .unset, .unset, vI (own_n (W.length + 10)), vI 0]) rfl <| G.a 23 C X0 d21_22 rfl rfl <| G.d 25 (z := -100) C X0 d21_23 rfl (by decide) <| G.k 28 C X0 d21_25 rfl (flt (own_pge hx0 tQ2 (by omega))).2.2.1 <| G.a 29 C X0 d21_28 rfl rfl ?_
 refine G.d 31 (z := 100) C X0 d21_29 rfl (by decide) ?_
 obtain ⟨q1_, h_q1_⟩ : ∃ z : Int32, (-vv) / (100 : Int32) = z := ⟨_, rfl⟩
 refine G.Y 32 (z := q1_) C X0 d21_31 rfl (by decide) h_q1_ ?_
 have hx1 := own_q hx0 h_q1_
 refine G.g 33 C X0 d21_32 rfl (l' := #[vI (-vv), vI (own_n (W.length + 10)), vR tb, vI q1_, .unset, vI (own_n (W.length + 10)), vI 0]) rfl <| G.a 34 C X0 d21_33 rfl rfl <| G.d 36 (z := 100) C X0 d21_34 rfl (by decide) <| G.y 37 (z := (q1_ * (100 : Int32))) C X0 d21_36 rfl rfl <| G.a 38 C X0 d21_37 rfl rfl ?_
 obtain ⟨r1_, h_r1_⟩ : ∃ z : Int32, (q1_ * (100 : Int32)) - (-vv) = z := ⟨_, rfl⟩
 refine G.u 39 (z := r1_) C X0 d21_38 rfl h_r1_ ?_
 have hr1 := own_r hx0 hx1 h_r1_
 refine G.w 41 C X0 d21_39 rfl (l' := #[vI (-vv), vI (own_n (W.length + 10)), vR tb, vI q1_, vI r1_, vI (own_n (W.length + 10)), vI 0]) rfl <| G.a 42 C X0 d21_41 rfl rfl <| G.g 43 C X0 d21_42 rfl (l' := #[vI q1_, vI (own_n (W.length + 10)), vR tb, vI q1_, vI r1_, vI (own_n (W.length + 10)), vI 0]) rfl <| G.b 44 C X0 d21_43 rfl rfl rfl <| G.t 47 C X0 d21_44 rfl rfl (z := (own_n (W.length + 9))) (own_dc (W.length + 9)) (l' := #[vI q1_, vI (own_n (W.length + 10)), vR tb, vI q1_, vI r1_, vI (own_n (W.length + 9)), vI 0]) rfl <| G.f 49 C X0 d21_47 rfl rfl <| G.x 52 C X0 (hQ (wd125 hw)) Via.refl (So.ext OD.2) d21_49 rfl fun T1 X1 => G.f 54 C X1 d21_52 rfl rfl <| G.B 55 C X1 (Vo.ext OD.2) d21_54 rfl (own_idx hr1 (by omega)) (v := (own_n (48 + V0 / 1 % 10))) (own_oat hr1 (by omega) (by omega) _) <| G.A 56 C X1 Vt gt (i := (W.length + 9)) d21_55 rfl (own_ix (own_cpp hcp) (by omega) (by omega)) (own_n_cl (by omega)) (by simp [tx_len]) (fun T2 h2 X2 W2 V2 => ?_)
 replace V2 : Arv Z h2 tb kt .byte cp (tx W ++ [(.int 0), (.int 0), (.int 0), (.int 0), (.int 0), (.int 0), (.int 0), (.int 0), (.int 0), (eQ V0 1)]) (.int 0) := by rw [own_nar_b, own_stk W [(.int 0), (.int 0), (.int 0), (.int 0), (.int 0), (.int 0), (.int 0), (.int 0), (.int 0), (.int 0)] 9 _] at V2; exact V2
 have K3 := (Keep.refl h0 [tb]).wr W2 (mQ 0 rfl)
 refine G.b 57 C X2 d21_56 rfl rfl rfl <| G.t 60 C X2 d21_57 rfl rfl (z := (own_n (W.length + 8))) (own_dc (W.length + 8)) (l' := #[vI q1_, vI (own_n (W.length + 10)), vR tb, vI q1_, vI r1_, vI (own_n (W.length + 8)), vI 0]) rfl <| G.f 62 C X2 d21_60 rfl rfl ?_
 have f4 := (OD.wr W2 gt)
 refine G.x 65 C X2 (hQ (wd280 hw)) Via.refl (Sq.ext f4.2) d21_62 rfl fun T5 X5 => G.f 67 C X5 d21_65 rfl rfl <| G.B 68 C X5 (Vq.ext f4.2) d21_67 rfl (own_idx hr1 (by omega)) (v := (own_n (48 + V0 / 10 % 10))) (own_tat hr1 (by omega) (by omega) _) <| G.A 69 C X5 V2 gt (i := (W.length + 8)) d21_68 rfl (own_ix (own_cpp hcp) (by omega) (by omega)) (own_n_cl (by omega)) (by simp [tx_len]) (fun T6 h6 X6 W6 V6 => ?_)
 replace V6 : Arv Z h6 tb kt .byte cp (tx W ++ [(.int 0), (.int 0), (.int 0), (.int 0), (.int 0), (.int 0), (.int 0), (.int 0), (eQ V0 10), (eQ V0 1)]) (.int 0) := by rw [own_nar_b, own_stk W [(.int 0), (.int 0), (.int 0), (.int 0), (.int 0), (.int 0), (.int 0), (.int 0), (.int 0), (eQ V0 1)] 8 _] at V6; exact V6
 have K7 := K3.wr W6 (mQ 0 rfl)
 refine G.r 22 C X6 d21_69 (by decide) (by decide) <| G.a 23 C X6 d21_22 rfl rfl <| G.d 25 (z := -100) C X6 d21_23 rfl (by decide) <| G.k 28 C X6 d21_25 rfl (flt (own_pge hx1 tQ2 (by omega))).2.2.1 <| G.a 29 C X6 d21_28 rfl rfl <| G.d 31 (z := 100) C X6 d21_29 rfl (by decide) ?_
 obtain ⟨q2_, h_q2_⟩ : ∃ z : Int32, q1_ / (100 : Int32) = z := ⟨_, rfl⟩
 refine G.Y 32 (z := q2_) C X6 d21_31 rfl (by decide) h_q2_ ?_
 have hx2 := own_q hx1 h_q2_
 refine G.g 33 C X6 d21_32 rfl (l' := #[vI q1_, vI (own_n (W.length + 10)), vR tb, vI q2_, vI r1_, vI (own_n (W.length + 8)), vI 0]) rfl <| G.a 34 C X6 d21_33 rfl rfl <| G.d 36 (z := 100) C X6 d21_34 rfl (by decide) <| G.y 37 (z := (q2_ * (100 : Int32))) C X6 d21_36 rfl rfl <| G.a 38 C X6 d21_37 rfl rfl ?_
 obtain ⟨r2_, h_r2_⟩ : ∃ z : Int32, (q2_ * (100 : Int32)) - q1_ = z := ⟨_, rfl⟩
 refine G.u 39 (z := r2_) C X6 d21_38 rfl h_r2_ ?_
 have hr2 := own_r hx1 hx2 h_r2_
 refine G.w 41 C X6 d21_39 rfl (l' := #[vI q1_, vI (own_n (W.length + 10)), vR tb, vI q2_, vI r2_, vI (own_n (W.length + 8)), vI 0]) rfl <| G.a 42 C X6 d21_41 rfl rfl <| G.g 43 C X6 d21_42 rfl (l' := #[vI q2_, vI (own_n (W.length + 10)), vR tb, vI q2_, vI r2_, vI (own_n (W.length + 8)), vI 0]) rfl <| G.b 44 C X6 d21_43 rfl rfl rfl <| G.t 47 C X6 d21_44 rfl rfl (z := (own_n (W.length + 7))) (own_dc (W.length + 7)) (l' := #[vI q2_, vI (own_n (W.length + 10)), vR tb, vI q2_, vI r2_, vI (own_n (W.length + 7)), vI 0]) rfl <| G.f 49 C X6 d21_47 rfl rfl ?_
 have f8 := (f4.wr W6 gt)
 refine G.x 52 C X6 (hQ (wd125 hw)) Via.refl (So.ext f8.2) d21_49 rfl fun T9 X9 => G.f 54 C X9 d21_52 rfl rfl <| G.B 55 C X9 (Vo.ext f8.2) d21_54 rfl (own_idx hr2 (by omega)) (v := (own_n (48 + V0 / 100 % 10))) (own_oat hr2 (by omega) (by omega) _) <| G.A 56 C X9 V6 gt (i := (W.length + 7)) d21_55 rfl (own_ix (own_cpp hcp) (by omega) (by omega)) (own_n_cl (by omega)) (by simp [tx_len]) (fun T10 h10 X10 W10 V10 => ?_)
 replace V10 : Arv Z h10 tb kt .byte cp (tx W ++ [(.int 0), (.int 0), (.int 0), (.int 0), (.int 0), (.int 0), (.int 0), (eQ V0 100), (eQ V0 10), (eQ V0 1)]) (.int 0) := by rw [own_nar_b, own_stk W [(.int 0), (.int 0), (.int 0), (.int 0), (.int 0), (.int 0), (.int 0), (.int 0), (eQ V0 10), (eQ V0 1)] 7 _] at V10; exact V10
 have K11 := K7.wr W10 (mQ 0 rfl)
 refine G.b 57 C X10 d21_56 rfl rfl rfl <| G.t 60 C X10 d21_57 rfl rfl (z := (own_n (W.length + 6))) (own_dc (W.length + 6)) (l' := #[vI q2_, vI (own_n (W.length + 10)), vR tb, vI q2_, vI r2_, vI (own_n (W.length + 6)), vI 0]) rfl <| G.f 62 C X10 d21_60 rfl rfl ?_
 have f12 := (f8.wr W10 gt)
 refine G.x 65 C X10 (hQ (wd280 hw)) Via.refl (Sq.ext f12.2) d21_62 rfl fun T13 X13 => G.f 67 C X13 d21_65 rfl rfl <| G.B 68 C X13 (Vq.ext f12.2) d21_67 rfl (own_idx hr2 (by omega)) (v := (own_n (48 + V0 / 1000 % 10))) (own_tat hr2 (by omega) (by omega) _) <| G.A 69 C X13 V10 gt (i := (W.length + 6)) d21_68 rfl (own_ix (own_cpp hcp) (by omega) (by omega)) (own_n_cl (by omega)) (by simp [tx_len]) (fun T14 h14 X14 W14 V14 => ?_)
 replace V14 : Arv Z h14 tb kt .byte cp (tx W ++ [(.int 0), (.int 0), (.int 0), (.int 0), (.int 0), (.int 0), (eQ V0 1000), (eQ V0 100), (eQ V0 10), (eQ V0 1)]) (.int 0) := by rw [own_nar_b, own_stk W [(.int 0), (.int 0), (.int 0), (.int 0), (.int 0), (.int 0), (.int 0), (eQ V0 100), (eQ V0 10), (eQ V0 1)] 6 _] at V14; exact V14
 have K15 := K11.wr W14 (mQ 0 rfl)
 refine G.r 22 C X14 d21_69 (by decide) (by decide) <| G.a 23 C X14 d21_22 rfl rfl <| G.d 25 (z := -100) C X14 d21_23 rfl (by decide) <| G.k 28 C X14 d21_25 rfl (flt (own_pge hx2 tQ2 (by omega))).2.2.1 <| G.a 29 C X14 d21_28 rfl rfl <| G.d 31 (z := 100) C X14 d21_29 rfl (by decide) ?_
 obtain ⟨q3_, h_q3_⟩ : ∃ z : Int32, q2_ / (100 : Int32) = z := ⟨_, rfl⟩
 refine G.Y 32 (z := q3_) C X14 d21_31 rfl (by decide) h_q3_ ?_
 have hx3 := own_q hx2 h_q3_
 refine G.g 33 C X14 d21_32 rfl (l' := #[vI q2_, vI (own_n (W.length + 10)), vR tb, vI q3_, vI r2_, vI (own_n (W.length + 6)), vI 0]) rfl <| G.a 34 C X14 d21_33 rfl rfl <| G.d 36 (z := 100) C X14 d21_34 rfl (by decide) <| G.y 37 (z := (q3_ * (100 : Int32))) C X14 d21_36 rfl rfl <| G.a 38 C X14 d21_37 rfl rfl ?_
 obtain ⟨r3_, h_r3_⟩ : ∃ z : Int32, (q3_ * (100 : Int32)) - q2_ = z := ⟨_, rfl⟩
 refine G.u 39 (z := r3_) C X14 d21_38 rfl h_r3_ ?_
 have hr3 := own_r hx2 hx3 h_r3_
 refine G.w 41 C X14 d21_39 rfl (l' := #[vI q2_, vI (own_n (W.length + 10)), vR tb, vI q3_, vI r3_, vI (own_n (W.length + 6)), vI 0]) rfl <| G.a 42 C X14 d21_41 rfl rfl <| G.g 43 C X14 d21_42 rfl (l' := #[vI q3_, vI (own_n (W.length + 10)), vR tb, vI q3_, vI r3_, vI (own_n (W.length + 6)), vI 0]) rfl <| G.b 44 C X14 d21_43 rfl rfl rfl <| G.t 47 C X14 d21_44 rfl rfl (z := (own_n (W.length + 5))) (own_dc (W.length + 5)) (l' := #[vI q3_, vI (own_n (W.length + 10)), vR tb, vI q3_, vI r3_, vI (own_n (W.length + 5)), vI 0]) rfl <| G.f 49 C X14 d21_47 rfl rfl ?_
 have f16 := (f12.wr W14 gt)
 refine G.x 52 C X14 (hQ (wd125 hw)) Via.refl (So.ext f16.2) d21_49 rfl fun T17 X17 => G.f 54 C X17 d21_52 rfl rfl <| G.B 55 C X17 (Vo.ext f16.2) d21_54 rfl (own_idx hr3 (by omega)) (v := (own_n (48 + V0 / 10000 % 10))) (own_oat hr3 (by omega) (by omega) _) <| G.A 56 C X17 V14 gt (i := (W.length + 5)) d21_55 rfl (own_ix (own_cpp hcp) (by omega) (by omega)) (own_n_cl (by omega)) (by simp [tx_len]) (fun T18 h18 X18 W18 V18 => ?_)
 replace V18 : Arv Z h18 tb kt .byte cp (tx W ++ [(.int 0), (.int 0), (.int 0), (.int 0), (.int 0), (eQ V0 10000), (eQ V0 1000), (eQ V0 100), (eQ V0 10), (eQ V0 1)]) (.int 0) := by rw [own_nar_b, own_stk W [(.int 0), (.int 0), (.int 0), (.int 0), (.int 0), (.int 0), (eQ V0 1000), (eQ V0 100), (eQ V0 10), (eQ V0 1)] 5 _] at V18; exact V18
 have K19 := K15.wr W18 (mQ 0 rfl)
 refine G.b 57 C X18 d21_56 rfl rfl rfl <| G.t 60 C X18 d21_57 rfl rfl (z := (own_n (W.length + 4))) (own_dc (W.length + 4)) (l' := #[vI q3_, vI (own_n (W.length + 10)), vR tb, vI q3_, vI r3_, vI (own_n (W.length + 4)), vI 0]) rfl <| G.f 62 C X18 d21_60 rfl rfl ?_
 have f20 := (f16.wr W18 gt)
 refine G.x 65 C X18 (hQ (wd280 hw)) Via.refl (Sq.ext f20.2) d21_62 rfl fun T21 X21 => G.f 67 C X21 d21_65 rfl rfl <| G.B 68 C X21 (Vq.ext f20.2) d21_67 rfl (own_idx hr3 (by omega)) (v := (own_n (48 + V0 / 100000 % 10))) (own_tat hr3 (by omega) (by omega) _) <| G.A 69 C X21 V18 gt (i := (W.length + 4)) d21_68 rfl (own_ix (own_cpp hcp) (by omega) (by omega)) (own_n_cl (by omega)) (by simp [tx_len]) (fun T22 h22 X22 W22 V22 => ?_)
 replace V22 : Arv Z h22 tb kt .byte cp (tx W ++ [(.int 0), (.int 0), (.int 0), (.int 0), (eQ V0 100000), (eQ V0 10000), (eQ V0 1000), (eQ V0 100), (eQ V0 10), (eQ V0 1)]) (.int 0) := by rw [own_nar_b, own_stk W [(.int 0), (.int 0), (.int 0), (.int 0), (.int 0), (eQ V0 10000), (eQ V0 1000), (eQ V0 100), (eQ V0 10), (eQ V0 1)] 4 _] at V22; exact V22
 have K23 := K19.wr W22 (mQ 0 rfl)
 refine G.r 22 C X22 d21_69 (by decide) (by decide) <| G.a 23 C X22 d21_22 rfl rfl <| G.d 25 (z := -100) C X22 d21_23 rfl (by decide) <| G.k 28 C X22 d21_25 rfl (flt (own_pge hx3 tQ2 (by omega))).2.2.1 <| G.a 29 C X22 d21_28 rfl rfl <| G.d 31 (z := 100) C X22 d21_29 rfl (by decide) ?_
 obtain ⟨q4_, h_q4_⟩ : ∃ z : Int32, q3_ / (100 : Int32) = z := ⟨_, rfl⟩
 refine G.Y 32 (z := q4_) C X22 d21_31 rfl (by decide) h_q4_ ?_
 have hx4 := own_q hx3 h_q4_
 refine G.g 33 C X22 d21_32 rfl (l' := #[vI q3_, vI (own_n (W.length + 10)), vR tb, vI q4_, vI r3_, vI (own_n (W.length + 4)), vI 0]) rfl <| G.a 34 C X22 d21_33 rfl rfl <| G.d 36 (z := 100) C X22 d21_34 rfl (by decide) <| G.y 37 (z := (q4_ * (100 : Int32))) C X22 d21_36 rfl rfl <| G.a 38 C X22 d21_37 rfl rfl ?_
 obtain ⟨r4_, h_r4_⟩ : ∃ z : Int32, (q4_ * (100 : Int32)) - q3_ = z := ⟨_, rfl⟩
 refine G.u 39 (z := r4_) C X22 d21_38 rfl h_r4_ ?_
 have hr4 := own_r hx3 hx4 h_r4_
 refine G.w 41 C X22 d21_39 rfl (l' := #[vI q3_, vI (own_n (W.length + 10)), vR tb, vI q4_, vI r4_, vI (own_n (W.length + 4)), vI 0]) rfl <| G.a 42 C X22 d21_41 rfl rfl <| G.g 43 C X22 d21_42 rfl (l' := #[vI q4_, vI (own_n (W.length + 10)), vR tb, vI q4_, vI r4_, vI (own_n (W.length + 4)), vI 0]) rfl <| G.b 44 C X22 d21_43 rfl rfl rfl <| G.t 47 C X22 d21_44 rfl rfl (z := (own_n (W.length + 3))) (own_dc (W.length + 3)) (l' := #[vI q4_, vI (own_n (W.length + 10)), vR tb, vI q4_, vI r4_, vI (own_n (W.length + 3)), vI 0]) rfl <| G.f 49 C X22 d21_47 rfl rfl ?_
 have f24 := (f20.wr W22 gt)
 refine G.x 52 C X22 (hQ (wd125 hw)) Via.refl (So.ext f24.2) d21_49 rfl fun T25 X25 => G.f 54 C X25 d21_52 rfl rfl <| G.B 55 C X25 (Vo.ext f24.2) d21_54 rfl (own_idx hr4 (by omega)) (v := (own_n (48 + V0 / 1000000 % 10))) (own_oat hr4 (by omega) (by omega) _) <| G.A 56 C X25 V22 gt (i := (W.length + 3)) d21_55 rfl (own_ix (own_cpp hcp) (by omega) (by omega)) (own_n_cl (by omega)) (by simp [tx_len]) (fun T26 h26 X26 W26 V26 => ?_)
 replace V26 : Arv Z h26 tb kt .byte cp (tx W ++ [(.int 0), (.int 0), (.int 0), (eQ V0 1000000), (eQ V0 100000), (eQ V0 10000), (eQ V0 1000), (eQ V0 100), (eQ V0 10), (eQ V0 1)]) (.int 0) := by rw [own_nar_b, own_stk W [(.int 0), (.int 0), (.int 0), (.int 0), (eQ V0 100000), (eQ V0 10000), (eQ V0 1000), (eQ V0 100), (eQ V0 10), (eQ V0 1)] 3 _] at V26; exact V26
 have K27 := K23.wr W26 (mQ 0 rfl)
 refine G.b 57 C X26 d21_56 rfl rfl rfl <| G.t 60 C X26 d21_57 rfl rfl (z := (own_n (W.length + 2))) (own_dc (W.length + 2)) (l' := #[vI q4_, vI (own_n (W.length + 10)), vR tb, vI q4_, vI r4_, vI (own_n (W.length + 2)), vI 0]) rfl <| G.f 62 C X26 d21_60 rfl rfl ?_
 have f28 := (f24.wr W26 gt)
 refine G.x 65 C X26 (hQ (wd280 hw)) Via.refl (Sq.ext f28.2) d21_62 rfl fun T29 X29 => G.f 67 C X29 d21_65 rfl rfl <| G.B 68 C X29 (Vq.ext f28.2) d21_67 rfl (own_idx hr4 (by omega)) (v := (own_n (48 + V0 / 10000000 % 10))) (own_tat hr4 (by omega) (by omega) _) <| G.A 69 C X29 V26 gt (i := (W.length + 2)) d21_68 rfl (own_ix (own_cpp hcp) (by omega) (by omega)) (own_n_cl (by omega)) (by simp [tx_len]) (fun T30 h30 X30 W30 V30 => ?_)
 replace V30 : Arv Z h30 tb kt .byte cp (tx W ++ [(.int 0), (.int 0), (eQ V0 10000000), (eQ V0 1000000), (eQ V0 100000), (eQ V0 10000), (eQ V0 1000), (eQ V0 100), (eQ V0 10), (eQ V0 1)]) (.int 0) := by rw [own_nar_b, own_stk W [(.int 0), (.int 0), (.int 0), (eQ V0 1000000), (eQ V0 100000), (eQ V0 10000), (eQ V0 1000), (eQ V0 100), (eQ V0 10), (eQ V0 1)] 2 _] at V30; exact V30
 have K31 := K27.wr W30 (mQ 0 rfl)
 refine G.r 22 C X30 d21_69 (by decide) (by decide) <| G.a 23 C X30 d21_22 rfl rfl <| G.d 25 (z := -100) C X30 d21_23 rfl (by decide) <| G.j 72 C X30 d21_25 (tlt (own_plt hx4 tQ2 (by omega))).2.2.1 (by decide) (by decide) <| G.b 73 C X30 d21_72 rfl rfl rfl <| G.t 76 C X30 d21_73 rfl rfl (z := (own_n (W.length + 1))) (own_dc (W.length + 1)) (l' := #[vI q4_, vI (own_n (W.length + 10)), vR tb, vI q4_, vI r4_, vI (own_n (W.length + 1)), vI 0]) rfl <| G.f 78 C X30 d21_76 rfl rfl ?_
 have f32 := (f28.wr W30 gt)
 refine G.x 81 C X30 (hQ (wd125 hw)) Via.refl (So.ext f32.2) d21_78 rfl fun T33 X33 => G.a 82 C X33 d21_81 rfl rfl ?_
 obtain ⟨rl, h_rl⟩ : ∃ z : Int32, -q4_ = z := ⟨_, rfl⟩
 refine G.H 83 (z := rl) C X33 d21_82 rfl h_rl ?_
 have hrl := own_negp hx4 (by omega) h_rl
 refine G.B 84 C X33 (Vo.ext f32.2) d21_83 rfl (own_idx hrl (by omega)) (v := (own_n (48 + V0 / 100000000 % 10))) (own_oat hrl (by omega) (by omega) _) <| G.A 85 C X33 V30 gt (i := (W.length + 1)) d21_84 rfl (own_ix (own_cpp hcp) (by omega) (by omega)) (own_n_cl (by omega)) (by simp [tx_len]) (fun T34 h34 X34 W34 V34 => ?_)
 replace V34 : Arv Z h34 tb kt .byte cp (tx W ++ [(.int 0), (eQ V0 100000000), (eQ V0 10000000), (eQ V0 1000000), (eQ V0 100000), (eQ V0 10000), (eQ V0 1000), (eQ V0 100), (eQ V0 10), (eQ V0 1)]) (.int 0) := by rw [own_nar_b, own_stk W [(.int 0), (.int 0), (eQ V0 10000000), (eQ V0 1000000), (eQ V0 100000), (eQ V0 10000), (eQ V0 1000), (eQ V0 100), (eQ V0 10), (eQ V0 1)] 1 _] at V34; exact V34
 have K35 := K31.wr W34 (mQ 0 rfl)
 refine G.a 86 C X34 d21_85 rfl rfl <| G.d 88 (z := -9) C X34 d21_86 rfl (by decide) <| G.k 91 C X34 d21_88 rfl (tlt (own_xlt hx4 tQ3 (by omega))).2.1 <| G.b 92 C X34 d21_91 rfl rfl rfl <| G.t 95 C X34 d21_92 rfl rfl (z := (own_n (W.length + 0))) (own_dc (W.length + 0)) (l' := #[vI q4_, vI (own_n (W.length + 10)), vR tb, vI q4_, vI r4_, vI (own_n (W.length + 0)), vI 0]) rfl <| G.f 97 C X34 d21_95 rfl rfl ?_
 have f36 := (f32.wr W34 gt)
 refine G.x 100 C X34 (hQ (wd280 hw)) Via.refl (Sq.ext f36.2) d21_97 rfl fun T37 X37 => G.a 101 C X37 d21_100 rfl rfl <| G.H 102 (z := rl) C X37 d21_101 rfl h_rl <| G.B 103 C X37 (Vq.ext f36.2) d21_102 rfl (own_idx hrl (by omega)) (v := (own_n (48 + V0 / 1000000000 % 10))) (own_tat hrl (by omega) (by omega) _) <| G.A 104 C X37 V34 gt (i := (W.length + 0)) d21_103 rfl (own_ix (own_cpp hcp) (by omega) (by omega)) (own_n_cl (by omega)) (by simp [tx_len]) (fun T38 h38 X38 W38 V38 => ?_)
 replace V38 : Arv Z h38 tb kt .byte cp (tx W ++ [(eQ V0 1000000000), (eQ V0 100000000), (eQ V0 10000000), (eQ V0 1000000), (eQ V0 100000), (eQ V0 10000), (eQ V0 1000), (eQ V0 100), (eQ V0 10), (eQ V0 1)]) (.int 0) := by rw [own_nar_b, own_stk W [(.int 0), (eQ V0 100000000), (eQ V0 10000000), (eQ V0 1000000), (eQ V0 100000), (eQ V0 10000), (eQ V0 1000), (eQ V0 100), (eQ V0 10), (eQ V0 1)] 0 _] at V38; exact V38
 have K39 := K35.wr W38 (mQ 0 rfl)
 refine G.f 106 C X38 d21_104 rfl rfl <| G.M 118 C X38 d21_106 (teq (by decide : (0 : Int32) = 0)).1 (by decide) (by decide) <| G.f 120 C X38 d21_118 rfl rfl ?_
 exact G.E C X38 d21_120 hret hlk (⟨rfl, K39, (by rw [tx_app]; exact V38)⟩) (by decide) (by decide)
theorem ef18 (m : MethodId) (x0 : Addr) (x1 : Int32) : entryFrame m #[(.ref x0), (.int x1)] 4 = mkF m 0 #[.val (.ref x0), .val (.int x1), .unset, .unset] [] := by first | (simp [entryFrame, mkF, argsToLocals, Value.category]; done) | rfl
theorem ctAiF1 {l : Launch} {Z : State} {a0 : Array Value} (hw : HW a0 Z) {n0 : Nat} {h0 : Heap} (hn0 : n0 ≤ h0.size) (sb tb : Addr) (kt : ClassId) (W : List Int32) (cp : Int32) (do_ dt_ : Addr) (ko kq : ClassId) (vv cz : Int32) (V0 : Nat) (Es : Exa Z h0 sb zq3) (Fv : Fld Z h0 sb zq1 "value" "[B" (.ref tb)) (Fc : Fld Z h0 sb zq1 "coder" "B" (.int 0)) (Fn : Fld Z h0 sb zq1 "count" "I" (.int (own_n (W).length))) (Et : Exa Z h0 tb "[B") (Vt : Arv Z h0 tb kt .byte cp (tx W) (.int 0)) (gs : n0 ≤ sb) (gt : n0 ≤ tb) (nst : sb ≠ tb) (So : Sta Z Z.heap zq2 "DigitOnes" "[B" (.ref do_)) (Sq : Sta Z Z.heap zq2 "DigitTens" "[B" (.ref dt_)) (Vo : Arv Z Z.heap do_ ko .byte (100 : Int32) own_ones (.int 0)) (Vq : Arv Z Z.heap dt_ kq .byte (100 : Int32) own_tens (.int 0)) (hb : W.length + 1 < 1000) (hV : vv.toInt = (V0 : Int)) (hhi : V0 < 10) (hcp : cp = 16 ∨ cp = 34) (hfit : W.length + 1 ≤ cp.toNatClampNeg) (hj : ¬ (0 : Int32) < (own_n (W.length + 1)) - cp) (OD : Old Z n0 h0) (S2 : Sta Z Z.heap zq0 zq5 "Z" (.int cz)) (hcz : ¬ cz = 0) :
 Ctr l Z (⟨zq1, "append", zq8⟩ : MethodName) jdk_68_method_32_code 4 (some (.object zq1)) (rQ 4 1 34 100) n0 #[(.ref sb), (.int vv)] h0 (fun v h => ∃ (t : Addr) (k : ClassId) (cq : Int32), v = some (.ref sb) ∧ Keep h0 h [sb, tb] ∧ (t = tb ∨ h0.size ≤ t) ∧ (cq = 16 ∨ cq = 34) ∧ (W ++ own_dig V0 1).length ≤ cq.toNatClampNeg ∧ sb ≠ t ∧ Exa Z h sb zq3 ∧ Fld Z h sb zq1 "value" "[B" (.ref t) ∧ Fld Z h sb zq1 "coder" "B" (.int 0) ∧ Fld Z h sb zq1 "count" "I" (.int (own_n ((W ++ own_dig V0 1)).length)) ∧ Exa Z h t "[B" ∧ Arv Z h t k .byte cq (tx (W ++ own_dig V0 1)) (.int 0)) := by
 refine Ctr.of (by decide +kernel) hn0 ?_
 intro p e s m below meth c T0 C hnm hret hlk X0
 rw [ef18 m sb vv]
 refine G.b 1 C X0 d18_0 rfl rfl rfl <| G.v 4 C X0 (hQ (wd76 hw)) Via.refl Fn d18_1 rfl fun T1 X1 => G.g 5 C X1 d18_4 rfl (l' := #[vR sb, vI vv, vI (own_n (W).length), .unset]) rfl <| G.a 6 C X1 d18_5 rfl rfl <| G.a 7 C X1 d18_6 rfl rfl <| G.o 10 (cells' := 0) (slots' := 0) (argsL := [(.int vv)]) (St := [(.int (own_n (W).length))]) C X1 (wd113 hw) (wd114 hw) (by decide) (wd116 hw) (wd115 hw) (ctSs1 hw X1.2.1 vv V0 hV hhi) (lenOf pd8 rfl) rfl d18_7 rfl rfl (by decide) (nQ rfl) rfl rfl (by decide) (by decide) (fun v2 T2 h2 Q2 X2 z2 => ?_)
 obtain ⟨hv2, hh2⟩ := Q2
 subst hv2; rw [hh2] at X2
 refine G.z 11 (z := (own_n (W.length + 1))) C X2 d18_10 rfl (own_nk W.length 1 _ rfl) <| G.g 12 C X2 d18_11 rfl (l' := #[vR sb, vI vv, vI (own_n (W).length), vI (own_n (W.length + 1))]) rfl <| G.b 13 C X2 d18_12 rfl rfl rfl <| G.a 14 C X2 d18_13 rfl rfl <| G.N 17 (cells' := 0) (slots' := 0) (argsL := [(.int (own_n (W.length + 1)))]) (St := []) C X2 (wd78 hw) (wd79 hw) (wd80 hw) (wd81 hw) rfl (by decide) Es (wd82 hw) (wd47 hw) (ctEcFA hw X2.2.1 sb tb kt _ cp _ Es Fv Fc Vt hj) (lenOf pd5 rfl) rfl d18_14 rfl rfl (by decide) (nQ rfl) rfl rfl (by decide) (by decide) (fun v3 T3 h3 Q3 X3 z3 => ?_)
 obtain ⟨hv3, hh3⟩ := Q3
 subst hv3; rw [hh3] at X3
 refine G.b 18 C X3 d18_17 rfl rfl rfl <| G.D 21 (cells' := 0) (slots' := 0) (argsL := []) (St := []) C X3 (wd117 hw) (wd118 hw) (wd120 hw) (wd119 hw) (by decide) Es (wd121 hw) (wd47 hw) (ctIlA hw X3.2.1 sb cz Fc OD S2 hcz) (lenOf pd18 rfl) rfl d18_18 rfl rfl (by decide) (nQ rfl) rfl rfl (by decide) (by decide) (fun v4 T4 h4 Q4 X4 z4 => ?_)
 obtain ⟨hv4, hh4⟩ := Q4
 subst hv4; rw [hh4] at X4
 refine G.q 24 C X4 d18_21 rfl (feq (by decide : ¬ (1 : Int32) = 0)).1 <| G.a 25 C X4 d18_24 rfl rfl <| G.a 26 C X4 d18_25 rfl rfl <| G.b 27 C X4 d18_26 rfl rfl rfl <| G.v 30 C X4 (hQ (wd51 hw)) Via.refl Fv d18_27 rfl (fun T5 X5 => ?_)
 have Vp6 : Arv Z h0 tb kt .byte cp (tx W ++ [(.int 0)]) (.int 0) := Vt.pad (pad_rep (tx W) (.int 0) 1)
 refine G.o 33 (cells' := 0) (slots' := 0) (argsL := [(.int vv), (.int (own_n (W.length + 1))), (.ref tb)]) (St := []) C X5 (wd122 hw) (wd123 hw) (by decide) (wd124 hw) (wd115 hw) (ctGc1 hw X5.2.1 tb kt do_ dt_ ko kq W cp vv V0 Vp6 gt OD So Sq Vo Vq hcp hb hfit hV hhi) (lenOf pd23 rfl) rfl d18_30 rfl rfl (by decide) (nQ rfl) rfl rfl (by decide) (by decide) (fun v7 T7 h7 Q7 X7 z7 => ?_)
 obtain ⟨hv7, K7, Vt7⟩ := Q7
 subst hv7
 have K8 := (Keep.refl h0 [sb, tb]).trans K7 (allS (mQ 1 rfl) all0)
 refine G.O 34 C X7 d18_33 rfl rfl <| G.r 48 C X7 d18_34 (by decide) (by decide) <| G.b 49 C X7 d18_48 rfl rfl rfl <| G.a 50 C X7 d18_49 rfl rfl ?_
 have f9 := (Fn.keep K7 (ninS nst nin0))
 have f10 := (Es.keep K7)
 refine G.I 53 C X7 (hQ (wd76 hw)) Via.refl f9 f10 gs (Or.inl (wd77 hw)) (wd38 hw) (ty := .int) (by decide) rfl rfl d18_50 rfl (fun T11 h11 X11 W11 F11 => ?_)
 have K12 := K8.wr W11 (mQ 0 rfl)
 refine G.b 54 C X11 d18_53 rfl rfl rfl ?_
 have f13 := (f10.wr W11)
 have f14 := ((Fv.keep K7 (ninS nst nin0)).other W11 (Or.inr (sQ6 hw)))
 have f15 := ((Fc.keep K7 (ninS nst nin0)).other W11 (Or.inr (sQ7 hw)))
 have f16 := ((Et.keep K7).wr W11)
 have f17 := (Vt7.other W11 (Ne.symm nst))
 exact G.J C X11 d18_54 hret rfl rfl hlk (⟨tb, kt, cp, rfl, K12, Or.inl rfl, hcp, (by rw [own_dlen]; exact hfit), nst, f13, f14, f15, (by rw [own_dlen]; exact F11), f16, f17⟩) (by decide) (by decide)
theorem ctAiG1 {l : Launch} {Z : State} {a0 : Array Value} (hw : HW a0 Z) {n0 : Nat} {h0 : Heap} (hn0 : n0 ≤ h0.size) (sb tb : Addr) (kt : ClassId) (W : List Int32) (do_ dt_ : Addr) (ko kq : ClassId) (vv cz : Int32) (V0 : Nat) (Es : Exa Z h0 sb zq3) (Fv : Fld Z h0 sb zq1 "value" "[B" (.ref tb)) (Fc : Fld Z h0 sb zq1 "coder" "B" (.int 0)) (Fn : Fld Z h0 sb zq1 "count" "I" (.int (own_n (W).length))) (Et : Exa Z h0 tb "[B") (Vt : Arv Z h0 tb kt .byte (16 : Int32) (tx W) (.int 0)) (gs : n0 ≤ sb) (gt : n0 ≤ tb) (nst : sb ≠ tb) (So : Sta Z Z.heap zq2 "DigitOnes" "[B" (.ref do_)) (Sq : Sta Z Z.heap zq2 "DigitTens" "[B" (.ref dt_)) (Vo : Arv Z Z.heap do_ ko .byte (100 : Int32) own_ones (.int 0)) (Vq : Arv Z Z.heap dt_ kq .byte (100 : Int32) own_tens (.int 0)) (hb : W.length + 1 < 1000) (hV : vv.toInt = (V0 : Int)) (hhi : V0 < 10) (hW : W.length ≤ 16) (hg : (0 : Int32) < (own_n (W.length + 1)) - 16 ∧ (own_n (W.length + 1)) - 16 < 18) (hl34 : W.length + 1 < 34) (OD : Old Z n0 h0) (S2 : Sta Z Z.heap zq0 zq5 "Z" (.int cz)) (hcz : ¬ cz = 0) :
 Ctr l Z (⟨zq1, "append", zq8⟩ : MethodName) jdk_68_method_32_code 4 (some (.object zq1)) (rQ 4 1 34 100) n0 #[(.ref sb), (.int vv)] h0 (fun v h => ∃ (t : Addr) (k : ClassId) (cq : Int32), v = some (.ref sb) ∧ Keep h0 h [sb, tb] ∧ (t = tb ∨ h0.size ≤ t) ∧ (cq = 16 ∨ cq = 34) ∧ (W ++ own_dig V0 1).length ≤ cq.toNatClampNeg ∧ sb ≠ t ∧ Exa Z h sb zq3 ∧ Fld Z h sb zq1 "value" "[B" (.ref t) ∧ Fld Z h sb zq1 "coder" "B" (.int 0) ∧ Fld Z h sb zq1 "count" "I" (.int (own_n ((W ++ own_dig V0 1)).length)) ∧ Exa Z h t "[B" ∧ Arv Z h t k .byte cq (tx (W ++ own_dig V0 1)) (.int 0)) := by
 refine Ctr.of (by decide +kernel) hn0 ?_
 intro p e s m below meth c T0 C hnm hret hlk X0
 rw [ef18 m sb vv]
 refine G.b 1 C X0 d18_0 rfl rfl rfl <| G.v 4 C X0 (hQ (wd76 hw)) Via.refl Fn d18_1 rfl fun T1 X1 => G.g 5 C X1 d18_4 rfl (l' := #[vR sb, vI vv, vI (own_n (W).length), .unset]) rfl <| G.a 6 C X1 d18_5 rfl rfl <| G.a 7 C X1 d18_6 rfl rfl <| G.o 10 (cells' := 0) (slots' := 0) (argsL := [(.int vv)]) (St := [(.int (own_n (W).length))]) C X1 (wd113 hw) (wd114 hw) (by decide) (wd116 hw) (wd115 hw) (ctSs1 hw X1.2.1 vv V0 hV hhi) (lenOf pd8 rfl) rfl d18_7 rfl rfl (by decide) (nQ rfl) rfl rfl (by decide) (by decide) (fun v2 T2 h2 Q2 X2 z2 => ?_)
 obtain ⟨hv2, hh2⟩ := Q2
 subst hv2; rw [hh2] at X2
 refine G.z 11 (z := (own_n (W.length + 1))) C X2 d18_10 rfl (own_nk W.length 1 _ rfl) <| G.g 12 C X2 d18_11 rfl (l' := #[vR sb, vI vv, vI (own_n (W).length), vI (own_n (W.length + 1))]) rfl <| G.b 13 C X2 d18_12 rfl rfl rfl <| G.a 14 C X2 d18_13 rfl rfl <| G.N 17 (cells' := 1) (slots' := 34) (argsL := [(.int (own_n (W.length + 1)))]) (St := []) C X2 (wd78 hw) (wd79 hw) (wd80 hw) (wd81 hw) rfl (by decide) Es (wd82 hw) (wd47 hw) (ctEcGA hw X2.2.1 sb tb kt W _ _ Es Fv Fc Vt Fn gs hg.1 hg.2 hW) (lenOf pd5 rfl) rfl d18_14 rfl rfl (by decide) (nQ rfl) rfl rfl (by decide) (by decide) (fun v3 T3 h3 Q3 X3 z3 => ?_)
 obtain ⟨t3, k3, hv3, K3, hz3, Es3, Fv3, Fc3, Fn3, Et3, Vt3⟩ := Q3
 subst hv3
 have K4 := (Keep.refl h0 [sb, tb]).trans K3 (allS (mQ 0 rfl) all0)
 have nb3_sb : sb ≠ t3 := Nat.ne_of_lt (Nat.lt_of_lt_of_le Es.lt hz3)
 refine G.b 18 C X3 d18_17 rfl rfl rfl ?_
 have f5 := (OD.keep K3 (allS gs all0))
 refine G.D 21 (cells' := 1) (slots' := 34) (argsL := []) (St := []) C X3 (wd117 hw) (wd118 hw) (wd120 hw) (wd119 hw) (by decide) Es3 (wd121 hw) (wd47 hw) (ctIlA hw X3.2.1 sb cz Fc3 f5 S2 hcz) (lenOf pd18 rfl) rfl d18_18 rfl rfl (by decide) (nQ rfl) rfl rfl (by decide) (by decide) (fun v6 T6 h6 Q6 X6 z6 => ?_)
 obtain ⟨hv6, hh6⟩ := Q6
 subst hv6; rw [hh6] at X6
 refine G.q 24 C X6 d18_21 rfl (feq (by decide : ¬ (1 : Int32) = 0)).1 <| G.a 25 C X6 d18_24 rfl rfl <| G.a 26 C X6 d18_25 rfl rfl <| G.b 27 C X6 d18_26 rfl rfl rfl <| G.v 30 C X6 (hQ (wd51 hw)) Via.refl Fv3 d18_27 rfl (fun T7 X7 => ?_)
 have Vp8 : Arv Z h3 t3 k3 .byte (34 : Int32) (tx W ++ [(.int 0)]) (.int 0) := Vt3.pad (pad_rep (tx W) (.int 0) 1)
 refine G.o 33 (cells' := 1) (slots' := 34) (argsL := [(.int vv), (.int (own_n (W.length + 1))), (.ref t3)]) (St := []) C X7 (wd122 hw) (wd123 hw) (by decide) (wd124 hw) (wd115 hw) (ctGc1 hw X7.2.1 t3 k3 do_ dt_ ko kq W (34 : Int32) vv V0 Vp8 (Nat.le_trans X2.2.1 hz3) f5 So Sq Vo Vq (Or.inr rfl) hb (by rw [own_cp34]; omega) hV hhi) (lenOf pd23 rfl) rfl d18_30 rfl rfl (by decide) (nQ rfl) rfl rfl (by decide) (by decide) (fun v9 T9 h9 Q9 X9 z9 => ?_)
 obtain ⟨hv9, K9, Vt9⟩ := Q9
 subst hv9
 have K10 := K4.trans K9 (allS (Or.inr (Nat.le_trans (Keep.refl h0 [sb, tb]).1 hz3)) all0)
 refine G.O 34 C X9 d18_33 rfl rfl <| G.r 48 C X9 d18_34 (by decide) (by decide) <| G.b 49 C X9 d18_48 rfl rfl rfl <| G.a 50 C X9 d18_49 rfl rfl ?_
 have f11 := (Fn3.keep K9 (ninS nb3_sb nin0))
 have f12 := (Es3.keep K9)
 refine G.I 53 C X9 (hQ (wd76 hw)) Via.refl f11 f12 gs (Or.inl (wd77 hw)) (wd38 hw) (ty := .int) (by decide) rfl rfl d18_50 rfl (fun T13 h13 X13 W13 F13 => ?_)
 have K14 := K10.wr W13 (mQ 0 rfl)
 refine G.b 54 C X13 d18_53 rfl rfl rfl ?_
 have f15 := (f12.wr W13)
 have f16 := ((Fv3.keep K9 (ninS nb3_sb nin0)).other W13 (Or.inr (sQ6 hw)))
 have f17 := ((Fc3.keep K9 (ninS nb3_sb nin0)).other W13 (Or.inr (sQ7 hw)))
 have f18 := ((Et3.keep K9).wr W13)
 have f19 := (Vt9.other W13 (Ne.symm nb3_sb))
 exact G.J C X13 d18_54 hret rfl rfl hlk (⟨t3, k3, (34 : Int32), rfl, K14, Or.inr (Nat.le_trans (Keep.refl h0 [sb, tb]).1 hz3), Or.inr rfl, (by rw [own_dlen, own_cp34]; omega), nb3_sb, f15, f16, f17, (by rw [own_dlen]; exact F13), f18, f19⟩) (by decide) (by decide)
theorem ctAi1 {l : Launch} {Z : State} {a0 : Array Value} (hw : HW a0 Z) {n0 : Nat} {h0 : Heap} (hn0 : n0 ≤ h0.size) (sb tb : Addr) (kt : ClassId) (W : List Int32) (cp : Int32) (do_ dt_ : Addr) (ko kq : ClassId) (vv cz : Int32) (V0 : Nat) (Es : Exa Z h0 sb zq3) (Fv : Fld Z h0 sb zq1 "value" "[B" (.ref tb)) (Fc : Fld Z h0 sb zq1 "coder" "B" (.int 0)) (Fn : Fld Z h0 sb zq1 "count" "I" (.int (own_n (W).length))) (Et : Exa Z h0 tb "[B") (Vt : Arv Z h0 tb kt .byte cp (tx W) (.int 0)) (gs : n0 ≤ sb) (gt : n0 ≤ tb) (nst : sb ≠ tb) (So : Sta Z Z.heap zq2 "DigitOnes" "[B" (.ref do_)) (Sq : Sta Z Z.heap zq2 "DigitTens" "[B" (.ref dt_)) (Vo : Arv Z Z.heap do_ ko .byte (100 : Int32) own_ones (.int 0)) (Vq : Arv Z Z.heap dt_ kq .byte (100 : Int32) own_tens (.int 0)) (hb : W.length + 1 < 1000) (hV : vv.toInt = (V0 : Int)) (hhi : V0 < 10) (hcp : cp = 16 ∨ cp = 34) (hwc : W.length ≤ cp.toNatClampNeg) (hl34 : W.length + 1 < 34) (OD : Old Z n0 h0) (S2 : Sta Z Z.heap zq0 zq5 "Z" (.int cz)) (hcz : ¬ cz = 0) :
    Ctr l Z (⟨zq1, "append", zq8⟩ : MethodName) jdk_68_method_32_code 4 (some (.object zq1)) (rQ 4 1 34 100) n0 #[(.ref sb), (.int vv)] h0 (fun v h => ∃ (t : Addr) (k : ClassId) (cq : Int32), v = some (.ref sb) ∧ Keep h0 h [sb, tb] ∧ (t = tb ∨ h0.size ≤ t) ∧ (cq = 16 ∨ cq = 34) ∧ (W ++ own_dig V0 1).length ≤ cq.toNatClampNeg ∧ sb ≠ t ∧ Exa Z h sb zq3 ∧ Fld Z h sb zq1 "value" "[B" (.ref t) ∧ Fld Z h sb zq1 "coder" "B" (.int 0) ∧ Fld Z h sb zq1 "count" "I" (.int (own_n ((W ++ own_dig V0 1)).length)) ∧ Exa Z h t "[B" ∧ Arv Z h t k .byte cq (tx (W ++ own_dig V0 1)) (.int 0)) := by
  by_cases q : W.length + 1 ≤ cp.toNatClampNeg
  · exact ctAiF1 hw hn0 sb tb kt W cp do_ dt_ ko kq vv cz V0 Es Fv Fc Fn Et Vt gs gt nst So Sq Vo Vq hb hV hhi hcp q (own_fit hcp q) OD S2 hcz
  · rcases hcp with rfl | rfl
    · rw [own_cp16] at q hwc; exact ctAiG1 hw hn0 sb tb kt W do_ dt_ ko kq vv cz V0 Es Fv Fc Fn Et Vt gs gt nst So Sq Vo Vq hb hV hhi hwc (own_grow (by omega) hl34) hl34 OD S2 hcz
    · rw [own_cp34] at q; omega
theorem ctAiF2 {l : Launch} {Z : State} {a0 : Array Value} (hw : HW a0 Z) {n0 : Nat} {h0 : Heap} (hn0 : n0 ≤ h0.size) (sb tb : Addr) (kt : ClassId) (W : List Int32) (cp : Int32) (do_ dt_ : Addr) (ko kq : ClassId) (vv cz : Int32) (V0 : Nat) (Es : Exa Z h0 sb zq3) (Fv : Fld Z h0 sb zq1 "value" "[B" (.ref tb)) (Fc : Fld Z h0 sb zq1 "coder" "B" (.int 0)) (Fn : Fld Z h0 sb zq1 "count" "I" (.int (own_n (W).length))) (Et : Exa Z h0 tb "[B") (Vt : Arv Z h0 tb kt .byte cp (tx W) (.int 0)) (gs : n0 ≤ sb) (gt : n0 ≤ tb) (nst : sb ≠ tb) (So : Sta Z Z.heap zq2 "DigitOnes" "[B" (.ref do_)) (Sq : Sta Z Z.heap zq2 "DigitTens" "[B" (.ref dt_)) (Vo : Arv Z Z.heap do_ ko .byte (100 : Int32) own_ones (.int 0)) (Vq : Arv Z Z.heap dt_ kq .byte (100 : Int32) own_tens (.int 0)) (hb : W.length + 2 < 1000) (hV : vv.toInt = (V0 : Int)) (hlo : 10 ≤ V0) (hhi : V0 < 100) (hcp : cp = 16 ∨ cp = 34) (hfit : W.length + 2 ≤ cp.toNatClampNeg) (hj : ¬ (0 : Int32) < (own_n (W.length + 2)) - cp) (OD : Old Z n0 h0) (S2 : Sta Z Z.heap zq0 zq5 "Z" (.int cz)) (hcz : ¬ cz = 0) :
 Ctr l Z (⟨zq1, "append", zq8⟩ : MethodName) jdk_68_method_32_code 4 (some (.object zq1)) (rQ 4 1 34 100) n0 #[(.ref sb), (.int vv)] h0 (fun v h => ∃ (t : Addr) (k : ClassId) (cq : Int32), v = some (.ref sb) ∧ Keep h0 h [sb, tb] ∧ (t = tb ∨ h0.size ≤ t) ∧ (cq = 16 ∨ cq = 34) ∧ (W ++ own_dig V0 2).length ≤ cq.toNatClampNeg ∧ sb ≠ t ∧ Exa Z h sb zq3 ∧ Fld Z h sb zq1 "value" "[B" (.ref t) ∧ Fld Z h sb zq1 "coder" "B" (.int 0) ∧ Fld Z h sb zq1 "count" "I" (.int (own_n ((W ++ own_dig V0 2)).length)) ∧ Exa Z h t "[B" ∧ Arv Z h t k .byte cq (tx (W ++ own_dig V0 2)) (.int 0)) := by
 refine Ctr.of (by decide +kernel) hn0 ?_
 intro p e s m below meth c T0 C hnm hret hlk X0
 rw [ef18 m sb vv]
 refine G.b 1 C X0 d18_0 rfl rfl rfl <| G.v 4 C X0 (hQ (wd76 hw)) Via.refl Fn d18_1 rfl fun T1 X1 => G.g 5 C X1 d18_4 rfl (l' := #[vR sb, vI vv, vI (own_n (W).length), .unset]) rfl <| G.a 6 C X1 d18_5 rfl rfl <| G.a 7 C X1 d18_6 rfl rfl <| G.o 10 (cells' := 0) (slots' := 0) (argsL := [(.int vv)]) (St := [(.int (own_n (W).length))]) C X1 (wd113 hw) (wd114 hw) (by decide) (wd116 hw) (wd115 hw) (ctSs2 hw X1.2.1 vv V0 hV hlo hhi) (lenOf pd8 rfl) rfl d18_7 rfl rfl (by decide) (nQ rfl) rfl rfl (by decide) (by decide) (fun v2 T2 h2 Q2 X2 z2 => ?_)
 obtain ⟨hv2, hh2⟩ := Q2
 subst hv2; rw [hh2] at X2
 refine G.z 11 (z := (own_n (W.length + 2))) C X2 d18_10 rfl (own_nk W.length 2 _ rfl) <| G.g 12 C X2 d18_11 rfl (l' := #[vR sb, vI vv, vI (own_n (W).length), vI (own_n (W.length + 2))]) rfl <| G.b 13 C X2 d18_12 rfl rfl rfl <| G.a 14 C X2 d18_13 rfl rfl <| G.N 17 (cells' := 0) (slots' := 0) (argsL := [(.int (own_n (W.length + 2)))]) (St := []) C X2 (wd78 hw) (wd79 hw) (wd80 hw) (wd81 hw) rfl (by decide) Es (wd82 hw) (wd47 hw) (ctEcFA hw X2.2.1 sb tb kt _ cp _ Es Fv Fc Vt hj) (lenOf pd5 rfl) rfl d18_14 rfl rfl (by decide) (nQ rfl) rfl rfl (by decide) (by decide) (fun v3 T3 h3 Q3 X3 z3 => ?_)
 obtain ⟨hv3, hh3⟩ := Q3
 subst hv3; rw [hh3] at X3
 refine G.b 18 C X3 d18_17 rfl rfl rfl <| G.D 21 (cells' := 0) (slots' := 0) (argsL := []) (St := []) C X3 (wd117 hw) (wd118 hw) (wd120 hw) (wd119 hw) (by decide) Es (wd121 hw) (wd47 hw) (ctIlA hw X3.2.1 sb cz Fc OD S2 hcz) (lenOf pd18 rfl) rfl d18_18 rfl rfl (by decide) (nQ rfl) rfl rfl (by decide) (by decide) (fun v4 T4 h4 Q4 X4 z4 => ?_)
 obtain ⟨hv4, hh4⟩ := Q4
 subst hv4; rw [hh4] at X4
 refine G.q 24 C X4 d18_21 rfl (feq (by decide : ¬ (1 : Int32) = 0)).1 <| G.a 25 C X4 d18_24 rfl rfl <| G.a 26 C X4 d18_25 rfl rfl <| G.b 27 C X4 d18_26 rfl rfl rfl <| G.v 30 C X4 (hQ (wd51 hw)) Via.refl Fv d18_27 rfl (fun T5 X5 => ?_)
 have Vp6 : Arv Z h0 tb kt .byte cp (tx W ++ [(.int 0), (.int 0)]) (.int 0) := Vt.pad (pad_rep (tx W) (.int 0) 2)
 refine G.o 33 (cells' := 0) (slots' := 0) (argsL := [(.int vv), (.int (own_n (W.length + 2))), (.ref tb)]) (St := []) C X5 (wd122 hw) (wd123 hw) (by decide) (wd124 hw) (wd115 hw) (ctGc2 hw X5.2.1 tb kt do_ dt_ ko kq W cp vv V0 Vp6 gt OD So Sq Vo Vq hcp hb hfit hV hlo hhi) (lenOf pd23 rfl) rfl d18_30 rfl rfl (by decide) (nQ rfl) rfl rfl (by decide) (by decide) (fun v7 T7 h7 Q7 X7 z7 => ?_)
 obtain ⟨hv7, K7, Vt7⟩ := Q7
 subst hv7
 have K8 := (Keep.refl h0 [sb, tb]).trans K7 (allS (mQ 1 rfl) all0)
 refine G.O 34 C X7 d18_33 rfl rfl <| G.r 48 C X7 d18_34 (by decide) (by decide) <| G.b 49 C X7 d18_48 rfl rfl rfl <| G.a 50 C X7 d18_49 rfl rfl ?_
 have f9 := (Fn.keep K7 (ninS nst nin0))
 have f10 := (Es.keep K7)
 refine G.I 53 C X7 (hQ (wd76 hw)) Via.refl f9 f10 gs (Or.inl (wd77 hw)) (wd38 hw) (ty := .int) (by decide) rfl rfl d18_50 rfl (fun T11 h11 X11 W11 F11 => ?_)
 have K12 := K8.wr W11 (mQ 0 rfl)
 refine G.b 54 C X11 d18_53 rfl rfl rfl ?_
 have f13 := (f10.wr W11)
 have f14 := ((Fv.keep K7 (ninS nst nin0)).other W11 (Or.inr (sQ6 hw)))
 have f15 := ((Fc.keep K7 (ninS nst nin0)).other W11 (Or.inr (sQ7 hw)))
 have f16 := ((Et.keep K7).wr W11)
 have f17 := (Vt7.other W11 (Ne.symm nst))
 exact G.J C X11 d18_54 hret rfl rfl hlk (⟨tb, kt, cp, rfl, K12, Or.inl rfl, hcp, (by rw [own_dlen]; exact hfit), nst, f13, f14, f15, (by rw [own_dlen]; exact F11), f16, f17⟩) (by decide) (by decide)
theorem ctAiG2 {l : Launch} {Z : State} {a0 : Array Value} (hw : HW a0 Z) {n0 : Nat} {h0 : Heap} (hn0 : n0 ≤ h0.size) (sb tb : Addr) (kt : ClassId) (W : List Int32) (do_ dt_ : Addr) (ko kq : ClassId) (vv cz : Int32) (V0 : Nat) (Es : Exa Z h0 sb zq3) (Fv : Fld Z h0 sb zq1 "value" "[B" (.ref tb)) (Fc : Fld Z h0 sb zq1 "coder" "B" (.int 0)) (Fn : Fld Z h0 sb zq1 "count" "I" (.int (own_n (W).length))) (Et : Exa Z h0 tb "[B") (Vt : Arv Z h0 tb kt .byte (16 : Int32) (tx W) (.int 0)) (gs : n0 ≤ sb) (gt : n0 ≤ tb) (nst : sb ≠ tb) (So : Sta Z Z.heap zq2 "DigitOnes" "[B" (.ref do_)) (Sq : Sta Z Z.heap zq2 "DigitTens" "[B" (.ref dt_)) (Vo : Arv Z Z.heap do_ ko .byte (100 : Int32) own_ones (.int 0)) (Vq : Arv Z Z.heap dt_ kq .byte (100 : Int32) own_tens (.int 0)) (hb : W.length + 2 < 1000) (hV : vv.toInt = (V0 : Int)) (hlo : 10 ≤ V0) (hhi : V0 < 100) (hW : W.length ≤ 16) (hg : (0 : Int32) < (own_n (W.length + 2)) - 16 ∧ (own_n (W.length + 2)) - 16 < 18) (hl34 : W.length + 2 < 34) (OD : Old Z n0 h0) (S2 : Sta Z Z.heap zq0 zq5 "Z" (.int cz)) (hcz : ¬ cz = 0) :
 Ctr l Z (⟨zq1, "append", zq8⟩ : MethodName) jdk_68_method_32_code 4 (some (.object zq1)) (rQ 4 1 34 100) n0 #[(.ref sb), (.int vv)] h0 (fun v h => ∃ (t : Addr) (k : ClassId) (cq : Int32), v = some (.ref sb) ∧ Keep h0 h [sb, tb] ∧ (t = tb ∨ h0.size ≤ t) ∧ (cq = 16 ∨ cq = 34) ∧ (W ++ own_dig V0 2).length ≤ cq.toNatClampNeg ∧ sb ≠ t ∧ Exa Z h sb zq3 ∧ Fld Z h sb zq1 "value" "[B" (.ref t) ∧ Fld Z h sb zq1 "coder" "B" (.int 0) ∧ Fld Z h sb zq1 "count" "I" (.int (own_n ((W ++ own_dig V0 2)).length)) ∧ Exa Z h t "[B" ∧ Arv Z h t k .byte cq (tx (W ++ own_dig V0 2)) (.int 0)) := by
 refine Ctr.of (by decide +kernel) hn0 ?_
 intro p e s m below meth c T0 C hnm hret hlk X0
 rw [ef18 m sb vv]
 refine G.b 1 C X0 d18_0 rfl rfl rfl <| G.v 4 C X0 (hQ (wd76 hw)) Via.refl Fn d18_1 rfl fun T1 X1 => G.g 5 C X1 d18_4 rfl (l' := #[vR sb, vI vv, vI (own_n (W).length), .unset]) rfl <| G.a 6 C X1 d18_5 rfl rfl <| G.a 7 C X1 d18_6 rfl rfl <| G.o 10 (cells' := 0) (slots' := 0) (argsL := [(.int vv)]) (St := [(.int (own_n (W).length))]) C X1 (wd113 hw) (wd114 hw) (by decide) (wd116 hw) (wd115 hw) (ctSs2 hw X1.2.1 vv V0 hV hlo hhi) (lenOf pd8 rfl) rfl d18_7 rfl rfl (by decide) (nQ rfl) rfl rfl (by decide) (by decide) (fun v2 T2 h2 Q2 X2 z2 => ?_)
 obtain ⟨hv2, hh2⟩ := Q2
 subst hv2; rw [hh2] at X2
 refine G.z 11 (z := (own_n (W.length + 2))) C X2 d18_10 rfl (own_nk W.length 2 _ rfl) <| G.g 12 C X2 d18_11 rfl (l' := #[vR sb, vI vv, vI (own_n (W).length), vI (own_n (W.length + 2))]) rfl <| G.b 13 C X2 d18_12 rfl rfl rfl <| G.a 14 C X2 d18_13 rfl rfl <| G.N 17 (cells' := 1) (slots' := 34) (argsL := [(.int (own_n (W.length + 2)))]) (St := []) C X2 (wd78 hw) (wd79 hw) (wd80 hw) (wd81 hw) rfl (by decide) Es (wd82 hw) (wd47 hw) (ctEcGA hw X2.2.1 sb tb kt W _ _ Es Fv Fc Vt Fn gs hg.1 hg.2 hW) (lenOf pd5 rfl) rfl d18_14 rfl rfl (by decide) (nQ rfl) rfl rfl (by decide) (by decide) (fun v3 T3 h3 Q3 X3 z3 => ?_)
 obtain ⟨t3, k3, hv3, K3, hz3, Es3, Fv3, Fc3, Fn3, Et3, Vt3⟩ := Q3
 subst hv3
 have K4 := (Keep.refl h0 [sb, tb]).trans K3 (allS (mQ 0 rfl) all0)
 have nb3_sb : sb ≠ t3 := Nat.ne_of_lt (Nat.lt_of_lt_of_le Es.lt hz3)
 refine G.b 18 C X3 d18_17 rfl rfl rfl ?_
 have f5 := (OD.keep K3 (allS gs all0))
 refine G.D 21 (cells' := 1) (slots' := 34) (argsL := []) (St := []) C X3 (wd117 hw) (wd118 hw) (wd120 hw) (wd119 hw) (by decide) Es3 (wd121 hw) (wd47 hw) (ctIlA hw X3.2.1 sb cz Fc3 f5 S2 hcz) (lenOf pd18 rfl) rfl d18_18 rfl rfl (by decide) (nQ rfl) rfl rfl (by decide) (by decide) (fun v6 T6 h6 Q6 X6 z6 => ?_)
 obtain ⟨hv6, hh6⟩ := Q6
 subst hv6; rw [hh6] at X6
 refine G.q 24 C X6 d18_21 rfl (feq (by decide : ¬ (1 : Int32) = 0)).1 <| G.a 25 C X6 d18_24 rfl rfl <| G.a 26 C X6 d18_25 rfl rfl <| G.b 27 C X6 d18_26 rfl rfl rfl <| G.v 30 C X6 (hQ (wd51 hw)) Via.refl Fv3 d18_27 rfl (fun T7 X7 => ?_)
 have Vp8 : Arv Z h3 t3 k3 .byte (34 : Int32) (tx W ++ [(.int 0), (.int 0)]) (.int 0) := Vt3.pad (pad_rep (tx W) (.int 0) 2)
 refine G.o 33 (cells' := 1) (slots' := 34) (argsL := [(.int vv), (.int (own_n (W.length + 2))), (.ref t3)]) (St := []) C X7 (wd122 hw) (wd123 hw) (by decide) (wd124 hw) (wd115 hw) (ctGc2 hw X7.2.1 t3 k3 do_ dt_ ko kq W (34 : Int32) vv V0 Vp8 (Nat.le_trans X2.2.1 hz3) f5 So Sq Vo Vq (Or.inr rfl) hb (by rw [own_cp34]; omega) hV hlo hhi) (lenOf pd23 rfl) rfl d18_30 rfl rfl (by decide) (nQ rfl) rfl rfl (by decide) (by decide) (fun v9 T9 h9 Q9 X9 z9 => ?_)
 obtain ⟨hv9, K9, Vt9⟩ := Q9
 subst hv9
 have K10 := K4.trans K9 (allS (Or.inr (Nat.le_trans (Keep.refl h0 [sb, tb]).1 hz3)) all0)
 refine G.O 34 C X9 d18_33 rfl rfl <| G.r 48 C X9 d18_34 (by decide) (by decide) <| G.b 49 C X9 d18_48 rfl rfl rfl <| G.a 50 C X9 d18_49 rfl rfl ?_
 have f11 := (Fn3.keep K9 (ninS nb3_sb nin0))
 have f12 := (Es3.keep K9)
 refine G.I 53 C X9 (hQ (wd76 hw)) Via.refl f11 f12 gs (Or.inl (wd77 hw)) (wd38 hw) (ty := .int) (by decide) rfl rfl d18_50 rfl (fun T13 h13 X13 W13 F13 => ?_)
 have K14 := K10.wr W13 (mQ 0 rfl)
 refine G.b 54 C X13 d18_53 rfl rfl rfl ?_
 have f15 := (f12.wr W13)
 have f16 := ((Fv3.keep K9 (ninS nb3_sb nin0)).other W13 (Or.inr (sQ6 hw)))
 have f17 := ((Fc3.keep K9 (ninS nb3_sb nin0)).other W13 (Or.inr (sQ7 hw)))
 have f18 := ((Et3.keep K9).wr W13)
 have f19 := (Vt9.other W13 (Ne.symm nb3_sb))
 exact G.J C X13 d18_54 hret rfl rfl hlk (⟨t3, k3, (34 : Int32), rfl, K14, Or.inr (Nat.le_trans (Keep.refl h0 [sb, tb]).1 hz3), Or.inr rfl, (by rw [own_dlen, own_cp34]; omega), nb3_sb, f15, f16, f17, (by rw [own_dlen]; exact F13), f18, f19⟩) (by decide) (by decide)
theorem ctAi2 {l : Launch} {Z : State} {a0 : Array Value} (hw : HW a0 Z) {n0 : Nat} {h0 : Heap} (hn0 : n0 ≤ h0.size) (sb tb : Addr) (kt : ClassId) (W : List Int32) (cp : Int32) (do_ dt_ : Addr) (ko kq : ClassId) (vv cz : Int32) (V0 : Nat) (Es : Exa Z h0 sb zq3) (Fv : Fld Z h0 sb zq1 "value" "[B" (.ref tb)) (Fc : Fld Z h0 sb zq1 "coder" "B" (.int 0)) (Fn : Fld Z h0 sb zq1 "count" "I" (.int (own_n (W).length))) (Et : Exa Z h0 tb "[B") (Vt : Arv Z h0 tb kt .byte cp (tx W) (.int 0)) (gs : n0 ≤ sb) (gt : n0 ≤ tb) (nst : sb ≠ tb) (So : Sta Z Z.heap zq2 "DigitOnes" "[B" (.ref do_)) (Sq : Sta Z Z.heap zq2 "DigitTens" "[B" (.ref dt_)) (Vo : Arv Z Z.heap do_ ko .byte (100 : Int32) own_ones (.int 0)) (Vq : Arv Z Z.heap dt_ kq .byte (100 : Int32) own_tens (.int 0)) (hb : W.length + 2 < 1000) (hV : vv.toInt = (V0 : Int)) (hlo : 10 ≤ V0) (hhi : V0 < 100) (hcp : cp = 16 ∨ cp = 34) (hwc : W.length ≤ cp.toNatClampNeg) (hl34 : W.length + 2 < 34) (OD : Old Z n0 h0) (S2 : Sta Z Z.heap zq0 zq5 "Z" (.int cz)) (hcz : ¬ cz = 0) :
    Ctr l Z (⟨zq1, "append", zq8⟩ : MethodName) jdk_68_method_32_code 4 (some (.object zq1)) (rQ 4 1 34 100) n0 #[(.ref sb), (.int vv)] h0 (fun v h => ∃ (t : Addr) (k : ClassId) (cq : Int32), v = some (.ref sb) ∧ Keep h0 h [sb, tb] ∧ (t = tb ∨ h0.size ≤ t) ∧ (cq = 16 ∨ cq = 34) ∧ (W ++ own_dig V0 2).length ≤ cq.toNatClampNeg ∧ sb ≠ t ∧ Exa Z h sb zq3 ∧ Fld Z h sb zq1 "value" "[B" (.ref t) ∧ Fld Z h sb zq1 "coder" "B" (.int 0) ∧ Fld Z h sb zq1 "count" "I" (.int (own_n ((W ++ own_dig V0 2)).length)) ∧ Exa Z h t "[B" ∧ Arv Z h t k .byte cq (tx (W ++ own_dig V0 2)) (.int 0)) := by
  by_cases q : W.length + 2 ≤ cp.toNatClampNeg
  · exact ctAiF2 hw hn0 sb tb kt W cp do_ dt_ ko kq vv cz V0 Es Fv Fc Fn Et Vt gs gt nst So Sq Vo Vq hb hV hlo hhi hcp q (own_fit hcp q) OD S2 hcz
  · rcases hcp with rfl | rfl
    · rw [own_cp16] at q hwc; exact ctAiG2 hw hn0 sb tb kt W do_ dt_ ko kq vv cz V0 Es Fv Fc Fn Et Vt gs gt nst So Sq Vo Vq hb hV hlo hhi hwc (own_grow (by omega) hl34) hl34 OD S2 hcz
    · rw [own_cp34] at q; omega
theorem ctAiF3 {l : Launch} {Z : State} {a0 : Array Value} (hw : HW a0 Z) {n0 : Nat} {h0 : Heap} (hn0 : n0 ≤ h0.size) (sb tb : Addr) (kt : ClassId) (W : List Int32) (cp : Int32) (do_ dt_ : Addr) (ko kq : ClassId) (vv cz : Int32) (V0 : Nat) (Es : Exa Z h0 sb zq3) (Fv : Fld Z h0 sb zq1 "value" "[B" (.ref tb)) (Fc : Fld Z h0 sb zq1 "coder" "B" (.int 0)) (Fn : Fld Z h0 sb zq1 "count" "I" (.int (own_n (W).length))) (Et : Exa Z h0 tb "[B") (Vt : Arv Z h0 tb kt .byte cp (tx W) (.int 0)) (gs : n0 ≤ sb) (gt : n0 ≤ tb) (nst : sb ≠ tb) (So : Sta Z Z.heap zq2 "DigitOnes" "[B" (.ref do_)) (Sq : Sta Z Z.heap zq2 "DigitTens" "[B" (.ref dt_)) (Vo : Arv Z Z.heap do_ ko .byte (100 : Int32) own_ones (.int 0)) (Vq : Arv Z Z.heap dt_ kq .byte (100 : Int32) own_tens (.int 0)) (hb : W.length + 3 < 1000) (hV : vv.toInt = (V0 : Int)) (hlo : 100 ≤ V0) (hhi : V0 < 1000) (hcp : cp = 16 ∨ cp = 34) (hfit : W.length + 3 ≤ cp.toNatClampNeg) (hj : ¬ (0 : Int32) < (own_n (W.length + 3)) - cp) (OD : Old Z n0 h0) (S2 : Sta Z Z.heap zq0 zq5 "Z" (.int cz)) (hcz : ¬ cz = 0) :
 Ctr l Z (⟨zq1, "append", zq8⟩ : MethodName) jdk_68_method_32_code 4 (some (.object zq1)) (rQ 4 1 34 100) n0 #[(.ref sb), (.int vv)] h0 (fun v h => ∃ (t : Addr) (k : ClassId) (cq : Int32), v = some (.ref sb) ∧ Keep h0 h [sb, tb] ∧ (t = tb ∨ h0.size ≤ t) ∧ (cq = 16 ∨ cq = 34) ∧ (W ++ own_dig V0 3).length ≤ cq.toNatClampNeg ∧ sb ≠ t ∧ Exa Z h sb zq3 ∧ Fld Z h sb zq1 "value" "[B" (.ref t) ∧ Fld Z h sb zq1 "coder" "B" (.int 0) ∧ Fld Z h sb zq1 "count" "I" (.int (own_n ((W ++ own_dig V0 3)).length)) ∧ Exa Z h t "[B" ∧ Arv Z h t k .byte cq (tx (W ++ own_dig V0 3)) (.int 0)) := by
 refine Ctr.of (by decide +kernel) hn0 ?_
 intro p e s m below meth c T0 C hnm hret hlk X0
 rw [ef18 m sb vv]
 refine G.b 1 C X0 d18_0 rfl rfl rfl <| G.v 4 C X0 (hQ (wd76 hw)) Via.refl Fn d18_1 rfl fun T1 X1 => G.g 5 C X1 d18_4 rfl (l' := #[vR sb, vI vv, vI (own_n (W).length), .unset]) rfl <| G.a 6 C X1 d18_5 rfl rfl <| G.a 7 C X1 d18_6 rfl rfl <| G.o 10 (cells' := 0) (slots' := 0) (argsL := [(.int vv)]) (St := [(.int (own_n (W).length))]) C X1 (wd113 hw) (wd114 hw) (by decide) (wd116 hw) (wd115 hw) (ctSs3 hw X1.2.1 vv V0 hV hlo hhi) (lenOf pd8 rfl) rfl d18_7 rfl rfl (by decide) (nQ rfl) rfl rfl (by decide) (by decide) (fun v2 T2 h2 Q2 X2 z2 => ?_)
 obtain ⟨hv2, hh2⟩ := Q2
 subst hv2; rw [hh2] at X2
 refine G.z 11 (z := (own_n (W.length + 3))) C X2 d18_10 rfl (own_nk W.length 3 _ rfl) <| G.g 12 C X2 d18_11 rfl (l' := #[vR sb, vI vv, vI (own_n (W).length), vI (own_n (W.length + 3))]) rfl <| G.b 13 C X2 d18_12 rfl rfl rfl <| G.a 14 C X2 d18_13 rfl rfl <| G.N 17 (cells' := 0) (slots' := 0) (argsL := [(.int (own_n (W.length + 3)))]) (St := []) C X2 (wd78 hw) (wd79 hw) (wd80 hw) (wd81 hw) rfl (by decide) Es (wd82 hw) (wd47 hw) (ctEcFA hw X2.2.1 sb tb kt _ cp _ Es Fv Fc Vt hj) (lenOf pd5 rfl) rfl d18_14 rfl rfl (by decide) (nQ rfl) rfl rfl (by decide) (by decide) (fun v3 T3 h3 Q3 X3 z3 => ?_)
 obtain ⟨hv3, hh3⟩ := Q3
 subst hv3; rw [hh3] at X3
 refine G.b 18 C X3 d18_17 rfl rfl rfl <| G.D 21 (cells' := 0) (slots' := 0) (argsL := []) (St := []) C X3 (wd117 hw) (wd118 hw) (wd120 hw) (wd119 hw) (by decide) Es (wd121 hw) (wd47 hw) (ctIlA hw X3.2.1 sb cz Fc OD S2 hcz) (lenOf pd18 rfl) rfl d18_18 rfl rfl (by decide) (nQ rfl) rfl rfl (by decide) (by decide) (fun v4 T4 h4 Q4 X4 z4 => ?_)
 obtain ⟨hv4, hh4⟩ := Q4
 subst hv4; rw [hh4] at X4
 refine G.q 24 C X4 d18_21 rfl (feq (by decide : ¬ (1 : Int32) = 0)).1 <| G.a 25 C X4 d18_24 rfl rfl <| G.a 26 C X4 d18_25 rfl rfl <| G.b 27 C X4 d18_26 rfl rfl rfl <| G.v 30 C X4 (hQ (wd51 hw)) Via.refl Fv d18_27 rfl (fun T5 X5 => ?_)
 have Vp6 : Arv Z h0 tb kt .byte cp (tx W ++ [(.int 0), (.int 0), (.int 0)]) (.int 0) := Vt.pad (pad_rep (tx W) (.int 0) 3)
 refine G.o 33 (cells' := 0) (slots' := 0) (argsL := [(.int vv), (.int (own_n (W.length + 3))), (.ref tb)]) (St := []) C X5 (wd122 hw) (wd123 hw) (by decide) (wd124 hw) (wd115 hw) (ctGc3 hw X5.2.1 tb kt do_ dt_ ko kq W cp vv V0 Vp6 gt OD So Sq Vo Vq hcp hb hfit hV hlo hhi) (lenOf pd23 rfl) rfl d18_30 rfl rfl (by decide) (nQ rfl) rfl rfl (by decide) (by decide) (fun v7 T7 h7 Q7 X7 z7 => ?_)
 obtain ⟨hv7, K7, Vt7⟩ := Q7
 subst hv7
 have K8 := (Keep.refl h0 [sb, tb]).trans K7 (allS (mQ 1 rfl) all0)
 refine G.O 34 C X7 d18_33 rfl rfl <| G.r 48 C X7 d18_34 (by decide) (by decide) <| G.b 49 C X7 d18_48 rfl rfl rfl <| G.a 50 C X7 d18_49 rfl rfl ?_
 have f9 := (Fn.keep K7 (ninS nst nin0))
 have f10 := (Es.keep K7)
 refine G.I 53 C X7 (hQ (wd76 hw)) Via.refl f9 f10 gs (Or.inl (wd77 hw)) (wd38 hw) (ty := .int) (by decide) rfl rfl d18_50 rfl (fun T11 h11 X11 W11 F11 => ?_)
 have K12 := K8.wr W11 (mQ 0 rfl)
 refine G.b 54 C X11 d18_53 rfl rfl rfl ?_
 have f13 := (f10.wr W11)
 have f14 := ((Fv.keep K7 (ninS nst nin0)).other W11 (Or.inr (sQ6 hw)))
 have f15 := ((Fc.keep K7 (ninS nst nin0)).other W11 (Or.inr (sQ7 hw)))
 have f16 := ((Et.keep K7).wr W11)
 have f17 := (Vt7.other W11 (Ne.symm nst))
 exact G.J C X11 d18_54 hret rfl rfl hlk (⟨tb, kt, cp, rfl, K12, Or.inl rfl, hcp, (by rw [own_dlen]; exact hfit), nst, f13, f14, f15, (by rw [own_dlen]; exact F11), f16, f17⟩) (by decide) (by decide)
theorem ctAiG3 {l : Launch} {Z : State} {a0 : Array Value} (hw : HW a0 Z) {n0 : Nat} {h0 : Heap} (hn0 : n0 ≤ h0.size) (sb tb : Addr) (kt : ClassId) (W : List Int32) (do_ dt_ : Addr) (ko kq : ClassId) (vv cz : Int32) (V0 : Nat) (Es : Exa Z h0 sb zq3) (Fv : Fld Z h0 sb zq1 "value" "[B" (.ref tb)) (Fc : Fld Z h0 sb zq1 "coder" "B" (.int 0)) (Fn : Fld Z h0 sb zq1 "count" "I" (.int (own_n (W).length))) (Et : Exa Z h0 tb "[B") (Vt : Arv Z h0 tb kt .byte (16 : Int32) (tx W) (.int 0)) (gs : n0 ≤ sb) (gt : n0 ≤ tb) (nst : sb ≠ tb) (So : Sta Z Z.heap zq2 "DigitOnes" "[B" (.ref do_)) (Sq : Sta Z Z.heap zq2 "DigitTens" "[B" (.ref dt_)) (Vo : Arv Z Z.heap do_ ko .byte (100 : Int32) own_ones (.int 0)) (Vq : Arv Z Z.heap dt_ kq .byte (100 : Int32) own_tens (.int 0)) (hb : W.length + 3 < 1000) (hV : vv.toInt = (V0 : Int)) (hlo : 100 ≤ V0) (hhi : V0 < 1000) (hW : W.length ≤ 16) (hg : (0 : Int32) < (own_n (W.length + 3)) - 16 ∧ (own_n (W.length + 3)) - 16 < 18) (hl34 : W.length + 3 < 34) (OD : Old Z n0 h0) (S2 : Sta Z Z.heap zq0 zq5 "Z" (.int cz)) (hcz : ¬ cz = 0) :
 Ctr l Z (⟨zq1, "append", zq8⟩ : MethodName) jdk_68_method_32_code 4 (some (.object zq1)) (rQ 4 1 34 100) n0 #[(.ref sb), (.int vv)] h0 (fun v h => ∃ (t : Addr) (k : ClassId) (cq : Int32), v = some (.ref sb) ∧ Keep h0 h [sb, tb] ∧ (t = tb ∨ h0.size ≤ t) ∧ (cq = 16 ∨ cq = 34) ∧ (W ++ own_dig V0 3).length ≤ cq.toNatClampNeg ∧ sb ≠ t ∧ Exa Z h sb zq3 ∧ Fld Z h sb zq1 "value" "[B" (.ref t) ∧ Fld Z h sb zq1 "coder" "B" (.int 0) ∧ Fld Z h sb zq1 "count" "I" (.int (own_n ((W ++ own_dig V0 3)).length)) ∧ Exa Z h t "[B" ∧ Arv Z h t k .byte cq (tx (W ++ own_dig V0 3)) (.int 0)) := by
 refine Ctr.of (by decide +kernel) hn0 ?_
 intro p e s m below meth c T0 C hnm hret hlk X0
 rw [ef18 m sb vv]
 refine G.b 1 C X0 d18_0 rfl rfl rfl <| G.v 4 C X0 (hQ (wd76 hw)) Via.refl Fn d18_1 rfl fun T1 X1 => G.g 5 C X1 d18_4 rfl (l' := #[vR sb, vI vv, vI (own_n (W).length), .unset]) rfl <| G.a 6 C X1 d18_5 rfl rfl <| G.a 7 C X1 d18_6 rfl rfl <| G.o 10 (cells' := 0) (slots' := 0) (argsL := [(.int vv)]) (St := [(.int (own_n (W).length))]) C X1 (wd113 hw) (wd114 hw) (by decide) (wd116 hw) (wd115 hw) (ctSs3 hw X1.2.1 vv V0 hV hlo hhi) (lenOf pd8 rfl) rfl d18_7 rfl rfl (by decide) (nQ rfl) rfl rfl (by decide) (by decide) (fun v2 T2 h2 Q2 X2 z2 => ?_)
 obtain ⟨hv2, hh2⟩ := Q2
 subst hv2; rw [hh2] at X2
 refine G.z 11 (z := (own_n (W.length + 3))) C X2 d18_10 rfl (own_nk W.length 3 _ rfl) <| G.g 12 C X2 d18_11 rfl (l' := #[vR sb, vI vv, vI (own_n (W).length), vI (own_n (W.length + 3))]) rfl <| G.b 13 C X2 d18_12 rfl rfl rfl <| G.a 14 C X2 d18_13 rfl rfl <| G.N 17 (cells' := 1) (slots' := 34) (argsL := [(.int (own_n (W.length + 3)))]) (St := []) C X2 (wd78 hw) (wd79 hw) (wd80 hw) (wd81 hw) rfl (by decide) Es (wd82 hw) (wd47 hw) (ctEcGA hw X2.2.1 sb tb kt W _ _ Es Fv Fc Vt Fn gs hg.1 hg.2 hW) (lenOf pd5 rfl) rfl d18_14 rfl rfl (by decide) (nQ rfl) rfl rfl (by decide) (by decide) (fun v3 T3 h3 Q3 X3 z3 => ?_)
 obtain ⟨t3, k3, hv3, K3, hz3, Es3, Fv3, Fc3, Fn3, Et3, Vt3⟩ := Q3
 subst hv3
 have K4 := (Keep.refl h0 [sb, tb]).trans K3 (allS (mQ 0 rfl) all0)
 have nb3_sb : sb ≠ t3 := Nat.ne_of_lt (Nat.lt_of_lt_of_le Es.lt hz3)
 refine G.b 18 C X3 d18_17 rfl rfl rfl ?_
 have f5 := (OD.keep K3 (allS gs all0))
 refine G.D 21 (cells' := 1) (slots' := 34) (argsL := []) (St := []) C X3 (wd117 hw) (wd118 hw) (wd120 hw) (wd119 hw) (by decide) Es3 (wd121 hw) (wd47 hw) (ctIlA hw X3.2.1 sb cz Fc3 f5 S2 hcz) (lenOf pd18 rfl) rfl d18_18 rfl rfl (by decide) (nQ rfl) rfl rfl (by decide) (by decide) (fun v6 T6 h6 Q6 X6 z6 => ?_)
 obtain ⟨hv6, hh6⟩ := Q6
 subst hv6; rw [hh6] at X6
 refine G.q 24 C X6 d18_21 rfl (feq (by decide : ¬ (1 : Int32) = 0)).1 <| G.a 25 C X6 d18_24 rfl rfl <| G.a 26 C X6 d18_25 rfl rfl <| G.b 27 C X6 d18_26 rfl rfl rfl <| G.v 30 C X6 (hQ (wd51 hw)) Via.refl Fv3 d18_27 rfl (fun T7 X7 => ?_)
 have Vp8 : Arv Z h3 t3 k3 .byte (34 : Int32) (tx W ++ [(.int 0), (.int 0), (.int 0)]) (.int 0) := Vt3.pad (pad_rep (tx W) (.int 0) 3)
 refine G.o 33 (cells' := 1) (slots' := 34) (argsL := [(.int vv), (.int (own_n (W.length + 3))), (.ref t3)]) (St := []) C X7 (wd122 hw) (wd123 hw) (by decide) (wd124 hw) (wd115 hw) (ctGc3 hw X7.2.1 t3 k3 do_ dt_ ko kq W (34 : Int32) vv V0 Vp8 (Nat.le_trans X2.2.1 hz3) f5 So Sq Vo Vq (Or.inr rfl) hb (by rw [own_cp34]; omega) hV hlo hhi) (lenOf pd23 rfl) rfl d18_30 rfl rfl (by decide) (nQ rfl) rfl rfl (by decide) (by decide) (fun v9 T9 h9 Q9 X9 z9 => ?_)
 obtain ⟨hv9, K9, Vt9⟩ := Q9
 subst hv9
 have K10 := K4.trans K9 (allS (Or.inr (Nat.le_trans (Keep.refl h0 [sb, tb]).1 hz3)) all0)
 refine G.O 34 C X9 d18_33 rfl rfl <| G.r 48 C X9 d18_34 (by decide) (by decide) <| G.b 49 C X9 d18_48 rfl rfl rfl <| G.a 50 C X9 d18_49 rfl rfl ?_
 have f11 := (Fn3.keep K9 (ninS nb3_sb nin0))
 have f12 := (Es3.keep K9)
 refine G.I 53 C X9 (hQ (wd76 hw)) Via.refl f11 f12 gs (Or.inl (wd77 hw)) (wd38 hw) (ty := .int) (by decide) rfl rfl d18_50 rfl (fun T13 h13 X13 W13 F13 => ?_)
 have K14 := K10.wr W13 (mQ 0 rfl)
 refine G.b 54 C X13 d18_53 rfl rfl rfl ?_
 have f15 := (f12.wr W13)
 have f16 := ((Fv3.keep K9 (ninS nb3_sb nin0)).other W13 (Or.inr (sQ6 hw)))
 have f17 := ((Fc3.keep K9 (ninS nb3_sb nin0)).other W13 (Or.inr (sQ7 hw)))
 have f18 := ((Et3.keep K9).wr W13)
 have f19 := (Vt9.other W13 (Ne.symm nb3_sb))
 exact G.J C X13 d18_54 hret rfl rfl hlk (⟨t3, k3, (34 : Int32), rfl, K14, Or.inr (Nat.le_trans (Keep.refl h0 [sb, tb]).1 hz3), Or.inr rfl, (by rw [own_dlen, own_cp34]; omega), nb3_sb, f15, f16, f17, (by rw [own_dlen]; exact F13), f18, f19⟩) (by decide) (by decide)
theorem ctAi3 {l : Launch} {Z : State} {a0 : Array Value} (hw : HW a0 Z) {n0 : Nat} {h0 : Heap} (hn0 : n0 ≤ h0.size) (sb tb : Addr) (kt : ClassId) (W : List Int32) (cp : Int32) (do_ dt_ : Addr) (ko kq : ClassId) (vv cz : Int32) (V0 : Nat) (Es : Exa Z h0 sb zq3) (Fv : Fld Z h0 sb zq1 "value" "[B" (.ref tb)) (Fc : Fld Z h0 sb zq1 "coder" "B" (.int 0)) (Fn : Fld Z h0 sb zq1 "count" "I" (.int (own_n (W).length))) (Et : Exa Z h0 tb "[B") (Vt : Arv Z h0 tb kt .byte cp (tx W) (.int 0)) (gs : n0 ≤ sb) (gt : n0 ≤ tb) (nst : sb ≠ tb) (So : Sta Z Z.heap zq2 "DigitOnes" "[B" (.ref do_)) (Sq : Sta Z Z.heap zq2 "DigitTens" "[B" (.ref dt_)) (Vo : Arv Z Z.heap do_ ko .byte (100 : Int32) own_ones (.int 0)) (Vq : Arv Z Z.heap dt_ kq .byte (100 : Int32) own_tens (.int 0)) (hb : W.length + 3 < 1000) (hV : vv.toInt = (V0 : Int)) (hlo : 100 ≤ V0) (hhi : V0 < 1000) (hcp : cp = 16 ∨ cp = 34) (hwc : W.length ≤ cp.toNatClampNeg) (hl34 : W.length + 3 < 34) (OD : Old Z n0 h0) (S2 : Sta Z Z.heap zq0 zq5 "Z" (.int cz)) (hcz : ¬ cz = 0) :
    Ctr l Z (⟨zq1, "append", zq8⟩ : MethodName) jdk_68_method_32_code 4 (some (.object zq1)) (rQ 4 1 34 100) n0 #[(.ref sb), (.int vv)] h0 (fun v h => ∃ (t : Addr) (k : ClassId) (cq : Int32), v = some (.ref sb) ∧ Keep h0 h [sb, tb] ∧ (t = tb ∨ h0.size ≤ t) ∧ (cq = 16 ∨ cq = 34) ∧ (W ++ own_dig V0 3).length ≤ cq.toNatClampNeg ∧ sb ≠ t ∧ Exa Z h sb zq3 ∧ Fld Z h sb zq1 "value" "[B" (.ref t) ∧ Fld Z h sb zq1 "coder" "B" (.int 0) ∧ Fld Z h sb zq1 "count" "I" (.int (own_n ((W ++ own_dig V0 3)).length)) ∧ Exa Z h t "[B" ∧ Arv Z h t k .byte cq (tx (W ++ own_dig V0 3)) (.int 0)) := by
  by_cases q : W.length + 3 ≤ cp.toNatClampNeg
  · exact ctAiF3 hw hn0 sb tb kt W cp do_ dt_ ko kq vv cz V0 Es Fv Fc Fn Et Vt gs gt nst So Sq Vo Vq hb hV hlo hhi hcp q (own_fit hcp q) OD S2 hcz
  · rcases hcp with rfl | rfl
    · rw [own_cp16] at q hwc; exact ctAiG3 hw hn0 sb tb kt W do_ dt_ ko kq vv cz V0 Es Fv Fc Fn Et Vt gs gt nst So Sq Vo Vq hb hV hlo hhi hwc (own_grow (by omega) hl34) hl34 OD S2 hcz
    · rw [own_cp34] at q; omega
theorem ctAiF4 {l : Launch} {Z : State} {a0 : Array Value} (hw : HW a0 Z) {n0 : Nat} {h0 : Heap} (hn0 : n0 ≤ h0.size) (sb tb : Addr) (kt : ClassId) (W : List Int32) (cp : Int32) (do_ dt_ : Addr) (ko kq : ClassId) (vv cz : Int32) (V0 : Nat) (Es : Exa Z h0 sb zq3) (Fv : Fld Z h0 sb zq1 "value" "[B" (.ref tb)) (Fc : Fld Z h0 sb zq1 "coder" "B" (.int 0)) (Fn : Fld Z h0 sb zq1 "count" "I" (.int (own_n (W).length))) (Et : Exa Z h0 tb "[B") (Vt : Arv Z h0 tb kt .byte cp (tx W) (.int 0)) (gs : n0 ≤ sb) (gt : n0 ≤ tb) (nst : sb ≠ tb) (So : Sta Z Z.heap zq2 "DigitOnes" "[B" (.ref do_)) (Sq : Sta Z Z.heap zq2 "DigitTens" "[B" (.ref dt_)) (Vo : Arv Z Z.heap do_ ko .byte (100 : Int32) own_ones (.int 0)) (Vq : Arv Z Z.heap dt_ kq .byte (100 : Int32) own_tens (.int 0)) (hb : W.length + 4 < 1000) (hV : vv.toInt = (V0 : Int)) (hlo : 1000 ≤ V0) (hhi : V0 < 10000) (hcp : cp = 16 ∨ cp = 34) (hfit : W.length + 4 ≤ cp.toNatClampNeg) (hj : ¬ (0 : Int32) < (own_n (W.length + 4)) - cp) (OD : Old Z n0 h0) (S2 : Sta Z Z.heap zq0 zq5 "Z" (.int cz)) (hcz : ¬ cz = 0) :
 Ctr l Z (⟨zq1, "append", zq8⟩ : MethodName) jdk_68_method_32_code 4 (some (.object zq1)) (rQ 4 1 34 100) n0 #[(.ref sb), (.int vv)] h0 (fun v h => ∃ (t : Addr) (k : ClassId) (cq : Int32), v = some (.ref sb) ∧ Keep h0 h [sb, tb] ∧ (t = tb ∨ h0.size ≤ t) ∧ (cq = 16 ∨ cq = 34) ∧ (W ++ own_dig V0 4).length ≤ cq.toNatClampNeg ∧ sb ≠ t ∧ Exa Z h sb zq3 ∧ Fld Z h sb zq1 "value" "[B" (.ref t) ∧ Fld Z h sb zq1 "coder" "B" (.int 0) ∧ Fld Z h sb zq1 "count" "I" (.int (own_n ((W ++ own_dig V0 4)).length)) ∧ Exa Z h t "[B" ∧ Arv Z h t k .byte cq (tx (W ++ own_dig V0 4)) (.int 0)) := by
 refine Ctr.of (by decide +kernel) hn0 ?_
 intro p e s m below meth c T0 C hnm hret hlk X0
 rw [ef18 m sb vv]
 refine G.b 1 C X0 d18_0 rfl rfl rfl <| G.v 4 C X0 (hQ (wd76 hw)) Via.refl Fn d18_1 rfl fun T1 X1 => G.g 5 C X1 d18_4 rfl (l' := #[vR sb, vI vv, vI (own_n (W).length), .unset]) rfl <| G.a 6 C X1 d18_5 rfl rfl <| G.a 7 C X1 d18_6 rfl rfl <| G.o 10 (cells' := 0) (slots' := 0) (argsL := [(.int vv)]) (St := [(.int (own_n (W).length))]) C X1 (wd113 hw) (wd114 hw) (by decide) (wd116 hw) (wd115 hw) (ctSs4 hw X1.2.1 vv V0 hV hlo hhi) (lenOf pd8 rfl) rfl d18_7 rfl rfl (by decide) (nQ rfl) rfl rfl (by decide) (by decide) (fun v2 T2 h2 Q2 X2 z2 => ?_)
 obtain ⟨hv2, hh2⟩ := Q2
 subst hv2; rw [hh2] at X2
 refine G.z 11 (z := (own_n (W.length + 4))) C X2 d18_10 rfl (own_nk W.length 4 _ rfl) <| G.g 12 C X2 d18_11 rfl (l' := #[vR sb, vI vv, vI (own_n (W).length), vI (own_n (W.length + 4))]) rfl <| G.b 13 C X2 d18_12 rfl rfl rfl <| G.a 14 C X2 d18_13 rfl rfl <| G.N 17 (cells' := 0) (slots' := 0) (argsL := [(.int (own_n (W.length + 4)))]) (St := []) C X2 (wd78 hw) (wd79 hw) (wd80 hw) (wd81 hw) rfl (by decide) Es (wd82 hw) (wd47 hw) (ctEcFA hw X2.2.1 sb tb kt _ cp _ Es Fv Fc Vt hj) (lenOf pd5 rfl) rfl d18_14 rfl rfl (by decide) (nQ rfl) rfl rfl (by decide) (by decide) (fun v3 T3 h3 Q3 X3 z3 => ?_)
 obtain ⟨hv3, hh3⟩ := Q3
 subst hv3; rw [hh3] at X3
 refine G.b 18 C X3 d18_17 rfl rfl rfl <| G.D 21 (cells' := 0) (slots' := 0) (argsL := []) (St := []) C X3 (wd117 hw) (wd118 hw) (wd120 hw) (wd119 hw) (by decide) Es (wd121 hw) (wd47 hw) (ctIlA hw X3.2.1 sb cz Fc OD S2 hcz) (lenOf pd18 rfl) rfl d18_18 rfl rfl (by decide) (nQ rfl) rfl rfl (by decide) (by decide) (fun v4 T4 h4 Q4 X4 z4 => ?_)
 obtain ⟨hv4, hh4⟩ := Q4
 subst hv4; rw [hh4] at X4
 refine G.q 24 C X4 d18_21 rfl (feq (by decide : ¬ (1 : Int32) = 0)).1 <| G.a 25 C X4 d18_24 rfl rfl <| G.a 26 C X4 d18_25 rfl rfl <| G.b 27 C X4 d18_26 rfl rfl rfl <| G.v 30 C X4 (hQ (wd51 hw)) Via.refl Fv d18_27 rfl (fun T5 X5 => ?_)
 have Vp6 : Arv Z h0 tb kt .byte cp (tx W ++ [(.int 0), (.int 0), (.int 0), (.int 0)]) (.int 0) := Vt.pad (pad_rep (tx W) (.int 0) 4)
 refine G.o 33 (cells' := 0) (slots' := 0) (argsL := [(.int vv), (.int (own_n (W.length + 4))), (.ref tb)]) (St := []) C X5 (wd122 hw) (wd123 hw) (by decide) (wd124 hw) (wd115 hw) (ctGc4 hw X5.2.1 tb kt do_ dt_ ko kq W cp vv V0 Vp6 gt OD So Sq Vo Vq hcp hb hfit hV hlo hhi) (lenOf pd23 rfl) rfl d18_30 rfl rfl (by decide) (nQ rfl) rfl rfl (by decide) (by decide) (fun v7 T7 h7 Q7 X7 z7 => ?_)
 obtain ⟨hv7, K7, Vt7⟩ := Q7
 subst hv7
 have K8 := (Keep.refl h0 [sb, tb]).trans K7 (allS (mQ 1 rfl) all0)
 refine G.O 34 C X7 d18_33 rfl rfl <| G.r 48 C X7 d18_34 (by decide) (by decide) <| G.b 49 C X7 d18_48 rfl rfl rfl <| G.a 50 C X7 d18_49 rfl rfl ?_
 have f9 := (Fn.keep K7 (ninS nst nin0))
 have f10 := (Es.keep K7)
 refine G.I 53 C X7 (hQ (wd76 hw)) Via.refl f9 f10 gs (Or.inl (wd77 hw)) (wd38 hw) (ty := .int) (by decide) rfl rfl d18_50 rfl (fun T11 h11 X11 W11 F11 => ?_)
 have K12 := K8.wr W11 (mQ 0 rfl)
 refine G.b 54 C X11 d18_53 rfl rfl rfl ?_
 have f13 := (f10.wr W11)
 have f14 := ((Fv.keep K7 (ninS nst nin0)).other W11 (Or.inr (sQ6 hw)))
 have f15 := ((Fc.keep K7 (ninS nst nin0)).other W11 (Or.inr (sQ7 hw)))
 have f16 := ((Et.keep K7).wr W11)
 have f17 := (Vt7.other W11 (Ne.symm nst))
 exact G.J C X11 d18_54 hret rfl rfl hlk (⟨tb, kt, cp, rfl, K12, Or.inl rfl, hcp, (by rw [own_dlen]; exact hfit), nst, f13, f14, f15, (by rw [own_dlen]; exact F11), f16, f17⟩) (by decide) (by decide)
theorem ctAiG4 {l : Launch} {Z : State} {a0 : Array Value} (hw : HW a0 Z) {n0 : Nat} {h0 : Heap} (hn0 : n0 ≤ h0.size) (sb tb : Addr) (kt : ClassId) (W : List Int32) (do_ dt_ : Addr) (ko kq : ClassId) (vv cz : Int32) (V0 : Nat) (Es : Exa Z h0 sb zq3) (Fv : Fld Z h0 sb zq1 "value" "[B" (.ref tb)) (Fc : Fld Z h0 sb zq1 "coder" "B" (.int 0)) (Fn : Fld Z h0 sb zq1 "count" "I" (.int (own_n (W).length))) (Et : Exa Z h0 tb "[B") (Vt : Arv Z h0 tb kt .byte (16 : Int32) (tx W) (.int 0)) (gs : n0 ≤ sb) (gt : n0 ≤ tb) (nst : sb ≠ tb) (So : Sta Z Z.heap zq2 "DigitOnes" "[B" (.ref do_)) (Sq : Sta Z Z.heap zq2 "DigitTens" "[B" (.ref dt_)) (Vo : Arv Z Z.heap do_ ko .byte (100 : Int32) own_ones (.int 0)) (Vq : Arv Z Z.heap dt_ kq .byte (100 : Int32) own_tens (.int 0)) (hb : W.length + 4 < 1000) (hV : vv.toInt = (V0 : Int)) (hlo : 1000 ≤ V0) (hhi : V0 < 10000) (hW : W.length ≤ 16) (hg : (0 : Int32) < (own_n (W.length + 4)) - 16 ∧ (own_n (W.length + 4)) - 16 < 18) (hl34 : W.length + 4 < 34) (OD : Old Z n0 h0) (S2 : Sta Z Z.heap zq0 zq5 "Z" (.int cz)) (hcz : ¬ cz = 0) :
 Ctr l Z (⟨zq1, "append", zq8⟩ : MethodName) jdk_68_method_32_code 4 (some (.object zq1)) (rQ 4 1 34 100) n0 #[(.ref sb), (.int vv)] h0 (fun v h => ∃ (t : Addr) (k : ClassId) (cq : Int32), v = some (.ref sb) ∧ Keep h0 h [sb, tb] ∧ (t = tb ∨ h0.size ≤ t) ∧ (cq = 16 ∨ cq = 34) ∧ (W ++ own_dig V0 4).length ≤ cq.toNatClampNeg ∧ sb ≠ t ∧ Exa Z h sb zq3 ∧ Fld Z h sb zq1 "value" "[B" (.ref t) ∧ Fld Z h sb zq1 "coder" "B" (.int 0) ∧ Fld Z h sb zq1 "count" "I" (.int (own_n ((W ++ own_dig V0 4)).length)) ∧ Exa Z h t "[B" ∧ Arv Z h t k .byte cq (tx (W ++ own_dig V0 4)) (.int 0)) := by
 refine Ctr.of (by decide +kernel) hn0 ?_
 intro p e s m below meth c T0 C hnm hret hlk X0
 rw [ef18 m sb vv]
 refine G.b 1 C X0 d18_0 rfl rfl rfl <| G.v 4 C X0 (hQ (wd76 hw)) Via.refl Fn d18_1 rfl fun T1 X1 => G.g 5 C X1 d18_4 rfl (l' := #[vR sb, vI vv, vI (own_n (W).length), .unset]) rfl <| G.a 6 C X1 d18_5 rfl rfl <| G.a 7 C X1 d18_6 rfl rfl <| G.o 10 (cells' := 0) (slots' := 0) (argsL := [(.int vv)]) (St := [(.int (own_n (W).length))]) C X1 (wd113 hw) (wd114 hw) (by decide) (wd116 hw) (wd115 hw) (ctSs4 hw X1.2.1 vv V0 hV hlo hhi) (lenOf pd8 rfl) rfl d18_7 rfl rfl (by decide) (nQ rfl) rfl rfl (by decide) (by decide) (fun v2 T2 h2 Q2 X2 z2 => ?_)
 obtain ⟨hv2, hh2⟩ := Q2
 subst hv2; rw [hh2] at X2
 refine G.z 11 (z := (own_n (W.length + 4))) C X2 d18_10 rfl (own_nk W.length 4 _ rfl) <| G.g 12 C X2 d18_11 rfl (l' := #[vR sb, vI vv, vI (own_n (W).length), vI (own_n (W.length + 4))]) rfl <| G.b 13 C X2 d18_12 rfl rfl rfl <| G.a 14 C X2 d18_13 rfl rfl <| G.N 17 (cells' := 1) (slots' := 34) (argsL := [(.int (own_n (W.length + 4)))]) (St := []) C X2 (wd78 hw) (wd79 hw) (wd80 hw) (wd81 hw) rfl (by decide) Es (wd82 hw) (wd47 hw) (ctEcGA hw X2.2.1 sb tb kt W _ _ Es Fv Fc Vt Fn gs hg.1 hg.2 hW) (lenOf pd5 rfl) rfl d18_14 rfl rfl (by decide) (nQ rfl) rfl rfl (by decide) (by decide) (fun v3 T3 h3 Q3 X3 z3 => ?_)
 obtain ⟨t3, k3, hv3, K3, hz3, Es3, Fv3, Fc3, Fn3, Et3, Vt3⟩ := Q3
 subst hv3
 have K4 := (Keep.refl h0 [sb, tb]).trans K3 (allS (mQ 0 rfl) all0)
 have nb3_sb : sb ≠ t3 := Nat.ne_of_lt (Nat.lt_of_lt_of_le Es.lt hz3)
 refine G.b 18 C X3 d18_17 rfl rfl rfl ?_
 have f5 := (OD.keep K3 (allS gs all0))
 refine G.D 21 (cells' := 1) (slots' := 34) (argsL := []) (St := []) C X3 (wd117 hw) (wd118 hw) (wd120 hw) (wd119 hw) (by decide) Es3 (wd121 hw) (wd47 hw) (ctIlA hw X3.2.1 sb cz Fc3 f5 S2 hcz) (lenOf pd18 rfl) rfl d18_18 rfl rfl (by decide) (nQ rfl) rfl rfl (by decide) (by decide) (fun v6 T6 h6 Q6 X6 z6 => ?_)
 obtain ⟨hv6, hh6⟩ := Q6
 subst hv6; rw [hh6] at X6
 refine G.q 24 C X6 d18_21 rfl (feq (by decide : ¬ (1 : Int32) = 0)).1 <| G.a 25 C X6 d18_24 rfl rfl <| G.a 26 C X6 d18_25 rfl rfl <| G.b 27 C X6 d18_26 rfl rfl rfl <| G.v 30 C X6 (hQ (wd51 hw)) Via.refl Fv3 d18_27 rfl (fun T7 X7 => ?_)
 have Vp8 : Arv Z h3 t3 k3 .byte (34 : Int32) (tx W ++ [(.int 0), (.int 0), (.int 0), (.int 0)]) (.int 0) := Vt3.pad (pad_rep (tx W) (.int 0) 4)
 refine G.o 33 (cells' := 1) (slots' := 34) (argsL := [(.int vv), (.int (own_n (W.length + 4))), (.ref t3)]) (St := []) C X7 (wd122 hw) (wd123 hw) (by decide) (wd124 hw) (wd115 hw) (ctGc4 hw X7.2.1 t3 k3 do_ dt_ ko kq W (34 : Int32) vv V0 Vp8 (Nat.le_trans X2.2.1 hz3) f5 So Sq Vo Vq (Or.inr rfl) hb (by rw [own_cp34]; omega) hV hlo hhi) (lenOf pd23 rfl) rfl d18_30 rfl rfl (by decide) (nQ rfl) rfl rfl (by decide) (by decide) (fun v9 T9 h9 Q9 X9 z9 => ?_)
 obtain ⟨hv9, K9, Vt9⟩ := Q9
 subst hv9
 have K10 := K4.trans K9 (allS (Or.inr (Nat.le_trans (Keep.refl h0 [sb, tb]).1 hz3)) all0)
 refine G.O 34 C X9 d18_33 rfl rfl <| G.r 48 C X9 d18_34 (by decide) (by decide) <| G.b 49 C X9 d18_48 rfl rfl rfl <| G.a 50 C X9 d18_49 rfl rfl ?_
 have f11 := (Fn3.keep K9 (ninS nb3_sb nin0))
 have f12 := (Es3.keep K9)
 refine G.I 53 C X9 (hQ (wd76 hw)) Via.refl f11 f12 gs (Or.inl (wd77 hw)) (wd38 hw) (ty := .int) (by decide) rfl rfl d18_50 rfl (fun T13 h13 X13 W13 F13 => ?_)
 have K14 := K10.wr W13 (mQ 0 rfl)
 refine G.b 54 C X13 d18_53 rfl rfl rfl ?_
 have f15 := (f12.wr W13)
 have f16 := ((Fv3.keep K9 (ninS nb3_sb nin0)).other W13 (Or.inr (sQ6 hw)))
 have f17 := ((Fc3.keep K9 (ninS nb3_sb nin0)).other W13 (Or.inr (sQ7 hw)))
 have f18 := ((Et3.keep K9).wr W13)
 have f19 := (Vt9.other W13 (Ne.symm nb3_sb))
 exact G.J C X13 d18_54 hret rfl rfl hlk (⟨t3, k3, (34 : Int32), rfl, K14, Or.inr (Nat.le_trans (Keep.refl h0 [sb, tb]).1 hz3), Or.inr rfl, (by rw [own_dlen, own_cp34]; omega), nb3_sb, f15, f16, f17, (by rw [own_dlen]; exact F13), f18, f19⟩) (by decide) (by decide)
theorem ctAi4 {l : Launch} {Z : State} {a0 : Array Value} (hw : HW a0 Z) {n0 : Nat} {h0 : Heap} (hn0 : n0 ≤ h0.size) (sb tb : Addr) (kt : ClassId) (W : List Int32) (cp : Int32) (do_ dt_ : Addr) (ko kq : ClassId) (vv cz : Int32) (V0 : Nat) (Es : Exa Z h0 sb zq3) (Fv : Fld Z h0 sb zq1 "value" "[B" (.ref tb)) (Fc : Fld Z h0 sb zq1 "coder" "B" (.int 0)) (Fn : Fld Z h0 sb zq1 "count" "I" (.int (own_n (W).length))) (Et : Exa Z h0 tb "[B") (Vt : Arv Z h0 tb kt .byte cp (tx W) (.int 0)) (gs : n0 ≤ sb) (gt : n0 ≤ tb) (nst : sb ≠ tb) (So : Sta Z Z.heap zq2 "DigitOnes" "[B" (.ref do_)) (Sq : Sta Z Z.heap zq2 "DigitTens" "[B" (.ref dt_)) (Vo : Arv Z Z.heap do_ ko .byte (100 : Int32) own_ones (.int 0)) (Vq : Arv Z Z.heap dt_ kq .byte (100 : Int32) own_tens (.int 0)) (hb : W.length + 4 < 1000) (hV : vv.toInt = (V0 : Int)) (hlo : 1000 ≤ V0) (hhi : V0 < 10000) (hcp : cp = 16 ∨ cp = 34) (hwc : W.length ≤ cp.toNatClampNeg) (hl34 : W.length + 4 < 34) (OD : Old Z n0 h0) (S2 : Sta Z Z.heap zq0 zq5 "Z" (.int cz)) (hcz : ¬ cz = 0) :
    Ctr l Z (⟨zq1, "append", zq8⟩ : MethodName) jdk_68_method_32_code 4 (some (.object zq1)) (rQ 4 1 34 100) n0 #[(.ref sb), (.int vv)] h0 (fun v h => ∃ (t : Addr) (k : ClassId) (cq : Int32), v = some (.ref sb) ∧ Keep h0 h [sb, tb] ∧ (t = tb ∨ h0.size ≤ t) ∧ (cq = 16 ∨ cq = 34) ∧ (W ++ own_dig V0 4).length ≤ cq.toNatClampNeg ∧ sb ≠ t ∧ Exa Z h sb zq3 ∧ Fld Z h sb zq1 "value" "[B" (.ref t) ∧ Fld Z h sb zq1 "coder" "B" (.int 0) ∧ Fld Z h sb zq1 "count" "I" (.int (own_n ((W ++ own_dig V0 4)).length)) ∧ Exa Z h t "[B" ∧ Arv Z h t k .byte cq (tx (W ++ own_dig V0 4)) (.int 0)) := by
  by_cases q : W.length + 4 ≤ cp.toNatClampNeg
  · exact ctAiF4 hw hn0 sb tb kt W cp do_ dt_ ko kq vv cz V0 Es Fv Fc Fn Et Vt gs gt nst So Sq Vo Vq hb hV hlo hhi hcp q (own_fit hcp q) OD S2 hcz
  · rcases hcp with rfl | rfl
    · rw [own_cp16] at q hwc; exact ctAiG4 hw hn0 sb tb kt W do_ dt_ ko kq vv cz V0 Es Fv Fc Fn Et Vt gs gt nst So Sq Vo Vq hb hV hlo hhi hwc (own_grow (by omega) hl34) hl34 OD S2 hcz
    · rw [own_cp34] at q; omega
theorem ctAiF5 {l : Launch} {Z : State} {a0 : Array Value} (hw : HW a0 Z) {n0 : Nat} {h0 : Heap} (hn0 : n0 ≤ h0.size) (sb tb : Addr) (kt : ClassId) (W : List Int32) (cp : Int32) (do_ dt_ : Addr) (ko kq : ClassId) (vv cz : Int32) (V0 : Nat) (Es : Exa Z h0 sb zq3) (Fv : Fld Z h0 sb zq1 "value" "[B" (.ref tb)) (Fc : Fld Z h0 sb zq1 "coder" "B" (.int 0)) (Fn : Fld Z h0 sb zq1 "count" "I" (.int (own_n (W).length))) (Et : Exa Z h0 tb "[B") (Vt : Arv Z h0 tb kt .byte cp (tx W) (.int 0)) (gs : n0 ≤ sb) (gt : n0 ≤ tb) (nst : sb ≠ tb) (So : Sta Z Z.heap zq2 "DigitOnes" "[B" (.ref do_)) (Sq : Sta Z Z.heap zq2 "DigitTens" "[B" (.ref dt_)) (Vo : Arv Z Z.heap do_ ko .byte (100 : Int32) own_ones (.int 0)) (Vq : Arv Z Z.heap dt_ kq .byte (100 : Int32) own_tens (.int 0)) (hb : W.length + 5 < 1000) (hV : vv.toInt = (V0 : Int)) (hlo : 10000 ≤ V0) (hhi : V0 < 100000) (hcp : cp = 16 ∨ cp = 34) (hfit : W.length + 5 ≤ cp.toNatClampNeg) (hj : ¬ (0 : Int32) < (own_n (W.length + 5)) - cp) (OD : Old Z n0 h0) (S2 : Sta Z Z.heap zq0 zq5 "Z" (.int cz)) (hcz : ¬ cz = 0) :
 Ctr l Z (⟨zq1, "append", zq8⟩ : MethodName) jdk_68_method_32_code 4 (some (.object zq1)) (rQ 4 1 34 100) n0 #[(.ref sb), (.int vv)] h0 (fun v h => ∃ (t : Addr) (k : ClassId) (cq : Int32), v = some (.ref sb) ∧ Keep h0 h [sb, tb] ∧ (t = tb ∨ h0.size ≤ t) ∧ (cq = 16 ∨ cq = 34) ∧ (W ++ own_dig V0 5).length ≤ cq.toNatClampNeg ∧ sb ≠ t ∧ Exa Z h sb zq3 ∧ Fld Z h sb zq1 "value" "[B" (.ref t) ∧ Fld Z h sb zq1 "coder" "B" (.int 0) ∧ Fld Z h sb zq1 "count" "I" (.int (own_n ((W ++ own_dig V0 5)).length)) ∧ Exa Z h t "[B" ∧ Arv Z h t k .byte cq (tx (W ++ own_dig V0 5)) (.int 0)) := by
 refine Ctr.of (by decide +kernel) hn0 ?_
 intro p e s m below meth c T0 C hnm hret hlk X0
 rw [ef18 m sb vv]
 refine G.b 1 C X0 d18_0 rfl rfl rfl <| G.v 4 C X0 (hQ (wd76 hw)) Via.refl Fn d18_1 rfl fun T1 X1 => G.g 5 C X1 d18_4 rfl (l' := #[vR sb, vI vv, vI (own_n (W).length), .unset]) rfl <| G.a 6 C X1 d18_5 rfl rfl <| G.a 7 C X1 d18_6 rfl rfl <| G.o 10 (cells' := 0) (slots' := 0) (argsL := [(.int vv)]) (St := [(.int (own_n (W).length))]) C X1 (wd113 hw) (wd114 hw) (by decide) (wd116 hw) (wd115 hw) (ctSs5 hw X1.2.1 vv V0 hV hlo hhi) (lenOf pd8 rfl) rfl d18_7 rfl rfl (by decide) (nQ rfl) rfl rfl (by decide) (by decide) (fun v2 T2 h2 Q2 X2 z2 => ?_)
 obtain ⟨hv2, hh2⟩ := Q2
 subst hv2; rw [hh2] at X2
 refine G.z 11 (z := (own_n (W.length + 5))) C X2 d18_10 rfl (own_nk W.length 5 _ rfl) <| G.g 12 C X2 d18_11 rfl (l' := #[vR sb, vI vv, vI (own_n (W).length), vI (own_n (W.length + 5))]) rfl <| G.b 13 C X2 d18_12 rfl rfl rfl <| G.a 14 C X2 d18_13 rfl rfl <| G.N 17 (cells' := 0) (slots' := 0) (argsL := [(.int (own_n (W.length + 5)))]) (St := []) C X2 (wd78 hw) (wd79 hw) (wd80 hw) (wd81 hw) rfl (by decide) Es (wd82 hw) (wd47 hw) (ctEcFA hw X2.2.1 sb tb kt _ cp _ Es Fv Fc Vt hj) (lenOf pd5 rfl) rfl d18_14 rfl rfl (by decide) (nQ rfl) rfl rfl (by decide) (by decide) (fun v3 T3 h3 Q3 X3 z3 => ?_)
 obtain ⟨hv3, hh3⟩ := Q3
 subst hv3; rw [hh3] at X3
 refine G.b 18 C X3 d18_17 rfl rfl rfl <| G.D 21 (cells' := 0) (slots' := 0) (argsL := []) (St := []) C X3 (wd117 hw) (wd118 hw) (wd120 hw) (wd119 hw) (by decide) Es (wd121 hw) (wd47 hw) (ctIlA hw X3.2.1 sb cz Fc OD S2 hcz) (lenOf pd18 rfl) rfl d18_18 rfl rfl (by decide) (nQ rfl) rfl rfl (by decide) (by decide) (fun v4 T4 h4 Q4 X4 z4 => ?_)
 obtain ⟨hv4, hh4⟩ := Q4
 subst hv4; rw [hh4] at X4
 refine G.q 24 C X4 d18_21 rfl (feq (by decide : ¬ (1 : Int32) = 0)).1 <| G.a 25 C X4 d18_24 rfl rfl <| G.a 26 C X4 d18_25 rfl rfl <| G.b 27 C X4 d18_26 rfl rfl rfl <| G.v 30 C X4 (hQ (wd51 hw)) Via.refl Fv d18_27 rfl (fun T5 X5 => ?_)
 have Vp6 : Arv Z h0 tb kt .byte cp (tx W ++ [(.int 0), (.int 0), (.int 0), (.int 0), (.int 0)]) (.int 0) := Vt.pad (pad_rep (tx W) (.int 0) 5)
 refine G.o 33 (cells' := 0) (slots' := 0) (argsL := [(.int vv), (.int (own_n (W.length + 5))), (.ref tb)]) (St := []) C X5 (wd122 hw) (wd123 hw) (by decide) (wd124 hw) (wd115 hw) (ctGc5 hw X5.2.1 tb kt do_ dt_ ko kq W cp vv V0 Vp6 gt OD So Sq Vo Vq hcp hb hfit hV hlo hhi) (lenOf pd23 rfl) rfl d18_30 rfl rfl (by decide) (nQ rfl) rfl rfl (by decide) (by decide) (fun v7 T7 h7 Q7 X7 z7 => ?_)
 obtain ⟨hv7, K7, Vt7⟩ := Q7
 subst hv7
 have K8 := (Keep.refl h0 [sb, tb]).trans K7 (allS (mQ 1 rfl) all0)
 refine G.O 34 C X7 d18_33 rfl rfl <| G.r 48 C X7 d18_34 (by decide) (by decide) <| G.b 49 C X7 d18_48 rfl rfl rfl <| G.a 50 C X7 d18_49 rfl rfl ?_
 have f9 := (Fn.keep K7 (ninS nst nin0))
 have f10 := (Es.keep K7)
 refine G.I 53 C X7 (hQ (wd76 hw)) Via.refl f9 f10 gs (Or.inl (wd77 hw)) (wd38 hw) (ty := .int) (by decide) rfl rfl d18_50 rfl (fun T11 h11 X11 W11 F11 => ?_)
 have K12 := K8.wr W11 (mQ 0 rfl)
 refine G.b 54 C X11 d18_53 rfl rfl rfl ?_
 have f13 := (f10.wr W11)
 have f14 := ((Fv.keep K7 (ninS nst nin0)).other W11 (Or.inr (sQ6 hw)))
 have f15 := ((Fc.keep K7 (ninS nst nin0)).other W11 (Or.inr (sQ7 hw)))
 have f16 := ((Et.keep K7).wr W11)
 have f17 := (Vt7.other W11 (Ne.symm nst))
 exact G.J C X11 d18_54 hret rfl rfl hlk (⟨tb, kt, cp, rfl, K12, Or.inl rfl, hcp, (by rw [own_dlen]; exact hfit), nst, f13, f14, f15, (by rw [own_dlen]; exact F11), f16, f17⟩) (by decide) (by decide)
theorem ctAiG5 {l : Launch} {Z : State} {a0 : Array Value} (hw : HW a0 Z) {n0 : Nat} {h0 : Heap} (hn0 : n0 ≤ h0.size) (sb tb : Addr) (kt : ClassId) (W : List Int32) (do_ dt_ : Addr) (ko kq : ClassId) (vv cz : Int32) (V0 : Nat) (Es : Exa Z h0 sb zq3) (Fv : Fld Z h0 sb zq1 "value" "[B" (.ref tb)) (Fc : Fld Z h0 sb zq1 "coder" "B" (.int 0)) (Fn : Fld Z h0 sb zq1 "count" "I" (.int (own_n (W).length))) (Et : Exa Z h0 tb "[B") (Vt : Arv Z h0 tb kt .byte (16 : Int32) (tx W) (.int 0)) (gs : n0 ≤ sb) (gt : n0 ≤ tb) (nst : sb ≠ tb) (So : Sta Z Z.heap zq2 "DigitOnes" "[B" (.ref do_)) (Sq : Sta Z Z.heap zq2 "DigitTens" "[B" (.ref dt_)) (Vo : Arv Z Z.heap do_ ko .byte (100 : Int32) own_ones (.int 0)) (Vq : Arv Z Z.heap dt_ kq .byte (100 : Int32) own_tens (.int 0)) (hb : W.length + 5 < 1000) (hV : vv.toInt = (V0 : Int)) (hlo : 10000 ≤ V0) (hhi : V0 < 100000) (hW : W.length ≤ 16) (hg : (0 : Int32) < (own_n (W.length + 5)) - 16 ∧ (own_n (W.length + 5)) - 16 < 18) (hl34 : W.length + 5 < 34) (OD : Old Z n0 h0) (S2 : Sta Z Z.heap zq0 zq5 "Z" (.int cz)) (hcz : ¬ cz = 0) :
 Ctr l Z (⟨zq1, "append", zq8⟩ : MethodName) jdk_68_method_32_code 4 (some (.object zq1)) (rQ 4 1 34 100) n0 #[(.ref sb), (.int vv)] h0 (fun v h => ∃ (t : Addr) (k : ClassId) (cq : Int32), v = some (.ref sb) ∧ Keep h0 h [sb, tb] ∧ (t = tb ∨ h0.size ≤ t) ∧ (cq = 16 ∨ cq = 34) ∧ (W ++ own_dig V0 5).length ≤ cq.toNatClampNeg ∧ sb ≠ t ∧ Exa Z h sb zq3 ∧ Fld Z h sb zq1 "value" "[B" (.ref t) ∧ Fld Z h sb zq1 "coder" "B" (.int 0) ∧ Fld Z h sb zq1 "count" "I" (.int (own_n ((W ++ own_dig V0 5)).length)) ∧ Exa Z h t "[B" ∧ Arv Z h t k .byte cq (tx (W ++ own_dig V0 5)) (.int 0)) := by
 refine Ctr.of (by decide +kernel) hn0 ?_
 intro p e s m below meth c T0 C hnm hret hlk X0
 rw [ef18 m sb vv]
 refine G.b 1 C X0 d18_0 rfl rfl rfl <| G.v 4 C X0 (hQ (wd76 hw)) Via.refl Fn d18_1 rfl fun T1 X1 => G.g 5 C X1 d18_4 rfl (l' := #[vR sb, vI vv, vI (own_n (W).length), .unset]) rfl <| G.a 6 C X1 d18_5 rfl rfl <| G.a 7 C X1 d18_6 rfl rfl <| G.o 10 (cells' := 0) (slots' := 0) (argsL := [(.int vv)]) (St := [(.int (own_n (W).length))]) C X1 (wd113 hw) (wd114 hw) (by decide) (wd116 hw) (wd115 hw) (ctSs5 hw X1.2.1 vv V0 hV hlo hhi) (lenOf pd8 rfl) rfl d18_7 rfl rfl (by decide) (nQ rfl) rfl rfl (by decide) (by decide) (fun v2 T2 h2 Q2 X2 z2 => ?_)
 obtain ⟨hv2, hh2⟩ := Q2
 subst hv2; rw [hh2] at X2
 refine G.z 11 (z := (own_n (W.length + 5))) C X2 d18_10 rfl (own_nk W.length 5 _ rfl) <| G.g 12 C X2 d18_11 rfl (l' := #[vR sb, vI vv, vI (own_n (W).length), vI (own_n (W.length + 5))]) rfl <| G.b 13 C X2 d18_12 rfl rfl rfl <| G.a 14 C X2 d18_13 rfl rfl <| G.N 17 (cells' := 1) (slots' := 34) (argsL := [(.int (own_n (W.length + 5)))]) (St := []) C X2 (wd78 hw) (wd79 hw) (wd80 hw) (wd81 hw) rfl (by decide) Es (wd82 hw) (wd47 hw) (ctEcGA hw X2.2.1 sb tb kt W _ _ Es Fv Fc Vt Fn gs hg.1 hg.2 hW) (lenOf pd5 rfl) rfl d18_14 rfl rfl (by decide) (nQ rfl) rfl rfl (by decide) (by decide) (fun v3 T3 h3 Q3 X3 z3 => ?_)
 obtain ⟨t3, k3, hv3, K3, hz3, Es3, Fv3, Fc3, Fn3, Et3, Vt3⟩ := Q3
 subst hv3
 have K4 := (Keep.refl h0 [sb, tb]).trans K3 (allS (mQ 0 rfl) all0)
 have nb3_sb : sb ≠ t3 := Nat.ne_of_lt (Nat.lt_of_lt_of_le Es.lt hz3)
 refine G.b 18 C X3 d18_17 rfl rfl rfl ?_
 have f5 := (OD.keep K3 (allS gs all0))
 refine G.D 21 (cells' := 1) (slots' := 34) (argsL := []) (St := []) C X3 (wd117 hw) (wd118 hw) (wd120 hw) (wd119 hw) (by decide) Es3 (wd121 hw) (wd47 hw) (ctIlA hw X3.2.1 sb cz Fc3 f5 S2 hcz) (lenOf pd18 rfl) rfl d18_18 rfl rfl (by decide) (nQ rfl) rfl rfl (by decide) (by decide) (fun v6 T6 h6 Q6 X6 z6 => ?_)
 obtain ⟨hv6, hh6⟩ := Q6
 subst hv6; rw [hh6] at X6
 refine G.q 24 C X6 d18_21 rfl (feq (by decide : ¬ (1 : Int32) = 0)).1 <| G.a 25 C X6 d18_24 rfl rfl <| G.a 26 C X6 d18_25 rfl rfl <| G.b 27 C X6 d18_26 rfl rfl rfl <| G.v 30 C X6 (hQ (wd51 hw)) Via.refl Fv3 d18_27 rfl (fun T7 X7 => ?_)
 have Vp8 : Arv Z h3 t3 k3 .byte (34 : Int32) (tx W ++ [(.int 0), (.int 0), (.int 0), (.int 0), (.int 0)]) (.int 0) := Vt3.pad (pad_rep (tx W) (.int 0) 5)
 refine G.o 33 (cells' := 1) (slots' := 34) (argsL := [(.int vv), (.int (own_n (W.length + 5))), (.ref t3)]) (St := []) C X7 (wd122 hw) (wd123 hw) (by decide) (wd124 hw) (wd115 hw) (ctGc5 hw X7.2.1 t3 k3 do_ dt_ ko kq W (34 : Int32) vv V0 Vp8 (Nat.le_trans X2.2.1 hz3) f5 So Sq Vo Vq (Or.inr rfl) hb (by rw [own_cp34]; omega) hV hlo hhi) (lenOf pd23 rfl) rfl d18_30 rfl rfl (by decide) (nQ rfl) rfl rfl (by decide) (by decide) (fun v9 T9 h9 Q9 X9 z9 => ?_)
 obtain ⟨hv9, K9, Vt9⟩ := Q9
 subst hv9
 have K10 := K4.trans K9 (allS (Or.inr (Nat.le_trans (Keep.refl h0 [sb, tb]).1 hz3)) all0)
 refine G.O 34 C X9 d18_33 rfl rfl <| G.r 48 C X9 d18_34 (by decide) (by decide) <| G.b 49 C X9 d18_48 rfl rfl rfl <| G.a 50 C X9 d18_49 rfl rfl ?_
 have f11 := (Fn3.keep K9 (ninS nb3_sb nin0))
 have f12 := (Es3.keep K9)
 refine G.I 53 C X9 (hQ (wd76 hw)) Via.refl f11 f12 gs (Or.inl (wd77 hw)) (wd38 hw) (ty := .int) (by decide) rfl rfl d18_50 rfl (fun T13 h13 X13 W13 F13 => ?_)
 have K14 := K10.wr W13 (mQ 0 rfl)
 refine G.b 54 C X13 d18_53 rfl rfl rfl ?_
 have f15 := (f12.wr W13)
 have f16 := ((Fv3.keep K9 (ninS nb3_sb nin0)).other W13 (Or.inr (sQ6 hw)))
 have f17 := ((Fc3.keep K9 (ninS nb3_sb nin0)).other W13 (Or.inr (sQ7 hw)))
 have f18 := ((Et3.keep K9).wr W13)
 have f19 := (Vt9.other W13 (Ne.symm nb3_sb))
 exact G.J C X13 d18_54 hret rfl rfl hlk (⟨t3, k3, (34 : Int32), rfl, K14, Or.inr (Nat.le_trans (Keep.refl h0 [sb, tb]).1 hz3), Or.inr rfl, (by rw [own_dlen, own_cp34]; omega), nb3_sb, f15, f16, f17, (by rw [own_dlen]; exact F13), f18, f19⟩) (by decide) (by decide)
theorem ctAi5 {l : Launch} {Z : State} {a0 : Array Value} (hw : HW a0 Z) {n0 : Nat} {h0 : Heap} (hn0 : n0 ≤ h0.size) (sb tb : Addr) (kt : ClassId) (W : List Int32) (cp : Int32) (do_ dt_ : Addr) (ko kq : ClassId) (vv cz : Int32) (V0 : Nat) (Es : Exa Z h0 sb zq3) (Fv : Fld Z h0 sb zq1 "value" "[B" (.ref tb)) (Fc : Fld Z h0 sb zq1 "coder" "B" (.int 0)) (Fn : Fld Z h0 sb zq1 "count" "I" (.int (own_n (W).length))) (Et : Exa Z h0 tb "[B") (Vt : Arv Z h0 tb kt .byte cp (tx W) (.int 0)) (gs : n0 ≤ sb) (gt : n0 ≤ tb) (nst : sb ≠ tb) (So : Sta Z Z.heap zq2 "DigitOnes" "[B" (.ref do_)) (Sq : Sta Z Z.heap zq2 "DigitTens" "[B" (.ref dt_)) (Vo : Arv Z Z.heap do_ ko .byte (100 : Int32) own_ones (.int 0)) (Vq : Arv Z Z.heap dt_ kq .byte (100 : Int32) own_tens (.int 0)) (hb : W.length + 5 < 1000) (hV : vv.toInt = (V0 : Int)) (hlo : 10000 ≤ V0) (hhi : V0 < 100000) (hcp : cp = 16 ∨ cp = 34) (hwc : W.length ≤ cp.toNatClampNeg) (hl34 : W.length + 5 < 34) (OD : Old Z n0 h0) (S2 : Sta Z Z.heap zq0 zq5 "Z" (.int cz)) (hcz : ¬ cz = 0) :
    Ctr l Z (⟨zq1, "append", zq8⟩ : MethodName) jdk_68_method_32_code 4 (some (.object zq1)) (rQ 4 1 34 100) n0 #[(.ref sb), (.int vv)] h0 (fun v h => ∃ (t : Addr) (k : ClassId) (cq : Int32), v = some (.ref sb) ∧ Keep h0 h [sb, tb] ∧ (t = tb ∨ h0.size ≤ t) ∧ (cq = 16 ∨ cq = 34) ∧ (W ++ own_dig V0 5).length ≤ cq.toNatClampNeg ∧ sb ≠ t ∧ Exa Z h sb zq3 ∧ Fld Z h sb zq1 "value" "[B" (.ref t) ∧ Fld Z h sb zq1 "coder" "B" (.int 0) ∧ Fld Z h sb zq1 "count" "I" (.int (own_n ((W ++ own_dig V0 5)).length)) ∧ Exa Z h t "[B" ∧ Arv Z h t k .byte cq (tx (W ++ own_dig V0 5)) (.int 0)) := by
  by_cases q : W.length + 5 ≤ cp.toNatClampNeg
  · exact ctAiF5 hw hn0 sb tb kt W cp do_ dt_ ko kq vv cz V0 Es Fv Fc Fn Et Vt gs gt nst So Sq Vo Vq hb hV hlo hhi hcp q (own_fit hcp q) OD S2 hcz
  · rcases hcp with rfl | rfl
    · rw [own_cp16] at q hwc; exact ctAiG5 hw hn0 sb tb kt W do_ dt_ ko kq vv cz V0 Es Fv Fc Fn Et Vt gs gt nst So Sq Vo Vq hb hV hlo hhi hwc (own_grow (by omega) hl34) hl34 OD S2 hcz
    · rw [own_cp34] at q; omega
theorem ctAiF6 {l : Launch} {Z : State} {a0 : Array Value} (hw : HW a0 Z) {n0 : Nat} {h0 : Heap} (hn0 : n0 ≤ h0.size) (sb tb : Addr) (kt : ClassId) (W : List Int32) (cp : Int32) (do_ dt_ : Addr) (ko kq : ClassId) (vv cz : Int32) (V0 : Nat) (Es : Exa Z h0 sb zq3) (Fv : Fld Z h0 sb zq1 "value" "[B" (.ref tb)) (Fc : Fld Z h0 sb zq1 "coder" "B" (.int 0)) (Fn : Fld Z h0 sb zq1 "count" "I" (.int (own_n (W).length))) (Et : Exa Z h0 tb "[B") (Vt : Arv Z h0 tb kt .byte cp (tx W) (.int 0)) (gs : n0 ≤ sb) (gt : n0 ≤ tb) (nst : sb ≠ tb) (So : Sta Z Z.heap zq2 "DigitOnes" "[B" (.ref do_)) (Sq : Sta Z Z.heap zq2 "DigitTens" "[B" (.ref dt_)) (Vo : Arv Z Z.heap do_ ko .byte (100 : Int32) own_ones (.int 0)) (Vq : Arv Z Z.heap dt_ kq .byte (100 : Int32) own_tens (.int 0)) (hb : W.length + 6 < 1000) (hV : vv.toInt = (V0 : Int)) (hlo : 100000 ≤ V0) (hhi : V0 < 1000000) (hcp : cp = 16 ∨ cp = 34) (hfit : W.length + 6 ≤ cp.toNatClampNeg) (hj : ¬ (0 : Int32) < (own_n (W.length + 6)) - cp) (OD : Old Z n0 h0) (S2 : Sta Z Z.heap zq0 zq5 "Z" (.int cz)) (hcz : ¬ cz = 0) :
 Ctr l Z (⟨zq1, "append", zq8⟩ : MethodName) jdk_68_method_32_code 4 (some (.object zq1)) (rQ 4 1 34 100) n0 #[(.ref sb), (.int vv)] h0 (fun v h => ∃ (t : Addr) (k : ClassId) (cq : Int32), v = some (.ref sb) ∧ Keep h0 h [sb, tb] ∧ (t = tb ∨ h0.size ≤ t) ∧ (cq = 16 ∨ cq = 34) ∧ (W ++ own_dig V0 6).length ≤ cq.toNatClampNeg ∧ sb ≠ t ∧ Exa Z h sb zq3 ∧ Fld Z h sb zq1 "value" "[B" (.ref t) ∧ Fld Z h sb zq1 "coder" "B" (.int 0) ∧ Fld Z h sb zq1 "count" "I" (.int (own_n ((W ++ own_dig V0 6)).length)) ∧ Exa Z h t "[B" ∧ Arv Z h t k .byte cq (tx (W ++ own_dig V0 6)) (.int 0)) := by
 refine Ctr.of (by decide +kernel) hn0 ?_
 intro p e s m below meth c T0 C hnm hret hlk X0
 rw [ef18 m sb vv]
 refine G.b 1 C X0 d18_0 rfl rfl rfl <| G.v 4 C X0 (hQ (wd76 hw)) Via.refl Fn d18_1 rfl fun T1 X1 => G.g 5 C X1 d18_4 rfl (l' := #[vR sb, vI vv, vI (own_n (W).length), .unset]) rfl <| G.a 6 C X1 d18_5 rfl rfl <| G.a 7 C X1 d18_6 rfl rfl <| G.o 10 (cells' := 0) (slots' := 0) (argsL := [(.int vv)]) (St := [(.int (own_n (W).length))]) C X1 (wd113 hw) (wd114 hw) (by decide) (wd116 hw) (wd115 hw) (ctSs6 hw X1.2.1 vv V0 hV hlo hhi) (lenOf pd8 rfl) rfl d18_7 rfl rfl (by decide) (nQ rfl) rfl rfl (by decide) (by decide) (fun v2 T2 h2 Q2 X2 z2 => ?_)
 obtain ⟨hv2, hh2⟩ := Q2
 subst hv2; rw [hh2] at X2
 refine G.z 11 (z := (own_n (W.length + 6))) C X2 d18_10 rfl (own_nk W.length 6 _ rfl) <| G.g 12 C X2 d18_11 rfl (l' := #[vR sb, vI vv, vI (own_n (W).length), vI (own_n (W.length + 6))]) rfl <| G.b 13 C X2 d18_12 rfl rfl rfl <| G.a 14 C X2 d18_13 rfl rfl <| G.N 17 (cells' := 0) (slots' := 0) (argsL := [(.int (own_n (W.length + 6)))]) (St := []) C X2 (wd78 hw) (wd79 hw) (wd80 hw) (wd81 hw) rfl (by decide) Es (wd82 hw) (wd47 hw) (ctEcFA hw X2.2.1 sb tb kt _ cp _ Es Fv Fc Vt hj) (lenOf pd5 rfl) rfl d18_14 rfl rfl (by decide) (nQ rfl) rfl rfl (by decide) (by decide) (fun v3 T3 h3 Q3 X3 z3 => ?_)
 obtain ⟨hv3, hh3⟩ := Q3
 subst hv3; rw [hh3] at X3
 refine G.b 18 C X3 d18_17 rfl rfl rfl <| G.D 21 (cells' := 0) (slots' := 0) (argsL := []) (St := []) C X3 (wd117 hw) (wd118 hw) (wd120 hw) (wd119 hw) (by decide) Es (wd121 hw) (wd47 hw) (ctIlA hw X3.2.1 sb cz Fc OD S2 hcz) (lenOf pd18 rfl) rfl d18_18 rfl rfl (by decide) (nQ rfl) rfl rfl (by decide) (by decide) (fun v4 T4 h4 Q4 X4 z4 => ?_)
 obtain ⟨hv4, hh4⟩ := Q4
 subst hv4; rw [hh4] at X4
 refine G.q 24 C X4 d18_21 rfl (feq (by decide : ¬ (1 : Int32) = 0)).1 <| G.a 25 C X4 d18_24 rfl rfl <| G.a 26 C X4 d18_25 rfl rfl <| G.b 27 C X4 d18_26 rfl rfl rfl <| G.v 30 C X4 (hQ (wd51 hw)) Via.refl Fv d18_27 rfl (fun T5 X5 => ?_)
 have Vp6 : Arv Z h0 tb kt .byte cp (tx W ++ [(.int 0), (.int 0), (.int 0), (.int 0), (.int 0), (.int 0)]) (.int 0) := Vt.pad (pad_rep (tx W) (.int 0) 6)
 refine G.o 33 (cells' := 0) (slots' := 0) (argsL := [(.int vv), (.int (own_n (W.length + 6))), (.ref tb)]) (St := []) C X5 (wd122 hw) (wd123 hw) (by decide) (wd124 hw) (wd115 hw) (ctGc6 hw X5.2.1 tb kt do_ dt_ ko kq W cp vv V0 Vp6 gt OD So Sq Vo Vq hcp hb hfit hV hlo hhi) (lenOf pd23 rfl) rfl d18_30 rfl rfl (by decide) (nQ rfl) rfl rfl (by decide) (by decide) (fun v7 T7 h7 Q7 X7 z7 => ?_)
 obtain ⟨hv7, K7, Vt7⟩ := Q7
 subst hv7
 have K8 := (Keep.refl h0 [sb, tb]).trans K7 (allS (mQ 1 rfl) all0)
 refine G.O 34 C X7 d18_33 rfl rfl <| G.r 48 C X7 d18_34 (by decide) (by decide) <| G.b 49 C X7 d18_48 rfl rfl rfl <| G.a 50 C X7 d18_49 rfl rfl ?_
 have f9 := (Fn.keep K7 (ninS nst nin0))
 have f10 := (Es.keep K7)
 refine G.I 53 C X7 (hQ (wd76 hw)) Via.refl f9 f10 gs (Or.inl (wd77 hw)) (wd38 hw) (ty := .int) (by decide) rfl rfl d18_50 rfl (fun T11 h11 X11 W11 F11 => ?_)
 have K12 := K8.wr W11 (mQ 0 rfl)
 refine G.b 54 C X11 d18_53 rfl rfl rfl ?_
 have f13 := (f10.wr W11)
 have f14 := ((Fv.keep K7 (ninS nst nin0)).other W11 (Or.inr (sQ6 hw)))
 have f15 := ((Fc.keep K7 (ninS nst nin0)).other W11 (Or.inr (sQ7 hw)))
 have f16 := ((Et.keep K7).wr W11)
 have f17 := (Vt7.other W11 (Ne.symm nst))
 exact G.J C X11 d18_54 hret rfl rfl hlk (⟨tb, kt, cp, rfl, K12, Or.inl rfl, hcp, (by rw [own_dlen]; exact hfit), nst, f13, f14, f15, (by rw [own_dlen]; exact F11), f16, f17⟩) (by decide) (by decide)
theorem ctAiG6 {l : Launch} {Z : State} {a0 : Array Value} (hw : HW a0 Z) {n0 : Nat} {h0 : Heap} (hn0 : n0 ≤ h0.size) (sb tb : Addr) (kt : ClassId) (W : List Int32) (do_ dt_ : Addr) (ko kq : ClassId) (vv cz : Int32) (V0 : Nat) (Es : Exa Z h0 sb zq3) (Fv : Fld Z h0 sb zq1 "value" "[B" (.ref tb)) (Fc : Fld Z h0 sb zq1 "coder" "B" (.int 0)) (Fn : Fld Z h0 sb zq1 "count" "I" (.int (own_n (W).length))) (Et : Exa Z h0 tb "[B") (Vt : Arv Z h0 tb kt .byte (16 : Int32) (tx W) (.int 0)) (gs : n0 ≤ sb) (gt : n0 ≤ tb) (nst : sb ≠ tb) (So : Sta Z Z.heap zq2 "DigitOnes" "[B" (.ref do_)) (Sq : Sta Z Z.heap zq2 "DigitTens" "[B" (.ref dt_)) (Vo : Arv Z Z.heap do_ ko .byte (100 : Int32) own_ones (.int 0)) (Vq : Arv Z Z.heap dt_ kq .byte (100 : Int32) own_tens (.int 0)) (hb : W.length + 6 < 1000) (hV : vv.toInt = (V0 : Int)) (hlo : 100000 ≤ V0) (hhi : V0 < 1000000) (hW : W.length ≤ 16) (hg : (0 : Int32) < (own_n (W.length + 6)) - 16 ∧ (own_n (W.length + 6)) - 16 < 18) (hl34 : W.length + 6 < 34) (OD : Old Z n0 h0) (S2 : Sta Z Z.heap zq0 zq5 "Z" (.int cz)) (hcz : ¬ cz = 0) :
 Ctr l Z (⟨zq1, "append", zq8⟩ : MethodName) jdk_68_method_32_code 4 (some (.object zq1)) (rQ 4 1 34 100) n0 #[(.ref sb), (.int vv)] h0 (fun v h => ∃ (t : Addr) (k : ClassId) (cq : Int32), v = some (.ref sb) ∧ Keep h0 h [sb, tb] ∧ (t = tb ∨ h0.size ≤ t) ∧ (cq = 16 ∨ cq = 34) ∧ (W ++ own_dig V0 6).length ≤ cq.toNatClampNeg ∧ sb ≠ t ∧ Exa Z h sb zq3 ∧ Fld Z h sb zq1 "value" "[B" (.ref t) ∧ Fld Z h sb zq1 "coder" "B" (.int 0) ∧ Fld Z h sb zq1 "count" "I" (.int (own_n ((W ++ own_dig V0 6)).length)) ∧ Exa Z h t "[B" ∧ Arv Z h t k .byte cq (tx (W ++ own_dig V0 6)) (.int 0)) := by
 refine Ctr.of (by decide +kernel) hn0 ?_
 intro p e s m below meth c T0 C hnm hret hlk X0
 rw [ef18 m sb vv]
 refine G.b 1 C X0 d18_0 rfl rfl rfl <| G.v 4 C X0 (hQ (wd76 hw)) Via.refl Fn d18_1 rfl fun T1 X1 => G.g 5 C X1 d18_4 rfl (l' := #[vR sb, vI vv, vI (own_n (W).length), .unset]) rfl <| G.a 6 C X1 d18_5 rfl rfl <| G.a 7 C X1 d18_6 rfl rfl <| G.o 10 (cells' := 0) (slots' := 0) (argsL := [(.int vv)]) (St := [(.int (own_n (W).length))]) C X1 (wd113 hw) (wd114 hw) (by decide) (wd116 hw) (wd115 hw) (ctSs6 hw X1.2.1 vv V0 hV hlo hhi) (lenOf pd8 rfl) rfl d18_7 rfl rfl (by decide) (nQ rfl) rfl rfl (by decide) (by decide) (fun v2 T2 h2 Q2 X2 z2 => ?_)
 obtain ⟨hv2, hh2⟩ := Q2
 subst hv2; rw [hh2] at X2
 refine G.z 11 (z := (own_n (W.length + 6))) C X2 d18_10 rfl (own_nk W.length 6 _ rfl) <| G.g 12 C X2 d18_11 rfl (l' := #[vR sb, vI vv, vI (own_n (W).length), vI (own_n (W.length + 6))]) rfl <| G.b 13 C X2 d18_12 rfl rfl rfl <| G.a 14 C X2 d18_13 rfl rfl <| G.N 17 (cells' := 1) (slots' := 34) (argsL := [(.int (own_n (W.length + 6)))]) (St := []) C X2 (wd78 hw) (wd79 hw) (wd80 hw) (wd81 hw) rfl (by decide) Es (wd82 hw) (wd47 hw) (ctEcGA hw X2.2.1 sb tb kt W _ _ Es Fv Fc Vt Fn gs hg.1 hg.2 hW) (lenOf pd5 rfl) rfl d18_14 rfl rfl (by decide) (nQ rfl) rfl rfl (by decide) (by decide) (fun v3 T3 h3 Q3 X3 z3 => ?_)
 obtain ⟨t3, k3, hv3, K3, hz3, Es3, Fv3, Fc3, Fn3, Et3, Vt3⟩ := Q3
 subst hv3
 have K4 := (Keep.refl h0 [sb, tb]).trans K3 (allS (mQ 0 rfl) all0)
 have nb3_sb : sb ≠ t3 := Nat.ne_of_lt (Nat.lt_of_lt_of_le Es.lt hz3)
 refine G.b 18 C X3 d18_17 rfl rfl rfl ?_
 have f5 := (OD.keep K3 (allS gs all0))
 refine G.D 21 (cells' := 1) (slots' := 34) (argsL := []) (St := []) C X3 (wd117 hw) (wd118 hw) (wd120 hw) (wd119 hw) (by decide) Es3 (wd121 hw) (wd47 hw) (ctIlA hw X3.2.1 sb cz Fc3 f5 S2 hcz) (lenOf pd18 rfl) rfl d18_18 rfl rfl (by decide) (nQ rfl) rfl rfl (by decide) (by decide) (fun v6 T6 h6 Q6 X6 z6 => ?_)
 obtain ⟨hv6, hh6⟩ := Q6
 subst hv6; rw [hh6] at X6
 refine G.q 24 C X6 d18_21 rfl (feq (by decide : ¬ (1 : Int32) = 0)).1 <| G.a 25 C X6 d18_24 rfl rfl <| G.a 26 C X6 d18_25 rfl rfl <| G.b 27 C X6 d18_26 rfl rfl rfl <| G.v 30 C X6 (hQ (wd51 hw)) Via.refl Fv3 d18_27 rfl (fun T7 X7 => ?_)
 have Vp8 : Arv Z h3 t3 k3 .byte (34 : Int32) (tx W ++ [(.int 0), (.int 0), (.int 0), (.int 0), (.int 0), (.int 0)]) (.int 0) := Vt3.pad (pad_rep (tx W) (.int 0) 6)
 refine G.o 33 (cells' := 1) (slots' := 34) (argsL := [(.int vv), (.int (own_n (W.length + 6))), (.ref t3)]) (St := []) C X7 (wd122 hw) (wd123 hw) (by decide) (wd124 hw) (wd115 hw) (ctGc6 hw X7.2.1 t3 k3 do_ dt_ ko kq W (34 : Int32) vv V0 Vp8 (Nat.le_trans X2.2.1 hz3) f5 So Sq Vo Vq (Or.inr rfl) hb (by rw [own_cp34]; omega) hV hlo hhi) (lenOf pd23 rfl) rfl d18_30 rfl rfl (by decide) (nQ rfl) rfl rfl (by decide) (by decide) (fun v9 T9 h9 Q9 X9 z9 => ?_)
 obtain ⟨hv9, K9, Vt9⟩ := Q9
 subst hv9
 have K10 := K4.trans K9 (allS (Or.inr (Nat.le_trans (Keep.refl h0 [sb, tb]).1 hz3)) all0)
 refine G.O 34 C X9 d18_33 rfl rfl <| G.r 48 C X9 d18_34 (by decide) (by decide) <| G.b 49 C X9 d18_48 rfl rfl rfl <| G.a 50 C X9 d18_49 rfl rfl ?_
 have f11 := (Fn3.keep K9 (ninS nb3_sb nin0))
 have f12 := (Es3.keep K9)
 refine G.I 53 C X9 (hQ (wd76 hw)) Via.refl f11 f12 gs (Or.inl (wd77 hw)) (wd38 hw) (ty := .int) (by decide) rfl rfl d18_50 rfl (fun T13 h13 X13 W13 F13 => ?_)
 have K14 := K10.wr W13 (mQ 0 rfl)
 refine G.b 54 C X13 d18_53 rfl rfl rfl ?_
 have f15 := (f12.wr W13)
 have f16 := ((Fv3.keep K9 (ninS nb3_sb nin0)).other W13 (Or.inr (sQ6 hw)))
 have f17 := ((Fc3.keep K9 (ninS nb3_sb nin0)).other W13 (Or.inr (sQ7 hw)))
 have f18 := ((Et3.keep K9).wr W13)
 have f19 := (Vt9.other W13 (Ne.symm nb3_sb))
 exact G.J C X13 d18_54 hret rfl rfl hlk (⟨t3, k3, (34 : Int32), rfl, K14, Or.inr (Nat.le_trans (Keep.refl h0 [sb, tb]).1 hz3), Or.inr rfl, (by rw [own_dlen, own_cp34]; omega), nb3_sb, f15, f16, f17, (by rw [own_dlen]; exact F13), f18, f19⟩) (by decide) (by decide)
theorem ctAi6 {l : Launch} {Z : State} {a0 : Array Value} (hw : HW a0 Z) {n0 : Nat} {h0 : Heap} (hn0 : n0 ≤ h0.size) (sb tb : Addr) (kt : ClassId) (W : List Int32) (cp : Int32) (do_ dt_ : Addr) (ko kq : ClassId) (vv cz : Int32) (V0 : Nat) (Es : Exa Z h0 sb zq3) (Fv : Fld Z h0 sb zq1 "value" "[B" (.ref tb)) (Fc : Fld Z h0 sb zq1 "coder" "B" (.int 0)) (Fn : Fld Z h0 sb zq1 "count" "I" (.int (own_n (W).length))) (Et : Exa Z h0 tb "[B") (Vt : Arv Z h0 tb kt .byte cp (tx W) (.int 0)) (gs : n0 ≤ sb) (gt : n0 ≤ tb) (nst : sb ≠ tb) (So : Sta Z Z.heap zq2 "DigitOnes" "[B" (.ref do_)) (Sq : Sta Z Z.heap zq2 "DigitTens" "[B" (.ref dt_)) (Vo : Arv Z Z.heap do_ ko .byte (100 : Int32) own_ones (.int 0)) (Vq : Arv Z Z.heap dt_ kq .byte (100 : Int32) own_tens (.int 0)) (hb : W.length + 6 < 1000) (hV : vv.toInt = (V0 : Int)) (hlo : 100000 ≤ V0) (hhi : V0 < 1000000) (hcp : cp = 16 ∨ cp = 34) (hwc : W.length ≤ cp.toNatClampNeg) (hl34 : W.length + 6 < 34) (OD : Old Z n0 h0) (S2 : Sta Z Z.heap zq0 zq5 "Z" (.int cz)) (hcz : ¬ cz = 0) :
    Ctr l Z (⟨zq1, "append", zq8⟩ : MethodName) jdk_68_method_32_code 4 (some (.object zq1)) (rQ 4 1 34 100) n0 #[(.ref sb), (.int vv)] h0 (fun v h => ∃ (t : Addr) (k : ClassId) (cq : Int32), v = some (.ref sb) ∧ Keep h0 h [sb, tb] ∧ (t = tb ∨ h0.size ≤ t) ∧ (cq = 16 ∨ cq = 34) ∧ (W ++ own_dig V0 6).length ≤ cq.toNatClampNeg ∧ sb ≠ t ∧ Exa Z h sb zq3 ∧ Fld Z h sb zq1 "value" "[B" (.ref t) ∧ Fld Z h sb zq1 "coder" "B" (.int 0) ∧ Fld Z h sb zq1 "count" "I" (.int (own_n ((W ++ own_dig V0 6)).length)) ∧ Exa Z h t "[B" ∧ Arv Z h t k .byte cq (tx (W ++ own_dig V0 6)) (.int 0)) := by
  by_cases q : W.length + 6 ≤ cp.toNatClampNeg
  · exact ctAiF6 hw hn0 sb tb kt W cp do_ dt_ ko kq vv cz V0 Es Fv Fc Fn Et Vt gs gt nst So Sq Vo Vq hb hV hlo hhi hcp q (own_fit hcp q) OD S2 hcz
  · rcases hcp with rfl | rfl
    · rw [own_cp16] at q hwc; exact ctAiG6 hw hn0 sb tb kt W do_ dt_ ko kq vv cz V0 Es Fv Fc Fn Et Vt gs gt nst So Sq Vo Vq hb hV hlo hhi hwc (own_grow (by omega) hl34) hl34 OD S2 hcz
    · rw [own_cp34] at q; omega
theorem ctAiF7 {l : Launch} {Z : State} {a0 : Array Value} (hw : HW a0 Z) {n0 : Nat} {h0 : Heap} (hn0 : n0 ≤ h0.size) (sb tb : Addr) (kt : ClassId) (W : List Int32) (cp : Int32) (do_ dt_ : Addr) (ko kq : ClassId) (vv cz : Int32) (V0 : Nat) (Es : Exa Z h0 sb zq3) (Fv : Fld Z h0 sb zq1 "value" "[B" (.ref tb)) (Fc : Fld Z h0 sb zq1 "coder" "B" (.int 0)) (Fn : Fld Z h0 sb zq1 "count" "I" (.int (own_n (W).length))) (Et : Exa Z h0 tb "[B") (Vt : Arv Z h0 tb kt .byte cp (tx W) (.int 0)) (gs : n0 ≤ sb) (gt : n0 ≤ tb) (nst : sb ≠ tb) (So : Sta Z Z.heap zq2 "DigitOnes" "[B" (.ref do_)) (Sq : Sta Z Z.heap zq2 "DigitTens" "[B" (.ref dt_)) (Vo : Arv Z Z.heap do_ ko .byte (100 : Int32) own_ones (.int 0)) (Vq : Arv Z Z.heap dt_ kq .byte (100 : Int32) own_tens (.int 0)) (hb : W.length + 7 < 1000) (hV : vv.toInt = (V0 : Int)) (hlo : 1000000 ≤ V0) (hhi : V0 < 10000000) (hcp : cp = 16 ∨ cp = 34) (hfit : W.length + 7 ≤ cp.toNatClampNeg) (hj : ¬ (0 : Int32) < (own_n (W.length + 7)) - cp) (OD : Old Z n0 h0) (S2 : Sta Z Z.heap zq0 zq5 "Z" (.int cz)) (hcz : ¬ cz = 0) :
 Ctr l Z (⟨zq1, "append", zq8⟩ : MethodName) jdk_68_method_32_code 4 (some (.object zq1)) (rQ 4 1 34 100) n0 #[(.ref sb), (.int vv)] h0 (fun v h => ∃ (t : Addr) (k : ClassId) (cq : Int32), v = some (.ref sb) ∧ Keep h0 h [sb, tb] ∧ (t = tb ∨ h0.size ≤ t) ∧ (cq = 16 ∨ cq = 34) ∧ (W ++ own_dig V0 7).length ≤ cq.toNatClampNeg ∧ sb ≠ t ∧ Exa Z h sb zq3 ∧ Fld Z h sb zq1 "value" "[B" (.ref t) ∧ Fld Z h sb zq1 "coder" "B" (.int 0) ∧ Fld Z h sb zq1 "count" "I" (.int (own_n ((W ++ own_dig V0 7)).length)) ∧ Exa Z h t "[B" ∧ Arv Z h t k .byte cq (tx (W ++ own_dig V0 7)) (.int 0)) := by
 refine Ctr.of (by decide +kernel) hn0 ?_
 intro p e s m below meth c T0 C hnm hret hlk X0
 rw [ef18 m sb vv]
 refine G.b 1 C X0 d18_0 rfl rfl rfl <| G.v 4 C X0 (hQ (wd76 hw)) Via.refl Fn d18_1 rfl fun T1 X1 => G.g 5 C X1 d18_4 rfl (l' := #[vR sb, vI vv, vI (own_n (W).length), .unset]) rfl <| G.a 6 C X1 d18_5 rfl rfl <| G.a 7 C X1 d18_6 rfl rfl <| G.o 10 (cells' := 0) (slots' := 0) (argsL := [(.int vv)]) (St := [(.int (own_n (W).length))]) C X1 (wd113 hw) (wd114 hw) (by decide) (wd116 hw) (wd115 hw) (ctSs7 hw X1.2.1 vv V0 hV hlo hhi) (lenOf pd8 rfl) rfl d18_7 rfl rfl (by decide) (nQ rfl) rfl rfl (by decide) (by decide) (fun v2 T2 h2 Q2 X2 z2 => ?_)
 obtain ⟨hv2, hh2⟩ := Q2
 subst hv2; rw [hh2] at X2
 refine G.z 11 (z := (own_n (W.length + 7))) C X2 d18_10 rfl (own_nk W.length 7 _ rfl) <| G.g 12 C X2 d18_11 rfl (l' := #[vR sb, vI vv, vI (own_n (W).length), vI (own_n (W.length + 7))]) rfl <| G.b 13 C X2 d18_12 rfl rfl rfl <| G.a 14 C X2 d18_13 rfl rfl <| G.N 17 (cells' := 0) (slots' := 0) (argsL := [(.int (own_n (W.length + 7)))]) (St := []) C X2 (wd78 hw) (wd79 hw) (wd80 hw) (wd81 hw) rfl (by decide) Es (wd82 hw) (wd47 hw) (ctEcFA hw X2.2.1 sb tb kt _ cp _ Es Fv Fc Vt hj) (lenOf pd5 rfl) rfl d18_14 rfl rfl (by decide) (nQ rfl) rfl rfl (by decide) (by decide) (fun v3 T3 h3 Q3 X3 z3 => ?_)
 obtain ⟨hv3, hh3⟩ := Q3
 subst hv3; rw [hh3] at X3
 refine G.b 18 C X3 d18_17 rfl rfl rfl <| G.D 21 (cells' := 0) (slots' := 0) (argsL := []) (St := []) C X3 (wd117 hw) (wd118 hw) (wd120 hw) (wd119 hw) (by decide) Es (wd121 hw) (wd47 hw) (ctIlA hw X3.2.1 sb cz Fc OD S2 hcz) (lenOf pd18 rfl) rfl d18_18 rfl rfl (by decide) (nQ rfl) rfl rfl (by decide) (by decide) (fun v4 T4 h4 Q4 X4 z4 => ?_)
 obtain ⟨hv4, hh4⟩ := Q4
 subst hv4; rw [hh4] at X4
 refine G.q 24 C X4 d18_21 rfl (feq (by decide : ¬ (1 : Int32) = 0)).1 <| G.a 25 C X4 d18_24 rfl rfl <| G.a 26 C X4 d18_25 rfl rfl <| G.b 27 C X4 d18_26 rfl rfl rfl <| G.v 30 C X4 (hQ (wd51 hw)) Via.refl Fv d18_27 rfl (fun T5 X5 => ?_)
 have Vp6 : Arv Z h0 tb kt .byte cp (tx W ++ [(.int 0), (.int 0), (.int 0), (.int 0), (.int 0), (.int 0), (.int 0)]) (.int 0) := Vt.pad (pad_rep (tx W) (.int 0) 7)
 refine G.o 33 (cells' := 0) (slots' := 0) (argsL := [(.int vv), (.int (own_n (W.length + 7))), (.ref tb)]) (St := []) C X5 (wd122 hw) (wd123 hw) (by decide) (wd124 hw) (wd115 hw) (ctGc7 hw X5.2.1 tb kt do_ dt_ ko kq W cp vv V0 Vp6 gt OD So Sq Vo Vq hcp hb hfit hV hlo hhi) (lenOf pd23 rfl) rfl d18_30 rfl rfl (by decide) (nQ rfl) rfl rfl (by decide) (by decide) (fun v7 T7 h7 Q7 X7 z7 => ?_)
 obtain ⟨hv7, K7, Vt7⟩ := Q7
 subst hv7
 have K8 := (Keep.refl h0 [sb, tb]).trans K7 (allS (mQ 1 rfl) all0)
 refine G.O 34 C X7 d18_33 rfl rfl <| G.r 48 C X7 d18_34 (by decide) (by decide) <| G.b 49 C X7 d18_48 rfl rfl rfl <| G.a 50 C X7 d18_49 rfl rfl ?_
 have f9 := (Fn.keep K7 (ninS nst nin0))
 have f10 := (Es.keep K7)
 refine G.I 53 C X7 (hQ (wd76 hw)) Via.refl f9 f10 gs (Or.inl (wd77 hw)) (wd38 hw) (ty := .int) (by decide) rfl rfl d18_50 rfl (fun T11 h11 X11 W11 F11 => ?_)
 have K12 := K8.wr W11 (mQ 0 rfl)
 refine G.b 54 C X11 d18_53 rfl rfl rfl ?_
 have f13 := (f10.wr W11)
 have f14 := ((Fv.keep K7 (ninS nst nin0)).other W11 (Or.inr (sQ6 hw)))
 have f15 := ((Fc.keep K7 (ninS nst nin0)).other W11 (Or.inr (sQ7 hw)))
 have f16 := ((Et.keep K7).wr W11)
 have f17 := (Vt7.other W11 (Ne.symm nst))
 exact G.J C X11 d18_54 hret rfl rfl hlk (⟨tb, kt, cp, rfl, K12, Or.inl rfl, hcp, (by rw [own_dlen]; exact hfit), nst, f13, f14, f15, (by rw [own_dlen]; exact F11), f16, f17⟩) (by decide) (by decide)
theorem ctAiG7 {l : Launch} {Z : State} {a0 : Array Value} (hw : HW a0 Z) {n0 : Nat} {h0 : Heap} (hn0 : n0 ≤ h0.size) (sb tb : Addr) (kt : ClassId) (W : List Int32) (do_ dt_ : Addr) (ko kq : ClassId) (vv cz : Int32) (V0 : Nat) (Es : Exa Z h0 sb zq3) (Fv : Fld Z h0 sb zq1 "value" "[B" (.ref tb)) (Fc : Fld Z h0 sb zq1 "coder" "B" (.int 0)) (Fn : Fld Z h0 sb zq1 "count" "I" (.int (own_n (W).length))) (Et : Exa Z h0 tb "[B") (Vt : Arv Z h0 tb kt .byte (16 : Int32) (tx W) (.int 0)) (gs : n0 ≤ sb) (gt : n0 ≤ tb) (nst : sb ≠ tb) (So : Sta Z Z.heap zq2 "DigitOnes" "[B" (.ref do_)) (Sq : Sta Z Z.heap zq2 "DigitTens" "[B" (.ref dt_)) (Vo : Arv Z Z.heap do_ ko .byte (100 : Int32) own_ones (.int 0)) (Vq : Arv Z Z.heap dt_ kq .byte (100 : Int32) own_tens (.int 0)) (hb : W.length + 7 < 1000) (hV : vv.toInt = (V0 : Int)) (hlo : 1000000 ≤ V0) (hhi : V0 < 10000000) (hW : W.length ≤ 16) (hg : (0 : Int32) < (own_n (W.length + 7)) - 16 ∧ (own_n (W.length + 7)) - 16 < 18) (hl34 : W.length + 7 < 34) (OD : Old Z n0 h0) (S2 : Sta Z Z.heap zq0 zq5 "Z" (.int cz)) (hcz : ¬ cz = 0) :
 Ctr l Z (⟨zq1, "append", zq8⟩ : MethodName) jdk_68_method_32_code 4 (some (.object zq1)) (rQ 4 1 34 100) n0 #[(.ref sb), (.int vv)] h0 (fun v h => ∃ (t : Addr) (k : ClassId) (cq : Int32), v = some (.ref sb) ∧ Keep h0 h [sb, tb] ∧ (t = tb ∨ h0.size ≤ t) ∧ (cq = 16 ∨ cq = 34) ∧ (W ++ own_dig V0 7).length ≤ cq.toNatClampNeg ∧ sb ≠ t ∧ Exa Z h sb zq3 ∧ Fld Z h sb zq1 "value" "[B" (.ref t) ∧ Fld Z h sb zq1 "coder" "B" (.int 0) ∧ Fld Z h sb zq1 "count" "I" (.int (own_n ((W ++ own_dig V0 7)).length)) ∧ Exa Z h t "[B" ∧ Arv Z h t k .byte cq (tx (W ++ own_dig V0 7)) (.int 0)) := by
 refine Ctr.of (by decide +kernel) hn0 ?_
 intro p e s m below meth c T0 C hnm hret hlk X0
 rw [ef18 m sb vv]
 refine G.b 1 C X0 d18_0 rfl rfl rfl <| G.v 4 C X0 (hQ (wd76 hw)) Via.refl Fn d18_1 rfl fun T1 X1 => G.g 5 C X1 d18_4 rfl (l' := #[vR sb, vI vv, vI (own_n (W).length), .unset]) rfl <| G.a 6 C X1 d18_5 rfl rfl <| G.a 7 C X1 d18_6 rfl rfl <| G.o 10 (cells' := 0) (slots' := 0) (argsL := [(.int vv)]) (St := [(.int (own_n (W).length))]) C X1 (wd113 hw) (wd114 hw) (by decide) (wd116 hw) (wd115 hw) (ctSs7 hw X1.2.1 vv V0 hV hlo hhi) (lenOf pd8 rfl) rfl d18_7 rfl rfl (by decide) (nQ rfl) rfl rfl (by decide) (by decide) (fun v2 T2 h2 Q2 X2 z2 => ?_)
 obtain ⟨hv2, hh2⟩ := Q2
 subst hv2; rw [hh2] at X2
 refine G.z 11 (z := (own_n (W.length + 7))) C X2 d18_10 rfl (own_nk W.length 7 _ rfl) <| G.g 12 C X2 d18_11 rfl (l' := #[vR sb, vI vv, vI (own_n (W).length), vI (own_n (W.length + 7))]) rfl <| G.b 13 C X2 d18_12 rfl rfl rfl <| G.a 14 C X2 d18_13 rfl rfl <| G.N 17 (cells' := 1) (slots' := 34) (argsL := [(.int (own_n (W.length + 7)))]) (St := []) C X2 (wd78 hw) (wd79 hw) (wd80 hw) (wd81 hw) rfl (by decide) Es (wd82 hw) (wd47 hw) (ctEcGA hw X2.2.1 sb tb kt W _ _ Es Fv Fc Vt Fn gs hg.1 hg.2 hW) (lenOf pd5 rfl) rfl d18_14 rfl rfl (by decide) (nQ rfl) rfl rfl (by decide) (by decide) (fun v3 T3 h3 Q3 X3 z3 => ?_)
 obtain ⟨t3, k3, hv3, K3, hz3, Es3, Fv3, Fc3, Fn3, Et3, Vt3⟩ := Q3
 subst hv3
 have K4 := (Keep.refl h0 [sb, tb]).trans K3 (allS (mQ 0 rfl) all0)
 have nb3_sb : sb ≠ t3 := Nat.ne_of_lt (Nat.lt_of_lt_of_le Es.lt hz3)
 refine G.b 18 C X3 d18_17 rfl rfl rfl ?_
 have f5 := (OD.keep K3 (allS gs all0))
 refine G.D 21 (cells' := 1) (slots' := 34) (argsL := []) (St := []) C X3 (wd117 hw) (wd118 hw) (wd120 hw) (wd119 hw) (by decide) Es3 (wd121 hw) (wd47 hw) (ctIlA hw X3.2.1 sb cz Fc3 f5 S2 hcz) (lenOf pd18 rfl) rfl d18_18 rfl rfl (by decide) (nQ rfl) rfl rfl (by decide) (by decide) (fun v6 T6 h6 Q6 X6 z6 => ?_)
 obtain ⟨hv6, hh6⟩ := Q6
 subst hv6; rw [hh6] at X6
 refine G.q 24 C X6 d18_21 rfl (feq (by decide : ¬ (1 : Int32) = 0)).1 <| G.a 25 C X6 d18_24 rfl rfl <| G.a 26 C X6 d18_25 rfl rfl <| G.b 27 C X6 d18_26 rfl rfl rfl <| G.v 30 C X6 (hQ (wd51 hw)) Via.refl Fv3 d18_27 rfl (fun T7 X7 => ?_)
 have Vp8 : Arv Z h3 t3 k3 .byte (34 : Int32) (tx W ++ [(.int 0), (.int 0), (.int 0), (.int 0), (.int 0), (.int 0), (.int 0)]) (.int 0) := Vt3.pad (pad_rep (tx W) (.int 0) 7)
 refine G.o 33 (cells' := 1) (slots' := 34) (argsL := [(.int vv), (.int (own_n (W.length + 7))), (.ref t3)]) (St := []) C X7 (wd122 hw) (wd123 hw) (by decide) (wd124 hw) (wd115 hw) (ctGc7 hw X7.2.1 t3 k3 do_ dt_ ko kq W (34 : Int32) vv V0 Vp8 (Nat.le_trans X2.2.1 hz3) f5 So Sq Vo Vq (Or.inr rfl) hb (by rw [own_cp34]; omega) hV hlo hhi) (lenOf pd23 rfl) rfl d18_30 rfl rfl (by decide) (nQ rfl) rfl rfl (by decide) (by decide) (fun v9 T9 h9 Q9 X9 z9 => ?_)
 obtain ⟨hv9, K9, Vt9⟩ := Q9
 subst hv9
 have K10 := K4.trans K9 (allS (Or.inr (Nat.le_trans (Keep.refl h0 [sb, tb]).1 hz3)) all0)
 refine G.O 34 C X9 d18_33 rfl rfl <| G.r 48 C X9 d18_34 (by decide) (by decide) <| G.b 49 C X9 d18_48 rfl rfl rfl <| G.a 50 C X9 d18_49 rfl rfl ?_
 have f11 := (Fn3.keep K9 (ninS nb3_sb nin0))
 have f12 := (Es3.keep K9)
 refine G.I 53 C X9 (hQ (wd76 hw)) Via.refl f11 f12 gs (Or.inl (wd77 hw)) (wd38 hw) (ty := .int) (by decide) rfl rfl d18_50 rfl (fun T13 h13 X13 W13 F13 => ?_)
 have K14 := K10.wr W13 (mQ 0 rfl)
 refine G.b 54 C X13 d18_53 rfl rfl rfl ?_
 have f15 := (f12.wr W13)
 have f16 := ((Fv3.keep K9 (ninS nb3_sb nin0)).other W13 (Or.inr (sQ6 hw)))
 have f17 := ((Fc3.keep K9 (ninS nb3_sb nin0)).other W13 (Or.inr (sQ7 hw)))
 have f18 := ((Et3.keep K9).wr W13)
 have f19 := (Vt9.other W13 (Ne.symm nb3_sb))
 exact G.J C X13 d18_54 hret rfl rfl hlk (⟨t3, k3, (34 : Int32), rfl, K14, Or.inr (Nat.le_trans (Keep.refl h0 [sb, tb]).1 hz3), Or.inr rfl, (by rw [own_dlen, own_cp34]; omega), nb3_sb, f15, f16, f17, (by rw [own_dlen]; exact F13), f18, f19⟩) (by decide) (by decide)
theorem ctAi7 {l : Launch} {Z : State} {a0 : Array Value} (hw : HW a0 Z) {n0 : Nat} {h0 : Heap} (hn0 : n0 ≤ h0.size) (sb tb : Addr) (kt : ClassId) (W : List Int32) (cp : Int32) (do_ dt_ : Addr) (ko kq : ClassId) (vv cz : Int32) (V0 : Nat) (Es : Exa Z h0 sb zq3) (Fv : Fld Z h0 sb zq1 "value" "[B" (.ref tb)) (Fc : Fld Z h0 sb zq1 "coder" "B" (.int 0)) (Fn : Fld Z h0 sb zq1 "count" "I" (.int (own_n (W).length))) (Et : Exa Z h0 tb "[B") (Vt : Arv Z h0 tb kt .byte cp (tx W) (.int 0)) (gs : n0 ≤ sb) (gt : n0 ≤ tb) (nst : sb ≠ tb) (So : Sta Z Z.heap zq2 "DigitOnes" "[B" (.ref do_)) (Sq : Sta Z Z.heap zq2 "DigitTens" "[B" (.ref dt_)) (Vo : Arv Z Z.heap do_ ko .byte (100 : Int32) own_ones (.int 0)) (Vq : Arv Z Z.heap dt_ kq .byte (100 : Int32) own_tens (.int 0)) (hb : W.length + 7 < 1000) (hV : vv.toInt = (V0 : Int)) (hlo : 1000000 ≤ V0) (hhi : V0 < 10000000) (hcp : cp = 16 ∨ cp = 34) (hwc : W.length ≤ cp.toNatClampNeg) (hl34 : W.length + 7 < 34) (OD : Old Z n0 h0) (S2 : Sta Z Z.heap zq0 zq5 "Z" (.int cz)) (hcz : ¬ cz = 0) :
    Ctr l Z (⟨zq1, "append", zq8⟩ : MethodName) jdk_68_method_32_code 4 (some (.object zq1)) (rQ 4 1 34 100) n0 #[(.ref sb), (.int vv)] h0 (fun v h => ∃ (t : Addr) (k : ClassId) (cq : Int32), v = some (.ref sb) ∧ Keep h0 h [sb, tb] ∧ (t = tb ∨ h0.size ≤ t) ∧ (cq = 16 ∨ cq = 34) ∧ (W ++ own_dig V0 7).length ≤ cq.toNatClampNeg ∧ sb ≠ t ∧ Exa Z h sb zq3 ∧ Fld Z h sb zq1 "value" "[B" (.ref t) ∧ Fld Z h sb zq1 "coder" "B" (.int 0) ∧ Fld Z h sb zq1 "count" "I" (.int (own_n ((W ++ own_dig V0 7)).length)) ∧ Exa Z h t "[B" ∧ Arv Z h t k .byte cq (tx (W ++ own_dig V0 7)) (.int 0)) := by
  by_cases q : W.length + 7 ≤ cp.toNatClampNeg
  · exact ctAiF7 hw hn0 sb tb kt W cp do_ dt_ ko kq vv cz V0 Es Fv Fc Fn Et Vt gs gt nst So Sq Vo Vq hb hV hlo hhi hcp q (own_fit hcp q) OD S2 hcz
  · rcases hcp with rfl | rfl
    · rw [own_cp16] at q hwc; exact ctAiG7 hw hn0 sb tb kt W do_ dt_ ko kq vv cz V0 Es Fv Fc Fn Et Vt gs gt nst So Sq Vo Vq hb hV hlo hhi hwc (own_grow (by omega) hl34) hl34 OD S2 hcz
    · rw [own_cp34] at q; omega
theorem ctAiF8 {l : Launch} {Z : State} {a0 : Array Value} (hw : HW a0 Z) {n0 : Nat} {h0 : Heap} (hn0 : n0 ≤ h0.size) (sb tb : Addr) (kt : ClassId) (W : List Int32) (cp : Int32) (do_ dt_ : Addr) (ko kq : ClassId) (vv cz : Int32) (V0 : Nat) (Es : Exa Z h0 sb zq3) (Fv : Fld Z h0 sb zq1 "value" "[B" (.ref tb)) (Fc : Fld Z h0 sb zq1 "coder" "B" (.int 0)) (Fn : Fld Z h0 sb zq1 "count" "I" (.int (own_n (W).length))) (Et : Exa Z h0 tb "[B") (Vt : Arv Z h0 tb kt .byte cp (tx W) (.int 0)) (gs : n0 ≤ sb) (gt : n0 ≤ tb) (nst : sb ≠ tb) (So : Sta Z Z.heap zq2 "DigitOnes" "[B" (.ref do_)) (Sq : Sta Z Z.heap zq2 "DigitTens" "[B" (.ref dt_)) (Vo : Arv Z Z.heap do_ ko .byte (100 : Int32) own_ones (.int 0)) (Vq : Arv Z Z.heap dt_ kq .byte (100 : Int32) own_tens (.int 0)) (hb : W.length + 8 < 1000) (hV : vv.toInt = (V0 : Int)) (hlo : 10000000 ≤ V0) (hhi : V0 < 100000000) (hcp : cp = 16 ∨ cp = 34) (hfit : W.length + 8 ≤ cp.toNatClampNeg) (hj : ¬ (0 : Int32) < (own_n (W.length + 8)) - cp) (OD : Old Z n0 h0) (S2 : Sta Z Z.heap zq0 zq5 "Z" (.int cz)) (hcz : ¬ cz = 0) :
 Ctr l Z (⟨zq1, "append", zq8⟩ : MethodName) jdk_68_method_32_code 4 (some (.object zq1)) (rQ 4 1 34 100) n0 #[(.ref sb), (.int vv)] h0 (fun v h => ∃ (t : Addr) (k : ClassId) (cq : Int32), v = some (.ref sb) ∧ Keep h0 h [sb, tb] ∧ (t = tb ∨ h0.size ≤ t) ∧ (cq = 16 ∨ cq = 34) ∧ (W ++ own_dig V0 8).length ≤ cq.toNatClampNeg ∧ sb ≠ t ∧ Exa Z h sb zq3 ∧ Fld Z h sb zq1 "value" "[B" (.ref t) ∧ Fld Z h sb zq1 "coder" "B" (.int 0) ∧ Fld Z h sb zq1 "count" "I" (.int (own_n ((W ++ own_dig V0 8)).length)) ∧ Exa Z h t "[B" ∧ Arv Z h t k .byte cq (tx (W ++ own_dig V0 8)) (.int 0)) := by
 refine Ctr.of (by decide +kernel) hn0 ?_
 intro p e s m below meth c T0 C hnm hret hlk X0
 rw [ef18 m sb vv]
 refine G.b 1 C X0 d18_0 rfl rfl rfl <| G.v 4 C X0 (hQ (wd76 hw)) Via.refl Fn d18_1 rfl fun T1 X1 => G.g 5 C X1 d18_4 rfl (l' := #[vR sb, vI vv, vI (own_n (W).length), .unset]) rfl <| G.a 6 C X1 d18_5 rfl rfl <| G.a 7 C X1 d18_6 rfl rfl <| G.o 10 (cells' := 0) (slots' := 0) (argsL := [(.int vv)]) (St := [(.int (own_n (W).length))]) C X1 (wd113 hw) (wd114 hw) (by decide) (wd116 hw) (wd115 hw) (ctSs8 hw X1.2.1 vv V0 hV hlo hhi) (lenOf pd8 rfl) rfl d18_7 rfl rfl (by decide) (nQ rfl) rfl rfl (by decide) (by decide) (fun v2 T2 h2 Q2 X2 z2 => ?_)
 obtain ⟨hv2, hh2⟩ := Q2
 subst hv2; rw [hh2] at X2
 refine G.z 11 (z := (own_n (W.length + 8))) C X2 d18_10 rfl (own_nk W.length 8 _ rfl) <| G.g 12 C X2 d18_11 rfl (l' := #[vR sb, vI vv, vI (own_n (W).length), vI (own_n (W.length + 8))]) rfl <| G.b 13 C X2 d18_12 rfl rfl rfl <| G.a 14 C X2 d18_13 rfl rfl <| G.N 17 (cells' := 0) (slots' := 0) (argsL := [(.int (own_n (W.length + 8)))]) (St := []) C X2 (wd78 hw) (wd79 hw) (wd80 hw) (wd81 hw) rfl (by decide) Es (wd82 hw) (wd47 hw) (ctEcFA hw X2.2.1 sb tb kt _ cp _ Es Fv Fc Vt hj) (lenOf pd5 rfl) rfl d18_14 rfl rfl (by decide) (nQ rfl) rfl rfl (by decide) (by decide) (fun v3 T3 h3 Q3 X3 z3 => ?_)
 obtain ⟨hv3, hh3⟩ := Q3
 subst hv3; rw [hh3] at X3
 refine G.b 18 C X3 d18_17 rfl rfl rfl <| G.D 21 (cells' := 0) (slots' := 0) (argsL := []) (St := []) C X3 (wd117 hw) (wd118 hw) (wd120 hw) (wd119 hw) (by decide) Es (wd121 hw) (wd47 hw) (ctIlA hw X3.2.1 sb cz Fc OD S2 hcz) (lenOf pd18 rfl) rfl d18_18 rfl rfl (by decide) (nQ rfl) rfl rfl (by decide) (by decide) (fun v4 T4 h4 Q4 X4 z4 => ?_)
 obtain ⟨hv4, hh4⟩ := Q4
 subst hv4; rw [hh4] at X4
 refine G.q 24 C X4 d18_21 rfl (feq (by decide : ¬ (1 : Int32) = 0)).1 <| G.a 25 C X4 d18_24 rfl rfl <| G.a 26 C X4 d18_25 rfl rfl <| G.b 27 C X4 d18_26 rfl rfl rfl <| G.v 30 C X4 (hQ (wd51 hw)) Via.refl Fv d18_27 rfl (fun T5 X5 => ?_)
 have Vp6 : Arv Z h0 tb kt .byte cp (tx W ++ [(.int 0), (.int 0), (.int 0), (.int 0), (.int 0), (.int 0), (.int 0), (.int 0)]) (.int 0) := Vt.pad (pad_rep (tx W) (.int 0) 8)
 refine G.o 33 (cells' := 0) (slots' := 0) (argsL := [(.int vv), (.int (own_n (W.length + 8))), (.ref tb)]) (St := []) C X5 (wd122 hw) (wd123 hw) (by decide) (wd124 hw) (wd115 hw) (ctGc8 hw X5.2.1 tb kt do_ dt_ ko kq W cp vv V0 Vp6 gt OD So Sq Vo Vq hcp hb hfit hV hlo hhi) (lenOf pd23 rfl) rfl d18_30 rfl rfl (by decide) (nQ rfl) rfl rfl (by decide) (by decide) (fun v7 T7 h7 Q7 X7 z7 => ?_)
 obtain ⟨hv7, K7, Vt7⟩ := Q7
 subst hv7
 have K8 := (Keep.refl h0 [sb, tb]).trans K7 (allS (mQ 1 rfl) all0)
 refine G.O 34 C X7 d18_33 rfl rfl <| G.r 48 C X7 d18_34 (by decide) (by decide) <| G.b 49 C X7 d18_48 rfl rfl rfl <| G.a 50 C X7 d18_49 rfl rfl ?_
 have f9 := (Fn.keep K7 (ninS nst nin0))
 have f10 := (Es.keep K7)
 refine G.I 53 C X7 (hQ (wd76 hw)) Via.refl f9 f10 gs (Or.inl (wd77 hw)) (wd38 hw) (ty := .int) (by decide) rfl rfl d18_50 rfl (fun T11 h11 X11 W11 F11 => ?_)
 have K12 := K8.wr W11 (mQ 0 rfl)
 refine G.b 54 C X11 d18_53 rfl rfl rfl ?_
 have f13 := (f10.wr W11)
 have f14 := ((Fv.keep K7 (ninS nst nin0)).other W11 (Or.inr (sQ6 hw)))
 have f15 := ((Fc.keep K7 (ninS nst nin0)).other W11 (Or.inr (sQ7 hw)))
 have f16 := ((Et.keep K7).wr W11)
 have f17 := (Vt7.other W11 (Ne.symm nst))
 exact G.J C X11 d18_54 hret rfl rfl hlk (⟨tb, kt, cp, rfl, K12, Or.inl rfl, hcp, (by rw [own_dlen]; exact hfit), nst, f13, f14, f15, (by rw [own_dlen]; exact F11), f16, f17⟩) (by decide) (by decide)
theorem ctAiG8 {l : Launch} {Z : State} {a0 : Array Value} (hw : HW a0 Z) {n0 : Nat} {h0 : Heap} (hn0 : n0 ≤ h0.size) (sb tb : Addr) (kt : ClassId) (W : List Int32) (do_ dt_ : Addr) (ko kq : ClassId) (vv cz : Int32) (V0 : Nat) (Es : Exa Z h0 sb zq3) (Fv : Fld Z h0 sb zq1 "value" "[B" (.ref tb)) (Fc : Fld Z h0 sb zq1 "coder" "B" (.int 0)) (Fn : Fld Z h0 sb zq1 "count" "I" (.int (own_n (W).length))) (Et : Exa Z h0 tb "[B") (Vt : Arv Z h0 tb kt .byte (16 : Int32) (tx W) (.int 0)) (gs : n0 ≤ sb) (gt : n0 ≤ tb) (nst : sb ≠ tb) (So : Sta Z Z.heap zq2 "DigitOnes" "[B" (.ref do_)) (Sq : Sta Z Z.heap zq2 "DigitTens" "[B" (.ref dt_)) (Vo : Arv Z Z.heap do_ ko .byte (100 : Int32) own_ones (.int 0)) (Vq : Arv Z Z.heap dt_ kq .byte (100 : Int32) own_tens (.int 0)) (hb : W.length + 8 < 1000) (hV : vv.toInt = (V0 : Int)) (hlo : 10000000 ≤ V0) (hhi : V0 < 100000000) (hW : W.length ≤ 16) (hg : (0 : Int32) < (own_n (W.length + 8)) - 16 ∧ (own_n (W.length + 8)) - 16 < 18) (hl34 : W.length + 8 < 34) (OD : Old Z n0 h0) (S2 : Sta Z Z.heap zq0 zq5 "Z" (.int cz)) (hcz : ¬ cz = 0) :
 Ctr l Z (⟨zq1, "append", zq8⟩ : MethodName) jdk_68_method_32_code 4 (some (.object zq1)) (rQ 4 1 34 100) n0 #[(.ref sb), (.int vv)] h0 (fun v h => ∃ (t : Addr) (k : ClassId) (cq : Int32), v = some (.ref sb) ∧ Keep h0 h [sb, tb] ∧ (t = tb ∨ h0.size ≤ t) ∧ (cq = 16 ∨ cq = 34) ∧ (W ++ own_dig V0 8).length ≤ cq.toNatClampNeg ∧ sb ≠ t ∧ Exa Z h sb zq3 ∧ Fld Z h sb zq1 "value" "[B" (.ref t) ∧ Fld Z h sb zq1 "coder" "B" (.int 0) ∧ Fld Z h sb zq1 "count" "I" (.int (own_n ((W ++ own_dig V0 8)).length)) ∧ Exa Z h t "[B" ∧ Arv Z h t k .byte cq (tx (W ++ own_dig V0 8)) (.int 0)) := by
 refine Ctr.of (by decide +kernel) hn0 ?_
 intro p e s m below meth c T0 C hnm hret hlk X0
 rw [ef18 m sb vv]
 refine G.b 1 C X0 d18_0 rfl rfl rfl <| G.v 4 C X0 (hQ (wd76 hw)) Via.refl Fn d18_1 rfl fun T1 X1 => G.g 5 C X1 d18_4 rfl (l' := #[vR sb, vI vv, vI (own_n (W).length), .unset]) rfl <| G.a 6 C X1 d18_5 rfl rfl <| G.a 7 C X1 d18_6 rfl rfl <| G.o 10 (cells' := 0) (slots' := 0) (argsL := [(.int vv)]) (St := [(.int (own_n (W).length))]) C X1 (wd113 hw) (wd114 hw) (by decide) (wd116 hw) (wd115 hw) (ctSs8 hw X1.2.1 vv V0 hV hlo hhi) (lenOf pd8 rfl) rfl d18_7 rfl rfl (by decide) (nQ rfl) rfl rfl (by decide) (by decide) (fun v2 T2 h2 Q2 X2 z2 => ?_)
 obtain ⟨hv2, hh2⟩ := Q2
 subst hv2; rw [hh2] at X2
 refine G.z 11 (z := (own_n (W.length + 8))) C X2 d18_10 rfl (own_nk W.length 8 _ rfl) <| G.g 12 C X2 d18_11 rfl (l' := #[vR sb, vI vv, vI (own_n (W).length), vI (own_n (W.length + 8))]) rfl <| G.b 13 C X2 d18_12 rfl rfl rfl <| G.a 14 C X2 d18_13 rfl rfl <| G.N 17 (cells' := 1) (slots' := 34) (argsL := [(.int (own_n (W.length + 8)))]) (St := []) C X2 (wd78 hw) (wd79 hw) (wd80 hw) (wd81 hw) rfl (by decide) Es (wd82 hw) (wd47 hw) (ctEcGA hw X2.2.1 sb tb kt W _ _ Es Fv Fc Vt Fn gs hg.1 hg.2 hW) (lenOf pd5 rfl) rfl d18_14 rfl rfl (by decide) (nQ rfl) rfl rfl (by decide) (by decide) (fun v3 T3 h3 Q3 X3 z3 => ?_)
 obtain ⟨t3, k3, hv3, K3, hz3, Es3, Fv3, Fc3, Fn3, Et3, Vt3⟩ := Q3
 subst hv3
 have K4 := (Keep.refl h0 [sb, tb]).trans K3 (allS (mQ 0 rfl) all0)
 have nb3_sb : sb ≠ t3 := Nat.ne_of_lt (Nat.lt_of_lt_of_le Es.lt hz3)
 refine G.b 18 C X3 d18_17 rfl rfl rfl ?_
 have f5 := (OD.keep K3 (allS gs all0))
 refine G.D 21 (cells' := 1) (slots' := 34) (argsL := []) (St := []) C X3 (wd117 hw) (wd118 hw) (wd120 hw) (wd119 hw) (by decide) Es3 (wd121 hw) (wd47 hw) (ctIlA hw X3.2.1 sb cz Fc3 f5 S2 hcz) (lenOf pd18 rfl) rfl d18_18 rfl rfl (by decide) (nQ rfl) rfl rfl (by decide) (by decide) (fun v6 T6 h6 Q6 X6 z6 => ?_)
 obtain ⟨hv6, hh6⟩ := Q6
 subst hv6; rw [hh6] at X6
 refine G.q 24 C X6 d18_21 rfl (feq (by decide : ¬ (1 : Int32) = 0)).1 <| G.a 25 C X6 d18_24 rfl rfl <| G.a 26 C X6 d18_25 rfl rfl <| G.b 27 C X6 d18_26 rfl rfl rfl <| G.v 30 C X6 (hQ (wd51 hw)) Via.refl Fv3 d18_27 rfl (fun T7 X7 => ?_)
 have Vp8 : Arv Z h3 t3 k3 .byte (34 : Int32) (tx W ++ [(.int 0), (.int 0), (.int 0), (.int 0), (.int 0), (.int 0), (.int 0), (.int 0)]) (.int 0) := Vt3.pad (pad_rep (tx W) (.int 0) 8)
 refine G.o 33 (cells' := 1) (slots' := 34) (argsL := [(.int vv), (.int (own_n (W.length + 8))), (.ref t3)]) (St := []) C X7 (wd122 hw) (wd123 hw) (by decide) (wd124 hw) (wd115 hw) (ctGc8 hw X7.2.1 t3 k3 do_ dt_ ko kq W (34 : Int32) vv V0 Vp8 (Nat.le_trans X2.2.1 hz3) f5 So Sq Vo Vq (Or.inr rfl) hb (by rw [own_cp34]; omega) hV hlo hhi) (lenOf pd23 rfl) rfl d18_30 rfl rfl (by decide) (nQ rfl) rfl rfl (by decide) (by decide) (fun v9 T9 h9 Q9 X9 z9 => ?_)
 obtain ⟨hv9, K9, Vt9⟩ := Q9
 subst hv9
 have K10 := K4.trans K9 (allS (Or.inr (Nat.le_trans (Keep.refl h0 [sb, tb]).1 hz3)) all0)
 refine G.O 34 C X9 d18_33 rfl rfl <| G.r 48 C X9 d18_34 (by decide) (by decide) <| G.b 49 C X9 d18_48 rfl rfl rfl <| G.a 50 C X9 d18_49 rfl rfl ?_
 have f11 := (Fn3.keep K9 (ninS nb3_sb nin0))
 have f12 := (Es3.keep K9)
 refine G.I 53 C X9 (hQ (wd76 hw)) Via.refl f11 f12 gs (Or.inl (wd77 hw)) (wd38 hw) (ty := .int) (by decide) rfl rfl d18_50 rfl (fun T13 h13 X13 W13 F13 => ?_)
 have K14 := K10.wr W13 (mQ 0 rfl)
 refine G.b 54 C X13 d18_53 rfl rfl rfl ?_
 have f15 := (f12.wr W13)
 have f16 := ((Fv3.keep K9 (ninS nb3_sb nin0)).other W13 (Or.inr (sQ6 hw)))
 have f17 := ((Fc3.keep K9 (ninS nb3_sb nin0)).other W13 (Or.inr (sQ7 hw)))
 have f18 := ((Et3.keep K9).wr W13)
 have f19 := (Vt9.other W13 (Ne.symm nb3_sb))
 exact G.J C X13 d18_54 hret rfl rfl hlk (⟨t3, k3, (34 : Int32), rfl, K14, Or.inr (Nat.le_trans (Keep.refl h0 [sb, tb]).1 hz3), Or.inr rfl, (by rw [own_dlen, own_cp34]; omega), nb3_sb, f15, f16, f17, (by rw [own_dlen]; exact F13), f18, f19⟩) (by decide) (by decide)
theorem ctAi8 {l : Launch} {Z : State} {a0 : Array Value} (hw : HW a0 Z) {n0 : Nat} {h0 : Heap} (hn0 : n0 ≤ h0.size) (sb tb : Addr) (kt : ClassId) (W : List Int32) (cp : Int32) (do_ dt_ : Addr) (ko kq : ClassId) (vv cz : Int32) (V0 : Nat) (Es : Exa Z h0 sb zq3) (Fv : Fld Z h0 sb zq1 "value" "[B" (.ref tb)) (Fc : Fld Z h0 sb zq1 "coder" "B" (.int 0)) (Fn : Fld Z h0 sb zq1 "count" "I" (.int (own_n (W).length))) (Et : Exa Z h0 tb "[B") (Vt : Arv Z h0 tb kt .byte cp (tx W) (.int 0)) (gs : n0 ≤ sb) (gt : n0 ≤ tb) (nst : sb ≠ tb) (So : Sta Z Z.heap zq2 "DigitOnes" "[B" (.ref do_)) (Sq : Sta Z Z.heap zq2 "DigitTens" "[B" (.ref dt_)) (Vo : Arv Z Z.heap do_ ko .byte (100 : Int32) own_ones (.int 0)) (Vq : Arv Z Z.heap dt_ kq .byte (100 : Int32) own_tens (.int 0)) (hb : W.length + 8 < 1000) (hV : vv.toInt = (V0 : Int)) (hlo : 10000000 ≤ V0) (hhi : V0 < 100000000) (hcp : cp = 16 ∨ cp = 34) (hwc : W.length ≤ cp.toNatClampNeg) (hl34 : W.length + 8 < 34) (OD : Old Z n0 h0) (S2 : Sta Z Z.heap zq0 zq5 "Z" (.int cz)) (hcz : ¬ cz = 0) :
    Ctr l Z (⟨zq1, "append", zq8⟩ : MethodName) jdk_68_method_32_code 4 (some (.object zq1)) (rQ 4 1 34 100) n0 #[(.ref sb), (.int vv)] h0 (fun v h => ∃ (t : Addr) (k : ClassId) (cq : Int32), v = some (.ref sb) ∧ Keep h0 h [sb, tb] ∧ (t = tb ∨ h0.size ≤ t) ∧ (cq = 16 ∨ cq = 34) ∧ (W ++ own_dig V0 8).length ≤ cq.toNatClampNeg ∧ sb ≠ t ∧ Exa Z h sb zq3 ∧ Fld Z h sb zq1 "value" "[B" (.ref t) ∧ Fld Z h sb zq1 "coder" "B" (.int 0) ∧ Fld Z h sb zq1 "count" "I" (.int (own_n ((W ++ own_dig V0 8)).length)) ∧ Exa Z h t "[B" ∧ Arv Z h t k .byte cq (tx (W ++ own_dig V0 8)) (.int 0)) := by
  by_cases q : W.length + 8 ≤ cp.toNatClampNeg
  · exact ctAiF8 hw hn0 sb tb kt W cp do_ dt_ ko kq vv cz V0 Es Fv Fc Fn Et Vt gs gt nst So Sq Vo Vq hb hV hlo hhi hcp q (own_fit hcp q) OD S2 hcz
  · rcases hcp with rfl | rfl
    · rw [own_cp16] at q hwc; exact ctAiG8 hw hn0 sb tb kt W do_ dt_ ko kq vv cz V0 Es Fv Fc Fn Et Vt gs gt nst So Sq Vo Vq hb hV hlo hhi hwc (own_grow (by omega) hl34) hl34 OD S2 hcz
    · rw [own_cp34] at q; omega
theorem ctAiF9 {l : Launch} {Z : State} {a0 : Array Value} (hw : HW a0 Z) {n0 : Nat} {h0 : Heap} (hn0 : n0 ≤ h0.size) (sb tb : Addr) (kt : ClassId) (W : List Int32) (cp : Int32) (do_ dt_ : Addr) (ko kq : ClassId) (vv cz : Int32) (V0 : Nat) (Es : Exa Z h0 sb zq3) (Fv : Fld Z h0 sb zq1 "value" "[B" (.ref tb)) (Fc : Fld Z h0 sb zq1 "coder" "B" (.int 0)) (Fn : Fld Z h0 sb zq1 "count" "I" (.int (own_n (W).length))) (Et : Exa Z h0 tb "[B") (Vt : Arv Z h0 tb kt .byte cp (tx W) (.int 0)) (gs : n0 ≤ sb) (gt : n0 ≤ tb) (nst : sb ≠ tb) (So : Sta Z Z.heap zq2 "DigitOnes" "[B" (.ref do_)) (Sq : Sta Z Z.heap zq2 "DigitTens" "[B" (.ref dt_)) (Vo : Arv Z Z.heap do_ ko .byte (100 : Int32) own_ones (.int 0)) (Vq : Arv Z Z.heap dt_ kq .byte (100 : Int32) own_tens (.int 0)) (hb : W.length + 9 < 1000) (hV : vv.toInt = (V0 : Int)) (hlo : 100000000 ≤ V0) (hhi : V0 < 1000000000) (hcp : cp = 16 ∨ cp = 34) (hfit : W.length + 9 ≤ cp.toNatClampNeg) (hj : ¬ (0 : Int32) < (own_n (W.length + 9)) - cp) (OD : Old Z n0 h0) (S2 : Sta Z Z.heap zq0 zq5 "Z" (.int cz)) (hcz : ¬ cz = 0) :
 Ctr l Z (⟨zq1, "append", zq8⟩ : MethodName) jdk_68_method_32_code 4 (some (.object zq1)) (rQ 4 1 34 100) n0 #[(.ref sb), (.int vv)] h0 (fun v h => ∃ (t : Addr) (k : ClassId) (cq : Int32), v = some (.ref sb) ∧ Keep h0 h [sb, tb] ∧ (t = tb ∨ h0.size ≤ t) ∧ (cq = 16 ∨ cq = 34) ∧ (W ++ own_dig V0 9).length ≤ cq.toNatClampNeg ∧ sb ≠ t ∧ Exa Z h sb zq3 ∧ Fld Z h sb zq1 "value" "[B" (.ref t) ∧ Fld Z h sb zq1 "coder" "B" (.int 0) ∧ Fld Z h sb zq1 "count" "I" (.int (own_n ((W ++ own_dig V0 9)).length)) ∧ Exa Z h t "[B" ∧ Arv Z h t k .byte cq (tx (W ++ own_dig V0 9)) (.int 0)) := by
 refine Ctr.of (by decide +kernel) hn0 ?_
 intro p e s m below meth c T0 C hnm hret hlk X0
 rw [ef18 m sb vv]
 refine G.b 1 C X0 d18_0 rfl rfl rfl <| G.v 4 C X0 (hQ (wd76 hw)) Via.refl Fn d18_1 rfl fun T1 X1 => G.g 5 C X1 d18_4 rfl (l' := #[vR sb, vI vv, vI (own_n (W).length), .unset]) rfl <| G.a 6 C X1 d18_5 rfl rfl <| G.a 7 C X1 d18_6 rfl rfl <| G.o 10 (cells' := 0) (slots' := 0) (argsL := [(.int vv)]) (St := [(.int (own_n (W).length))]) C X1 (wd113 hw) (wd114 hw) (by decide) (wd116 hw) (wd115 hw) (ctSs9 hw X1.2.1 vv V0 hV hlo hhi) (lenOf pd8 rfl) rfl d18_7 rfl rfl (by decide) (nQ rfl) rfl rfl (by decide) (by decide) (fun v2 T2 h2 Q2 X2 z2 => ?_)
 obtain ⟨hv2, hh2⟩ := Q2
 subst hv2; rw [hh2] at X2
 refine G.z 11 (z := (own_n (W.length + 9))) C X2 d18_10 rfl (own_nk W.length 9 _ rfl) <| G.g 12 C X2 d18_11 rfl (l' := #[vR sb, vI vv, vI (own_n (W).length), vI (own_n (W.length + 9))]) rfl <| G.b 13 C X2 d18_12 rfl rfl rfl <| G.a 14 C X2 d18_13 rfl rfl <| G.N 17 (cells' := 0) (slots' := 0) (argsL := [(.int (own_n (W.length + 9)))]) (St := []) C X2 (wd78 hw) (wd79 hw) (wd80 hw) (wd81 hw) rfl (by decide) Es (wd82 hw) (wd47 hw) (ctEcFA hw X2.2.1 sb tb kt _ cp _ Es Fv Fc Vt hj) (lenOf pd5 rfl) rfl d18_14 rfl rfl (by decide) (nQ rfl) rfl rfl (by decide) (by decide) (fun v3 T3 h3 Q3 X3 z3 => ?_)
 obtain ⟨hv3, hh3⟩ := Q3
 subst hv3; rw [hh3] at X3
 refine G.b 18 C X3 d18_17 rfl rfl rfl <| G.D 21 (cells' := 0) (slots' := 0) (argsL := []) (St := []) C X3 (wd117 hw) (wd118 hw) (wd120 hw) (wd119 hw) (by decide) Es (wd121 hw) (wd47 hw) (ctIlA hw X3.2.1 sb cz Fc OD S2 hcz) (lenOf pd18 rfl) rfl d18_18 rfl rfl (by decide) (nQ rfl) rfl rfl (by decide) (by decide) (fun v4 T4 h4 Q4 X4 z4 => ?_)
 obtain ⟨hv4, hh4⟩ := Q4
 subst hv4; rw [hh4] at X4
 refine G.q 24 C X4 d18_21 rfl (feq (by decide : ¬ (1 : Int32) = 0)).1 <| G.a 25 C X4 d18_24 rfl rfl <| G.a 26 C X4 d18_25 rfl rfl <| G.b 27 C X4 d18_26 rfl rfl rfl <| G.v 30 C X4 (hQ (wd51 hw)) Via.refl Fv d18_27 rfl (fun T5 X5 => ?_)
 have Vp6 : Arv Z h0 tb kt .byte cp (tx W ++ [(.int 0), (.int 0), (.int 0), (.int 0), (.int 0), (.int 0), (.int 0), (.int 0), (.int 0)]) (.int 0) := Vt.pad (pad_rep (tx W) (.int 0) 9)
 refine G.o 33 (cells' := 0) (slots' := 0) (argsL := [(.int vv), (.int (own_n (W.length + 9))), (.ref tb)]) (St := []) C X5 (wd122 hw) (wd123 hw) (by decide) (wd124 hw) (wd115 hw) (ctGc9 hw X5.2.1 tb kt do_ dt_ ko kq W cp vv V0 Vp6 gt OD So Sq Vo Vq hcp hb hfit hV hlo hhi) (lenOf pd23 rfl) rfl d18_30 rfl rfl (by decide) (nQ rfl) rfl rfl (by decide) (by decide) (fun v7 T7 h7 Q7 X7 z7 => ?_)
 obtain ⟨hv7, K7, Vt7⟩ := Q7
 subst hv7
 have K8 := (Keep.refl h0 [sb, tb]).trans K7 (allS (mQ 1 rfl) all0)
 refine G.O 34 C X7 d18_33 rfl rfl <| G.r 48 C X7 d18_34 (by decide) (by decide) <| G.b 49 C X7 d18_48 rfl rfl rfl <| G.a 50 C X7 d18_49 rfl rfl ?_
 have f9 := (Fn.keep K7 (ninS nst nin0))
 have f10 := (Es.keep K7)
 refine G.I 53 C X7 (hQ (wd76 hw)) Via.refl f9 f10 gs (Or.inl (wd77 hw)) (wd38 hw) (ty := .int) (by decide) rfl rfl d18_50 rfl (fun T11 h11 X11 W11 F11 => ?_)
 have K12 := K8.wr W11 (mQ 0 rfl)
 refine G.b 54 C X11 d18_53 rfl rfl rfl ?_
 have f13 := (f10.wr W11)
 have f14 := ((Fv.keep K7 (ninS nst nin0)).other W11 (Or.inr (sQ6 hw)))
 have f15 := ((Fc.keep K7 (ninS nst nin0)).other W11 (Or.inr (sQ7 hw)))
 have f16 := ((Et.keep K7).wr W11)
 have f17 := (Vt7.other W11 (Ne.symm nst))
 exact G.J C X11 d18_54 hret rfl rfl hlk (⟨tb, kt, cp, rfl, K12, Or.inl rfl, hcp, (by rw [own_dlen]; exact hfit), nst, f13, f14, f15, (by rw [own_dlen]; exact F11), f16, f17⟩) (by decide) (by decide)
theorem ctAiG9 {l : Launch} {Z : State} {a0 : Array Value} (hw : HW a0 Z) {n0 : Nat} {h0 : Heap} (hn0 : n0 ≤ h0.size) (sb tb : Addr) (kt : ClassId) (W : List Int32) (do_ dt_ : Addr) (ko kq : ClassId) (vv cz : Int32) (V0 : Nat) (Es : Exa Z h0 sb zq3) (Fv : Fld Z h0 sb zq1 "value" "[B" (.ref tb)) (Fc : Fld Z h0 sb zq1 "coder" "B" (.int 0)) (Fn : Fld Z h0 sb zq1 "count" "I" (.int (own_n (W).length))) (Et : Exa Z h0 tb "[B") (Vt : Arv Z h0 tb kt .byte (16 : Int32) (tx W) (.int 0)) (gs : n0 ≤ sb) (gt : n0 ≤ tb) (nst : sb ≠ tb) (So : Sta Z Z.heap zq2 "DigitOnes" "[B" (.ref do_)) (Sq : Sta Z Z.heap zq2 "DigitTens" "[B" (.ref dt_)) (Vo : Arv Z Z.heap do_ ko .byte (100 : Int32) own_ones (.int 0)) (Vq : Arv Z Z.heap dt_ kq .byte (100 : Int32) own_tens (.int 0)) (hb : W.length + 9 < 1000) (hV : vv.toInt = (V0 : Int)) (hlo : 100000000 ≤ V0) (hhi : V0 < 1000000000) (hW : W.length ≤ 16) (hg : (0 : Int32) < (own_n (W.length + 9)) - 16 ∧ (own_n (W.length + 9)) - 16 < 18) (hl34 : W.length + 9 < 34) (OD : Old Z n0 h0) (S2 : Sta Z Z.heap zq0 zq5 "Z" (.int cz)) (hcz : ¬ cz = 0) :
 Ctr l Z (⟨zq1, "append", zq8⟩ : MethodName) jdk_68_method_32_code 4 (some (.object zq1)) (rQ 4 1 34 100) n0 #[(.ref sb), (.int vv)] h0 (fun v h => ∃ (t : Addr) (k : ClassId) (cq : Int32), v = some (.ref sb) ∧ Keep h0 h [sb, tb] ∧ (t = tb ∨ h0.size ≤ t) ∧ (cq = 16 ∨ cq = 34) ∧ (W ++ own_dig V0 9).length ≤ cq.toNatClampNeg ∧ sb ≠ t ∧ Exa Z h sb zq3 ∧ Fld Z h sb zq1 "value" "[B" (.ref t) ∧ Fld Z h sb zq1 "coder" "B" (.int 0) ∧ Fld Z h sb zq1 "count" "I" (.int (own_n ((W ++ own_dig V0 9)).length)) ∧ Exa Z h t "[B" ∧ Arv Z h t k .byte cq (tx (W ++ own_dig V0 9)) (.int 0)) := by
 refine Ctr.of (by decide +kernel) hn0 ?_
 intro p e s m below meth c T0 C hnm hret hlk X0
 rw [ef18 m sb vv]
 refine G.b 1 C X0 d18_0 rfl rfl rfl <| G.v 4 C X0 (hQ (wd76 hw)) Via.refl Fn d18_1 rfl fun T1 X1 => G.g 5 C X1 d18_4 rfl (l' := #[vR sb, vI vv, vI (own_n (W).length), .unset]) rfl <| G.a 6 C X1 d18_5 rfl rfl <| G.a 7 C X1 d18_6 rfl rfl <| G.o 10 (cells' := 0) (slots' := 0) (argsL := [(.int vv)]) (St := [(.int (own_n (W).length))]) C X1 (wd113 hw) (wd114 hw) (by decide) (wd116 hw) (wd115 hw) (ctSs9 hw X1.2.1 vv V0 hV hlo hhi) (lenOf pd8 rfl) rfl d18_7 rfl rfl (by decide) (nQ rfl) rfl rfl (by decide) (by decide) (fun v2 T2 h2 Q2 X2 z2 => ?_)
 obtain ⟨hv2, hh2⟩ := Q2
 subst hv2; rw [hh2] at X2
 refine G.z 11 (z := (own_n (W.length + 9))) C X2 d18_10 rfl (own_nk W.length 9 _ rfl) <| G.g 12 C X2 d18_11 rfl (l' := #[vR sb, vI vv, vI (own_n (W).length), vI (own_n (W.length + 9))]) rfl <| G.b 13 C X2 d18_12 rfl rfl rfl <| G.a 14 C X2 d18_13 rfl rfl <| G.N 17 (cells' := 1) (slots' := 34) (argsL := [(.int (own_n (W.length + 9)))]) (St := []) C X2 (wd78 hw) (wd79 hw) (wd80 hw) (wd81 hw) rfl (by decide) Es (wd82 hw) (wd47 hw) (ctEcGA hw X2.2.1 sb tb kt W _ _ Es Fv Fc Vt Fn gs hg.1 hg.2 hW) (lenOf pd5 rfl) rfl d18_14 rfl rfl (by decide) (nQ rfl) rfl rfl (by decide) (by decide) (fun v3 T3 h3 Q3 X3 z3 => ?_)
 obtain ⟨t3, k3, hv3, K3, hz3, Es3, Fv3, Fc3, Fn3, Et3, Vt3⟩ := Q3
 subst hv3
 have K4 := (Keep.refl h0 [sb, tb]).trans K3 (allS (mQ 0 rfl) all0)
 have nb3_sb : sb ≠ t3 := Nat.ne_of_lt (Nat.lt_of_lt_of_le Es.lt hz3)
 refine G.b 18 C X3 d18_17 rfl rfl rfl ?_
 have f5 := (OD.keep K3 (allS gs all0))
 refine G.D 21 (cells' := 1) (slots' := 34) (argsL := []) (St := []) C X3 (wd117 hw) (wd118 hw) (wd120 hw) (wd119 hw) (by decide) Es3 (wd121 hw) (wd47 hw) (ctIlA hw X3.2.1 sb cz Fc3 f5 S2 hcz) (lenOf pd18 rfl) rfl d18_18 rfl rfl (by decide) (nQ rfl) rfl rfl (by decide) (by decide) (fun v6 T6 h6 Q6 X6 z6 => ?_)
 obtain ⟨hv6, hh6⟩ := Q6
 subst hv6; rw [hh6] at X6
 refine G.q 24 C X6 d18_21 rfl (feq (by decide : ¬ (1 : Int32) = 0)).1 <| G.a 25 C X6 d18_24 rfl rfl <| G.a 26 C X6 d18_25 rfl rfl <| G.b 27 C X6 d18_26 rfl rfl rfl <| G.v 30 C X6 (hQ (wd51 hw)) Via.refl Fv3 d18_27 rfl (fun T7 X7 => ?_)
 have Vp8 : Arv Z h3 t3 k3 .byte (34 : Int32) (tx W ++ [(.int 0), (.int 0), (.int 0), (.int 0), (.int 0), (.int 0), (.int 0), (.int 0), (.int 0)]) (.int 0) := Vt3.pad (pad_rep (tx W) (.int 0) 9)
 refine G.o 33 (cells' := 1) (slots' := 34) (argsL := [(.int vv), (.int (own_n (W.length + 9))), (.ref t3)]) (St := []) C X7 (wd122 hw) (wd123 hw) (by decide) (wd124 hw) (wd115 hw) (ctGc9 hw X7.2.1 t3 k3 do_ dt_ ko kq W (34 : Int32) vv V0 Vp8 (Nat.le_trans X2.2.1 hz3) f5 So Sq Vo Vq (Or.inr rfl) hb (by rw [own_cp34]; omega) hV hlo hhi) (lenOf pd23 rfl) rfl d18_30 rfl rfl (by decide) (nQ rfl) rfl rfl (by decide) (by decide) (fun v9 T9 h9 Q9 X9 z9 => ?_)
 obtain ⟨hv9, K9, Vt9⟩ := Q9
 subst hv9
 have K10 := K4.trans K9 (allS (Or.inr (Nat.le_trans (Keep.refl h0 [sb, tb]).1 hz3)) all0)
 refine G.O 34 C X9 d18_33 rfl rfl <| G.r 48 C X9 d18_34 (by decide) (by decide) <| G.b 49 C X9 d18_48 rfl rfl rfl <| G.a 50 C X9 d18_49 rfl rfl ?_
 have f11 := (Fn3.keep K9 (ninS nb3_sb nin0))
 have f12 := (Es3.keep K9)
 refine G.I 53 C X9 (hQ (wd76 hw)) Via.refl f11 f12 gs (Or.inl (wd77 hw)) (wd38 hw) (ty := .int) (by decide) rfl rfl d18_50 rfl (fun T13 h13 X13 W13 F13 => ?_)
 have K14 := K10.wr W13 (mQ 0 rfl)
 refine G.b 54 C X13 d18_53 rfl rfl rfl ?_
 have f15 := (f12.wr W13)
 have f16 := ((Fv3.keep K9 (ninS nb3_sb nin0)).other W13 (Or.inr (sQ6 hw)))
 have f17 := ((Fc3.keep K9 (ninS nb3_sb nin0)).other W13 (Or.inr (sQ7 hw)))
 have f18 := ((Et3.keep K9).wr W13)
 have f19 := (Vt9.other W13 (Ne.symm nb3_sb))
 exact G.J C X13 d18_54 hret rfl rfl hlk (⟨t3, k3, (34 : Int32), rfl, K14, Or.inr (Nat.le_trans (Keep.refl h0 [sb, tb]).1 hz3), Or.inr rfl, (by rw [own_dlen, own_cp34]; omega), nb3_sb, f15, f16, f17, (by rw [own_dlen]; exact F13), f18, f19⟩) (by decide) (by decide)
theorem ctAi9 {l : Launch} {Z : State} {a0 : Array Value} (hw : HW a0 Z) {n0 : Nat} {h0 : Heap} (hn0 : n0 ≤ h0.size) (sb tb : Addr) (kt : ClassId) (W : List Int32) (cp : Int32) (do_ dt_ : Addr) (ko kq : ClassId) (vv cz : Int32) (V0 : Nat) (Es : Exa Z h0 sb zq3) (Fv : Fld Z h0 sb zq1 "value" "[B" (.ref tb)) (Fc : Fld Z h0 sb zq1 "coder" "B" (.int 0)) (Fn : Fld Z h0 sb zq1 "count" "I" (.int (own_n (W).length))) (Et : Exa Z h0 tb "[B") (Vt : Arv Z h0 tb kt .byte cp (tx W) (.int 0)) (gs : n0 ≤ sb) (gt : n0 ≤ tb) (nst : sb ≠ tb) (So : Sta Z Z.heap zq2 "DigitOnes" "[B" (.ref do_)) (Sq : Sta Z Z.heap zq2 "DigitTens" "[B" (.ref dt_)) (Vo : Arv Z Z.heap do_ ko .byte (100 : Int32) own_ones (.int 0)) (Vq : Arv Z Z.heap dt_ kq .byte (100 : Int32) own_tens (.int 0)) (hb : W.length + 9 < 1000) (hV : vv.toInt = (V0 : Int)) (hlo : 100000000 ≤ V0) (hhi : V0 < 1000000000) (hcp : cp = 16 ∨ cp = 34) (hwc : W.length ≤ cp.toNatClampNeg) (hl34 : W.length + 9 < 34) (OD : Old Z n0 h0) (S2 : Sta Z Z.heap zq0 zq5 "Z" (.int cz)) (hcz : ¬ cz = 0) :
    Ctr l Z (⟨zq1, "append", zq8⟩ : MethodName) jdk_68_method_32_code 4 (some (.object zq1)) (rQ 4 1 34 100) n0 #[(.ref sb), (.int vv)] h0 (fun v h => ∃ (t : Addr) (k : ClassId) (cq : Int32), v = some (.ref sb) ∧ Keep h0 h [sb, tb] ∧ (t = tb ∨ h0.size ≤ t) ∧ (cq = 16 ∨ cq = 34) ∧ (W ++ own_dig V0 9).length ≤ cq.toNatClampNeg ∧ sb ≠ t ∧ Exa Z h sb zq3 ∧ Fld Z h sb zq1 "value" "[B" (.ref t) ∧ Fld Z h sb zq1 "coder" "B" (.int 0) ∧ Fld Z h sb zq1 "count" "I" (.int (own_n ((W ++ own_dig V0 9)).length)) ∧ Exa Z h t "[B" ∧ Arv Z h t k .byte cq (tx (W ++ own_dig V0 9)) (.int 0)) := by
  by_cases q : W.length + 9 ≤ cp.toNatClampNeg
  · exact ctAiF9 hw hn0 sb tb kt W cp do_ dt_ ko kq vv cz V0 Es Fv Fc Fn Et Vt gs gt nst So Sq Vo Vq hb hV hlo hhi hcp q (own_fit hcp q) OD S2 hcz
  · rcases hcp with rfl | rfl
    · rw [own_cp16] at q hwc; exact ctAiG9 hw hn0 sb tb kt W do_ dt_ ko kq vv cz V0 Es Fv Fc Fn Et Vt gs gt nst So Sq Vo Vq hb hV hlo hhi hwc (own_grow (by omega) hl34) hl34 OD S2 hcz
    · rw [own_cp34] at q; omega
theorem ctAiF10 {l : Launch} {Z : State} {a0 : Array Value} (hw : HW a0 Z) {n0 : Nat} {h0 : Heap} (hn0 : n0 ≤ h0.size) (sb tb : Addr) (kt : ClassId) (W : List Int32) (cp : Int32) (do_ dt_ : Addr) (ko kq : ClassId) (vv cz : Int32) (V0 : Nat) (Es : Exa Z h0 sb zq3) (Fv : Fld Z h0 sb zq1 "value" "[B" (.ref tb)) (Fc : Fld Z h0 sb zq1 "coder" "B" (.int 0)) (Fn : Fld Z h0 sb zq1 "count" "I" (.int (own_n (W).length))) (Et : Exa Z h0 tb "[B") (Vt : Arv Z h0 tb kt .byte cp (tx W) (.int 0)) (gs : n0 ≤ sb) (gt : n0 ≤ tb) (nst : sb ≠ tb) (So : Sta Z Z.heap zq2 "DigitOnes" "[B" (.ref do_)) (Sq : Sta Z Z.heap zq2 "DigitTens" "[B" (.ref dt_)) (Vo : Arv Z Z.heap do_ ko .byte (100 : Int32) own_ones (.int 0)) (Vq : Arv Z Z.heap dt_ kq .byte (100 : Int32) own_tens (.int 0)) (hb : W.length + 10 < 1000) (hV : vv.toInt = (V0 : Int)) (hlo : 1000000000 ≤ V0) (hhi : V0 < 2147483648) (hcp : cp = 16 ∨ cp = 34) (hfit : W.length + 10 ≤ cp.toNatClampNeg) (hj : ¬ (0 : Int32) < (own_n (W.length + 10)) - cp) (OD : Old Z n0 h0) (S2 : Sta Z Z.heap zq0 zq5 "Z" (.int cz)) (hcz : ¬ cz = 0) :
 Ctr l Z (⟨zq1, "append", zq8⟩ : MethodName) jdk_68_method_32_code 4 (some (.object zq1)) (rQ 4 1 34 100) n0 #[(.ref sb), (.int vv)] h0 (fun v h => ∃ (t : Addr) (k : ClassId) (cq : Int32), v = some (.ref sb) ∧ Keep h0 h [sb, tb] ∧ (t = tb ∨ h0.size ≤ t) ∧ (cq = 16 ∨ cq = 34) ∧ (W ++ own_dig V0 10).length ≤ cq.toNatClampNeg ∧ sb ≠ t ∧ Exa Z h sb zq3 ∧ Fld Z h sb zq1 "value" "[B" (.ref t) ∧ Fld Z h sb zq1 "coder" "B" (.int 0) ∧ Fld Z h sb zq1 "count" "I" (.int (own_n ((W ++ own_dig V0 10)).length)) ∧ Exa Z h t "[B" ∧ Arv Z h t k .byte cq (tx (W ++ own_dig V0 10)) (.int 0)) := by
 refine Ctr.of (by decide +kernel) hn0 ?_
 intro p e s m below meth c T0 C hnm hret hlk X0
 rw [ef18 m sb vv]
 refine G.b 1 C X0 d18_0 rfl rfl rfl <| G.v 4 C X0 (hQ (wd76 hw)) Via.refl Fn d18_1 rfl fun T1 X1 => G.g 5 C X1 d18_4 rfl (l' := #[vR sb, vI vv, vI (own_n (W).length), .unset]) rfl <| G.a 6 C X1 d18_5 rfl rfl <| G.a 7 C X1 d18_6 rfl rfl <| G.o 10 (cells' := 0) (slots' := 0) (argsL := [(.int vv)]) (St := [(.int (own_n (W).length))]) C X1 (wd113 hw) (wd114 hw) (by decide) (wd116 hw) (wd115 hw) (ctSs10 hw X1.2.1 vv V0 hV hlo hhi) (lenOf pd8 rfl) rfl d18_7 rfl rfl (by decide) (nQ rfl) rfl rfl (by decide) (by decide) (fun v2 T2 h2 Q2 X2 z2 => ?_)
 obtain ⟨hv2, hh2⟩ := Q2
 subst hv2; rw [hh2] at X2
 refine G.z 11 (z := (own_n (W.length + 10))) C X2 d18_10 rfl (own_nk W.length 10 _ rfl) <| G.g 12 C X2 d18_11 rfl (l' := #[vR sb, vI vv, vI (own_n (W).length), vI (own_n (W.length + 10))]) rfl <| G.b 13 C X2 d18_12 rfl rfl rfl <| G.a 14 C X2 d18_13 rfl rfl <| G.N 17 (cells' := 0) (slots' := 0) (argsL := [(.int (own_n (W.length + 10)))]) (St := []) C X2 (wd78 hw) (wd79 hw) (wd80 hw) (wd81 hw) rfl (by decide) Es (wd82 hw) (wd47 hw) (ctEcFA hw X2.2.1 sb tb kt _ cp _ Es Fv Fc Vt hj) (lenOf pd5 rfl) rfl d18_14 rfl rfl (by decide) (nQ rfl) rfl rfl (by decide) (by decide) (fun v3 T3 h3 Q3 X3 z3 => ?_)
 obtain ⟨hv3, hh3⟩ := Q3
 subst hv3; rw [hh3] at X3
 refine G.b 18 C X3 d18_17 rfl rfl rfl <| G.D 21 (cells' := 0) (slots' := 0) (argsL := []) (St := []) C X3 (wd117 hw) (wd118 hw) (wd120 hw) (wd119 hw) (by decide) Es (wd121 hw) (wd47 hw) (ctIlA hw X3.2.1 sb cz Fc OD S2 hcz) (lenOf pd18 rfl) rfl d18_18 rfl rfl (by decide) (nQ rfl) rfl rfl (by decide) (by decide) (fun v4 T4 h4 Q4 X4 z4 => ?_)
 obtain ⟨hv4, hh4⟩ := Q4
 subst hv4; rw [hh4] at X4
 refine G.q 24 C X4 d18_21 rfl (feq (by decide : ¬ (1 : Int32) = 0)).1 <| G.a 25 C X4 d18_24 rfl rfl <| G.a 26 C X4 d18_25 rfl rfl <| G.b 27 C X4 d18_26 rfl rfl rfl <| G.v 30 C X4 (hQ (wd51 hw)) Via.refl Fv d18_27 rfl (fun T5 X5 => ?_)
 have Vp6 : Arv Z h0 tb kt .byte cp (tx W ++ [(.int 0), (.int 0), (.int 0), (.int 0), (.int 0), (.int 0), (.int 0), (.int 0), (.int 0), (.int 0)]) (.int 0) := Vt.pad (pad_rep (tx W) (.int 0) 10)
 refine G.o 33 (cells' := 0) (slots' := 0) (argsL := [(.int vv), (.int (own_n (W.length + 10))), (.ref tb)]) (St := []) C X5 (wd122 hw) (wd123 hw) (by decide) (wd124 hw) (wd115 hw) (ctGc10 hw X5.2.1 tb kt do_ dt_ ko kq W cp vv V0 Vp6 gt OD So Sq Vo Vq hcp hb hfit hV hlo hhi) (lenOf pd23 rfl) rfl d18_30 rfl rfl (by decide) (nQ rfl) rfl rfl (by decide) (by decide) (fun v7 T7 h7 Q7 X7 z7 => ?_)
 obtain ⟨hv7, K7, Vt7⟩ := Q7
 subst hv7
 have K8 := (Keep.refl h0 [sb, tb]).trans K7 (allS (mQ 1 rfl) all0)
 refine G.O 34 C X7 d18_33 rfl rfl <| G.r 48 C X7 d18_34 (by decide) (by decide) <| G.b 49 C X7 d18_48 rfl rfl rfl <| G.a 50 C X7 d18_49 rfl rfl ?_
 have f9 := (Fn.keep K7 (ninS nst nin0))
 have f10 := (Es.keep K7)
 refine G.I 53 C X7 (hQ (wd76 hw)) Via.refl f9 f10 gs (Or.inl (wd77 hw)) (wd38 hw) (ty := .int) (by decide) rfl rfl d18_50 rfl (fun T11 h11 X11 W11 F11 => ?_)
 have K12 := K8.wr W11 (mQ 0 rfl)
 refine G.b 54 C X11 d18_53 rfl rfl rfl ?_
 have f13 := (f10.wr W11)
 have f14 := ((Fv.keep K7 (ninS nst nin0)).other W11 (Or.inr (sQ6 hw)))
 have f15 := ((Fc.keep K7 (ninS nst nin0)).other W11 (Or.inr (sQ7 hw)))
 have f16 := ((Et.keep K7).wr W11)
 have f17 := (Vt7.other W11 (Ne.symm nst))
 exact G.J C X11 d18_54 hret rfl rfl hlk (⟨tb, kt, cp, rfl, K12, Or.inl rfl, hcp, (by rw [own_dlen]; exact hfit), nst, f13, f14, f15, (by rw [own_dlen]; exact F11), f16, f17⟩) (by decide) (by decide)
theorem ctAiG10 {l : Launch} {Z : State} {a0 : Array Value} (hw : HW a0 Z) {n0 : Nat} {h0 : Heap} (hn0 : n0 ≤ h0.size) (sb tb : Addr) (kt : ClassId) (W : List Int32) (do_ dt_ : Addr) (ko kq : ClassId) (vv cz : Int32) (V0 : Nat) (Es : Exa Z h0 sb zq3) (Fv : Fld Z h0 sb zq1 "value" "[B" (.ref tb)) (Fc : Fld Z h0 sb zq1 "coder" "B" (.int 0)) (Fn : Fld Z h0 sb zq1 "count" "I" (.int (own_n (W).length))) (Et : Exa Z h0 tb "[B") (Vt : Arv Z h0 tb kt .byte (16 : Int32) (tx W) (.int 0)) (gs : n0 ≤ sb) (gt : n0 ≤ tb) (nst : sb ≠ tb) (So : Sta Z Z.heap zq2 "DigitOnes" "[B" (.ref do_)) (Sq : Sta Z Z.heap zq2 "DigitTens" "[B" (.ref dt_)) (Vo : Arv Z Z.heap do_ ko .byte (100 : Int32) own_ones (.int 0)) (Vq : Arv Z Z.heap dt_ kq .byte (100 : Int32) own_tens (.int 0)) (hb : W.length + 10 < 1000) (hV : vv.toInt = (V0 : Int)) (hlo : 1000000000 ≤ V0) (hhi : V0 < 2147483648) (hW : W.length ≤ 16) (hg : (0 : Int32) < (own_n (W.length + 10)) - 16 ∧ (own_n (W.length + 10)) - 16 < 18) (hl34 : W.length + 10 < 34) (OD : Old Z n0 h0) (S2 : Sta Z Z.heap zq0 zq5 "Z" (.int cz)) (hcz : ¬ cz = 0) :
 Ctr l Z (⟨zq1, "append", zq8⟩ : MethodName) jdk_68_method_32_code 4 (some (.object zq1)) (rQ 4 1 34 100) n0 #[(.ref sb), (.int vv)] h0 (fun v h => ∃ (t : Addr) (k : ClassId) (cq : Int32), v = some (.ref sb) ∧ Keep h0 h [sb, tb] ∧ (t = tb ∨ h0.size ≤ t) ∧ (cq = 16 ∨ cq = 34) ∧ (W ++ own_dig V0 10).length ≤ cq.toNatClampNeg ∧ sb ≠ t ∧ Exa Z h sb zq3 ∧ Fld Z h sb zq1 "value" "[B" (.ref t) ∧ Fld Z h sb zq1 "coder" "B" (.int 0) ∧ Fld Z h sb zq1 "count" "I" (.int (own_n ((W ++ own_dig V0 10)).length)) ∧ Exa Z h t "[B" ∧ Arv Z h t k .byte cq (tx (W ++ own_dig V0 10)) (.int 0)) := by
 refine Ctr.of (by decide +kernel) hn0 ?_
 intro p e s m below meth c T0 C hnm hret hlk X0
 rw [ef18 m sb vv]
 refine G.b 1 C X0 d18_0 rfl rfl rfl <| G.v 4 C X0 (hQ (wd76 hw)) Via.refl Fn d18_1 rfl fun T1 X1 => G.g 5 C X1 d18_4 rfl (l' := #[vR sb, vI vv, vI (own_n (W).length), .unset]) rfl <| G.a 6 C X1 d18_5 rfl rfl <| G.a 7 C X1 d18_6 rfl rfl <| G.o 10 (cells' := 0) (slots' := 0) (argsL := [(.int vv)]) (St := [(.int (own_n (W).length))]) C X1 (wd113 hw) (wd114 hw) (by decide) (wd116 hw) (wd115 hw) (ctSs10 hw X1.2.1 vv V0 hV hlo hhi) (lenOf pd8 rfl) rfl d18_7 rfl rfl (by decide) (nQ rfl) rfl rfl (by decide) (by decide) (fun v2 T2 h2 Q2 X2 z2 => ?_)
 obtain ⟨hv2, hh2⟩ := Q2
 subst hv2; rw [hh2] at X2
 refine G.z 11 (z := (own_n (W.length + 10))) C X2 d18_10 rfl (own_nk W.length 10 _ rfl) <| G.g 12 C X2 d18_11 rfl (l' := #[vR sb, vI vv, vI (own_n (W).length), vI (own_n (W.length + 10))]) rfl <| G.b 13 C X2 d18_12 rfl rfl rfl <| G.a 14 C X2 d18_13 rfl rfl <| G.N 17 (cells' := 1) (slots' := 34) (argsL := [(.int (own_n (W.length + 10)))]) (St := []) C X2 (wd78 hw) (wd79 hw) (wd80 hw) (wd81 hw) rfl (by decide) Es (wd82 hw) (wd47 hw) (ctEcGA hw X2.2.1 sb tb kt W _ _ Es Fv Fc Vt Fn gs hg.1 hg.2 hW) (lenOf pd5 rfl) rfl d18_14 rfl rfl (by decide) (nQ rfl) rfl rfl (by decide) (by decide) (fun v3 T3 h3 Q3 X3 z3 => ?_)
 obtain ⟨t3, k3, hv3, K3, hz3, Es3, Fv3, Fc3, Fn3, Et3, Vt3⟩ := Q3
 subst hv3
 have K4 := (Keep.refl h0 [sb, tb]).trans K3 (allS (mQ 0 rfl) all0)
 have nb3_sb : sb ≠ t3 := Nat.ne_of_lt (Nat.lt_of_lt_of_le Es.lt hz3)
 refine G.b 18 C X3 d18_17 rfl rfl rfl ?_
 have f5 := (OD.keep K3 (allS gs all0))
 refine G.D 21 (cells' := 1) (slots' := 34) (argsL := []) (St := []) C X3 (wd117 hw) (wd118 hw) (wd120 hw) (wd119 hw) (by decide) Es3 (wd121 hw) (wd47 hw) (ctIlA hw X3.2.1 sb cz Fc3 f5 S2 hcz) (lenOf pd18 rfl) rfl d18_18 rfl rfl (by decide) (nQ rfl) rfl rfl (by decide) (by decide) (fun v6 T6 h6 Q6 X6 z6 => ?_)
 obtain ⟨hv6, hh6⟩ := Q6
 subst hv6; rw [hh6] at X6
 refine G.q 24 C X6 d18_21 rfl (feq (by decide : ¬ (1 : Int32) = 0)).1 <| G.a 25 C X6 d18_24 rfl rfl <| G.a 26 C X6 d18_25 rfl rfl <| G.b 27 C X6 d18_26 rfl rfl rfl <| G.v 30 C X6 (hQ (wd51 hw)) Via.refl Fv3 d18_27 rfl (fun T7 X7 => ?_)
 have Vp8 : Arv Z h3 t3 k3 .byte (34 : Int32) (tx W ++ [(.int 0), (.int 0), (.int 0), (.int 0), (.int 0), (.int 0), (.int 0), (.int 0), (.int 0), (.int 0)]) (.int 0) := Vt3.pad (pad_rep (tx W) (.int 0) 10)
 refine G.o 33 (cells' := 1) (slots' := 34) (argsL := [(.int vv), (.int (own_n (W.length + 10))), (.ref t3)]) (St := []) C X7 (wd122 hw) (wd123 hw) (by decide) (wd124 hw) (wd115 hw) (ctGc10 hw X7.2.1 t3 k3 do_ dt_ ko kq W (34 : Int32) vv V0 Vp8 (Nat.le_trans X2.2.1 hz3) f5 So Sq Vo Vq (Or.inr rfl) hb (by rw [own_cp34]; omega) hV hlo hhi) (lenOf pd23 rfl) rfl d18_30 rfl rfl (by decide) (nQ rfl) rfl rfl (by decide) (by decide) (fun v9 T9 h9 Q9 X9 z9 => ?_)
 obtain ⟨hv9, K9, Vt9⟩ := Q9
 subst hv9
 have K10 := K4.trans K9 (allS (Or.inr (Nat.le_trans (Keep.refl h0 [sb, tb]).1 hz3)) all0)
 refine G.O 34 C X9 d18_33 rfl rfl <| G.r 48 C X9 d18_34 (by decide) (by decide) <| G.b 49 C X9 d18_48 rfl rfl rfl <| G.a 50 C X9 d18_49 rfl rfl ?_
 have f11 := (Fn3.keep K9 (ninS nb3_sb nin0))
 have f12 := (Es3.keep K9)
 refine G.I 53 C X9 (hQ (wd76 hw)) Via.refl f11 f12 gs (Or.inl (wd77 hw)) (wd38 hw) (ty := .int) (by decide) rfl rfl d18_50 rfl (fun T13 h13 X13 W13 F13 => ?_)
 have K14 := K10.wr W13 (mQ 0 rfl)
 refine G.b 54 C X13 d18_53 rfl rfl rfl ?_
 have f15 := (f12.wr W13)
 have f16 := ((Fv3.keep K9 (ninS nb3_sb nin0)).other W13 (Or.inr (sQ6 hw)))
 have f17 := ((Fc3.keep K9 (ninS nb3_sb nin0)).other W13 (Or.inr (sQ7 hw)))
 have f18 := ((Et3.keep K9).wr W13)
 have f19 := (Vt9.other W13 (Ne.symm nb3_sb))
 exact G.J C X13 d18_54 hret rfl rfl hlk (⟨t3, k3, (34 : Int32), rfl, K14, Or.inr (Nat.le_trans (Keep.refl h0 [sb, tb]).1 hz3), Or.inr rfl, (by rw [own_dlen, own_cp34]; omega), nb3_sb, f15, f16, f17, (by rw [own_dlen]; exact F13), f18, f19⟩) (by decide) (by decide)
theorem ctAi10 {l : Launch} {Z : State} {a0 : Array Value} (hw : HW a0 Z) {n0 : Nat} {h0 : Heap} (hn0 : n0 ≤ h0.size) (sb tb : Addr) (kt : ClassId) (W : List Int32) (cp : Int32) (do_ dt_ : Addr) (ko kq : ClassId) (vv cz : Int32) (V0 : Nat) (Es : Exa Z h0 sb zq3) (Fv : Fld Z h0 sb zq1 "value" "[B" (.ref tb)) (Fc : Fld Z h0 sb zq1 "coder" "B" (.int 0)) (Fn : Fld Z h0 sb zq1 "count" "I" (.int (own_n (W).length))) (Et : Exa Z h0 tb "[B") (Vt : Arv Z h0 tb kt .byte cp (tx W) (.int 0)) (gs : n0 ≤ sb) (gt : n0 ≤ tb) (nst : sb ≠ tb) (So : Sta Z Z.heap zq2 "DigitOnes" "[B" (.ref do_)) (Sq : Sta Z Z.heap zq2 "DigitTens" "[B" (.ref dt_)) (Vo : Arv Z Z.heap do_ ko .byte (100 : Int32) own_ones (.int 0)) (Vq : Arv Z Z.heap dt_ kq .byte (100 : Int32) own_tens (.int 0)) (hb : W.length + 10 < 1000) (hV : vv.toInt = (V0 : Int)) (hlo : 1000000000 ≤ V0) (hhi : V0 < 2147483648) (hcp : cp = 16 ∨ cp = 34) (hwc : W.length ≤ cp.toNatClampNeg) (hl34 : W.length + 10 < 34) (OD : Old Z n0 h0) (S2 : Sta Z Z.heap zq0 zq5 "Z" (.int cz)) (hcz : ¬ cz = 0) :
    Ctr l Z (⟨zq1, "append", zq8⟩ : MethodName) jdk_68_method_32_code 4 (some (.object zq1)) (rQ 4 1 34 100) n0 #[(.ref sb), (.int vv)] h0 (fun v h => ∃ (t : Addr) (k : ClassId) (cq : Int32), v = some (.ref sb) ∧ Keep h0 h [sb, tb] ∧ (t = tb ∨ h0.size ≤ t) ∧ (cq = 16 ∨ cq = 34) ∧ (W ++ own_dig V0 10).length ≤ cq.toNatClampNeg ∧ sb ≠ t ∧ Exa Z h sb zq3 ∧ Fld Z h sb zq1 "value" "[B" (.ref t) ∧ Fld Z h sb zq1 "coder" "B" (.int 0) ∧ Fld Z h sb zq1 "count" "I" (.int (own_n ((W ++ own_dig V0 10)).length)) ∧ Exa Z h t "[B" ∧ Arv Z h t k .byte cq (tx (W ++ own_dig V0 10)) (.int 0)) := by
  by_cases q : W.length + 10 ≤ cp.toNatClampNeg
  · exact ctAiF10 hw hn0 sb tb kt W cp do_ dt_ ko kq vv cz V0 Es Fv Fc Fn Et Vt gs gt nst So Sq Vo Vq hb hV hlo hhi hcp q (own_fit hcp q) OD S2 hcz
  · rcases hcp with rfl | rfl
    · rw [own_cp16] at q hwc; exact ctAiG10 hw hn0 sb tb kt W do_ dt_ ko kq vv cz V0 Es Fv Fc Fn Et Vt gs gt nst So Sq Vo Vq hb hV hlo hhi hwc (own_grow (by omega) hl34) hl34 OD S2 hcz
    · rw [own_cp34] at q; omega
theorem ctAiA {l : Launch} {Z : State} {a0 : Array Value} (hw : HW a0 Z) {n0 : Nat} {h0 : Heap} (hn0 : n0 ≤ h0.size) (sb tb : Addr) (kt : ClassId) (W : List Int32) (cp : Int32) (do_ dt_ : Addr) (ko kq : ClassId) (vv cz : Int32) (V0 : Nat) (Es : Exa Z h0 sb zq3) (Fv : Fld Z h0 sb zq1 "value" "[B" (.ref tb)) (Fc : Fld Z h0 sb zq1 "coder" "B" (.int 0)) (Fn : Fld Z h0 sb zq1 "count" "I" (.int (own_n (W).length))) (Et : Exa Z h0 tb "[B") (Vt : Arv Z h0 tb kt .byte cp (tx W) (.int 0)) (gs : n0 ≤ sb) (gt : n0 ≤ tb) (nst : sb ≠ tb) (So : Sta Z Z.heap zq2 "DigitOnes" "[B" (.ref do_)) (Sq : Sta Z Z.heap zq2 "DigitTens" "[B" (.ref dt_)) (Vo : Arv Z Z.heap do_ ko .byte (100 : Int32) own_ones (.int 0)) (Vq : Arv Z Z.heap dt_ kq .byte (100 : Int32) own_tens (.int 0)) (hV : vv.toInt = (V0 : Int)) (hmx : V0 < 2147483648) (hcp : cp = 16 ∨ cp = 34) (hwc : W.length ≤ cp.toNatClampNeg) (hl34 : W.length + 10 < 34) (OD : Old Z n0 h0) (S2 : Sta Z Z.heap zq0 zq5 "Z" (.int cz)) (hcz : ¬ cz = 0) :
    Ctr l Z (⟨zq1, "append", zq8⟩ : MethodName) jdk_68_method_32_code 4 (some (.object zq1)) (rQ 4 1 34 100) n0 #[(.ref sb), (.int vv)] h0 (fun v h => ∃ (t : Addr) (k : ClassId) (cq : Int32), v = some (.ref sb) ∧ Keep h0 h [sb, tb] ∧ (t = tb ∨ h0.size ≤ t) ∧ (cq = 16 ∨ cq = 34) ∧ (W ++ (own_dec V0)).length ≤ cq.toNatClampNeg ∧ sb ≠ t ∧ Exa Z h sb zq3 ∧ Fld Z h sb zq1 "value" "[B" (.ref t) ∧ Fld Z h sb zq1 "coder" "B" (.int 0) ∧ Fld Z h sb zq1 "count" "I" (.int (own_n ((W ++ (own_dec V0))).length)) ∧ Exa Z h t "[B" ∧ Arv Z h t k .byte cq (tx (W ++ (own_dec V0))) (.int 0)) := by
  by_cases h_1 : V0 < 10
  · have hhi := h_1
    rw [own_dec1 hhi]; exact ctAi1 hw hn0 sb tb kt W cp do_ dt_ ko kq vv cz V0 Es Fv Fc Fn Et Vt gs gt nst So Sq Vo Vq (by omega) hV hhi hcp hwc (by omega) OD S2 hcz
  · by_cases h_2 : V0 < 100
    · have hlo : 10 ≤ V0 := by omega
      have hhi := h_2
      rw [own_dec2 hlo hhi]; exact ctAi2 hw hn0 sb tb kt W cp do_ dt_ ko kq vv cz V0 Es Fv Fc Fn Et Vt gs gt nst So Sq Vo Vq (by omega) hV hlo hhi hcp hwc (by omega) OD S2 hcz
    · by_cases h_3 : V0 < 1000
      · have hlo : 100 ≤ V0 := by omega
        have hhi := h_3
        rw [own_dec3 hlo hhi]; exact ctAi3 hw hn0 sb tb kt W cp do_ dt_ ko kq vv cz V0 Es Fv Fc Fn Et Vt gs gt nst So Sq Vo Vq (by omega) hV hlo hhi hcp hwc (by omega) OD S2 hcz
      · by_cases h_4 : V0 < 10000
        · have hlo : 1000 ≤ V0 := by omega
          have hhi := h_4
          rw [own_dec4 hlo hhi]; exact ctAi4 hw hn0 sb tb kt W cp do_ dt_ ko kq vv cz V0 Es Fv Fc Fn Et Vt gs gt nst So Sq Vo Vq (by omega) hV hlo hhi hcp hwc (by omega) OD S2 hcz
        · by_cases h_5 : V0 < 100000
          · have hlo : 10000 ≤ V0 := by omega
            have hhi := h_5
            rw [own_dec5 hlo hhi]; exact ctAi5 hw hn0 sb tb kt W cp do_ dt_ ko kq vv cz V0 Es Fv Fc Fn Et Vt gs gt nst So Sq Vo Vq (by omega) hV hlo hhi hcp hwc (by omega) OD S2 hcz
          · by_cases h_6 : V0 < 1000000
            · have hlo : 100000 ≤ V0 := by omega
              have hhi := h_6
              rw [own_dec6 hlo hhi]; exact ctAi6 hw hn0 sb tb kt W cp do_ dt_ ko kq vv cz V0 Es Fv Fc Fn Et Vt gs gt nst So Sq Vo Vq (by omega) hV hlo hhi hcp hwc (by omega) OD S2 hcz
            · by_cases h_7 : V0 < 10000000
              · have hlo : 1000000 ≤ V0 := by omega
                have hhi := h_7
                rw [own_dec7 hlo hhi]; exact ctAi7 hw hn0 sb tb kt W cp do_ dt_ ko kq vv cz V0 Es Fv Fc Fn Et Vt gs gt nst So Sq Vo Vq (by omega) hV hlo hhi hcp hwc (by omega) OD S2 hcz
              · by_cases h_8 : V0 < 100000000
                · have hlo : 10000000 ≤ V0 := by omega
                  have hhi := h_8
                  rw [own_dec8 hlo hhi]; exact ctAi8 hw hn0 sb tb kt W cp do_ dt_ ko kq vv cz V0 Es Fv Fc Fn Et Vt gs gt nst So Sq Vo Vq (by omega) hV hlo hhi hcp hwc (by omega) OD S2 hcz
                · by_cases h_9 : V0 < 1000000000
                  · have hlo : 100000000 ≤ V0 := by omega
                    have hhi := h_9
                    rw [own_dec9 hlo hhi]; exact ctAi9 hw hn0 sb tb kt W cp do_ dt_ ko kq vv cz V0 Es Fv Fc Fn Et Vt gs gt nst So Sq Vo Vq (by omega) hV hlo hhi hcp hwc (by omega) OD S2 hcz
                  · have hlo : 1000000000 ≤ V0 := by omega
                    have hhi := hmx
                    rw [own_dec10 hlo ]; exact ctAi10 hw hn0 sb tb kt W cp do_ dt_ ko kq vv cz V0 Es Fv Fc Fn Et Vt gs gt nst So Sq Vo Vq (by omega) hV hlo hhi hcp hwc (by omega) OD S2 hcz
theorem ef17 (m : MethodId) (x0 : Addr) (x1 : Int32) : entryFrame m #[(.ref x0), (.int x1)] 2 = mkF m 0 #[.val (.ref x0), .val (.int x1)] [] := by first | (simp [entryFrame, mkF, argsToLocals, Value.category]; done) | rfl
theorem ctApiA {l : Launch} {Z : State} {a0 : Array Value} (hw : HW a0 Z) {n0 : Nat} {h0 : Heap} (hn0 : n0 ≤ h0.size) (sb tb : Addr) (kt : ClassId) (W : List Int32) (cp : Int32) (do_ dt_ : Addr) (ko kq : ClassId) (vv cz : Int32) (V0 : Nat) (Es : Exa Z h0 sb zq3) (Fv : Fld Z h0 sb zq1 "value" "[B" (.ref tb)) (Fc : Fld Z h0 sb zq1 "coder" "B" (.int 0)) (Fn : Fld Z h0 sb zq1 "count" "I" (.int (own_n (W).length))) (Et : Exa Z h0 tb "[B") (Vt : Arv Z h0 tb kt .byte cp (tx W) (.int 0)) (gs : n0 ≤ sb) (gt : n0 ≤ tb) (nst : sb ≠ tb) (So : Sta Z Z.heap zq2 "DigitOnes" "[B" (.ref do_)) (Sq : Sta Z Z.heap zq2 "DigitTens" "[B" (.ref dt_)) (Vo : Arv Z Z.heap do_ ko .byte (100 : Int32) own_ones (.int 0)) (Vq : Arv Z Z.heap dt_ kq .byte (100 : Int32) own_tens (.int 0)) (hV : vv.toInt = (V0 : Int)) (hmx : V0 < 2147483648) (hcp : cp = 16 ∨ cp = 34) (hwc : W.length ≤ cp.toNatClampNeg) (hl34 : W.length + 10 < 34) (OD : Old Z n0 h0) (S2 : Sta Z Z.heap zq0 zq5 "Z" (.int cz)) (hcz : ¬ cz = 0) :
 Ctr l Z (⟨zq3, "append", zq40⟩ : MethodName) jdk_67_method_15_code 2 (some (.object zq3)) (rQ 5 1 34 130) n0 #[(.ref sb), (.int vv)] h0 (fun v h => ∃ (t : Addr) (k : ClassId) (cq : Int32), v = some (.ref sb) ∧ Keep h0 h [sb, tb] ∧ (t = tb ∨ h0.size ≤ t) ∧ (cq = 16 ∨ cq = 34) ∧ (W ++ (own_dec V0)).length ≤ cq.toNatClampNeg ∧ sb ≠ t ∧ Exa Z h sb zq3 ∧ Fld Z h sb zq1 "value" "[B" (.ref t) ∧ Fld Z h sb zq1 "coder" "B" (.int 0) ∧ Fld Z h sb zq1 "count" "I" (.int (own_n ((W ++ (own_dec V0))).length)) ∧ Exa Z h t "[B" ∧ Arv Z h t k .byte cq (tx (W ++ (own_dec V0))) (.int 0)) := by
 refine Ctr.of (by decide +kernel) hn0 ?_
 intro p e s m below meth c T0 C hnm hret hlk X0
 rw [ef17 m sb vv]
 refine G.b 1 C X0 d17_0 rfl rfl rfl <| G.a 2 C X0 d17_1 rfl rfl <| G.aw 5 (cells' := 1) (slots' := 34) (argsL := [(.int vv)]) (St := []) C X0 (wd109 hw) (wd110 hw) (wd81 hw) rfl (wd62 hw) (by decide) (by decide) (Ins.self Es) (wd112 hw) (wd47 hw) (ctAiA hw X0.2.1 sb tb kt W cp do_ dt_ ko kq vv cz V0 Es Fv Fc Fn Et Vt gs gt nst So Sq Vo Vq hV hmx hcp hwc hl34 OD S2 hcz) (lenOf pd24 rfl) rfl d17_2 rfl rfl (by decide) (nQ rfl) rfl rfl (by decide) (by decide) (fun v1 T1 h1 Q1 X1 z1 => ?_)
 obtain ⟨t1, k1, cq1, hv1, K1, hf1, hq1, hwl1, ns1, Es1, Fv1, Fc1, Fn1, Et1, Vt1⟩ := Q1
 subst hv1
 have K2 := (Keep.refl h0 [sb, tb]).trans K1 (allS (mQ 0 rfl) (allS (mQ 1 rfl) all0))
 have ga1 : n0 ≤ t1 := own_frg hf1 gt X0.2.1
 have iw1 : t1 ∈ [sb, tb] ∨ h0.size ≤ t1 := own_frw hf1 (mQ 1 rfl) (Keep.refl h0 [sb, tb]).1
 refine G.O 6 C X1 d17_5 rfl rfl <| G.b 7 C X1 d17_6 rfl rfl rfl ?_
 exact G.J C X1 d17_7 hret rfl rfl hlk (⟨t1, k1, cq1, rfl, K2, hf1, hq1, hwl1, ns1, Es1, Fv1, Fc1, Fn1, Et1, Vt1⟩) (by decide) (by decide)
theorem ctNdA {l : Launch} {Z : State} {a0 : Array Value} (hw : HW a0 Z) {n0 : Nat} {h0 : Heap} (hn0 : n0 ≤ h0.size) (vv : Int32) (V0 : Nat) (hV : vv.toInt = (V0 : Int)) (hmx : V0 < 2147483648) :
    Ctr l Z (⟨zq7, "nd", "(I)I"⟩ : MethodName) method_5_code 1 (some .int) (rQ 0 0 0 0) n0 #[(.int vv)] h0 (fun v h => v = some (.int (own_n (own_dec V0).length)) ∧ h = h0) := by
  by_cases h_1 : V0 < 10
  · have hhi := h_1
    rw [own_dec1 hhi]; exact (by rw [own_dig_len]; exact ctNd1 hw hn0 vv V0 hV hhi)
  · by_cases h_2 : V0 < 100
    · have hlo : 10 ≤ V0 := by omega
      have hhi := h_2
      rw [own_dec2 hlo hhi]; exact (by rw [own_dig_len]; exact ctNd2 hw hn0 vv V0 hV hlo hhi)
    · by_cases h_3 : V0 < 1000
      · have hlo : 100 ≤ V0 := by omega
        have hhi := h_3
        rw [own_dec3 hlo hhi]; exact (by rw [own_dig_len]; exact ctNd3 hw hn0 vv V0 hV hlo hhi)
      · by_cases h_4 : V0 < 10000
        · have hlo : 1000 ≤ V0 := by omega
          have hhi := h_4
          rw [own_dec4 hlo hhi]; exact (by rw [own_dig_len]; exact ctNd4 hw hn0 vv V0 hV hlo hhi)
        · by_cases h_5 : V0 < 100000
          · have hlo : 10000 ≤ V0 := by omega
            have hhi := h_5
            rw [own_dec5 hlo hhi]; exact (by rw [own_dig_len]; exact ctNd5 hw hn0 vv V0 hV hlo hhi)
          · by_cases h_6 : V0 < 1000000
            · have hlo : 100000 ≤ V0 := by omega
              have hhi := h_6
              rw [own_dec6 hlo hhi]; exact (by rw [own_dig_len]; exact ctNd6 hw hn0 vv V0 hV hlo hhi)
            · by_cases h_7 : V0 < 10000000
              · have hlo : 1000000 ≤ V0 := by omega
                have hhi := h_7
                rw [own_dec7 hlo hhi]; exact (by rw [own_dig_len]; exact ctNd7 hw hn0 vv V0 hV hlo hhi)
              · by_cases h_8 : V0 < 100000000
                · have hlo : 10000000 ≤ V0 := by omega
                  have hhi := h_8
                  rw [own_dec8 hlo hhi]; exact (by rw [own_dig_len]; exact ctNd8 hw hn0 vv V0 hV hlo hhi)
                · by_cases h_9 : V0 < 1000000000
                  · have hlo : 100000000 ≤ V0 := by omega
                    have hhi := h_9
                    rw [own_dec9 hlo hhi]; exact (by rw [own_dig_len]; exact ctNd9 hw hn0 vv V0 hV hlo hhi)
                  · have hlo : 1000000000 ≤ V0 := by omega
                    have hhi := hmx
                    rw [own_dec10 hlo ]; exact (by rw [own_dig_len]; exact ctNd10 hw hn0 vv V0 hV hlo hhi)
theorem ef47 (m : MethodId) (x0 : Addr) (x1 : Int32) (x2 : Int32) (x3 : Int32) : entryFrame m #[(.ref x0), (.int x1), (.int x2), (.int x3)] 4 = mkF m 0 #[.val (.ref x0), .val (.int x1), .val (.int x2), .val (.int x3)] [] := by first | (simp [entryFrame, mkF, argsToLocals, Value.category]; done) | rfl
theorem ctD {l : Launch} {Z : State} {a0 : Array Value} (hw : HW a0 Z) {n0 : Nat} {h0 : Heap} (hn0 : n0 ≤ h0.size) (sr ru : Addr) (kr : ClassId) (M : List Int32) (ii vv pw cz : Int32) (fmt : Value) (V0 P0 : Nat) (Er : Exa Z h0 sr zq0) (Rv : Fld Z h0 sr zq0 "value" "[B" (.ref ru)) (Rc : Fld Z h0 sr zq0 "coder" "B" (.int 0)) (Vr : Arv Z h0 ru kr .byte (own_n (M).length) (tx M) (.int 0)) (hV : vv.toInt = (V0 : Int)) (hpw : pw.toInt = (P0 : Int)) (h0_ : 0 < P0) (hi0 : ¬ ii < 0) (hi1 : ii < (own_n (M).length)) (hi2 : ii.toNatClampNeg < M.length) (hla : ∀ c ∈ M, own_lat c) (he : (M.getD ii.toNatClampNeg 0) = own_n (48 + V0 / P0 % 10)) (Sf : Sta Z Z.heap zq10 zq11 zq12 fmt) (hfm : fmt.isRef = true) (OD : Old Z n0 h0) (S2 : Sta Z Z.heap zq0 zq5 "Z" (.int cz)) (hcz : ¬ cz = 0) :
 Ctr l Z (⟨zq7, "d", zq47⟩ : MethodName) method_6_code 4 (some .boolean) (rQ 4 0 0 70) n0 #[(.ref sr), (.int ii), (.int vv), (.int pw)] h0 (fun v h => v = some (.int 1) ∧ h = h0) := by
 refine Ctr.of (plainFor_of_name pn4) hn0 ?_
 intro p e s m below meth c T0 C hnm hret hlk X0
 rw [ef47 m sr ii vv pw]
 refine G.b 1 C X0 d47_0 rfl rfl rfl <| G.a 2 C X0 d47_1 rfl rfl <| G.D 5 (cells' := 0) (slots' := 0) (argsL := [(.int ii)]) (St := []) C X0 (wd242 hw) (wd243 hw) (wd245 hw) (wd244 hw) (by decide) Er (wd246 hw) (wd10 hw) (ctCaA hw X0.2.1 sr ru kr M ii fmt cz Er Rv Rc Vr hi0 hi1 hi2 hla OD Sf hfm S2 hcz) (lenOf pd25 rfl) rfl d47_2 rfl rfl (by decide) (nQ rfl) rfl rfl (by decide) (by decide) (fun v1 T1 h1 Q1 X1 z1 => ?_)
 obtain ⟨hv1, hh1⟩ := Q1
 subst hv1; rw [hh1] at X1
 refine G.d 7 (z := 48) C X1 d47_5 rfl (by decide) <| G.a 8 C X1 d47_7 rfl rfl <| G.a 9 C X1 d47_8 rfl rfl <| G.Y 10 (z := (vv / pw)) C X1 d47_9 rfl (own_pne hpw h0_) rfl <| G.d 12 (z := 10) C X1 d47_10 rfl (by decide) <| G.aD 13 (z := ((vv / pw) % (10 : Int32))) C X1 d47_12 rfl (by decide) rfl <| G.z 14 (z := ((48 : Int32) + ((vv / pw) % (10 : Int32)))) C X1 d47_13 rfl rfl <| G.ae 15 (z := (M.getD ii.toNatClampNeg 0)) C X1 d47_14 rfl (own_dchr hV hpw h0_ he) <| G.k 18 C X1 d47_15 rfl (teq rfl).2 <| G.i 19 (z := 1) C X1 d47_18 rfl (by decide) <| G.r 23 C X1 d47_19 (by decide) (by decide) ?_
 exact G.U C X1 d47_23 hret (by simp) (z' := (1 : Int32)) (by decide) hlk (⟨rfl, rfl⟩) (by decide) (by decide)
theorem ef46 (m : MethodId) (x0 : Addr) (x1 : Int32) (x2 : Int32) : entryFrame m #[(.ref x0), (.int x1), (.int x2)] 5 = mkF m 0 #[.val (.ref x0), .val (.int x1), .val (.int x2), .unset, .unset] [] := by first | (simp [entryFrame, mkF, argsToLocals, Value.category]; done) | rfl
theorem ctDg1 {l : Launch} {Z : State} {a0 : Array Value} (hw : HW a0 Z) {n0 : Nat} {h0 : Heap} (hn0 : n0 ≤ h0.size) (sr ru : Addr) (kr : ClassId) (M : List Int32) (A_ B_ : List Int32) (vv cz : Int32) (fmt : Value) (V0 : Nat) (Er : Exa Z h0 sr zq0) (Rv : Fld Z h0 sr zq0 "value" "[B" (.ref ru)) (Rc : Fld Z h0 sr zq0 "coder" "B" (.int 0)) (Vr : Arv Z h0 ru kr .byte (own_n (M).length) (tx M) (.int 0)) (hM : M = A_ ++ own_dig V0 1 ++ B_) (hV : vv.toInt = (V0 : Int)) (hhi : V0 < 10) (hMb : M.length < 900) (hla : ∀ c ∈ M, own_lat c) (Sf : Sta Z Z.heap zq10 zq11 zq12 fmt) (hfm : fmt.isRef = true) (OD : Old Z n0 h0) (S2 : Sta Z Z.heap zq0 zq5 "Z" (.int cz)) (hcz : ¬ cz = 0) :
 Ctr l Z (⟨zq7, "digits", zq18⟩ : MethodName) method_7_code 5 (some .boolean) (rQ 5 0 0 90) n0 #[(.ref sr), (.int (own_n (A_).length)), (.int vv)] h0 (fun v h => v = some (.int 1) ∧ h = h0) := by
 refine Ctr.of (plainFor_of_name pn4) hn0 ?_
 intro p e s m below meth c T0 C hnm hret hlk X0
 rw [ef46 m sr (own_n (A_).length) vv]
 have hML : M.length = A_.length + 1 + B_.length := by rw [hM, List.length_append, List.length_append, own_dig_len]
 refine G.a 1 C X0 d46_0 rfl rfl <| G.o 4 (cells' := 0) (slots' := 0) (argsL := [(.int vv)]) (St := []) C X0 (wd235 hw) (wd236 hw) (by decide) (wd237 hw) (wd6 hw) (ctNd1 hw X0.2.1 vv V0 hV hhi) (lenOf pd8 rfl) rfl d46_1 rfl rfl (by decide) (nQ rfl) rfl rfl (by decide) (by decide) (fun v1 T1 h1 Q1 X1 z1 => ?_)
 obtain ⟨hv1, hh1⟩ := Q1
 subst hv1; rw [hh1] at X1
 refine G.g 5 C X1 d46_4 rfl (l' := #[vR sr, vI (own_n (A_).length), vI vv, vI 1, .unset]) rfl <| G.a 6 C X1 d46_5 rfl rfl <| G.a 7 C X1 d46_6 rfl rfl <| G.z 8 (z := (own_n (A_.length + 1))) C X1 d46_7 rfl (own_nk A_.length 1 _ rfl) <| G.i 9 (z := 1) C X1 d46_8 rfl (by decide) <| G.u 10 (z := (own_n (A_.length + 0))) C X1 d46_9 rfl (own_sb1 (A_.length + 0) 1 _ rfl) <| G.w 12 C X1 d46_10 rfl (l' := #[vR sr, vI (own_n (A_).length), vI vv, vI 1, vI (own_n (A_.length + 0))]) rfl <| G.b 13 C X1 d46_12 rfl rfl rfl <| G.f 15 C X1 d46_13 rfl rfl <| G.a 16 C X1 d46_15 rfl rfl <| G.i 17 (z := 1) C X1 d46_16 rfl (by decide) <| G.o 20 (cells' := 0) (slots' := 0) (argsL := [(.ref sr), (.int (own_n (A_.length + 0))), (.int vv), (.int 1)]) (St := []) C X1 (wd267 hw) (wd268 hw) (by decide) (wd269 hw) (wd6 hw) (ctD hw X1.2.1 sr ru kr M (own_n (A_.length + 0)) vv (1 : Int32) cz fmt V0 1 Er Rv Rc Vr hV (show (1 : Int32).toInt = ((1 : Nat) : Int) from by decide) (by decide) (own_n_ge (by omega)) ((own_n_lt (by omega) (by omega)).mpr (by omega)) (by rw [own_n_cl (by omega)]; omega) hla (by rw [own_n_cl (by omega), hM]; exact own_dig_at A_ B_ V0 1 0 (by decide)) Sf hfm OD S2 hcz) (lenOf pd26 rfl) rfl d46_17 rfl rfl (by decide) (nQ rfl) rfl rfl (by decide) (by decide) (fun v2 T2 h2 Q2 X2 z2 => ?_)
 obtain ⟨hv2, hh2⟩ := Q2
 subst hv2; rw [hh2] at X2
 refine G.q 23 C X2 d46_20 rfl (feq (by decide : ¬ (1 : Int32) = 0)).1 <| G.a 24 C X2 d46_23 rfl rfl <| G.i 25 (z := 2) C X2 d46_24 rfl (by decide) <| G.j 42 C X2 d46_25 (tlt (by decide : (1 : Int32) < 2)).1 (by decide) (by decide) <| G.a 43 C X2 d46_42 rfl rfl <| G.i 44 (z := 3) C X2 d46_43 rfl (by decide) <| G.j 61 C X2 d46_44 (tlt (by decide : (1 : Int32) < 3)).1 (by decide) (by decide) <| G.a 62 C X2 d46_61 rfl rfl <| G.i 63 (z := 4) C X2 d46_62 rfl (by decide) <| G.j 81 C X2 d46_63 (tlt (by decide : (1 : Int32) < 4)).1 (by decide) (by decide) <| G.a 82 C X2 d46_81 rfl rfl <| G.i 83 (z := 5) C X2 d46_82 rfl (by decide) <| G.j 101 C X2 d46_83 (tlt (by decide : (1 : Int32) < 5)).1 (by decide) (by decide) <| G.a 102 C X2 d46_101 rfl rfl <| G.d 104 (z := 6) C X2 d46_102 rfl (by decide) ?_
 refine G.j 121 C X2 d46_104 (tlt (by decide : (1 : Int32) < 6)).1 (by decide) (by decide) <| G.a 122 C X2 d46_121 rfl rfl <| G.d 124 (z := 7) C X2 d46_122 rfl (by decide) <| G.j 142 C X2 d46_124 (tlt (by decide : (1 : Int32) < 7)).1 (by decide) (by decide) <| G.a 143 C X2 d46_142 rfl rfl <| G.d 145 (z := 8) C X2 d46_143 rfl (by decide) <| G.j 163 C X2 d46_145 (tlt (by decide : (1 : Int32) < 8)).1 (by decide) (by decide) <| G.a 164 C X2 d46_163 rfl rfl <| G.d 166 (z := 9) C X2 d46_164 rfl (by decide) <| G.j 184 C X2 d46_166 (tlt (by decide : (1 : Int32) < 9)).1 (by decide) (by decide) <| G.a 185 C X2 d46_184 rfl rfl <| G.d 187 (z := 10) C X2 d46_185 rfl (by decide) <| G.j 205 C X2 d46_187 (tlt (by decide : (1 : Int32) < 10)).1 (by decide) (by decide) <| G.i 206 (z := 1) C X2 d46_205 rfl (by decide) <| G.r 210 C X2 d46_206 (by decide) (by decide) ?_
 exact G.U C X2 d46_210 hret (by simp) (z' := (1 : Int32)) (by decide) hlk (⟨rfl, rfl⟩) (by decide) (by decide)
theorem ctDg2 {l : Launch} {Z : State} {a0 : Array Value} (hw : HW a0 Z) {n0 : Nat} {h0 : Heap} (hn0 : n0 ≤ h0.size) (sr ru : Addr) (kr : ClassId) (M : List Int32) (A_ B_ : List Int32) (vv cz : Int32) (fmt : Value) (V0 : Nat) (Er : Exa Z h0 sr zq0) (Rv : Fld Z h0 sr zq0 "value" "[B" (.ref ru)) (Rc : Fld Z h0 sr zq0 "coder" "B" (.int 0)) (Vr : Arv Z h0 ru kr .byte (own_n (M).length) (tx M) (.int 0)) (hM : M = A_ ++ own_dig V0 2 ++ B_) (hV : vv.toInt = (V0 : Int)) (hlo : 10 ≤ V0) (hhi : V0 < 100) (hMb : M.length < 900) (hla : ∀ c ∈ M, own_lat c) (Sf : Sta Z Z.heap zq10 zq11 zq12 fmt) (hfm : fmt.isRef = true) (OD : Old Z n0 h0) (S2 : Sta Z Z.heap zq0 zq5 "Z" (.int cz)) (hcz : ¬ cz = 0) :
 Ctr l Z (⟨zq7, "digits", zq18⟩ : MethodName) method_7_code 5 (some .boolean) (rQ 5 0 0 90) n0 #[(.ref sr), (.int (own_n (A_).length)), (.int vv)] h0 (fun v h => v = some (.int 1) ∧ h = h0) := by
 refine Ctr.of (plainFor_of_name pn4) hn0 ?_
 intro p e s m below meth c T0 C hnm hret hlk X0
 rw [ef46 m sr (own_n (A_).length) vv]
 have hML : M.length = A_.length + 2 + B_.length := by rw [hM, List.length_append, List.length_append, own_dig_len]
 refine G.a 1 C X0 d46_0 rfl rfl <| G.o 4 (cells' := 0) (slots' := 0) (argsL := [(.int vv)]) (St := []) C X0 (wd235 hw) (wd236 hw) (by decide) (wd237 hw) (wd6 hw) (ctNd2 hw X0.2.1 vv V0 hV hlo hhi) (lenOf pd8 rfl) rfl d46_1 rfl rfl (by decide) (nQ rfl) rfl rfl (by decide) (by decide) (fun v1 T1 h1 Q1 X1 z1 => ?_)
 obtain ⟨hv1, hh1⟩ := Q1
 subst hv1; rw [hh1] at X1
 refine G.g 5 C X1 d46_4 rfl (l' := #[vR sr, vI (own_n (A_).length), vI vv, vI 2, .unset]) rfl <| G.a 6 C X1 d46_5 rfl rfl <| G.a 7 C X1 d46_6 rfl rfl <| G.z 8 (z := (own_n (A_.length + 2))) C X1 d46_7 rfl (own_nk A_.length 2 _ rfl) <| G.i 9 (z := 1) C X1 d46_8 rfl (by decide) <| G.u 10 (z := (own_n (A_.length + 1))) C X1 d46_9 rfl (own_sb1 (A_.length + 1) 1 _ rfl) <| G.w 12 C X1 d46_10 rfl (l' := #[vR sr, vI (own_n (A_).length), vI vv, vI 2, vI (own_n (A_.length + 1))]) rfl <| G.b 13 C X1 d46_12 rfl rfl rfl <| G.f 15 C X1 d46_13 rfl rfl <| G.a 16 C X1 d46_15 rfl rfl <| G.i 17 (z := 1) C X1 d46_16 rfl (by decide) <| G.o 20 (cells' := 0) (slots' := 0) (argsL := [(.ref sr), (.int (own_n (A_.length + 1))), (.int vv), (.int 1)]) (St := []) C X1 (wd267 hw) (wd268 hw) (by decide) (wd269 hw) (wd6 hw) (ctD hw X1.2.1 sr ru kr M (own_n (A_.length + 1)) vv (1 : Int32) cz fmt V0 1 Er Rv Rc Vr hV (show (1 : Int32).toInt = ((1 : Nat) : Int) from by decide) (by decide) (own_n_ge (by omega)) ((own_n_lt (by omega) (by omega)).mpr (by omega)) (by rw [own_n_cl (by omega)]; omega) hla (by rw [own_n_cl (by omega), hM]; exact own_dig_at A_ B_ V0 2 1 (by decide)) Sf hfm OD S2 hcz) (lenOf pd26 rfl) rfl d46_17 rfl rfl (by decide) (nQ rfl) rfl rfl (by decide) (by decide) (fun v2 T2 h2 Q2 X2 z2 => ?_)
 obtain ⟨hv2, hh2⟩ := Q2
 subst hv2; rw [hh2] at X2
 refine G.q 23 C X2 d46_20 rfl (feq (by decide : ¬ (1 : Int32) = 0)).1 <| G.a 24 C X2 d46_23 rfl rfl <| G.i 25 (z := 2) C X2 d46_24 rfl (by decide) <| G.k 28 C X2 d46_25 rfl (flt (by decide : ¬ (2 : Int32) < 2)).1 <| G.b 29 C X2 d46_28 rfl rfl rfl <| G.f 31 C X2 d46_29 rfl rfl <| G.i 32 (z := 1) C X2 d46_31 rfl (by decide) <| G.u 33 (z := (own_n (A_.length + 0))) C X2 d46_32 rfl (own_sb1 (A_.length + 0) 1 _ rfl) <| G.a 34 C X2 d46_33 rfl rfl <| G.d 36 (z := 10) C X2 d46_34 rfl (by decide) <| G.o 39 (cells' := 0) (slots' := 0) (argsL := [(.ref sr), (.int (own_n (A_.length + 0))), (.int vv), (.int 10)]) (St := []) C X2 (wd267 hw) (wd268 hw) (by decide) (wd269 hw) (wd6 hw) (ctD hw X2.2.1 sr ru kr M (own_n (A_.length + 0)) vv (10 : Int32) cz fmt V0 10 Er Rv Rc Vr hV (show (10 : Int32).toInt = ((10 : Nat) : Int) from by decide) (by decide) (own_n_ge (by omega)) ((own_n_lt (by omega) (by omega)).mpr (by omega)) (by rw [own_n_cl (by omega)]; omega) hla (by rw [own_n_cl (by omega), hM]; exact own_dig_at A_ B_ V0 2 0 (by decide)) Sf hfm OD S2 hcz) (lenOf pd26 rfl) rfl d46_36 rfl rfl (by decide) (nQ rfl) rfl rfl (by decide) (by decide) (fun v3 T3 h3 Q3 X3 z3 => ?_)
 obtain ⟨hv3, hh3⟩ := Q3
 subst hv3; rw [hh3] at X3
 refine G.q 42 C X3 d46_39 rfl (feq (by decide : ¬ (1 : Int32) = 0)).1 <| G.a 43 C X3 d46_42 rfl rfl <| G.i 44 (z := 3) C X3 d46_43 rfl (by decide) <| G.j 61 C X3 d46_44 (tlt (by decide : (2 : Int32) < 3)).1 (by decide) (by decide) <| G.a 62 C X3 d46_61 rfl rfl <| G.i 63 (z := 4) C X3 d46_62 rfl (by decide) <| G.j 81 C X3 d46_63 (tlt (by decide : (2 : Int32) < 4)).1 (by decide) (by decide) <| G.a 82 C X3 d46_81 rfl rfl <| G.i 83 (z := 5) C X3 d46_82 rfl (by decide) <| G.j 101 C X3 d46_83 (tlt (by decide : (2 : Int32) < 5)).1 (by decide) (by decide) <| G.a 102 C X3 d46_101 rfl rfl <| G.d 104 (z := 6) C X3 d46_102 rfl (by decide) <| G.j 121 C X3 d46_104 (tlt (by decide : (2 : Int32) < 6)).1 (by decide) (by decide) <| G.a 122 C X3 d46_121 rfl rfl <| G.d 124 (z := 7) C X3 d46_122 rfl (by decide) ?_
 refine G.j 142 C X3 d46_124 (tlt (by decide : (2 : Int32) < 7)).1 (by decide) (by decide) <| G.a 143 C X3 d46_142 rfl rfl <| G.d 145 (z := 8) C X3 d46_143 rfl (by decide) <| G.j 163 C X3 d46_145 (tlt (by decide : (2 : Int32) < 8)).1 (by decide) (by decide) <| G.a 164 C X3 d46_163 rfl rfl <| G.d 166 (z := 9) C X3 d46_164 rfl (by decide) <| G.j 184 C X3 d46_166 (tlt (by decide : (2 : Int32) < 9)).1 (by decide) (by decide) <| G.a 185 C X3 d46_184 rfl rfl <| G.d 187 (z := 10) C X3 d46_185 rfl (by decide) <| G.j 205 C X3 d46_187 (tlt (by decide : (2 : Int32) < 10)).1 (by decide) (by decide) <| G.i 206 (z := 1) C X3 d46_205 rfl (by decide) <| G.r 210 C X3 d46_206 (by decide) (by decide) ?_
 exact G.U C X3 d46_210 hret (by simp) (z' := (1 : Int32)) (by decide) hlk (⟨rfl, rfl⟩) (by decide) (by decide)
theorem ctDg3 {l : Launch} {Z : State} {a0 : Array Value} (hw : HW a0 Z) {n0 : Nat} {h0 : Heap} (hn0 : n0 ≤ h0.size) (sr ru : Addr) (kr : ClassId) (M : List Int32) (A_ B_ : List Int32) (vv cz : Int32) (fmt : Value) (V0 : Nat) (Er : Exa Z h0 sr zq0) (Rv : Fld Z h0 sr zq0 "value" "[B" (.ref ru)) (Rc : Fld Z h0 sr zq0 "coder" "B" (.int 0)) (Vr : Arv Z h0 ru kr .byte (own_n (M).length) (tx M) (.int 0)) (hM : M = A_ ++ own_dig V0 3 ++ B_) (hV : vv.toInt = (V0 : Int)) (hlo : 100 ≤ V0) (hhi : V0 < 1000) (hMb : M.length < 900) (hla : ∀ c ∈ M, own_lat c) (Sf : Sta Z Z.heap zq10 zq11 zq12 fmt) (hfm : fmt.isRef = true) (OD : Old Z n0 h0) (S2 : Sta Z Z.heap zq0 zq5 "Z" (.int cz)) (hcz : ¬ cz = 0) :
 Ctr l Z (⟨zq7, "digits", zq18⟩ : MethodName) method_7_code 5 (some .boolean) (rQ 5 0 0 90) n0 #[(.ref sr), (.int (own_n (A_).length)), (.int vv)] h0 (fun v h => v = some (.int 1) ∧ h = h0) := by
 refine Ctr.of (plainFor_of_name pn4) hn0 ?_
 intro p e s m below meth c T0 C hnm hret hlk X0
 rw [ef46 m sr (own_n (A_).length) vv]
 have hML : M.length = A_.length + 3 + B_.length := by rw [hM, List.length_append, List.length_append, own_dig_len]
 refine G.a 1 C X0 d46_0 rfl rfl <| G.o 4 (cells' := 0) (slots' := 0) (argsL := [(.int vv)]) (St := []) C X0 (wd235 hw) (wd236 hw) (by decide) (wd237 hw) (wd6 hw) (ctNd3 hw X0.2.1 vv V0 hV hlo hhi) (lenOf pd8 rfl) rfl d46_1 rfl rfl (by decide) (nQ rfl) rfl rfl (by decide) (by decide) (fun v1 T1 h1 Q1 X1 z1 => ?_)
 obtain ⟨hv1, hh1⟩ := Q1
 subst hv1; rw [hh1] at X1
 refine G.g 5 C X1 d46_4 rfl (l' := #[vR sr, vI (own_n (A_).length), vI vv, vI 3, .unset]) rfl <| G.a 6 C X1 d46_5 rfl rfl <| G.a 7 C X1 d46_6 rfl rfl <| G.z 8 (z := (own_n (A_.length + 3))) C X1 d46_7 rfl (own_nk A_.length 3 _ rfl) <| G.i 9 (z := 1) C X1 d46_8 rfl (by decide) <| G.u 10 (z := (own_n (A_.length + 2))) C X1 d46_9 rfl (own_sb1 (A_.length + 2) 1 _ rfl) <| G.w 12 C X1 d46_10 rfl (l' := #[vR sr, vI (own_n (A_).length), vI vv, vI 3, vI (own_n (A_.length + 2))]) rfl <| G.b 13 C X1 d46_12 rfl rfl rfl <| G.f 15 C X1 d46_13 rfl rfl <| G.a 16 C X1 d46_15 rfl rfl <| G.i 17 (z := 1) C X1 d46_16 rfl (by decide) <| G.o 20 (cells' := 0) (slots' := 0) (argsL := [(.ref sr), (.int (own_n (A_.length + 2))), (.int vv), (.int 1)]) (St := []) C X1 (wd267 hw) (wd268 hw) (by decide) (wd269 hw) (wd6 hw) (ctD hw X1.2.1 sr ru kr M (own_n (A_.length + 2)) vv (1 : Int32) cz fmt V0 1 Er Rv Rc Vr hV (show (1 : Int32).toInt = ((1 : Nat) : Int) from by decide) (by decide) (own_n_ge (by omega)) ((own_n_lt (by omega) (by omega)).mpr (by omega)) (by rw [own_n_cl (by omega)]; omega) hla (by rw [own_n_cl (by omega), hM]; exact own_dig_at A_ B_ V0 3 2 (by decide)) Sf hfm OD S2 hcz) (lenOf pd26 rfl) rfl d46_17 rfl rfl (by decide) (nQ rfl) rfl rfl (by decide) (by decide) (fun v2 T2 h2 Q2 X2 z2 => ?_)
 obtain ⟨hv2, hh2⟩ := Q2
 subst hv2; rw [hh2] at X2
 refine G.q 23 C X2 d46_20 rfl (feq (by decide : ¬ (1 : Int32) = 0)).1 <| G.a 24 C X2 d46_23 rfl rfl <| G.i 25 (z := 2) C X2 d46_24 rfl (by decide) <| G.k 28 C X2 d46_25 rfl (flt (by decide : ¬ (3 : Int32) < 2)).1 <| G.b 29 C X2 d46_28 rfl rfl rfl <| G.f 31 C X2 d46_29 rfl rfl <| G.i 32 (z := 1) C X2 d46_31 rfl (by decide) <| G.u 33 (z := (own_n (A_.length + 1))) C X2 d46_32 rfl (own_sb1 (A_.length + 1) 1 _ rfl) <| G.a 34 C X2 d46_33 rfl rfl <| G.d 36 (z := 10) C X2 d46_34 rfl (by decide) <| G.o 39 (cells' := 0) (slots' := 0) (argsL := [(.ref sr), (.int (own_n (A_.length + 1))), (.int vv), (.int 10)]) (St := []) C X2 (wd267 hw) (wd268 hw) (by decide) (wd269 hw) (wd6 hw) (ctD hw X2.2.1 sr ru kr M (own_n (A_.length + 1)) vv (10 : Int32) cz fmt V0 10 Er Rv Rc Vr hV (show (10 : Int32).toInt = ((10 : Nat) : Int) from by decide) (by decide) (own_n_ge (by omega)) ((own_n_lt (by omega) (by omega)).mpr (by omega)) (by rw [own_n_cl (by omega)]; omega) hla (by rw [own_n_cl (by omega), hM]; exact own_dig_at A_ B_ V0 3 1 (by decide)) Sf hfm OD S2 hcz) (lenOf pd26 rfl) rfl d46_36 rfl rfl (by decide) (nQ rfl) rfl rfl (by decide) (by decide) (fun v3 T3 h3 Q3 X3 z3 => ?_)
 obtain ⟨hv3, hh3⟩ := Q3
 subst hv3; rw [hh3] at X3
 refine G.q 42 C X3 d46_39 rfl (feq (by decide : ¬ (1 : Int32) = 0)).1 <| G.a 43 C X3 d46_42 rfl rfl <| G.i 44 (z := 3) C X3 d46_43 rfl (by decide) <| G.k 47 C X3 d46_44 rfl (flt (by decide : ¬ (3 : Int32) < 3)).1 <| G.b 48 C X3 d46_47 rfl rfl rfl <| G.f 50 C X3 d46_48 rfl rfl <| G.i 51 (z := 2) C X3 d46_50 rfl (by decide) <| G.u 52 (z := (own_n (A_.length + 0))) C X3 d46_51 rfl (own_sb1 (A_.length + 0) 2 _ rfl) <| G.a 53 C X3 d46_52 rfl rfl <| G.d 55 (z := 100) C X3 d46_53 rfl (by decide) <| G.o 58 (cells' := 0) (slots' := 0) (argsL := [(.ref sr), (.int (own_n (A_.length + 0))), (.int vv), (.int 100)]) (St := []) C X3 (wd267 hw) (wd268 hw) (by decide) (wd269 hw) (wd6 hw) (ctD hw X3.2.1 sr ru kr M (own_n (A_.length + 0)) vv (100 : Int32) cz fmt V0 100 Er Rv Rc Vr hV (show (100 : Int32).toInt = ((100 : Nat) : Int) from by decide) (by decide) (own_n_ge (by omega)) ((own_n_lt (by omega) (by omega)).mpr (by omega)) (by rw [own_n_cl (by omega)]; omega) hla (by rw [own_n_cl (by omega), hM]; exact own_dig_at A_ B_ V0 3 0 (by decide)) Sf hfm OD S2 hcz) (lenOf pd26 rfl) rfl d46_55 rfl rfl (by decide) (nQ rfl) rfl rfl (by decide) (by decide) (fun v4 T4 h4 Q4 X4 z4 => ?_)
 obtain ⟨hv4, hh4⟩ := Q4
 subst hv4; rw [hh4] at X4
 refine G.q 61 C X4 d46_58 rfl (feq (by decide : ¬ (1 : Int32) = 0)).1 <| G.a 62 C X4 d46_61 rfl rfl <| G.i 63 (z := 4) C X4 d46_62 rfl (by decide) <| G.j 81 C X4 d46_63 (tlt (by decide : (3 : Int32) < 4)).1 (by decide) (by decide) <| G.a 82 C X4 d46_81 rfl rfl <| G.i 83 (z := 5) C X4 d46_82 rfl (by decide) <| G.j 101 C X4 d46_83 (tlt (by decide : (3 : Int32) < 5)).1 (by decide) (by decide) <| G.a 102 C X4 d46_101 rfl rfl <| G.d 104 (z := 6) C X4 d46_102 rfl (by decide) <| G.j 121 C X4 d46_104 (tlt (by decide : (3 : Int32) < 6)).1 (by decide) (by decide) <| G.a 122 C X4 d46_121 rfl rfl <| G.d 124 (z := 7) C X4 d46_122 rfl (by decide) <| G.j 142 C X4 d46_124 (tlt (by decide : (3 : Int32) < 7)).1 (by decide) (by decide) <| G.a 143 C X4 d46_142 rfl rfl <| G.d 145 (z := 8) C X4 d46_143 rfl (by decide) ?_
 refine G.j 163 C X4 d46_145 (tlt (by decide : (3 : Int32) < 8)).1 (by decide) (by decide) <| G.a 164 C X4 d46_163 rfl rfl <| G.d 166 (z := 9) C X4 d46_164 rfl (by decide) <| G.j 184 C X4 d46_166 (tlt (by decide : (3 : Int32) < 9)).1 (by decide) (by decide) <| G.a 185 C X4 d46_184 rfl rfl <| G.d 187 (z := 10) C X4 d46_185 rfl (by decide) <| G.j 205 C X4 d46_187 (tlt (by decide : (3 : Int32) < 10)).1 (by decide) (by decide) <| G.i 206 (z := 1) C X4 d46_205 rfl (by decide) <| G.r 210 C X4 d46_206 (by decide) (by decide) ?_
 exact G.U C X4 d46_210 hret (by simp) (z' := (1 : Int32)) (by decide) hlk (⟨rfl, rfl⟩) (by decide) (by decide)
theorem ctDg4 {l : Launch} {Z : State} {a0 : Array Value} (hw : HW a0 Z) {n0 : Nat} {h0 : Heap} (hn0 : n0 ≤ h0.size) (sr ru : Addr) (kr : ClassId) (M : List Int32) (A_ B_ : List Int32) (vv cz : Int32) (fmt : Value) (V0 : Nat) (Er : Exa Z h0 sr zq0) (Rv : Fld Z h0 sr zq0 "value" "[B" (.ref ru)) (Rc : Fld Z h0 sr zq0 "coder" "B" (.int 0)) (Vr : Arv Z h0 ru kr .byte (own_n (M).length) (tx M) (.int 0)) (hM : M = A_ ++ own_dig V0 4 ++ B_) (hV : vv.toInt = (V0 : Int)) (hlo : 1000 ≤ V0) (hhi : V0 < 10000) (hMb : M.length < 900) (hla : ∀ c ∈ M, own_lat c) (Sf : Sta Z Z.heap zq10 zq11 zq12 fmt) (hfm : fmt.isRef = true) (OD : Old Z n0 h0) (S2 : Sta Z Z.heap zq0 zq5 "Z" (.int cz)) (hcz : ¬ cz = 0) :
 Ctr l Z (⟨zq7, "digits", zq18⟩ : MethodName) method_7_code 5 (some .boolean) (rQ 5 0 0 90) n0 #[(.ref sr), (.int (own_n (A_).length)), (.int vv)] h0 (fun v h => v = some (.int 1) ∧ h = h0) := by
 refine Ctr.of (plainFor_of_name pn4) hn0 ?_
 intro p e s m below meth c T0 C hnm hret hlk X0
 rw [ef46 m sr (own_n (A_).length) vv]
 have hML : M.length = A_.length + 4 + B_.length := by rw [hM, List.length_append, List.length_append, own_dig_len]
 refine G.a 1 C X0 d46_0 rfl rfl <| G.o 4 (cells' := 0) (slots' := 0) (argsL := [(.int vv)]) (St := []) C X0 (wd235 hw) (wd236 hw) (by decide) (wd237 hw) (wd6 hw) (ctNd4 hw X0.2.1 vv V0 hV hlo hhi) (lenOf pd8 rfl) rfl d46_1 rfl rfl (by decide) (nQ rfl) rfl rfl (by decide) (by decide) (fun v1 T1 h1 Q1 X1 z1 => ?_)
 obtain ⟨hv1, hh1⟩ := Q1
 subst hv1; rw [hh1] at X1
 refine G.g 5 C X1 d46_4 rfl (l' := #[vR sr, vI (own_n (A_).length), vI vv, vI 4, .unset]) rfl <| G.a 6 C X1 d46_5 rfl rfl <| G.a 7 C X1 d46_6 rfl rfl <| G.z 8 (z := (own_n (A_.length + 4))) C X1 d46_7 rfl (own_nk A_.length 4 _ rfl) <| G.i 9 (z := 1) C X1 d46_8 rfl (by decide) <| G.u 10 (z := (own_n (A_.length + 3))) C X1 d46_9 rfl (own_sb1 (A_.length + 3) 1 _ rfl) <| G.w 12 C X1 d46_10 rfl (l' := #[vR sr, vI (own_n (A_).length), vI vv, vI 4, vI (own_n (A_.length + 3))]) rfl <| G.b 13 C X1 d46_12 rfl rfl rfl <| G.f 15 C X1 d46_13 rfl rfl <| G.a 16 C X1 d46_15 rfl rfl <| G.i 17 (z := 1) C X1 d46_16 rfl (by decide) <| G.o 20 (cells' := 0) (slots' := 0) (argsL := [(.ref sr), (.int (own_n (A_.length + 3))), (.int vv), (.int 1)]) (St := []) C X1 (wd267 hw) (wd268 hw) (by decide) (wd269 hw) (wd6 hw) (ctD hw X1.2.1 sr ru kr M (own_n (A_.length + 3)) vv (1 : Int32) cz fmt V0 1 Er Rv Rc Vr hV (show (1 : Int32).toInt = ((1 : Nat) : Int) from by decide) (by decide) (own_n_ge (by omega)) ((own_n_lt (by omega) (by omega)).mpr (by omega)) (by rw [own_n_cl (by omega)]; omega) hla (by rw [own_n_cl (by omega), hM]; exact own_dig_at A_ B_ V0 4 3 (by decide)) Sf hfm OD S2 hcz) (lenOf pd26 rfl) rfl d46_17 rfl rfl (by decide) (nQ rfl) rfl rfl (by decide) (by decide) (fun v2 T2 h2 Q2 X2 z2 => ?_)
 obtain ⟨hv2, hh2⟩ := Q2
 subst hv2; rw [hh2] at X2
 refine G.q 23 C X2 d46_20 rfl (feq (by decide : ¬ (1 : Int32) = 0)).1 <| G.a 24 C X2 d46_23 rfl rfl <| G.i 25 (z := 2) C X2 d46_24 rfl (by decide) <| G.k 28 C X2 d46_25 rfl (flt (by decide : ¬ (4 : Int32) < 2)).1 <| G.b 29 C X2 d46_28 rfl rfl rfl <| G.f 31 C X2 d46_29 rfl rfl <| G.i 32 (z := 1) C X2 d46_31 rfl (by decide) <| G.u 33 (z := (own_n (A_.length + 2))) C X2 d46_32 rfl (own_sb1 (A_.length + 2) 1 _ rfl) <| G.a 34 C X2 d46_33 rfl rfl <| G.d 36 (z := 10) C X2 d46_34 rfl (by decide) <| G.o 39 (cells' := 0) (slots' := 0) (argsL := [(.ref sr), (.int (own_n (A_.length + 2))), (.int vv), (.int 10)]) (St := []) C X2 (wd267 hw) (wd268 hw) (by decide) (wd269 hw) (wd6 hw) (ctD hw X2.2.1 sr ru kr M (own_n (A_.length + 2)) vv (10 : Int32) cz fmt V0 10 Er Rv Rc Vr hV (show (10 : Int32).toInt = ((10 : Nat) : Int) from by decide) (by decide) (own_n_ge (by omega)) ((own_n_lt (by omega) (by omega)).mpr (by omega)) (by rw [own_n_cl (by omega)]; omega) hla (by rw [own_n_cl (by omega), hM]; exact own_dig_at A_ B_ V0 4 2 (by decide)) Sf hfm OD S2 hcz) (lenOf pd26 rfl) rfl d46_36 rfl rfl (by decide) (nQ rfl) rfl rfl (by decide) (by decide) (fun v3 T3 h3 Q3 X3 z3 => ?_)
 obtain ⟨hv3, hh3⟩ := Q3
 subst hv3; rw [hh3] at X3
 refine G.q 42 C X3 d46_39 rfl (feq (by decide : ¬ (1 : Int32) = 0)).1 <| G.a 43 C X3 d46_42 rfl rfl <| G.i 44 (z := 3) C X3 d46_43 rfl (by decide) <| G.k 47 C X3 d46_44 rfl (flt (by decide : ¬ (4 : Int32) < 3)).1 <| G.b 48 C X3 d46_47 rfl rfl rfl <| G.f 50 C X3 d46_48 rfl rfl <| G.i 51 (z := 2) C X3 d46_50 rfl (by decide) <| G.u 52 (z := (own_n (A_.length + 1))) C X3 d46_51 rfl (own_sb1 (A_.length + 1) 2 _ rfl) <| G.a 53 C X3 d46_52 rfl rfl <| G.d 55 (z := 100) C X3 d46_53 rfl (by decide) <| G.o 58 (cells' := 0) (slots' := 0) (argsL := [(.ref sr), (.int (own_n (A_.length + 1))), (.int vv), (.int 100)]) (St := []) C X3 (wd267 hw) (wd268 hw) (by decide) (wd269 hw) (wd6 hw) (ctD hw X3.2.1 sr ru kr M (own_n (A_.length + 1)) vv (100 : Int32) cz fmt V0 100 Er Rv Rc Vr hV (show (100 : Int32).toInt = ((100 : Nat) : Int) from by decide) (by decide) (own_n_ge (by omega)) ((own_n_lt (by omega) (by omega)).mpr (by omega)) (by rw [own_n_cl (by omega)]; omega) hla (by rw [own_n_cl (by omega), hM]; exact own_dig_at A_ B_ V0 4 1 (by decide)) Sf hfm OD S2 hcz) (lenOf pd26 rfl) rfl d46_55 rfl rfl (by decide) (nQ rfl) rfl rfl (by decide) (by decide) (fun v4 T4 h4 Q4 X4 z4 => ?_)
 obtain ⟨hv4, hh4⟩ := Q4
 subst hv4; rw [hh4] at X4
 refine G.q 61 C X4 d46_58 rfl (feq (by decide : ¬ (1 : Int32) = 0)).1 <| G.a 62 C X4 d46_61 rfl rfl <| G.i 63 (z := 4) C X4 d46_62 rfl (by decide) <| G.k 66 C X4 d46_63 rfl (flt (by decide : ¬ (4 : Int32) < 4)).1 <| G.b 67 C X4 d46_66 rfl rfl rfl <| G.f 69 C X4 d46_67 rfl rfl <| G.i 70 (z := 3) C X4 d46_69 rfl (by decide) <| G.u 71 (z := (own_n (A_.length + 0))) C X4 d46_70 rfl (own_sb1 (A_.length + 0) 3 _ rfl) <| G.a 72 C X4 d46_71 rfl rfl <| G.G 75 (z := 1000) C X4 d46_72 rfl (by decide) <| G.o 78 (cells' := 0) (slots' := 0) (argsL := [(.ref sr), (.int (own_n (A_.length + 0))), (.int vv), (.int 1000)]) (St := []) C X4 (wd267 hw) (wd268 hw) (by decide) (wd269 hw) (wd6 hw) (ctD hw X4.2.1 sr ru kr M (own_n (A_.length + 0)) vv (1000 : Int32) cz fmt V0 1000 Er Rv Rc Vr hV (show (1000 : Int32).toInt = ((1000 : Nat) : Int) from by decide) (by decide) (own_n_ge (by omega)) ((own_n_lt (by omega) (by omega)).mpr (by omega)) (by rw [own_n_cl (by omega)]; omega) hla (by rw [own_n_cl (by omega), hM]; exact own_dig_at A_ B_ V0 4 0 (by decide)) Sf hfm OD S2 hcz) (lenOf pd26 rfl) rfl d46_75 rfl rfl (by decide) (nQ rfl) rfl rfl (by decide) (by decide) (fun v5 T5 h5 Q5 X5 z5 => ?_)
 obtain ⟨hv5, hh5⟩ := Q5
 subst hv5; rw [hh5] at X5
 refine G.q 81 C X5 d46_78 rfl (feq (by decide : ¬ (1 : Int32) = 0)).1 <| G.a 82 C X5 d46_81 rfl rfl <| G.i 83 (z := 5) C X5 d46_82 rfl (by decide) <| G.j 101 C X5 d46_83 (tlt (by decide : (4 : Int32) < 5)).1 (by decide) (by decide) <| G.a 102 C X5 d46_101 rfl rfl <| G.d 104 (z := 6) C X5 d46_102 rfl (by decide) <| G.j 121 C X5 d46_104 (tlt (by decide : (4 : Int32) < 6)).1 (by decide) (by decide) <| G.a 122 C X5 d46_121 rfl rfl <| G.d 124 (z := 7) C X5 d46_122 rfl (by decide) <| G.j 142 C X5 d46_124 (tlt (by decide : (4 : Int32) < 7)).1 (by decide) (by decide) <| G.a 143 C X5 d46_142 rfl rfl <| G.d 145 (z := 8) C X5 d46_143 rfl (by decide) <| G.j 163 C X5 d46_145 (tlt (by decide : (4 : Int32) < 8)).1 (by decide) (by decide) <| G.a 164 C X5 d46_163 rfl rfl <| G.d 166 (z := 9) C X5 d46_164 rfl (by decide) ?_
 refine G.j 184 C X5 d46_166 (tlt (by decide : (4 : Int32) < 9)).1 (by decide) (by decide) <| G.a 185 C X5 d46_184 rfl rfl <| G.d 187 (z := 10) C X5 d46_185 rfl (by decide) <| G.j 205 C X5 d46_187 (tlt (by decide : (4 : Int32) < 10)).1 (by decide) (by decide) <| G.i 206 (z := 1) C X5 d46_205 rfl (by decide) <| G.r 210 C X5 d46_206 (by decide) (by decide) ?_
 exact G.U C X5 d46_210 hret (by simp) (z' := (1 : Int32)) (by decide) hlk (⟨rfl, rfl⟩) (by decide) (by decide)
theorem ctDg5 {l : Launch} {Z : State} {a0 : Array Value} (hw : HW a0 Z) {n0 : Nat} {h0 : Heap} (hn0 : n0 ≤ h0.size) (sr ru : Addr) (kr : ClassId) (M : List Int32) (A_ B_ : List Int32) (vv cz : Int32) (fmt : Value) (V0 : Nat) (Er : Exa Z h0 sr zq0) (Rv : Fld Z h0 sr zq0 "value" "[B" (.ref ru)) (Rc : Fld Z h0 sr zq0 "coder" "B" (.int 0)) (Vr : Arv Z h0 ru kr .byte (own_n (M).length) (tx M) (.int 0)) (hM : M = A_ ++ own_dig V0 5 ++ B_) (hV : vv.toInt = (V0 : Int)) (hlo : 10000 ≤ V0) (hhi : V0 < 100000) (hMb : M.length < 900) (hla : ∀ c ∈ M, own_lat c) (Sf : Sta Z Z.heap zq10 zq11 zq12 fmt) (hfm : fmt.isRef = true) (OD : Old Z n0 h0) (S2 : Sta Z Z.heap zq0 zq5 "Z" (.int cz)) (hcz : ¬ cz = 0) :
 Ctr l Z (⟨zq7, "digits", zq18⟩ : MethodName) method_7_code 5 (some .boolean) (rQ 5 0 0 90) n0 #[(.ref sr), (.int (own_n (A_).length)), (.int vv)] h0 (fun v h => v = some (.int 1) ∧ h = h0) := by
 refine Ctr.of (plainFor_of_name pn4) hn0 ?_
 intro p e s m below meth c T0 C hnm hret hlk X0
 rw [ef46 m sr (own_n (A_).length) vv]
 have hML : M.length = A_.length + 5 + B_.length := by rw [hM, List.length_append, List.length_append, own_dig_len]
 refine G.a 1 C X0 d46_0 rfl rfl <| G.o 4 (cells' := 0) (slots' := 0) (argsL := [(.int vv)]) (St := []) C X0 (wd235 hw) (wd236 hw) (by decide) (wd237 hw) (wd6 hw) (ctNd5 hw X0.2.1 vv V0 hV hlo hhi) (lenOf pd8 rfl) rfl d46_1 rfl rfl (by decide) (nQ rfl) rfl rfl (by decide) (by decide) (fun v1 T1 h1 Q1 X1 z1 => ?_)
 obtain ⟨hv1, hh1⟩ := Q1
 subst hv1; rw [hh1] at X1
 refine G.g 5 C X1 d46_4 rfl (l' := #[vR sr, vI (own_n (A_).length), vI vv, vI 5, .unset]) rfl <| G.a 6 C X1 d46_5 rfl rfl <| G.a 7 C X1 d46_6 rfl rfl <| G.z 8 (z := (own_n (A_.length + 5))) C X1 d46_7 rfl (own_nk A_.length 5 _ rfl) <| G.i 9 (z := 1) C X1 d46_8 rfl (by decide) <| G.u 10 (z := (own_n (A_.length + 4))) C X1 d46_9 rfl (own_sb1 (A_.length + 4) 1 _ rfl) <| G.w 12 C X1 d46_10 rfl (l' := #[vR sr, vI (own_n (A_).length), vI vv, vI 5, vI (own_n (A_.length + 4))]) rfl <| G.b 13 C X1 d46_12 rfl rfl rfl <| G.f 15 C X1 d46_13 rfl rfl <| G.a 16 C X1 d46_15 rfl rfl <| G.i 17 (z := 1) C X1 d46_16 rfl (by decide) <| G.o 20 (cells' := 0) (slots' := 0) (argsL := [(.ref sr), (.int (own_n (A_.length + 4))), (.int vv), (.int 1)]) (St := []) C X1 (wd267 hw) (wd268 hw) (by decide) (wd269 hw) (wd6 hw) (ctD hw X1.2.1 sr ru kr M (own_n (A_.length + 4)) vv (1 : Int32) cz fmt V0 1 Er Rv Rc Vr hV (show (1 : Int32).toInt = ((1 : Nat) : Int) from by decide) (by decide) (own_n_ge (by omega)) ((own_n_lt (by omega) (by omega)).mpr (by omega)) (by rw [own_n_cl (by omega)]; omega) hla (by rw [own_n_cl (by omega), hM]; exact own_dig_at A_ B_ V0 5 4 (by decide)) Sf hfm OD S2 hcz) (lenOf pd26 rfl) rfl d46_17 rfl rfl (by decide) (nQ rfl) rfl rfl (by decide) (by decide) (fun v2 T2 h2 Q2 X2 z2 => ?_)
 obtain ⟨hv2, hh2⟩ := Q2
 subst hv2; rw [hh2] at X2
 refine G.q 23 C X2 d46_20 rfl (feq (by decide : ¬ (1 : Int32) = 0)).1 <| G.a 24 C X2 d46_23 rfl rfl <| G.i 25 (z := 2) C X2 d46_24 rfl (by decide) <| G.k 28 C X2 d46_25 rfl (flt (by decide : ¬ (5 : Int32) < 2)).1 <| G.b 29 C X2 d46_28 rfl rfl rfl <| G.f 31 C X2 d46_29 rfl rfl <| G.i 32 (z := 1) C X2 d46_31 rfl (by decide) <| G.u 33 (z := (own_n (A_.length + 3))) C X2 d46_32 rfl (own_sb1 (A_.length + 3) 1 _ rfl) <| G.a 34 C X2 d46_33 rfl rfl <| G.d 36 (z := 10) C X2 d46_34 rfl (by decide) <| G.o 39 (cells' := 0) (slots' := 0) (argsL := [(.ref sr), (.int (own_n (A_.length + 3))), (.int vv), (.int 10)]) (St := []) C X2 (wd267 hw) (wd268 hw) (by decide) (wd269 hw) (wd6 hw) (ctD hw X2.2.1 sr ru kr M (own_n (A_.length + 3)) vv (10 : Int32) cz fmt V0 10 Er Rv Rc Vr hV (show (10 : Int32).toInt = ((10 : Nat) : Int) from by decide) (by decide) (own_n_ge (by omega)) ((own_n_lt (by omega) (by omega)).mpr (by omega)) (by rw [own_n_cl (by omega)]; omega) hla (by rw [own_n_cl (by omega), hM]; exact own_dig_at A_ B_ V0 5 3 (by decide)) Sf hfm OD S2 hcz) (lenOf pd26 rfl) rfl d46_36 rfl rfl (by decide) (nQ rfl) rfl rfl (by decide) (by decide) (fun v3 T3 h3 Q3 X3 z3 => ?_)
 obtain ⟨hv3, hh3⟩ := Q3
 subst hv3; rw [hh3] at X3
 refine G.q 42 C X3 d46_39 rfl (feq (by decide : ¬ (1 : Int32) = 0)).1 <| G.a 43 C X3 d46_42 rfl rfl <| G.i 44 (z := 3) C X3 d46_43 rfl (by decide) <| G.k 47 C X3 d46_44 rfl (flt (by decide : ¬ (5 : Int32) < 3)).1 <| G.b 48 C X3 d46_47 rfl rfl rfl <| G.f 50 C X3 d46_48 rfl rfl <| G.i 51 (z := 2) C X3 d46_50 rfl (by decide) <| G.u 52 (z := (own_n (A_.length + 2))) C X3 d46_51 rfl (own_sb1 (A_.length + 2) 2 _ rfl) <| G.a 53 C X3 d46_52 rfl rfl <| G.d 55 (z := 100) C X3 d46_53 rfl (by decide) <| G.o 58 (cells' := 0) (slots' := 0) (argsL := [(.ref sr), (.int (own_n (A_.length + 2))), (.int vv), (.int 100)]) (St := []) C X3 (wd267 hw) (wd268 hw) (by decide) (wd269 hw) (wd6 hw) (ctD hw X3.2.1 sr ru kr M (own_n (A_.length + 2)) vv (100 : Int32) cz fmt V0 100 Er Rv Rc Vr hV (show (100 : Int32).toInt = ((100 : Nat) : Int) from by decide) (by decide) (own_n_ge (by omega)) ((own_n_lt (by omega) (by omega)).mpr (by omega)) (by rw [own_n_cl (by omega)]; omega) hla (by rw [own_n_cl (by omega), hM]; exact own_dig_at A_ B_ V0 5 2 (by decide)) Sf hfm OD S2 hcz) (lenOf pd26 rfl) rfl d46_55 rfl rfl (by decide) (nQ rfl) rfl rfl (by decide) (by decide) (fun v4 T4 h4 Q4 X4 z4 => ?_)
 obtain ⟨hv4, hh4⟩ := Q4
 subst hv4; rw [hh4] at X4
 refine G.q 61 C X4 d46_58 rfl (feq (by decide : ¬ (1 : Int32) = 0)).1 <| G.a 62 C X4 d46_61 rfl rfl <| G.i 63 (z := 4) C X4 d46_62 rfl (by decide) <| G.k 66 C X4 d46_63 rfl (flt (by decide : ¬ (5 : Int32) < 4)).1 <| G.b 67 C X4 d46_66 rfl rfl rfl <| G.f 69 C X4 d46_67 rfl rfl <| G.i 70 (z := 3) C X4 d46_69 rfl (by decide) <| G.u 71 (z := (own_n (A_.length + 1))) C X4 d46_70 rfl (own_sb1 (A_.length + 1) 3 _ rfl) <| G.a 72 C X4 d46_71 rfl rfl <| G.G 75 (z := 1000) C X4 d46_72 rfl (by decide) <| G.o 78 (cells' := 0) (slots' := 0) (argsL := [(.ref sr), (.int (own_n (A_.length + 1))), (.int vv), (.int 1000)]) (St := []) C X4 (wd267 hw) (wd268 hw) (by decide) (wd269 hw) (wd6 hw) (ctD hw X4.2.1 sr ru kr M (own_n (A_.length + 1)) vv (1000 : Int32) cz fmt V0 1000 Er Rv Rc Vr hV (show (1000 : Int32).toInt = ((1000 : Nat) : Int) from by decide) (by decide) (own_n_ge (by omega)) ((own_n_lt (by omega) (by omega)).mpr (by omega)) (by rw [own_n_cl (by omega)]; omega) hla (by rw [own_n_cl (by omega), hM]; exact own_dig_at A_ B_ V0 5 1 (by decide)) Sf hfm OD S2 hcz) (lenOf pd26 rfl) rfl d46_75 rfl rfl (by decide) (nQ rfl) rfl rfl (by decide) (by decide) (fun v5 T5 h5 Q5 X5 z5 => ?_)
 obtain ⟨hv5, hh5⟩ := Q5
 subst hv5; rw [hh5] at X5
 refine G.q 81 C X5 d46_78 rfl (feq (by decide : ¬ (1 : Int32) = 0)).1 <| G.a 82 C X5 d46_81 rfl rfl <| G.i 83 (z := 5) C X5 d46_82 rfl (by decide) <| G.k 86 C X5 d46_83 rfl (flt (by decide : ¬ (5 : Int32) < 5)).1 <| G.b 87 C X5 d46_86 rfl rfl rfl <| G.f 89 C X5 d46_87 rfl rfl <| G.i 90 (z := 4) C X5 d46_89 rfl (by decide) <| G.u 91 (z := (own_n (A_.length + 0))) C X5 d46_90 rfl (own_sb1 (A_.length + 0) 4 _ rfl) <| G.a 92 C X5 d46_91 rfl rfl <| G.G 95 (z := 10000) C X5 d46_92 rfl (by decide) <| G.o 98 (cells' := 0) (slots' := 0) (argsL := [(.ref sr), (.int (own_n (A_.length + 0))), (.int vv), (.int 10000)]) (St := []) C X5 (wd267 hw) (wd268 hw) (by decide) (wd269 hw) (wd6 hw) (ctD hw X5.2.1 sr ru kr M (own_n (A_.length + 0)) vv (10000 : Int32) cz fmt V0 10000 Er Rv Rc Vr hV (show (10000 : Int32).toInt = ((10000 : Nat) : Int) from by decide) (by decide) (own_n_ge (by omega)) ((own_n_lt (by omega) (by omega)).mpr (by omega)) (by rw [own_n_cl (by omega)]; omega) hla (by rw [own_n_cl (by omega), hM]; exact own_dig_at A_ B_ V0 5 0 (by decide)) Sf hfm OD S2 hcz) (lenOf pd26 rfl) rfl d46_95 rfl rfl (by decide) (nQ rfl) rfl rfl (by decide) (by decide) (fun v6 T6 h6 Q6 X6 z6 => ?_)
 obtain ⟨hv6, hh6⟩ := Q6
 subst hv6; rw [hh6] at X6
 refine G.q 101 C X6 d46_98 rfl (feq (by decide : ¬ (1 : Int32) = 0)).1 <| G.a 102 C X6 d46_101 rfl rfl <| G.d 104 (z := 6) C X6 d46_102 rfl (by decide) <| G.j 121 C X6 d46_104 (tlt (by decide : (5 : Int32) < 6)).1 (by decide) (by decide) <| G.a 122 C X6 d46_121 rfl rfl <| G.d 124 (z := 7) C X6 d46_122 rfl (by decide) <| G.j 142 C X6 d46_124 (tlt (by decide : (5 : Int32) < 7)).1 (by decide) (by decide) <| G.a 143 C X6 d46_142 rfl rfl <| G.d 145 (z := 8) C X6 d46_143 rfl (by decide) <| G.j 163 C X6 d46_145 (tlt (by decide : (5 : Int32) < 8)).1 (by decide) (by decide) <| G.a 164 C X6 d46_163 rfl rfl <| G.d 166 (z := 9) C X6 d46_164 rfl (by decide) <| G.j 184 C X6 d46_166 (tlt (by decide : (5 : Int32) < 9)).1 (by decide) (by decide) <| G.a 185 C X6 d46_184 rfl rfl <| G.d 187 (z := 10) C X6 d46_185 rfl (by decide) ?_
 refine G.j 205 C X6 d46_187 (tlt (by decide : (5 : Int32) < 10)).1 (by decide) (by decide) <| G.i 206 (z := 1) C X6 d46_205 rfl (by decide) <| G.r 210 C X6 d46_206 (by decide) (by decide) ?_
 exact G.U C X6 d46_210 hret (by simp) (z' := (1 : Int32)) (by decide) hlk (⟨rfl, rfl⟩) (by decide) (by decide)
theorem ctDg6 {l : Launch} {Z : State} {a0 : Array Value} (hw : HW a0 Z) {n0 : Nat} {h0 : Heap} (hn0 : n0 ≤ h0.size) (sr ru : Addr) (kr : ClassId) (M : List Int32) (A_ B_ : List Int32) (vv cz : Int32) (fmt : Value) (V0 : Nat) (Er : Exa Z h0 sr zq0) (Rv : Fld Z h0 sr zq0 "value" "[B" (.ref ru)) (Rc : Fld Z h0 sr zq0 "coder" "B" (.int 0)) (Vr : Arv Z h0 ru kr .byte (own_n (M).length) (tx M) (.int 0)) (hM : M = A_ ++ own_dig V0 6 ++ B_) (hV : vv.toInt = (V0 : Int)) (hlo : 100000 ≤ V0) (hhi : V0 < 1000000) (hMb : M.length < 900) (hla : ∀ c ∈ M, own_lat c) (Sf : Sta Z Z.heap zq10 zq11 zq12 fmt) (hfm : fmt.isRef = true) (OD : Old Z n0 h0) (S2 : Sta Z Z.heap zq0 zq5 "Z" (.int cz)) (hcz : ¬ cz = 0) :
 Ctr l Z (⟨zq7, "digits", zq18⟩ : MethodName) method_7_code 5 (some .boolean) (rQ 5 0 0 90) n0 #[(.ref sr), (.int (own_n (A_).length)), (.int vv)] h0 (fun v h => v = some (.int 1) ∧ h = h0) := by
 refine Ctr.of (plainFor_of_name pn4) hn0 ?_
 intro p e s m below meth c T0 C hnm hret hlk X0
 rw [ef46 m sr (own_n (A_).length) vv]
 have hML : M.length = A_.length + 6 + B_.length := by rw [hM, List.length_append, List.length_append, own_dig_len]
 refine G.a 1 C X0 d46_0 rfl rfl <| G.o 4 (cells' := 0) (slots' := 0) (argsL := [(.int vv)]) (St := []) C X0 (wd235 hw) (wd236 hw) (by decide) (wd237 hw) (wd6 hw) (ctNd6 hw X0.2.1 vv V0 hV hlo hhi) (lenOf pd8 rfl) rfl d46_1 rfl rfl (by decide) (nQ rfl) rfl rfl (by decide) (by decide) (fun v1 T1 h1 Q1 X1 z1 => ?_)
 obtain ⟨hv1, hh1⟩ := Q1
 subst hv1; rw [hh1] at X1
 refine G.g 5 C X1 d46_4 rfl (l' := #[vR sr, vI (own_n (A_).length), vI vv, vI 6, .unset]) rfl <| G.a 6 C X1 d46_5 rfl rfl <| G.a 7 C X1 d46_6 rfl rfl <| G.z 8 (z := (own_n (A_.length + 6))) C X1 d46_7 rfl (own_nk A_.length 6 _ rfl) <| G.i 9 (z := 1) C X1 d46_8 rfl (by decide) <| G.u 10 (z := (own_n (A_.length + 5))) C X1 d46_9 rfl (own_sb1 (A_.length + 5) 1 _ rfl) <| G.w 12 C X1 d46_10 rfl (l' := #[vR sr, vI (own_n (A_).length), vI vv, vI 6, vI (own_n (A_.length + 5))]) rfl <| G.b 13 C X1 d46_12 rfl rfl rfl <| G.f 15 C X1 d46_13 rfl rfl <| G.a 16 C X1 d46_15 rfl rfl <| G.i 17 (z := 1) C X1 d46_16 rfl (by decide) <| G.o 20 (cells' := 0) (slots' := 0) (argsL := [(.ref sr), (.int (own_n (A_.length + 5))), (.int vv), (.int 1)]) (St := []) C X1 (wd267 hw) (wd268 hw) (by decide) (wd269 hw) (wd6 hw) (ctD hw X1.2.1 sr ru kr M (own_n (A_.length + 5)) vv (1 : Int32) cz fmt V0 1 Er Rv Rc Vr hV (show (1 : Int32).toInt = ((1 : Nat) : Int) from by decide) (by decide) (own_n_ge (by omega)) ((own_n_lt (by omega) (by omega)).mpr (by omega)) (by rw [own_n_cl (by omega)]; omega) hla (by rw [own_n_cl (by omega), hM]; exact own_dig_at A_ B_ V0 6 5 (by decide)) Sf hfm OD S2 hcz) (lenOf pd26 rfl) rfl d46_17 rfl rfl (by decide) (nQ rfl) rfl rfl (by decide) (by decide) (fun v2 T2 h2 Q2 X2 z2 => ?_)
 obtain ⟨hv2, hh2⟩ := Q2
 subst hv2; rw [hh2] at X2
 refine G.q 23 C X2 d46_20 rfl (feq (by decide : ¬ (1 : Int32) = 0)).1 <| G.a 24 C X2 d46_23 rfl rfl <| G.i 25 (z := 2) C X2 d46_24 rfl (by decide) <| G.k 28 C X2 d46_25 rfl (flt (by decide : ¬ (6 : Int32) < 2)).1 <| G.b 29 C X2 d46_28 rfl rfl rfl <| G.f 31 C X2 d46_29 rfl rfl <| G.i 32 (z := 1) C X2 d46_31 rfl (by decide) <| G.u 33 (z := (own_n (A_.length + 4))) C X2 d46_32 rfl (own_sb1 (A_.length + 4) 1 _ rfl) <| G.a 34 C X2 d46_33 rfl rfl <| G.d 36 (z := 10) C X2 d46_34 rfl (by decide) <| G.o 39 (cells' := 0) (slots' := 0) (argsL := [(.ref sr), (.int (own_n (A_.length + 4))), (.int vv), (.int 10)]) (St := []) C X2 (wd267 hw) (wd268 hw) (by decide) (wd269 hw) (wd6 hw) (ctD hw X2.2.1 sr ru kr M (own_n (A_.length + 4)) vv (10 : Int32) cz fmt V0 10 Er Rv Rc Vr hV (show (10 : Int32).toInt = ((10 : Nat) : Int) from by decide) (by decide) (own_n_ge (by omega)) ((own_n_lt (by omega) (by omega)).mpr (by omega)) (by rw [own_n_cl (by omega)]; omega) hla (by rw [own_n_cl (by omega), hM]; exact own_dig_at A_ B_ V0 6 4 (by decide)) Sf hfm OD S2 hcz) (lenOf pd26 rfl) rfl d46_36 rfl rfl (by decide) (nQ rfl) rfl rfl (by decide) (by decide) (fun v3 T3 h3 Q3 X3 z3 => ?_)
 obtain ⟨hv3, hh3⟩ := Q3
 subst hv3; rw [hh3] at X3
 refine G.q 42 C X3 d46_39 rfl (feq (by decide : ¬ (1 : Int32) = 0)).1 <| G.a 43 C X3 d46_42 rfl rfl <| G.i 44 (z := 3) C X3 d46_43 rfl (by decide) <| G.k 47 C X3 d46_44 rfl (flt (by decide : ¬ (6 : Int32) < 3)).1 <| G.b 48 C X3 d46_47 rfl rfl rfl <| G.f 50 C X3 d46_48 rfl rfl <| G.i 51 (z := 2) C X3 d46_50 rfl (by decide) <| G.u 52 (z := (own_n (A_.length + 3))) C X3 d46_51 rfl (own_sb1 (A_.length + 3) 2 _ rfl) <| G.a 53 C X3 d46_52 rfl rfl <| G.d 55 (z := 100) C X3 d46_53 rfl (by decide) <| G.o 58 (cells' := 0) (slots' := 0) (argsL := [(.ref sr), (.int (own_n (A_.length + 3))), (.int vv), (.int 100)]) (St := []) C X3 (wd267 hw) (wd268 hw) (by decide) (wd269 hw) (wd6 hw) (ctD hw X3.2.1 sr ru kr M (own_n (A_.length + 3)) vv (100 : Int32) cz fmt V0 100 Er Rv Rc Vr hV (show (100 : Int32).toInt = ((100 : Nat) : Int) from by decide) (by decide) (own_n_ge (by omega)) ((own_n_lt (by omega) (by omega)).mpr (by omega)) (by rw [own_n_cl (by omega)]; omega) hla (by rw [own_n_cl (by omega), hM]; exact own_dig_at A_ B_ V0 6 3 (by decide)) Sf hfm OD S2 hcz) (lenOf pd26 rfl) rfl d46_55 rfl rfl (by decide) (nQ rfl) rfl rfl (by decide) (by decide) (fun v4 T4 h4 Q4 X4 z4 => ?_)
 obtain ⟨hv4, hh4⟩ := Q4
 subst hv4; rw [hh4] at X4
 refine G.q 61 C X4 d46_58 rfl (feq (by decide : ¬ (1 : Int32) = 0)).1 <| G.a 62 C X4 d46_61 rfl rfl <| G.i 63 (z := 4) C X4 d46_62 rfl (by decide) <| G.k 66 C X4 d46_63 rfl (flt (by decide : ¬ (6 : Int32) < 4)).1 <| G.b 67 C X4 d46_66 rfl rfl rfl <| G.f 69 C X4 d46_67 rfl rfl <| G.i 70 (z := 3) C X4 d46_69 rfl (by decide) <| G.u 71 (z := (own_n (A_.length + 2))) C X4 d46_70 rfl (own_sb1 (A_.length + 2) 3 _ rfl) <| G.a 72 C X4 d46_71 rfl rfl <| G.G 75 (z := 1000) C X4 d46_72 rfl (by decide) <| G.o 78 (cells' := 0) (slots' := 0) (argsL := [(.ref sr), (.int (own_n (A_.length + 2))), (.int vv), (.int 1000)]) (St := []) C X4 (wd267 hw) (wd268 hw) (by decide) (wd269 hw) (wd6 hw) (ctD hw X4.2.1 sr ru kr M (own_n (A_.length + 2)) vv (1000 : Int32) cz fmt V0 1000 Er Rv Rc Vr hV (show (1000 : Int32).toInt = ((1000 : Nat) : Int) from by decide) (by decide) (own_n_ge (by omega)) ((own_n_lt (by omega) (by omega)).mpr (by omega)) (by rw [own_n_cl (by omega)]; omega) hla (by rw [own_n_cl (by omega), hM]; exact own_dig_at A_ B_ V0 6 2 (by decide)) Sf hfm OD S2 hcz) (lenOf pd26 rfl) rfl d46_75 rfl rfl (by decide) (nQ rfl) rfl rfl (by decide) (by decide) (fun v5 T5 h5 Q5 X5 z5 => ?_)
 obtain ⟨hv5, hh5⟩ := Q5
 subst hv5; rw [hh5] at X5
 refine G.q 81 C X5 d46_78 rfl (feq (by decide : ¬ (1 : Int32) = 0)).1 <| G.a 82 C X5 d46_81 rfl rfl <| G.i 83 (z := 5) C X5 d46_82 rfl (by decide) <| G.k 86 C X5 d46_83 rfl (flt (by decide : ¬ (6 : Int32) < 5)).1 <| G.b 87 C X5 d46_86 rfl rfl rfl <| G.f 89 C X5 d46_87 rfl rfl <| G.i 90 (z := 4) C X5 d46_89 rfl (by decide) <| G.u 91 (z := (own_n (A_.length + 1))) C X5 d46_90 rfl (own_sb1 (A_.length + 1) 4 _ rfl) <| G.a 92 C X5 d46_91 rfl rfl <| G.G 95 (z := 10000) C X5 d46_92 rfl (by decide) <| G.o 98 (cells' := 0) (slots' := 0) (argsL := [(.ref sr), (.int (own_n (A_.length + 1))), (.int vv), (.int 10000)]) (St := []) C X5 (wd267 hw) (wd268 hw) (by decide) (wd269 hw) (wd6 hw) (ctD hw X5.2.1 sr ru kr M (own_n (A_.length + 1)) vv (10000 : Int32) cz fmt V0 10000 Er Rv Rc Vr hV (show (10000 : Int32).toInt = ((10000 : Nat) : Int) from by decide) (by decide) (own_n_ge (by omega)) ((own_n_lt (by omega) (by omega)).mpr (by omega)) (by rw [own_n_cl (by omega)]; omega) hla (by rw [own_n_cl (by omega), hM]; exact own_dig_at A_ B_ V0 6 1 (by decide)) Sf hfm OD S2 hcz) (lenOf pd26 rfl) rfl d46_95 rfl rfl (by decide) (nQ rfl) rfl rfl (by decide) (by decide) (fun v6 T6 h6 Q6 X6 z6 => ?_)
 obtain ⟨hv6, hh6⟩ := Q6
 subst hv6; rw [hh6] at X6
 refine G.q 101 C X6 d46_98 rfl (feq (by decide : ¬ (1 : Int32) = 0)).1 <| G.a 102 C X6 d46_101 rfl rfl <| G.d 104 (z := 6) C X6 d46_102 rfl (by decide) <| G.k 107 C X6 d46_104 rfl (flt (by decide : ¬ (6 : Int32) < 6)).1 <| G.b 108 C X6 d46_107 rfl rfl rfl <| G.f 110 C X6 d46_108 rfl rfl <| G.i 111 (z := 5) C X6 d46_110 rfl (by decide) <| G.u 112 (z := (own_n (A_.length + 0))) C X6 d46_111 rfl (own_sb1 (A_.length + 0) 5 _ rfl) <| G.a 113 C X6 d46_112 rfl rfl <| G.F 115 C X6 (wd298 hw) d46_113 rfl <| G.o 118 (cells' := 0) (slots' := 0) (argsL := [(.ref sr), (.int (own_n (A_.length + 0))), (.int vv), (.int 100000)]) (St := []) C X6 (wd267 hw) (wd268 hw) (by decide) (wd269 hw) (wd6 hw) (ctD hw X6.2.1 sr ru kr M (own_n (A_.length + 0)) vv (100000 : Int32) cz fmt V0 100000 Er Rv Rc Vr hV (show (100000 : Int32).toInt = ((100000 : Nat) : Int) from by decide) (by decide) (own_n_ge (by omega)) ((own_n_lt (by omega) (by omega)).mpr (by omega)) (by rw [own_n_cl (by omega)]; omega) hla (by rw [own_n_cl (by omega), hM]; exact own_dig_at A_ B_ V0 6 0 (by decide)) Sf hfm OD S2 hcz) (lenOf pd26 rfl) rfl d46_115 rfl rfl (by decide) (nQ rfl) rfl rfl (by decide) (by decide) (fun v7 T7 h7 Q7 X7 z7 => ?_)
 obtain ⟨hv7, hh7⟩ := Q7
 subst hv7; rw [hh7] at X7
 refine G.q 121 C X7 d46_118 rfl (feq (by decide : ¬ (1 : Int32) = 0)).1 <| G.a 122 C X7 d46_121 rfl rfl <| G.d 124 (z := 7) C X7 d46_122 rfl (by decide) <| G.j 142 C X7 d46_124 (tlt (by decide : (6 : Int32) < 7)).1 (by decide) (by decide) <| G.a 143 C X7 d46_142 rfl rfl <| G.d 145 (z := 8) C X7 d46_143 rfl (by decide) <| G.j 163 C X7 d46_145 (tlt (by decide : (6 : Int32) < 8)).1 (by decide) (by decide) <| G.a 164 C X7 d46_163 rfl rfl <| G.d 166 (z := 9) C X7 d46_164 rfl (by decide) <| G.j 184 C X7 d46_166 (tlt (by decide : (6 : Int32) < 9)).1 (by decide) (by decide) <| G.a 185 C X7 d46_184 rfl rfl <| G.d 187 (z := 10) C X7 d46_185 rfl (by decide) <| G.j 205 C X7 d46_187 (tlt (by decide : (6 : Int32) < 10)).1 (by decide) (by decide) <| G.i 206 (z := 1) C X7 d46_205 rfl (by decide) <| G.r 210 C X7 d46_206 (by decide) (by decide) ?_
 exact G.U C X7 d46_210 hret (by simp) (z' := (1 : Int32)) (by decide) hlk (⟨rfl, rfl⟩) (by decide) (by decide)
theorem ctDg7 {l : Launch} {Z : State} {a0 : Array Value} (hw : HW a0 Z) {n0 : Nat} {h0 : Heap} (hn0 : n0 ≤ h0.size) (sr ru : Addr) (kr : ClassId) (M : List Int32) (A_ B_ : List Int32) (vv cz : Int32) (fmt : Value) (V0 : Nat) (Er : Exa Z h0 sr zq0) (Rv : Fld Z h0 sr zq0 "value" "[B" (.ref ru)) (Rc : Fld Z h0 sr zq0 "coder" "B" (.int 0)) (Vr : Arv Z h0 ru kr .byte (own_n (M).length) (tx M) (.int 0)) (hM : M = A_ ++ own_dig V0 7 ++ B_) (hV : vv.toInt = (V0 : Int)) (hlo : 1000000 ≤ V0) (hhi : V0 < 10000000) (hMb : M.length < 900) (hla : ∀ c ∈ M, own_lat c) (Sf : Sta Z Z.heap zq10 zq11 zq12 fmt) (hfm : fmt.isRef = true) (OD : Old Z n0 h0) (S2 : Sta Z Z.heap zq0 zq5 "Z" (.int cz)) (hcz : ¬ cz = 0) :
 Ctr l Z (⟨zq7, "digits", zq18⟩ : MethodName) method_7_code 5 (some .boolean) (rQ 5 0 0 90) n0 #[(.ref sr), (.int (own_n (A_).length)), (.int vv)] h0 (fun v h => v = some (.int 1) ∧ h = h0) := by
 refine Ctr.of (plainFor_of_name pn4) hn0 ?_
 intro p e s m below meth c T0 C hnm hret hlk X0
 rw [ef46 m sr (own_n (A_).length) vv]
 have hML : M.length = A_.length + 7 + B_.length := by rw [hM, List.length_append, List.length_append, own_dig_len]
 refine G.a 1 C X0 d46_0 rfl rfl <| G.o 4 (cells' := 0) (slots' := 0) (argsL := [(.int vv)]) (St := []) C X0 (wd235 hw) (wd236 hw) (by decide) (wd237 hw) (wd6 hw) (ctNd7 hw X0.2.1 vv V0 hV hlo hhi) (lenOf pd8 rfl) rfl d46_1 rfl rfl (by decide) (nQ rfl) rfl rfl (by decide) (by decide) (fun v1 T1 h1 Q1 X1 z1 => ?_)
 obtain ⟨hv1, hh1⟩ := Q1
 subst hv1; rw [hh1] at X1
 refine G.g 5 C X1 d46_4 rfl (l' := #[vR sr, vI (own_n (A_).length), vI vv, vI 7, .unset]) rfl <| G.a 6 C X1 d46_5 rfl rfl <| G.a 7 C X1 d46_6 rfl rfl <| G.z 8 (z := (own_n (A_.length + 7))) C X1 d46_7 rfl (own_nk A_.length 7 _ rfl) <| G.i 9 (z := 1) C X1 d46_8 rfl (by decide) <| G.u 10 (z := (own_n (A_.length + 6))) C X1 d46_9 rfl (own_sb1 (A_.length + 6) 1 _ rfl) <| G.w 12 C X1 d46_10 rfl (l' := #[vR sr, vI (own_n (A_).length), vI vv, vI 7, vI (own_n (A_.length + 6))]) rfl <| G.b 13 C X1 d46_12 rfl rfl rfl <| G.f 15 C X1 d46_13 rfl rfl <| G.a 16 C X1 d46_15 rfl rfl <| G.i 17 (z := 1) C X1 d46_16 rfl (by decide) <| G.o 20 (cells' := 0) (slots' := 0) (argsL := [(.ref sr), (.int (own_n (A_.length + 6))), (.int vv), (.int 1)]) (St := []) C X1 (wd267 hw) (wd268 hw) (by decide) (wd269 hw) (wd6 hw) (ctD hw X1.2.1 sr ru kr M (own_n (A_.length + 6)) vv (1 : Int32) cz fmt V0 1 Er Rv Rc Vr hV (show (1 : Int32).toInt = ((1 : Nat) : Int) from by decide) (by decide) (own_n_ge (by omega)) ((own_n_lt (by omega) (by omega)).mpr (by omega)) (by rw [own_n_cl (by omega)]; omega) hla (by rw [own_n_cl (by omega), hM]; exact own_dig_at A_ B_ V0 7 6 (by decide)) Sf hfm OD S2 hcz) (lenOf pd26 rfl) rfl d46_17 rfl rfl (by decide) (nQ rfl) rfl rfl (by decide) (by decide) (fun v2 T2 h2 Q2 X2 z2 => ?_)
 obtain ⟨hv2, hh2⟩ := Q2
 subst hv2; rw [hh2] at X2
 refine G.q 23 C X2 d46_20 rfl (feq (by decide : ¬ (1 : Int32) = 0)).1 <| G.a 24 C X2 d46_23 rfl rfl <| G.i 25 (z := 2) C X2 d46_24 rfl (by decide) <| G.k 28 C X2 d46_25 rfl (flt (by decide : ¬ (7 : Int32) < 2)).1 <| G.b 29 C X2 d46_28 rfl rfl rfl <| G.f 31 C X2 d46_29 rfl rfl <| G.i 32 (z := 1) C X2 d46_31 rfl (by decide) <| G.u 33 (z := (own_n (A_.length + 5))) C X2 d46_32 rfl (own_sb1 (A_.length + 5) 1 _ rfl) <| G.a 34 C X2 d46_33 rfl rfl <| G.d 36 (z := 10) C X2 d46_34 rfl (by decide) <| G.o 39 (cells' := 0) (slots' := 0) (argsL := [(.ref sr), (.int (own_n (A_.length + 5))), (.int vv), (.int 10)]) (St := []) C X2 (wd267 hw) (wd268 hw) (by decide) (wd269 hw) (wd6 hw) (ctD hw X2.2.1 sr ru kr M (own_n (A_.length + 5)) vv (10 : Int32) cz fmt V0 10 Er Rv Rc Vr hV (show (10 : Int32).toInt = ((10 : Nat) : Int) from by decide) (by decide) (own_n_ge (by omega)) ((own_n_lt (by omega) (by omega)).mpr (by omega)) (by rw [own_n_cl (by omega)]; omega) hla (by rw [own_n_cl (by omega), hM]; exact own_dig_at A_ B_ V0 7 5 (by decide)) Sf hfm OD S2 hcz) (lenOf pd26 rfl) rfl d46_36 rfl rfl (by decide) (nQ rfl) rfl rfl (by decide) (by decide) (fun v3 T3 h3 Q3 X3 z3 => ?_)
 obtain ⟨hv3, hh3⟩ := Q3
 subst hv3; rw [hh3] at X3
 refine G.q 42 C X3 d46_39 rfl (feq (by decide : ¬ (1 : Int32) = 0)).1 <| G.a 43 C X3 d46_42 rfl rfl <| G.i 44 (z := 3) C X3 d46_43 rfl (by decide) <| G.k 47 C X3 d46_44 rfl (flt (by decide : ¬ (7 : Int32) < 3)).1 <| G.b 48 C X3 d46_47 rfl rfl rfl <| G.f 50 C X3 d46_48 rfl rfl <| G.i 51 (z := 2) C X3 d46_50 rfl (by decide) <| G.u 52 (z := (own_n (A_.length + 4))) C X3 d46_51 rfl (own_sb1 (A_.length + 4) 2 _ rfl) <| G.a 53 C X3 d46_52 rfl rfl <| G.d 55 (z := 100) C X3 d46_53 rfl (by decide) <| G.o 58 (cells' := 0) (slots' := 0) (argsL := [(.ref sr), (.int (own_n (A_.length + 4))), (.int vv), (.int 100)]) (St := []) C X3 (wd267 hw) (wd268 hw) (by decide) (wd269 hw) (wd6 hw) (ctD hw X3.2.1 sr ru kr M (own_n (A_.length + 4)) vv (100 : Int32) cz fmt V0 100 Er Rv Rc Vr hV (show (100 : Int32).toInt = ((100 : Nat) : Int) from by decide) (by decide) (own_n_ge (by omega)) ((own_n_lt (by omega) (by omega)).mpr (by omega)) (by rw [own_n_cl (by omega)]; omega) hla (by rw [own_n_cl (by omega), hM]; exact own_dig_at A_ B_ V0 7 4 (by decide)) Sf hfm OD S2 hcz) (lenOf pd26 rfl) rfl d46_55 rfl rfl (by decide) (nQ rfl) rfl rfl (by decide) (by decide) (fun v4 T4 h4 Q4 X4 z4 => ?_)
 obtain ⟨hv4, hh4⟩ := Q4
 subst hv4; rw [hh4] at X4
 refine G.q 61 C X4 d46_58 rfl (feq (by decide : ¬ (1 : Int32) = 0)).1 <| G.a 62 C X4 d46_61 rfl rfl <| G.i 63 (z := 4) C X4 d46_62 rfl (by decide) <| G.k 66 C X4 d46_63 rfl (flt (by decide : ¬ (7 : Int32) < 4)).1 <| G.b 67 C X4 d46_66 rfl rfl rfl <| G.f 69 C X4 d46_67 rfl rfl <| G.i 70 (z := 3) C X4 d46_69 rfl (by decide) <| G.u 71 (z := (own_n (A_.length + 3))) C X4 d46_70 rfl (own_sb1 (A_.length + 3) 3 _ rfl) <| G.a 72 C X4 d46_71 rfl rfl <| G.G 75 (z := 1000) C X4 d46_72 rfl (by decide) <| G.o 78 (cells' := 0) (slots' := 0) (argsL := [(.ref sr), (.int (own_n (A_.length + 3))), (.int vv), (.int 1000)]) (St := []) C X4 (wd267 hw) (wd268 hw) (by decide) (wd269 hw) (wd6 hw) (ctD hw X4.2.1 sr ru kr M (own_n (A_.length + 3)) vv (1000 : Int32) cz fmt V0 1000 Er Rv Rc Vr hV (show (1000 : Int32).toInt = ((1000 : Nat) : Int) from by decide) (by decide) (own_n_ge (by omega)) ((own_n_lt (by omega) (by omega)).mpr (by omega)) (by rw [own_n_cl (by omega)]; omega) hla (by rw [own_n_cl (by omega), hM]; exact own_dig_at A_ B_ V0 7 3 (by decide)) Sf hfm OD S2 hcz) (lenOf pd26 rfl) rfl d46_75 rfl rfl (by decide) (nQ rfl) rfl rfl (by decide) (by decide) (fun v5 T5 h5 Q5 X5 z5 => ?_)
 obtain ⟨hv5, hh5⟩ := Q5
 subst hv5; rw [hh5] at X5
 refine G.q 81 C X5 d46_78 rfl (feq (by decide : ¬ (1 : Int32) = 0)).1 <| G.a 82 C X5 d46_81 rfl rfl <| G.i 83 (z := 5) C X5 d46_82 rfl (by decide) <| G.k 86 C X5 d46_83 rfl (flt (by decide : ¬ (7 : Int32) < 5)).1 <| G.b 87 C X5 d46_86 rfl rfl rfl <| G.f 89 C X5 d46_87 rfl rfl <| G.i 90 (z := 4) C X5 d46_89 rfl (by decide) <| G.u 91 (z := (own_n (A_.length + 2))) C X5 d46_90 rfl (own_sb1 (A_.length + 2) 4 _ rfl) <| G.a 92 C X5 d46_91 rfl rfl <| G.G 95 (z := 10000) C X5 d46_92 rfl (by decide) <| G.o 98 (cells' := 0) (slots' := 0) (argsL := [(.ref sr), (.int (own_n (A_.length + 2))), (.int vv), (.int 10000)]) (St := []) C X5 (wd267 hw) (wd268 hw) (by decide) (wd269 hw) (wd6 hw) (ctD hw X5.2.1 sr ru kr M (own_n (A_.length + 2)) vv (10000 : Int32) cz fmt V0 10000 Er Rv Rc Vr hV (show (10000 : Int32).toInt = ((10000 : Nat) : Int) from by decide) (by decide) (own_n_ge (by omega)) ((own_n_lt (by omega) (by omega)).mpr (by omega)) (by rw [own_n_cl (by omega)]; omega) hla (by rw [own_n_cl (by omega), hM]; exact own_dig_at A_ B_ V0 7 2 (by decide)) Sf hfm OD S2 hcz) (lenOf pd26 rfl) rfl d46_95 rfl rfl (by decide) (nQ rfl) rfl rfl (by decide) (by decide) (fun v6 T6 h6 Q6 X6 z6 => ?_)
 obtain ⟨hv6, hh6⟩ := Q6
 subst hv6; rw [hh6] at X6
 refine G.q 101 C X6 d46_98 rfl (feq (by decide : ¬ (1 : Int32) = 0)).1 <| G.a 102 C X6 d46_101 rfl rfl <| G.d 104 (z := 6) C X6 d46_102 rfl (by decide) <| G.k 107 C X6 d46_104 rfl (flt (by decide : ¬ (7 : Int32) < 6)).1 <| G.b 108 C X6 d46_107 rfl rfl rfl <| G.f 110 C X6 d46_108 rfl rfl <| G.i 111 (z := 5) C X6 d46_110 rfl (by decide) <| G.u 112 (z := (own_n (A_.length + 1))) C X6 d46_111 rfl (own_sb1 (A_.length + 1) 5 _ rfl) <| G.a 113 C X6 d46_112 rfl rfl <| G.F 115 C X6 (wd298 hw) d46_113 rfl <| G.o 118 (cells' := 0) (slots' := 0) (argsL := [(.ref sr), (.int (own_n (A_.length + 1))), (.int vv), (.int 100000)]) (St := []) C X6 (wd267 hw) (wd268 hw) (by decide) (wd269 hw) (wd6 hw) (ctD hw X6.2.1 sr ru kr M (own_n (A_.length + 1)) vv (100000 : Int32) cz fmt V0 100000 Er Rv Rc Vr hV (show (100000 : Int32).toInt = ((100000 : Nat) : Int) from by decide) (by decide) (own_n_ge (by omega)) ((own_n_lt (by omega) (by omega)).mpr (by omega)) (by rw [own_n_cl (by omega)]; omega) hla (by rw [own_n_cl (by omega), hM]; exact own_dig_at A_ B_ V0 7 1 (by decide)) Sf hfm OD S2 hcz) (lenOf pd26 rfl) rfl d46_115 rfl rfl (by decide) (nQ rfl) rfl rfl (by decide) (by decide) (fun v7 T7 h7 Q7 X7 z7 => ?_)
 obtain ⟨hv7, hh7⟩ := Q7
 subst hv7; rw [hh7] at X7
 refine G.q 121 C X7 d46_118 rfl (feq (by decide : ¬ (1 : Int32) = 0)).1 <| G.a 122 C X7 d46_121 rfl rfl <| G.d 124 (z := 7) C X7 d46_122 rfl (by decide) <| G.k 127 C X7 d46_124 rfl (flt (by decide : ¬ (7 : Int32) < 7)).1 <| G.b 128 C X7 d46_127 rfl rfl rfl <| G.f 130 C X7 d46_128 rfl rfl <| G.d 132 (z := 6) C X7 d46_130 rfl (by decide) <| G.u 133 (z := (own_n (A_.length + 0))) C X7 d46_132 rfl (own_sb1 (A_.length + 0) 6 _ rfl) <| G.a 134 C X7 d46_133 rfl rfl <| G.F 136 C X7 (wd299 hw) d46_134 rfl <| G.o 139 (cells' := 0) (slots' := 0) (argsL := [(.ref sr), (.int (own_n (A_.length + 0))), (.int vv), (.int 1000000)]) (St := []) C X7 (wd267 hw) (wd268 hw) (by decide) (wd269 hw) (wd6 hw) (ctD hw X7.2.1 sr ru kr M (own_n (A_.length + 0)) vv (1000000 : Int32) cz fmt V0 1000000 Er Rv Rc Vr hV (show (1000000 : Int32).toInt = ((1000000 : Nat) : Int) from by decide) (by decide) (own_n_ge (by omega)) ((own_n_lt (by omega) (by omega)).mpr (by omega)) (by rw [own_n_cl (by omega)]; omega) hla (by rw [own_n_cl (by omega), hM]; exact own_dig_at A_ B_ V0 7 0 (by decide)) Sf hfm OD S2 hcz) (lenOf pd26 rfl) rfl d46_136 rfl rfl (by decide) (nQ rfl) rfl rfl (by decide) (by decide) (fun v8 T8 h8 Q8 X8 z8 => ?_)
 obtain ⟨hv8, hh8⟩ := Q8
 subst hv8; rw [hh8] at X8
 refine G.q 142 C X8 d46_139 rfl (feq (by decide : ¬ (1 : Int32) = 0)).1 <| G.a 143 C X8 d46_142 rfl rfl <| G.d 145 (z := 8) C X8 d46_143 rfl (by decide) <| G.j 163 C X8 d46_145 (tlt (by decide : (7 : Int32) < 8)).1 (by decide) (by decide) <| G.a 164 C X8 d46_163 rfl rfl <| G.d 166 (z := 9) C X8 d46_164 rfl (by decide) <| G.j 184 C X8 d46_166 (tlt (by decide : (7 : Int32) < 9)).1 (by decide) (by decide) <| G.a 185 C X8 d46_184 rfl rfl <| G.d 187 (z := 10) C X8 d46_185 rfl (by decide) <| G.j 205 C X8 d46_187 (tlt (by decide : (7 : Int32) < 10)).1 (by decide) (by decide) <| G.i 206 (z := 1) C X8 d46_205 rfl (by decide) <| G.r 210 C X8 d46_206 (by decide) (by decide) ?_
 exact G.U C X8 d46_210 hret (by simp) (z' := (1 : Int32)) (by decide) hlk (⟨rfl, rfl⟩) (by decide) (by decide)
theorem ctDg8 {l : Launch} {Z : State} {a0 : Array Value} (hw : HW a0 Z) {n0 : Nat} {h0 : Heap} (hn0 : n0 ≤ h0.size) (sr ru : Addr) (kr : ClassId) (M : List Int32) (A_ B_ : List Int32) (vv cz : Int32) (fmt : Value) (V0 : Nat) (Er : Exa Z h0 sr zq0) (Rv : Fld Z h0 sr zq0 "value" "[B" (.ref ru)) (Rc : Fld Z h0 sr zq0 "coder" "B" (.int 0)) (Vr : Arv Z h0 ru kr .byte (own_n (M).length) (tx M) (.int 0)) (hM : M = A_ ++ own_dig V0 8 ++ B_) (hV : vv.toInt = (V0 : Int)) (hlo : 10000000 ≤ V0) (hhi : V0 < 100000000) (hMb : M.length < 900) (hla : ∀ c ∈ M, own_lat c) (Sf : Sta Z Z.heap zq10 zq11 zq12 fmt) (hfm : fmt.isRef = true) (OD : Old Z n0 h0) (S2 : Sta Z Z.heap zq0 zq5 "Z" (.int cz)) (hcz : ¬ cz = 0) :
 Ctr l Z (⟨zq7, "digits", zq18⟩ : MethodName) method_7_code 5 (some .boolean) (rQ 5 0 0 90) n0 #[(.ref sr), (.int (own_n (A_).length)), (.int vv)] h0 (fun v h => v = some (.int 1) ∧ h = h0) := by
 refine Ctr.of (plainFor_of_name pn4) hn0 ?_
 intro p e s m below meth c T0 C hnm hret hlk X0
 rw [ef46 m sr (own_n (A_).length) vv]
 have hML : M.length = A_.length + 8 + B_.length := by rw [hM, List.length_append, List.length_append, own_dig_len]
 refine G.a 1 C X0 d46_0 rfl rfl <| G.o 4 (cells' := 0) (slots' := 0) (argsL := [(.int vv)]) (St := []) C X0 (wd235 hw) (wd236 hw) (by decide) (wd237 hw) (wd6 hw) (ctNd8 hw X0.2.1 vv V0 hV hlo hhi) (lenOf pd8 rfl) rfl d46_1 rfl rfl (by decide) (nQ rfl) rfl rfl (by decide) (by decide) (fun v1 T1 h1 Q1 X1 z1 => ?_)
 obtain ⟨hv1, hh1⟩ := Q1
 subst hv1; rw [hh1] at X1
 refine G.g 5 C X1 d46_4 rfl (l' := #[vR sr, vI (own_n (A_).length), vI vv, vI 8, .unset]) rfl <| G.a 6 C X1 d46_5 rfl rfl <| G.a 7 C X1 d46_6 rfl rfl <| G.z 8 (z := (own_n (A_.length + 8))) C X1 d46_7 rfl (own_nk A_.length 8 _ rfl) <| G.i 9 (z := 1) C X1 d46_8 rfl (by decide) <| G.u 10 (z := (own_n (A_.length + 7))) C X1 d46_9 rfl (own_sb1 (A_.length + 7) 1 _ rfl) <| G.w 12 C X1 d46_10 rfl (l' := #[vR sr, vI (own_n (A_).length), vI vv, vI 8, vI (own_n (A_.length + 7))]) rfl <| G.b 13 C X1 d46_12 rfl rfl rfl <| G.f 15 C X1 d46_13 rfl rfl <| G.a 16 C X1 d46_15 rfl rfl <| G.i 17 (z := 1) C X1 d46_16 rfl (by decide) <| G.o 20 (cells' := 0) (slots' := 0) (argsL := [(.ref sr), (.int (own_n (A_.length + 7))), (.int vv), (.int 1)]) (St := []) C X1 (wd267 hw) (wd268 hw) (by decide) (wd269 hw) (wd6 hw) (ctD hw X1.2.1 sr ru kr M (own_n (A_.length + 7)) vv (1 : Int32) cz fmt V0 1 Er Rv Rc Vr hV (show (1 : Int32).toInt = ((1 : Nat) : Int) from by decide) (by decide) (own_n_ge (by omega)) ((own_n_lt (by omega) (by omega)).mpr (by omega)) (by rw [own_n_cl (by omega)]; omega) hla (by rw [own_n_cl (by omega), hM]; exact own_dig_at A_ B_ V0 8 7 (by decide)) Sf hfm OD S2 hcz) (lenOf pd26 rfl) rfl d46_17 rfl rfl (by decide) (nQ rfl) rfl rfl (by decide) (by decide) (fun v2 T2 h2 Q2 X2 z2 => ?_)
 obtain ⟨hv2, hh2⟩ := Q2
 subst hv2; rw [hh2] at X2
 refine G.q 23 C X2 d46_20 rfl (feq (by decide : ¬ (1 : Int32) = 0)).1 <| G.a 24 C X2 d46_23 rfl rfl <| G.i 25 (z := 2) C X2 d46_24 rfl (by decide) <| G.k 28 C X2 d46_25 rfl (flt (by decide : ¬ (8 : Int32) < 2)).1 <| G.b 29 C X2 d46_28 rfl rfl rfl <| G.f 31 C X2 d46_29 rfl rfl <| G.i 32 (z := 1) C X2 d46_31 rfl (by decide) <| G.u 33 (z := (own_n (A_.length + 6))) C X2 d46_32 rfl (own_sb1 (A_.length + 6) 1 _ rfl) <| G.a 34 C X2 d46_33 rfl rfl <| G.d 36 (z := 10) C X2 d46_34 rfl (by decide) <| G.o 39 (cells' := 0) (slots' := 0) (argsL := [(.ref sr), (.int (own_n (A_.length + 6))), (.int vv), (.int 10)]) (St := []) C X2 (wd267 hw) (wd268 hw) (by decide) (wd269 hw) (wd6 hw) (ctD hw X2.2.1 sr ru kr M (own_n (A_.length + 6)) vv (10 : Int32) cz fmt V0 10 Er Rv Rc Vr hV (show (10 : Int32).toInt = ((10 : Nat) : Int) from by decide) (by decide) (own_n_ge (by omega)) ((own_n_lt (by omega) (by omega)).mpr (by omega)) (by rw [own_n_cl (by omega)]; omega) hla (by rw [own_n_cl (by omega), hM]; exact own_dig_at A_ B_ V0 8 6 (by decide)) Sf hfm OD S2 hcz) (lenOf pd26 rfl) rfl d46_36 rfl rfl (by decide) (nQ rfl) rfl rfl (by decide) (by decide) (fun v3 T3 h3 Q3 X3 z3 => ?_)
 obtain ⟨hv3, hh3⟩ := Q3
 subst hv3; rw [hh3] at X3
 refine G.q 42 C X3 d46_39 rfl (feq (by decide : ¬ (1 : Int32) = 0)).1 <| G.a 43 C X3 d46_42 rfl rfl <| G.i 44 (z := 3) C X3 d46_43 rfl (by decide) <| G.k 47 C X3 d46_44 rfl (flt (by decide : ¬ (8 : Int32) < 3)).1 <| G.b 48 C X3 d46_47 rfl rfl rfl <| G.f 50 C X3 d46_48 rfl rfl <| G.i 51 (z := 2) C X3 d46_50 rfl (by decide) <| G.u 52 (z := (own_n (A_.length + 5))) C X3 d46_51 rfl (own_sb1 (A_.length + 5) 2 _ rfl) <| G.a 53 C X3 d46_52 rfl rfl <| G.d 55 (z := 100) C X3 d46_53 rfl (by decide) <| G.o 58 (cells' := 0) (slots' := 0) (argsL := [(.ref sr), (.int (own_n (A_.length + 5))), (.int vv), (.int 100)]) (St := []) C X3 (wd267 hw) (wd268 hw) (by decide) (wd269 hw) (wd6 hw) (ctD hw X3.2.1 sr ru kr M (own_n (A_.length + 5)) vv (100 : Int32) cz fmt V0 100 Er Rv Rc Vr hV (show (100 : Int32).toInt = ((100 : Nat) : Int) from by decide) (by decide) (own_n_ge (by omega)) ((own_n_lt (by omega) (by omega)).mpr (by omega)) (by rw [own_n_cl (by omega)]; omega) hla (by rw [own_n_cl (by omega), hM]; exact own_dig_at A_ B_ V0 8 5 (by decide)) Sf hfm OD S2 hcz) (lenOf pd26 rfl) rfl d46_55 rfl rfl (by decide) (nQ rfl) rfl rfl (by decide) (by decide) (fun v4 T4 h4 Q4 X4 z4 => ?_)
 obtain ⟨hv4, hh4⟩ := Q4
 subst hv4; rw [hh4] at X4
 refine G.q 61 C X4 d46_58 rfl (feq (by decide : ¬ (1 : Int32) = 0)).1 <| G.a 62 C X4 d46_61 rfl rfl <| G.i 63 (z := 4) C X4 d46_62 rfl (by decide) <| G.k 66 C X4 d46_63 rfl (flt (by decide : ¬ (8 : Int32) < 4)).1 <| G.b 67 C X4 d46_66 rfl rfl rfl <| G.f 69 C X4 d46_67 rfl rfl <| G.i 70 (z := 3) C X4 d46_69 rfl (by decide) <| G.u 71 (z := (own_n (A_.length + 4))) C X4 d46_70 rfl (own_sb1 (A_.length + 4) 3 _ rfl) <| G.a 72 C X4 d46_71 rfl rfl <| G.G 75 (z := 1000) C X4 d46_72 rfl (by decide) <| G.o 78 (cells' := 0) (slots' := 0) (argsL := [(.ref sr), (.int (own_n (A_.length + 4))), (.int vv), (.int 1000)]) (St := []) C X4 (wd267 hw) (wd268 hw) (by decide) (wd269 hw) (wd6 hw) (ctD hw X4.2.1 sr ru kr M (own_n (A_.length + 4)) vv (1000 : Int32) cz fmt V0 1000 Er Rv Rc Vr hV (show (1000 : Int32).toInt = ((1000 : Nat) : Int) from by decide) (by decide) (own_n_ge (by omega)) ((own_n_lt (by omega) (by omega)).mpr (by omega)) (by rw [own_n_cl (by omega)]; omega) hla (by rw [own_n_cl (by omega), hM]; exact own_dig_at A_ B_ V0 8 4 (by decide)) Sf hfm OD S2 hcz) (lenOf pd26 rfl) rfl d46_75 rfl rfl (by decide) (nQ rfl) rfl rfl (by decide) (by decide) (fun v5 T5 h5 Q5 X5 z5 => ?_)
 obtain ⟨hv5, hh5⟩ := Q5
 subst hv5; rw [hh5] at X5
 refine G.q 81 C X5 d46_78 rfl (feq (by decide : ¬ (1 : Int32) = 0)).1 <| G.a 82 C X5 d46_81 rfl rfl <| G.i 83 (z := 5) C X5 d46_82 rfl (by decide) <| G.k 86 C X5 d46_83 rfl (flt (by decide : ¬ (8 : Int32) < 5)).1 <| G.b 87 C X5 d46_86 rfl rfl rfl <| G.f 89 C X5 d46_87 rfl rfl <| G.i 90 (z := 4) C X5 d46_89 rfl (by decide) <| G.u 91 (z := (own_n (A_.length + 3))) C X5 d46_90 rfl (own_sb1 (A_.length + 3) 4 _ rfl) <| G.a 92 C X5 d46_91 rfl rfl <| G.G 95 (z := 10000) C X5 d46_92 rfl (by decide) <| G.o 98 (cells' := 0) (slots' := 0) (argsL := [(.ref sr), (.int (own_n (A_.length + 3))), (.int vv), (.int 10000)]) (St := []) C X5 (wd267 hw) (wd268 hw) (by decide) (wd269 hw) (wd6 hw) (ctD hw X5.2.1 sr ru kr M (own_n (A_.length + 3)) vv (10000 : Int32) cz fmt V0 10000 Er Rv Rc Vr hV (show (10000 : Int32).toInt = ((10000 : Nat) : Int) from by decide) (by decide) (own_n_ge (by omega)) ((own_n_lt (by omega) (by omega)).mpr (by omega)) (by rw [own_n_cl (by omega)]; omega) hla (by rw [own_n_cl (by omega), hM]; exact own_dig_at A_ B_ V0 8 3 (by decide)) Sf hfm OD S2 hcz) (lenOf pd26 rfl) rfl d46_95 rfl rfl (by decide) (nQ rfl) rfl rfl (by decide) (by decide) (fun v6 T6 h6 Q6 X6 z6 => ?_)
 obtain ⟨hv6, hh6⟩ := Q6
 subst hv6; rw [hh6] at X6
 refine G.q 101 C X6 d46_98 rfl (feq (by decide : ¬ (1 : Int32) = 0)).1 <| G.a 102 C X6 d46_101 rfl rfl <| G.d 104 (z := 6) C X6 d46_102 rfl (by decide) <| G.k 107 C X6 d46_104 rfl (flt (by decide : ¬ (8 : Int32) < 6)).1 <| G.b 108 C X6 d46_107 rfl rfl rfl <| G.f 110 C X6 d46_108 rfl rfl <| G.i 111 (z := 5) C X6 d46_110 rfl (by decide) <| G.u 112 (z := (own_n (A_.length + 2))) C X6 d46_111 rfl (own_sb1 (A_.length + 2) 5 _ rfl) <| G.a 113 C X6 d46_112 rfl rfl <| G.F 115 C X6 (wd298 hw) d46_113 rfl <| G.o 118 (cells' := 0) (slots' := 0) (argsL := [(.ref sr), (.int (own_n (A_.length + 2))), (.int vv), (.int 100000)]) (St := []) C X6 (wd267 hw) (wd268 hw) (by decide) (wd269 hw) (wd6 hw) (ctD hw X6.2.1 sr ru kr M (own_n (A_.length + 2)) vv (100000 : Int32) cz fmt V0 100000 Er Rv Rc Vr hV (show (100000 : Int32).toInt = ((100000 : Nat) : Int) from by decide) (by decide) (own_n_ge (by omega)) ((own_n_lt (by omega) (by omega)).mpr (by omega)) (by rw [own_n_cl (by omega)]; omega) hla (by rw [own_n_cl (by omega), hM]; exact own_dig_at A_ B_ V0 8 2 (by decide)) Sf hfm OD S2 hcz) (lenOf pd26 rfl) rfl d46_115 rfl rfl (by decide) (nQ rfl) rfl rfl (by decide) (by decide) (fun v7 T7 h7 Q7 X7 z7 => ?_)
 obtain ⟨hv7, hh7⟩ := Q7
 subst hv7; rw [hh7] at X7
 refine G.q 121 C X7 d46_118 rfl (feq (by decide : ¬ (1 : Int32) = 0)).1 <| G.a 122 C X7 d46_121 rfl rfl <| G.d 124 (z := 7) C X7 d46_122 rfl (by decide) <| G.k 127 C X7 d46_124 rfl (flt (by decide : ¬ (8 : Int32) < 7)).1 <| G.b 128 C X7 d46_127 rfl rfl rfl <| G.f 130 C X7 d46_128 rfl rfl <| G.d 132 (z := 6) C X7 d46_130 rfl (by decide) <| G.u 133 (z := (own_n (A_.length + 1))) C X7 d46_132 rfl (own_sb1 (A_.length + 1) 6 _ rfl) <| G.a 134 C X7 d46_133 rfl rfl <| G.F 136 C X7 (wd299 hw) d46_134 rfl <| G.o 139 (cells' := 0) (slots' := 0) (argsL := [(.ref sr), (.int (own_n (A_.length + 1))), (.int vv), (.int 1000000)]) (St := []) C X7 (wd267 hw) (wd268 hw) (by decide) (wd269 hw) (wd6 hw) (ctD hw X7.2.1 sr ru kr M (own_n (A_.length + 1)) vv (1000000 : Int32) cz fmt V0 1000000 Er Rv Rc Vr hV (show (1000000 : Int32).toInt = ((1000000 : Nat) : Int) from by decide) (by decide) (own_n_ge (by omega)) ((own_n_lt (by omega) (by omega)).mpr (by omega)) (by rw [own_n_cl (by omega)]; omega) hla (by rw [own_n_cl (by omega), hM]; exact own_dig_at A_ B_ V0 8 1 (by decide)) Sf hfm OD S2 hcz) (lenOf pd26 rfl) rfl d46_136 rfl rfl (by decide) (nQ rfl) rfl rfl (by decide) (by decide) (fun v8 T8 h8 Q8 X8 z8 => ?_)
 obtain ⟨hv8, hh8⟩ := Q8
 subst hv8; rw [hh8] at X8
 refine G.q 142 C X8 d46_139 rfl (feq (by decide : ¬ (1 : Int32) = 0)).1 <| G.a 143 C X8 d46_142 rfl rfl <| G.d 145 (z := 8) C X8 d46_143 rfl (by decide) <| G.k 148 C X8 d46_145 rfl (flt (by decide : ¬ (8 : Int32) < 8)).1 <| G.b 149 C X8 d46_148 rfl rfl rfl <| G.f 151 C X8 d46_149 rfl rfl <| G.d 153 (z := 7) C X8 d46_151 rfl (by decide) <| G.u 154 (z := (own_n (A_.length + 0))) C X8 d46_153 rfl (own_sb1 (A_.length + 0) 7 _ rfl) <| G.a 155 C X8 d46_154 rfl rfl <| G.F 157 C X8 (wd300 hw) d46_155 rfl <| G.o 160 (cells' := 0) (slots' := 0) (argsL := [(.ref sr), (.int (own_n (A_.length + 0))), (.int vv), (.int 10000000)]) (St := []) C X8 (wd267 hw) (wd268 hw) (by decide) (wd269 hw) (wd6 hw) (ctD hw X8.2.1 sr ru kr M (own_n (A_.length + 0)) vv (10000000 : Int32) cz fmt V0 10000000 Er Rv Rc Vr hV (show (10000000 : Int32).toInt = ((10000000 : Nat) : Int) from by decide) (by decide) (own_n_ge (by omega)) ((own_n_lt (by omega) (by omega)).mpr (by omega)) (by rw [own_n_cl (by omega)]; omega) hla (by rw [own_n_cl (by omega), hM]; exact own_dig_at A_ B_ V0 8 0 (by decide)) Sf hfm OD S2 hcz) (lenOf pd26 rfl) rfl d46_157 rfl rfl (by decide) (nQ rfl) rfl rfl (by decide) (by decide) (fun v9 T9 h9 Q9 X9 z9 => ?_)
 obtain ⟨hv9, hh9⟩ := Q9
 subst hv9; rw [hh9] at X9
 refine G.q 163 C X9 d46_160 rfl (feq (by decide : ¬ (1 : Int32) = 0)).1 <| G.a 164 C X9 d46_163 rfl rfl <| G.d 166 (z := 9) C X9 d46_164 rfl (by decide) <| G.j 184 C X9 d46_166 (tlt (by decide : (8 : Int32) < 9)).1 (by decide) (by decide) <| G.a 185 C X9 d46_184 rfl rfl <| G.d 187 (z := 10) C X9 d46_185 rfl (by decide) <| G.j 205 C X9 d46_187 (tlt (by decide : (8 : Int32) < 10)).1 (by decide) (by decide) <| G.i 206 (z := 1) C X9 d46_205 rfl (by decide) <| G.r 210 C X9 d46_206 (by decide) (by decide) ?_
 exact G.U C X9 d46_210 hret (by simp) (z' := (1 : Int32)) (by decide) hlk (⟨rfl, rfl⟩) (by decide) (by decide)
theorem ctDg9 {l : Launch} {Z : State} {a0 : Array Value} (hw : HW a0 Z) {n0 : Nat} {h0 : Heap} (hn0 : n0 ≤ h0.size) (sr ru : Addr) (kr : ClassId) (M : List Int32) (A_ B_ : List Int32) (vv cz : Int32) (fmt : Value) (V0 : Nat) (Er : Exa Z h0 sr zq0) (Rv : Fld Z h0 sr zq0 "value" "[B" (.ref ru)) (Rc : Fld Z h0 sr zq0 "coder" "B" (.int 0)) (Vr : Arv Z h0 ru kr .byte (own_n (M).length) (tx M) (.int 0)) (hM : M = A_ ++ own_dig V0 9 ++ B_) (hV : vv.toInt = (V0 : Int)) (hlo : 100000000 ≤ V0) (hhi : V0 < 1000000000) (hMb : M.length < 900) (hla : ∀ c ∈ M, own_lat c) (Sf : Sta Z Z.heap zq10 zq11 zq12 fmt) (hfm : fmt.isRef = true) (OD : Old Z n0 h0) (S2 : Sta Z Z.heap zq0 zq5 "Z" (.int cz)) (hcz : ¬ cz = 0) :
 Ctr l Z (⟨zq7, "digits", zq18⟩ : MethodName) method_7_code 5 (some .boolean) (rQ 5 0 0 90) n0 #[(.ref sr), (.int (own_n (A_).length)), (.int vv)] h0 (fun v h => v = some (.int 1) ∧ h = h0) := by
 refine Ctr.of (plainFor_of_name pn4) hn0 ?_
 intro p e s m below meth c T0 C hnm hret hlk X0
 rw [ef46 m sr (own_n (A_).length) vv]
 have hML : M.length = A_.length + 9 + B_.length := by rw [hM, List.length_append, List.length_append, own_dig_len]
 refine G.a 1 C X0 d46_0 rfl rfl <| G.o 4 (cells' := 0) (slots' := 0) (argsL := [(.int vv)]) (St := []) C X0 (wd235 hw) (wd236 hw) (by decide) (wd237 hw) (wd6 hw) (ctNd9 hw X0.2.1 vv V0 hV hlo hhi) (lenOf pd8 rfl) rfl d46_1 rfl rfl (by decide) (nQ rfl) rfl rfl (by decide) (by decide) (fun v1 T1 h1 Q1 X1 z1 => ?_)
 obtain ⟨hv1, hh1⟩ := Q1
 subst hv1; rw [hh1] at X1
 refine G.g 5 C X1 d46_4 rfl (l' := #[vR sr, vI (own_n (A_).length), vI vv, vI 9, .unset]) rfl <| G.a 6 C X1 d46_5 rfl rfl <| G.a 7 C X1 d46_6 rfl rfl <| G.z 8 (z := (own_n (A_.length + 9))) C X1 d46_7 rfl (own_nk A_.length 9 _ rfl) <| G.i 9 (z := 1) C X1 d46_8 rfl (by decide) <| G.u 10 (z := (own_n (A_.length + 8))) C X1 d46_9 rfl (own_sb1 (A_.length + 8) 1 _ rfl) <| G.w 12 C X1 d46_10 rfl (l' := #[vR sr, vI (own_n (A_).length), vI vv, vI 9, vI (own_n (A_.length + 8))]) rfl <| G.b 13 C X1 d46_12 rfl rfl rfl <| G.f 15 C X1 d46_13 rfl rfl <| G.a 16 C X1 d46_15 rfl rfl <| G.i 17 (z := 1) C X1 d46_16 rfl (by decide) <| G.o 20 (cells' := 0) (slots' := 0) (argsL := [(.ref sr), (.int (own_n (A_.length + 8))), (.int vv), (.int 1)]) (St := []) C X1 (wd267 hw) (wd268 hw) (by decide) (wd269 hw) (wd6 hw) (ctD hw X1.2.1 sr ru kr M (own_n (A_.length + 8)) vv (1 : Int32) cz fmt V0 1 Er Rv Rc Vr hV (show (1 : Int32).toInt = ((1 : Nat) : Int) from by decide) (by decide) (own_n_ge (by omega)) ((own_n_lt (by omega) (by omega)).mpr (by omega)) (by rw [own_n_cl (by omega)]; omega) hla (by rw [own_n_cl (by omega), hM]; exact own_dig_at A_ B_ V0 9 8 (by decide)) Sf hfm OD S2 hcz) (lenOf pd26 rfl) rfl d46_17 rfl rfl (by decide) (nQ rfl) rfl rfl (by decide) (by decide) (fun v2 T2 h2 Q2 X2 z2 => ?_)
 obtain ⟨hv2, hh2⟩ := Q2
 subst hv2; rw [hh2] at X2
 refine G.q 23 C X2 d46_20 rfl (feq (by decide : ¬ (1 : Int32) = 0)).1 <| G.a 24 C X2 d46_23 rfl rfl <| G.i 25 (z := 2) C X2 d46_24 rfl (by decide) <| G.k 28 C X2 d46_25 rfl (flt (by decide : ¬ (9 : Int32) < 2)).1 <| G.b 29 C X2 d46_28 rfl rfl rfl <| G.f 31 C X2 d46_29 rfl rfl <| G.i 32 (z := 1) C X2 d46_31 rfl (by decide) <| G.u 33 (z := (own_n (A_.length + 7))) C X2 d46_32 rfl (own_sb1 (A_.length + 7) 1 _ rfl) <| G.a 34 C X2 d46_33 rfl rfl <| G.d 36 (z := 10) C X2 d46_34 rfl (by decide) <| G.o 39 (cells' := 0) (slots' := 0) (argsL := [(.ref sr), (.int (own_n (A_.length + 7))), (.int vv), (.int 10)]) (St := []) C X2 (wd267 hw) (wd268 hw) (by decide) (wd269 hw) (wd6 hw) (ctD hw X2.2.1 sr ru kr M (own_n (A_.length + 7)) vv (10 : Int32) cz fmt V0 10 Er Rv Rc Vr hV (show (10 : Int32).toInt = ((10 : Nat) : Int) from by decide) (by decide) (own_n_ge (by omega)) ((own_n_lt (by omega) (by omega)).mpr (by omega)) (by rw [own_n_cl (by omega)]; omega) hla (by rw [own_n_cl (by omega), hM]; exact own_dig_at A_ B_ V0 9 7 (by decide)) Sf hfm OD S2 hcz) (lenOf pd26 rfl) rfl d46_36 rfl rfl (by decide) (nQ rfl) rfl rfl (by decide) (by decide) (fun v3 T3 h3 Q3 X3 z3 => ?_)
 obtain ⟨hv3, hh3⟩ := Q3
 subst hv3; rw [hh3] at X3
 refine G.q 42 C X3 d46_39 rfl (feq (by decide : ¬ (1 : Int32) = 0)).1 <| G.a 43 C X3 d46_42 rfl rfl <| G.i 44 (z := 3) C X3 d46_43 rfl (by decide) <| G.k 47 C X3 d46_44 rfl (flt (by decide : ¬ (9 : Int32) < 3)).1 <| G.b 48 C X3 d46_47 rfl rfl rfl <| G.f 50 C X3 d46_48 rfl rfl <| G.i 51 (z := 2) C X3 d46_50 rfl (by decide) <| G.u 52 (z := (own_n (A_.length + 6))) C X3 d46_51 rfl (own_sb1 (A_.length + 6) 2 _ rfl) <| G.a 53 C X3 d46_52 rfl rfl <| G.d 55 (z := 100) C X3 d46_53 rfl (by decide) <| G.o 58 (cells' := 0) (slots' := 0) (argsL := [(.ref sr), (.int (own_n (A_.length + 6))), (.int vv), (.int 100)]) (St := []) C X3 (wd267 hw) (wd268 hw) (by decide) (wd269 hw) (wd6 hw) (ctD hw X3.2.1 sr ru kr M (own_n (A_.length + 6)) vv (100 : Int32) cz fmt V0 100 Er Rv Rc Vr hV (show (100 : Int32).toInt = ((100 : Nat) : Int) from by decide) (by decide) (own_n_ge (by omega)) ((own_n_lt (by omega) (by omega)).mpr (by omega)) (by rw [own_n_cl (by omega)]; omega) hla (by rw [own_n_cl (by omega), hM]; exact own_dig_at A_ B_ V0 9 6 (by decide)) Sf hfm OD S2 hcz) (lenOf pd26 rfl) rfl d46_55 rfl rfl (by decide) (nQ rfl) rfl rfl (by decide) (by decide) (fun v4 T4 h4 Q4 X4 z4 => ?_)
 obtain ⟨hv4, hh4⟩ := Q4
 subst hv4; rw [hh4] at X4
 refine G.q 61 C X4 d46_58 rfl (feq (by decide : ¬ (1 : Int32) = 0)).1 <| G.a 62 C X4 d46_61 rfl rfl <| G.i 63 (z := 4) C X4 d46_62 rfl (by decide) <| G.k 66 C X4 d46_63 rfl (flt (by decide : ¬ (9 : Int32) < 4)).1 <| G.b 67 C X4 d46_66 rfl rfl rfl <| G.f 69 C X4 d46_67 rfl rfl <| G.i 70 (z := 3) C X4 d46_69 rfl (by decide) <| G.u 71 (z := (own_n (A_.length + 5))) C X4 d46_70 rfl (own_sb1 (A_.length + 5) 3 _ rfl) <| G.a 72 C X4 d46_71 rfl rfl <| G.G 75 (z := 1000) C X4 d46_72 rfl (by decide) <| G.o 78 (cells' := 0) (slots' := 0) (argsL := [(.ref sr), (.int (own_n (A_.length + 5))), (.int vv), (.int 1000)]) (St := []) C X4 (wd267 hw) (wd268 hw) (by decide) (wd269 hw) (wd6 hw) (ctD hw X4.2.1 sr ru kr M (own_n (A_.length + 5)) vv (1000 : Int32) cz fmt V0 1000 Er Rv Rc Vr hV (show (1000 : Int32).toInt = ((1000 : Nat) : Int) from by decide) (by decide) (own_n_ge (by omega)) ((own_n_lt (by omega) (by omega)).mpr (by omega)) (by rw [own_n_cl (by omega)]; omega) hla (by rw [own_n_cl (by omega), hM]; exact own_dig_at A_ B_ V0 9 5 (by decide)) Sf hfm OD S2 hcz) (lenOf pd26 rfl) rfl d46_75 rfl rfl (by decide) (nQ rfl) rfl rfl (by decide) (by decide) (fun v5 T5 h5 Q5 X5 z5 => ?_)
 obtain ⟨hv5, hh5⟩ := Q5
 subst hv5; rw [hh5] at X5
 refine G.q 81 C X5 d46_78 rfl (feq (by decide : ¬ (1 : Int32) = 0)).1 <| G.a 82 C X5 d46_81 rfl rfl <| G.i 83 (z := 5) C X5 d46_82 rfl (by decide) <| G.k 86 C X5 d46_83 rfl (flt (by decide : ¬ (9 : Int32) < 5)).1 <| G.b 87 C X5 d46_86 rfl rfl rfl <| G.f 89 C X5 d46_87 rfl rfl <| G.i 90 (z := 4) C X5 d46_89 rfl (by decide) <| G.u 91 (z := (own_n (A_.length + 4))) C X5 d46_90 rfl (own_sb1 (A_.length + 4) 4 _ rfl) <| G.a 92 C X5 d46_91 rfl rfl <| G.G 95 (z := 10000) C X5 d46_92 rfl (by decide) <| G.o 98 (cells' := 0) (slots' := 0) (argsL := [(.ref sr), (.int (own_n (A_.length + 4))), (.int vv), (.int 10000)]) (St := []) C X5 (wd267 hw) (wd268 hw) (by decide) (wd269 hw) (wd6 hw) (ctD hw X5.2.1 sr ru kr M (own_n (A_.length + 4)) vv (10000 : Int32) cz fmt V0 10000 Er Rv Rc Vr hV (show (10000 : Int32).toInt = ((10000 : Nat) : Int) from by decide) (by decide) (own_n_ge (by omega)) ((own_n_lt (by omega) (by omega)).mpr (by omega)) (by rw [own_n_cl (by omega)]; omega) hla (by rw [own_n_cl (by omega), hM]; exact own_dig_at A_ B_ V0 9 4 (by decide)) Sf hfm OD S2 hcz) (lenOf pd26 rfl) rfl d46_95 rfl rfl (by decide) (nQ rfl) rfl rfl (by decide) (by decide) (fun v6 T6 h6 Q6 X6 z6 => ?_)
 obtain ⟨hv6, hh6⟩ := Q6
 subst hv6; rw [hh6] at X6
 refine G.q 101 C X6 d46_98 rfl (feq (by decide : ¬ (1 : Int32) = 0)).1 <| G.a 102 C X6 d46_101 rfl rfl <| G.d 104 (z := 6) C X6 d46_102 rfl (by decide) <| G.k 107 C X6 d46_104 rfl (flt (by decide : ¬ (9 : Int32) < 6)).1 <| G.b 108 C X6 d46_107 rfl rfl rfl <| G.f 110 C X6 d46_108 rfl rfl <| G.i 111 (z := 5) C X6 d46_110 rfl (by decide) <| G.u 112 (z := (own_n (A_.length + 3))) C X6 d46_111 rfl (own_sb1 (A_.length + 3) 5 _ rfl) <| G.a 113 C X6 d46_112 rfl rfl <| G.F 115 C X6 (wd298 hw) d46_113 rfl <| G.o 118 (cells' := 0) (slots' := 0) (argsL := [(.ref sr), (.int (own_n (A_.length + 3))), (.int vv), (.int 100000)]) (St := []) C X6 (wd267 hw) (wd268 hw) (by decide) (wd269 hw) (wd6 hw) (ctD hw X6.2.1 sr ru kr M (own_n (A_.length + 3)) vv (100000 : Int32) cz fmt V0 100000 Er Rv Rc Vr hV (show (100000 : Int32).toInt = ((100000 : Nat) : Int) from by decide) (by decide) (own_n_ge (by omega)) ((own_n_lt (by omega) (by omega)).mpr (by omega)) (by rw [own_n_cl (by omega)]; omega) hla (by rw [own_n_cl (by omega), hM]; exact own_dig_at A_ B_ V0 9 3 (by decide)) Sf hfm OD S2 hcz) (lenOf pd26 rfl) rfl d46_115 rfl rfl (by decide) (nQ rfl) rfl rfl (by decide) (by decide) (fun v7 T7 h7 Q7 X7 z7 => ?_)
 obtain ⟨hv7, hh7⟩ := Q7
 subst hv7; rw [hh7] at X7
 refine G.q 121 C X7 d46_118 rfl (feq (by decide : ¬ (1 : Int32) = 0)).1 <| G.a 122 C X7 d46_121 rfl rfl <| G.d 124 (z := 7) C X7 d46_122 rfl (by decide) <| G.k 127 C X7 d46_124 rfl (flt (by decide : ¬ (9 : Int32) < 7)).1 <| G.b 128 C X7 d46_127 rfl rfl rfl <| G.f 130 C X7 d46_128 rfl rfl <| G.d 132 (z := 6) C X7 d46_130 rfl (by decide) <| G.u 133 (z := (own_n (A_.length + 2))) C X7 d46_132 rfl (own_sb1 (A_.length + 2) 6 _ rfl) <| G.a 134 C X7 d46_133 rfl rfl <| G.F 136 C X7 (wd299 hw) d46_134 rfl <| G.o 139 (cells' := 0) (slots' := 0) (argsL := [(.ref sr), (.int (own_n (A_.length + 2))), (.int vv), (.int 1000000)]) (St := []) C X7 (wd267 hw) (wd268 hw) (by decide) (wd269 hw) (wd6 hw) (ctD hw X7.2.1 sr ru kr M (own_n (A_.length + 2)) vv (1000000 : Int32) cz fmt V0 1000000 Er Rv Rc Vr hV (show (1000000 : Int32).toInt = ((1000000 : Nat) : Int) from by decide) (by decide) (own_n_ge (by omega)) ((own_n_lt (by omega) (by omega)).mpr (by omega)) (by rw [own_n_cl (by omega)]; omega) hla (by rw [own_n_cl (by omega), hM]; exact own_dig_at A_ B_ V0 9 2 (by decide)) Sf hfm OD S2 hcz) (lenOf pd26 rfl) rfl d46_136 rfl rfl (by decide) (nQ rfl) rfl rfl (by decide) (by decide) (fun v8 T8 h8 Q8 X8 z8 => ?_)
 obtain ⟨hv8, hh8⟩ := Q8
 subst hv8; rw [hh8] at X8
 refine G.q 142 C X8 d46_139 rfl (feq (by decide : ¬ (1 : Int32) = 0)).1 <| G.a 143 C X8 d46_142 rfl rfl <| G.d 145 (z := 8) C X8 d46_143 rfl (by decide) <| G.k 148 C X8 d46_145 rfl (flt (by decide : ¬ (9 : Int32) < 8)).1 <| G.b 149 C X8 d46_148 rfl rfl rfl <| G.f 151 C X8 d46_149 rfl rfl <| G.d 153 (z := 7) C X8 d46_151 rfl (by decide) <| G.u 154 (z := (own_n (A_.length + 1))) C X8 d46_153 rfl (own_sb1 (A_.length + 1) 7 _ rfl) <| G.a 155 C X8 d46_154 rfl rfl <| G.F 157 C X8 (wd300 hw) d46_155 rfl <| G.o 160 (cells' := 0) (slots' := 0) (argsL := [(.ref sr), (.int (own_n (A_.length + 1))), (.int vv), (.int 10000000)]) (St := []) C X8 (wd267 hw) (wd268 hw) (by decide) (wd269 hw) (wd6 hw) (ctD hw X8.2.1 sr ru kr M (own_n (A_.length + 1)) vv (10000000 : Int32) cz fmt V0 10000000 Er Rv Rc Vr hV (show (10000000 : Int32).toInt = ((10000000 : Nat) : Int) from by decide) (by decide) (own_n_ge (by omega)) ((own_n_lt (by omega) (by omega)).mpr (by omega)) (by rw [own_n_cl (by omega)]; omega) hla (by rw [own_n_cl (by omega), hM]; exact own_dig_at A_ B_ V0 9 1 (by decide)) Sf hfm OD S2 hcz) (lenOf pd26 rfl) rfl d46_157 rfl rfl (by decide) (nQ rfl) rfl rfl (by decide) (by decide) (fun v9 T9 h9 Q9 X9 z9 => ?_)
 obtain ⟨hv9, hh9⟩ := Q9
 subst hv9; rw [hh9] at X9
 refine G.q 163 C X9 d46_160 rfl (feq (by decide : ¬ (1 : Int32) = 0)).1 <| G.a 164 C X9 d46_163 rfl rfl <| G.d 166 (z := 9) C X9 d46_164 rfl (by decide) <| G.k 169 C X9 d46_166 rfl (flt (by decide : ¬ (9 : Int32) < 9)).1 <| G.b 170 C X9 d46_169 rfl rfl rfl <| G.f 172 C X9 d46_170 rfl rfl <| G.d 174 (z := 8) C X9 d46_172 rfl (by decide) <| G.u 175 (z := (own_n (A_.length + 0))) C X9 d46_174 rfl (own_sb1 (A_.length + 0) 8 _ rfl) <| G.a 176 C X9 d46_175 rfl rfl <| G.F 178 C X9 (wd301 hw) d46_176 rfl <| G.o 181 (cells' := 0) (slots' := 0) (argsL := [(.ref sr), (.int (own_n (A_.length + 0))), (.int vv), (.int 100000000)]) (St := []) C X9 (wd267 hw) (wd268 hw) (by decide) (wd269 hw) (wd6 hw) (ctD hw X9.2.1 sr ru kr M (own_n (A_.length + 0)) vv (100000000 : Int32) cz fmt V0 100000000 Er Rv Rc Vr hV (show (100000000 : Int32).toInt = ((100000000 : Nat) : Int) from by decide) (by decide) (own_n_ge (by omega)) ((own_n_lt (by omega) (by omega)).mpr (by omega)) (by rw [own_n_cl (by omega)]; omega) hla (by rw [own_n_cl (by omega), hM]; exact own_dig_at A_ B_ V0 9 0 (by decide)) Sf hfm OD S2 hcz) (lenOf pd26 rfl) rfl d46_178 rfl rfl (by decide) (nQ rfl) rfl rfl (by decide) (by decide) (fun v10 T10 h10 Q10 X10 z10 => ?_)
 obtain ⟨hv10, hh10⟩ := Q10
 subst hv10; rw [hh10] at X10
 refine G.q 184 C X10 d46_181 rfl (feq (by decide : ¬ (1 : Int32) = 0)).1 <| G.a 185 C X10 d46_184 rfl rfl <| G.d 187 (z := 10) C X10 d46_185 rfl (by decide) <| G.j 205 C X10 d46_187 (tlt (by decide : (9 : Int32) < 10)).1 (by decide) (by decide) <| G.i 206 (z := 1) C X10 d46_205 rfl (by decide) <| G.r 210 C X10 d46_206 (by decide) (by decide) ?_
 exact G.U C X10 d46_210 hret (by simp) (z' := (1 : Int32)) (by decide) hlk (⟨rfl, rfl⟩) (by decide) (by decide)
theorem ctDg10 {l : Launch} {Z : State} {a0 : Array Value} (hw : HW a0 Z) {n0 : Nat} {h0 : Heap} (hn0 : n0 ≤ h0.size) (sr ru : Addr) (kr : ClassId) (M : List Int32) (A_ B_ : List Int32) (vv cz : Int32) (fmt : Value) (V0 : Nat) (Er : Exa Z h0 sr zq0) (Rv : Fld Z h0 sr zq0 "value" "[B" (.ref ru)) (Rc : Fld Z h0 sr zq0 "coder" "B" (.int 0)) (Vr : Arv Z h0 ru kr .byte (own_n (M).length) (tx M) (.int 0)) (hM : M = A_ ++ own_dig V0 10 ++ B_) (hV : vv.toInt = (V0 : Int)) (hlo : 1000000000 ≤ V0) (hhi : V0 < 2147483648) (hMb : M.length < 900) (hla : ∀ c ∈ M, own_lat c) (Sf : Sta Z Z.heap zq10 zq11 zq12 fmt) (hfm : fmt.isRef = true) (OD : Old Z n0 h0) (S2 : Sta Z Z.heap zq0 zq5 "Z" (.int cz)) (hcz : ¬ cz = 0) :
 Ctr l Z (⟨zq7, "digits", zq18⟩ : MethodName) method_7_code 5 (some .boolean) (rQ 5 0 0 90) n0 #[(.ref sr), (.int (own_n (A_).length)), (.int vv)] h0 (fun v h => v = some (.int 1) ∧ h = h0) := by
 refine Ctr.of (plainFor_of_name pn4) hn0 ?_
 intro p e s m below meth c T0 C hnm hret hlk X0
 rw [ef46 m sr (own_n (A_).length) vv]
 have hML : M.length = A_.length + 10 + B_.length := by rw [hM, List.length_append, List.length_append, own_dig_len]
 refine G.a 1 C X0 d46_0 rfl rfl <| G.o 4 (cells' := 0) (slots' := 0) (argsL := [(.int vv)]) (St := []) C X0 (wd235 hw) (wd236 hw) (by decide) (wd237 hw) (wd6 hw) (ctNd10 hw X0.2.1 vv V0 hV hlo hhi) (lenOf pd8 rfl) rfl d46_1 rfl rfl (by decide) (nQ rfl) rfl rfl (by decide) (by decide) (fun v1 T1 h1 Q1 X1 z1 => ?_)
 obtain ⟨hv1, hh1⟩ := Q1
 subst hv1; rw [hh1] at X1
 refine G.g 5 C X1 d46_4 rfl (l' := #[vR sr, vI (own_n (A_).length), vI vv, vI 10, .unset]) rfl <| G.a 6 C X1 d46_5 rfl rfl <| G.a 7 C X1 d46_6 rfl rfl <| G.z 8 (z := (own_n (A_.length + 10))) C X1 d46_7 rfl (own_nk A_.length 10 _ rfl) <| G.i 9 (z := 1) C X1 d46_8 rfl (by decide) <| G.u 10 (z := (own_n (A_.length + 9))) C X1 d46_9 rfl (own_sb1 (A_.length + 9) 1 _ rfl) <| G.w 12 C X1 d46_10 rfl (l' := #[vR sr, vI (own_n (A_).length), vI vv, vI 10, vI (own_n (A_.length + 9))]) rfl <| G.b 13 C X1 d46_12 rfl rfl rfl <| G.f 15 C X1 d46_13 rfl rfl <| G.a 16 C X1 d46_15 rfl rfl <| G.i 17 (z := 1) C X1 d46_16 rfl (by decide) <| G.o 20 (cells' := 0) (slots' := 0) (argsL := [(.ref sr), (.int (own_n (A_.length + 9))), (.int vv), (.int 1)]) (St := []) C X1 (wd267 hw) (wd268 hw) (by decide) (wd269 hw) (wd6 hw) (ctD hw X1.2.1 sr ru kr M (own_n (A_.length + 9)) vv (1 : Int32) cz fmt V0 1 Er Rv Rc Vr hV (show (1 : Int32).toInt = ((1 : Nat) : Int) from by decide) (by decide) (own_n_ge (by omega)) ((own_n_lt (by omega) (by omega)).mpr (by omega)) (by rw [own_n_cl (by omega)]; omega) hla (by rw [own_n_cl (by omega), hM]; exact own_dig_at A_ B_ V0 10 9 (by decide)) Sf hfm OD S2 hcz) (lenOf pd26 rfl) rfl d46_17 rfl rfl (by decide) (nQ rfl) rfl rfl (by decide) (by decide) (fun v2 T2 h2 Q2 X2 z2 => ?_)
 obtain ⟨hv2, hh2⟩ := Q2
 subst hv2; rw [hh2] at X2
 refine G.q 23 C X2 d46_20 rfl (feq (by decide : ¬ (1 : Int32) = 0)).1 <| G.a 24 C X2 d46_23 rfl rfl <| G.i 25 (z := 2) C X2 d46_24 rfl (by decide) <| G.k 28 C X2 d46_25 rfl (flt (by decide : ¬ (10 : Int32) < 2)).1 <| G.b 29 C X2 d46_28 rfl rfl rfl <| G.f 31 C X2 d46_29 rfl rfl <| G.i 32 (z := 1) C X2 d46_31 rfl (by decide) <| G.u 33 (z := (own_n (A_.length + 8))) C X2 d46_32 rfl (own_sb1 (A_.length + 8) 1 _ rfl) <| G.a 34 C X2 d46_33 rfl rfl <| G.d 36 (z := 10) C X2 d46_34 rfl (by decide) <| G.o 39 (cells' := 0) (slots' := 0) (argsL := [(.ref sr), (.int (own_n (A_.length + 8))), (.int vv), (.int 10)]) (St := []) C X2 (wd267 hw) (wd268 hw) (by decide) (wd269 hw) (wd6 hw) (ctD hw X2.2.1 sr ru kr M (own_n (A_.length + 8)) vv (10 : Int32) cz fmt V0 10 Er Rv Rc Vr hV (show (10 : Int32).toInt = ((10 : Nat) : Int) from by decide) (by decide) (own_n_ge (by omega)) ((own_n_lt (by omega) (by omega)).mpr (by omega)) (by rw [own_n_cl (by omega)]; omega) hla (by rw [own_n_cl (by omega), hM]; exact own_dig_at A_ B_ V0 10 8 (by decide)) Sf hfm OD S2 hcz) (lenOf pd26 rfl) rfl d46_36 rfl rfl (by decide) (nQ rfl) rfl rfl (by decide) (by decide) (fun v3 T3 h3 Q3 X3 z3 => ?_)
 obtain ⟨hv3, hh3⟩ := Q3
 subst hv3; rw [hh3] at X3
 refine G.q 42 C X3 d46_39 rfl (feq (by decide : ¬ (1 : Int32) = 0)).1 <| G.a 43 C X3 d46_42 rfl rfl <| G.i 44 (z := 3) C X3 d46_43 rfl (by decide) <| G.k 47 C X3 d46_44 rfl (flt (by decide : ¬ (10 : Int32) < 3)).1 <| G.b 48 C X3 d46_47 rfl rfl rfl <| G.f 50 C X3 d46_48 rfl rfl <| G.i 51 (z := 2) C X3 d46_50 rfl (by decide) <| G.u 52 (z := (own_n (A_.length + 7))) C X3 d46_51 rfl (own_sb1 (A_.length + 7) 2 _ rfl) <| G.a 53 C X3 d46_52 rfl rfl <| G.d 55 (z := 100) C X3 d46_53 rfl (by decide) <| G.o 58 (cells' := 0) (slots' := 0) (argsL := [(.ref sr), (.int (own_n (A_.length + 7))), (.int vv), (.int 100)]) (St := []) C X3 (wd267 hw) (wd268 hw) (by decide) (wd269 hw) (wd6 hw) (ctD hw X3.2.1 sr ru kr M (own_n (A_.length + 7)) vv (100 : Int32) cz fmt V0 100 Er Rv Rc Vr hV (show (100 : Int32).toInt = ((100 : Nat) : Int) from by decide) (by decide) (own_n_ge (by omega)) ((own_n_lt (by omega) (by omega)).mpr (by omega)) (by rw [own_n_cl (by omega)]; omega) hla (by rw [own_n_cl (by omega), hM]; exact own_dig_at A_ B_ V0 10 7 (by decide)) Sf hfm OD S2 hcz) (lenOf pd26 rfl) rfl d46_55 rfl rfl (by decide) (nQ rfl) rfl rfl (by decide) (by decide) (fun v4 T4 h4 Q4 X4 z4 => ?_)
 obtain ⟨hv4, hh4⟩ := Q4
 subst hv4; rw [hh4] at X4
 refine G.q 61 C X4 d46_58 rfl (feq (by decide : ¬ (1 : Int32) = 0)).1 <| G.a 62 C X4 d46_61 rfl rfl <| G.i 63 (z := 4) C X4 d46_62 rfl (by decide) <| G.k 66 C X4 d46_63 rfl (flt (by decide : ¬ (10 : Int32) < 4)).1 <| G.b 67 C X4 d46_66 rfl rfl rfl <| G.f 69 C X4 d46_67 rfl rfl <| G.i 70 (z := 3) C X4 d46_69 rfl (by decide) <| G.u 71 (z := (own_n (A_.length + 6))) C X4 d46_70 rfl (own_sb1 (A_.length + 6) 3 _ rfl) <| G.a 72 C X4 d46_71 rfl rfl <| G.G 75 (z := 1000) C X4 d46_72 rfl (by decide) <| G.o 78 (cells' := 0) (slots' := 0) (argsL := [(.ref sr), (.int (own_n (A_.length + 6))), (.int vv), (.int 1000)]) (St := []) C X4 (wd267 hw) (wd268 hw) (by decide) (wd269 hw) (wd6 hw) (ctD hw X4.2.1 sr ru kr M (own_n (A_.length + 6)) vv (1000 : Int32) cz fmt V0 1000 Er Rv Rc Vr hV (show (1000 : Int32).toInt = ((1000 : Nat) : Int) from by decide) (by decide) (own_n_ge (by omega)) ((own_n_lt (by omega) (by omega)).mpr (by omega)) (by rw [own_n_cl (by omega)]; omega) hla (by rw [own_n_cl (by omega), hM]; exact own_dig_at A_ B_ V0 10 6 (by decide)) Sf hfm OD S2 hcz) (lenOf pd26 rfl) rfl d46_75 rfl rfl (by decide) (nQ rfl) rfl rfl (by decide) (by decide) (fun v5 T5 h5 Q5 X5 z5 => ?_)
 obtain ⟨hv5, hh5⟩ := Q5
 subst hv5; rw [hh5] at X5
 refine G.q 81 C X5 d46_78 rfl (feq (by decide : ¬ (1 : Int32) = 0)).1 <| G.a 82 C X5 d46_81 rfl rfl <| G.i 83 (z := 5) C X5 d46_82 rfl (by decide) <| G.k 86 C X5 d46_83 rfl (flt (by decide : ¬ (10 : Int32) < 5)).1 <| G.b 87 C X5 d46_86 rfl rfl rfl <| G.f 89 C X5 d46_87 rfl rfl <| G.i 90 (z := 4) C X5 d46_89 rfl (by decide) <| G.u 91 (z := (own_n (A_.length + 5))) C X5 d46_90 rfl (own_sb1 (A_.length + 5) 4 _ rfl) <| G.a 92 C X5 d46_91 rfl rfl <| G.G 95 (z := 10000) C X5 d46_92 rfl (by decide) <| G.o 98 (cells' := 0) (slots' := 0) (argsL := [(.ref sr), (.int (own_n (A_.length + 5))), (.int vv), (.int 10000)]) (St := []) C X5 (wd267 hw) (wd268 hw) (by decide) (wd269 hw) (wd6 hw) (ctD hw X5.2.1 sr ru kr M (own_n (A_.length + 5)) vv (10000 : Int32) cz fmt V0 10000 Er Rv Rc Vr hV (show (10000 : Int32).toInt = ((10000 : Nat) : Int) from by decide) (by decide) (own_n_ge (by omega)) ((own_n_lt (by omega) (by omega)).mpr (by omega)) (by rw [own_n_cl (by omega)]; omega) hla (by rw [own_n_cl (by omega), hM]; exact own_dig_at A_ B_ V0 10 5 (by decide)) Sf hfm OD S2 hcz) (lenOf pd26 rfl) rfl d46_95 rfl rfl (by decide) (nQ rfl) rfl rfl (by decide) (by decide) (fun v6 T6 h6 Q6 X6 z6 => ?_)
 obtain ⟨hv6, hh6⟩ := Q6
 subst hv6; rw [hh6] at X6
 refine G.q 101 C X6 d46_98 rfl (feq (by decide : ¬ (1 : Int32) = 0)).1 <| G.a 102 C X6 d46_101 rfl rfl <| G.d 104 (z := 6) C X6 d46_102 rfl (by decide) <| G.k 107 C X6 d46_104 rfl (flt (by decide : ¬ (10 : Int32) < 6)).1 <| G.b 108 C X6 d46_107 rfl rfl rfl <| G.f 110 C X6 d46_108 rfl rfl <| G.i 111 (z := 5) C X6 d46_110 rfl (by decide) <| G.u 112 (z := (own_n (A_.length + 4))) C X6 d46_111 rfl (own_sb1 (A_.length + 4) 5 _ rfl) <| G.a 113 C X6 d46_112 rfl rfl <| G.F 115 C X6 (wd298 hw) d46_113 rfl <| G.o 118 (cells' := 0) (slots' := 0) (argsL := [(.ref sr), (.int (own_n (A_.length + 4))), (.int vv), (.int 100000)]) (St := []) C X6 (wd267 hw) (wd268 hw) (by decide) (wd269 hw) (wd6 hw) (ctD hw X6.2.1 sr ru kr M (own_n (A_.length + 4)) vv (100000 : Int32) cz fmt V0 100000 Er Rv Rc Vr hV (show (100000 : Int32).toInt = ((100000 : Nat) : Int) from by decide) (by decide) (own_n_ge (by omega)) ((own_n_lt (by omega) (by omega)).mpr (by omega)) (by rw [own_n_cl (by omega)]; omega) hla (by rw [own_n_cl (by omega), hM]; exact own_dig_at A_ B_ V0 10 4 (by decide)) Sf hfm OD S2 hcz) (lenOf pd26 rfl) rfl d46_115 rfl rfl (by decide) (nQ rfl) rfl rfl (by decide) (by decide) (fun v7 T7 h7 Q7 X7 z7 => ?_)
 obtain ⟨hv7, hh7⟩ := Q7
 subst hv7; rw [hh7] at X7
 refine G.q 121 C X7 d46_118 rfl (feq (by decide : ¬ (1 : Int32) = 0)).1 <| G.a 122 C X7 d46_121 rfl rfl <| G.d 124 (z := 7) C X7 d46_122 rfl (by decide) <| G.k 127 C X7 d46_124 rfl (flt (by decide : ¬ (10 : Int32) < 7)).1 <| G.b 128 C X7 d46_127 rfl rfl rfl <| G.f 130 C X7 d46_128 rfl rfl <| G.d 132 (z := 6) C X7 d46_130 rfl (by decide) <| G.u 133 (z := (own_n (A_.length + 3))) C X7 d46_132 rfl (own_sb1 (A_.length + 3) 6 _ rfl) <| G.a 134 C X7 d46_133 rfl rfl <| G.F 136 C X7 (wd299 hw) d46_134 rfl <| G.o 139 (cells' := 0) (slots' := 0) (argsL := [(.ref sr), (.int (own_n (A_.length + 3))), (.int vv), (.int 1000000)]) (St := []) C X7 (wd267 hw) (wd268 hw) (by decide) (wd269 hw) (wd6 hw) (ctD hw X7.2.1 sr ru kr M (own_n (A_.length + 3)) vv (1000000 : Int32) cz fmt V0 1000000 Er Rv Rc Vr hV (show (1000000 : Int32).toInt = ((1000000 : Nat) : Int) from by decide) (by decide) (own_n_ge (by omega)) ((own_n_lt (by omega) (by omega)).mpr (by omega)) (by rw [own_n_cl (by omega)]; omega) hla (by rw [own_n_cl (by omega), hM]; exact own_dig_at A_ B_ V0 10 3 (by decide)) Sf hfm OD S2 hcz) (lenOf pd26 rfl) rfl d46_136 rfl rfl (by decide) (nQ rfl) rfl rfl (by decide) (by decide) (fun v8 T8 h8 Q8 X8 z8 => ?_)
 obtain ⟨hv8, hh8⟩ := Q8
 subst hv8; rw [hh8] at X8
 refine G.q 142 C X8 d46_139 rfl (feq (by decide : ¬ (1 : Int32) = 0)).1 <| G.a 143 C X8 d46_142 rfl rfl <| G.d 145 (z := 8) C X8 d46_143 rfl (by decide) <| G.k 148 C X8 d46_145 rfl (flt (by decide : ¬ (10 : Int32) < 8)).1 <| G.b 149 C X8 d46_148 rfl rfl rfl <| G.f 151 C X8 d46_149 rfl rfl <| G.d 153 (z := 7) C X8 d46_151 rfl (by decide) <| G.u 154 (z := (own_n (A_.length + 2))) C X8 d46_153 rfl (own_sb1 (A_.length + 2) 7 _ rfl) <| G.a 155 C X8 d46_154 rfl rfl <| G.F 157 C X8 (wd300 hw) d46_155 rfl <| G.o 160 (cells' := 0) (slots' := 0) (argsL := [(.ref sr), (.int (own_n (A_.length + 2))), (.int vv), (.int 10000000)]) (St := []) C X8 (wd267 hw) (wd268 hw) (by decide) (wd269 hw) (wd6 hw) (ctD hw X8.2.1 sr ru kr M (own_n (A_.length + 2)) vv (10000000 : Int32) cz fmt V0 10000000 Er Rv Rc Vr hV (show (10000000 : Int32).toInt = ((10000000 : Nat) : Int) from by decide) (by decide) (own_n_ge (by omega)) ((own_n_lt (by omega) (by omega)).mpr (by omega)) (by rw [own_n_cl (by omega)]; omega) hla (by rw [own_n_cl (by omega), hM]; exact own_dig_at A_ B_ V0 10 2 (by decide)) Sf hfm OD S2 hcz) (lenOf pd26 rfl) rfl d46_157 rfl rfl (by decide) (nQ rfl) rfl rfl (by decide) (by decide) (fun v9 T9 h9 Q9 X9 z9 => ?_)
 obtain ⟨hv9, hh9⟩ := Q9
 subst hv9; rw [hh9] at X9
 refine G.q 163 C X9 d46_160 rfl (feq (by decide : ¬ (1 : Int32) = 0)).1 <| G.a 164 C X9 d46_163 rfl rfl <| G.d 166 (z := 9) C X9 d46_164 rfl (by decide) <| G.k 169 C X9 d46_166 rfl (flt (by decide : ¬ (10 : Int32) < 9)).1 <| G.b 170 C X9 d46_169 rfl rfl rfl <| G.f 172 C X9 d46_170 rfl rfl <| G.d 174 (z := 8) C X9 d46_172 rfl (by decide) <| G.u 175 (z := (own_n (A_.length + 1))) C X9 d46_174 rfl (own_sb1 (A_.length + 1) 8 _ rfl) <| G.a 176 C X9 d46_175 rfl rfl <| G.F 178 C X9 (wd301 hw) d46_176 rfl <| G.o 181 (cells' := 0) (slots' := 0) (argsL := [(.ref sr), (.int (own_n (A_.length + 1))), (.int vv), (.int 100000000)]) (St := []) C X9 (wd267 hw) (wd268 hw) (by decide) (wd269 hw) (wd6 hw) (ctD hw X9.2.1 sr ru kr M (own_n (A_.length + 1)) vv (100000000 : Int32) cz fmt V0 100000000 Er Rv Rc Vr hV (show (100000000 : Int32).toInt = ((100000000 : Nat) : Int) from by decide) (by decide) (own_n_ge (by omega)) ((own_n_lt (by omega) (by omega)).mpr (by omega)) (by rw [own_n_cl (by omega)]; omega) hla (by rw [own_n_cl (by omega), hM]; exact own_dig_at A_ B_ V0 10 1 (by decide)) Sf hfm OD S2 hcz) (lenOf pd26 rfl) rfl d46_178 rfl rfl (by decide) (nQ rfl) rfl rfl (by decide) (by decide) (fun v10 T10 h10 Q10 X10 z10 => ?_)
 obtain ⟨hv10, hh10⟩ := Q10
 subst hv10; rw [hh10] at X10
 refine G.q 184 C X10 d46_181 rfl (feq (by decide : ¬ (1 : Int32) = 0)).1 <| G.a 185 C X10 d46_184 rfl rfl <| G.d 187 (z := 10) C X10 d46_185 rfl (by decide) <| G.k 190 C X10 d46_187 rfl (flt (by decide : ¬ (10 : Int32) < 10)).1 <| G.b 191 C X10 d46_190 rfl rfl rfl <| G.f 193 C X10 d46_191 rfl rfl <| G.d 195 (z := 9) C X10 d46_193 rfl (by decide) <| G.u 196 (z := (own_n (A_.length + 0))) C X10 d46_195 rfl (own_sb1 (A_.length + 0) 9 _ rfl) <| G.a 197 C X10 d46_196 rfl rfl <| G.F 199 C X10 (wd302 hw) d46_197 rfl <| G.o 202 (cells' := 0) (slots' := 0) (argsL := [(.ref sr), (.int (own_n (A_.length + 0))), (.int vv), (.int 1000000000)]) (St := []) C X10 (wd267 hw) (wd268 hw) (by decide) (wd269 hw) (wd6 hw) (ctD hw X10.2.1 sr ru kr M (own_n (A_.length + 0)) vv (1000000000 : Int32) cz fmt V0 1000000000 Er Rv Rc Vr hV (show (1000000000 : Int32).toInt = ((1000000000 : Nat) : Int) from by decide) (by decide) (own_n_ge (by omega)) ((own_n_lt (by omega) (by omega)).mpr (by omega)) (by rw [own_n_cl (by omega)]; omega) hla (by rw [own_n_cl (by omega), hM]; exact own_dig_at A_ B_ V0 10 0 (by decide)) Sf hfm OD S2 hcz) (lenOf pd26 rfl) rfl d46_199 rfl rfl (by decide) (nQ rfl) rfl rfl (by decide) (by decide) (fun v11 T11 h11 Q11 X11 z11 => ?_)
 obtain ⟨hv11, hh11⟩ := Q11
 subst hv11; rw [hh11] at X11
 refine G.q 205 C X11 d46_202 rfl (feq (by decide : ¬ (1 : Int32) = 0)).1 <| G.i 206 (z := 1) C X11 d46_205 rfl (by decide) <| G.r 210 C X11 d46_206 (by decide) (by decide) ?_
 exact G.U C X11 d46_210 hret (by simp) (z' := (1 : Int32)) (by decide) hlk (⟨rfl, rfl⟩) (by decide) (by decide)
theorem ctDgA {l : Launch} {Z : State} {a0 : Array Value} (hw : HW a0 Z) {n0 : Nat} {h0 : Heap} (hn0 : n0 ≤ h0.size) (sr ru : Addr) (kr : ClassId) (M : List Int32) (A_ B_ : List Int32) (vv cz : Int32) (fmt : Value) (V0 : Nat) (Er : Exa Z h0 sr zq0) (Rv : Fld Z h0 sr zq0 "value" "[B" (.ref ru)) (Rc : Fld Z h0 sr zq0 "coder" "B" (.int 0)) (Vr : Arv Z h0 ru kr .byte (own_n (M).length) (tx M) (.int 0)) (hM : M = A_ ++ own_dec V0 ++ B_) (hV : vv.toInt = (V0 : Int)) (hmx : V0 < 2147483648) (hMb : M.length < 900) (hla : ∀ c ∈ M, own_lat c) (Sf : Sta Z Z.heap zq10 zq11 zq12 fmt) (hfm : fmt.isRef = true) (OD : Old Z n0 h0) (S2 : Sta Z Z.heap zq0 zq5 "Z" (.int cz)) (hcz : ¬ cz = 0) :
    Ctr l Z (⟨zq7, "digits", zq18⟩ : MethodName) method_7_code 5 (some .boolean) (rQ 5 0 0 90) n0 #[(.ref sr), (.int (own_n (A_).length)), (.int vv)] h0 (fun v h => v = some (.int 1) ∧ h = h0) := by
  by_cases h_1 : V0 < 10
  · have hhi := h_1
    exact ctDg1 hw hn0 sr ru kr M A_ B_ vv cz fmt V0 Er Rv Rc Vr (by rw [← own_dec1 hhi]; exact hM) hV hhi hMb hla Sf hfm OD S2 hcz
  · by_cases h_2 : V0 < 100
    · have hlo : 10 ≤ V0 := by omega
      have hhi := h_2
      exact ctDg2 hw hn0 sr ru kr M A_ B_ vv cz fmt V0 Er Rv Rc Vr (by rw [← own_dec2 hlo hhi]; exact hM) hV hlo hhi hMb hla Sf hfm OD S2 hcz
    · by_cases h_3 : V0 < 1000
      · have hlo : 100 ≤ V0 := by omega
        have hhi := h_3
        exact ctDg3 hw hn0 sr ru kr M A_ B_ vv cz fmt V0 Er Rv Rc Vr (by rw [← own_dec3 hlo hhi]; exact hM) hV hlo hhi hMb hla Sf hfm OD S2 hcz
      · by_cases h_4 : V0 < 10000
        · have hlo : 1000 ≤ V0 := by omega
          have hhi := h_4
          exact ctDg4 hw hn0 sr ru kr M A_ B_ vv cz fmt V0 Er Rv Rc Vr (by rw [← own_dec4 hlo hhi]; exact hM) hV hlo hhi hMb hla Sf hfm OD S2 hcz
        · by_cases h_5 : V0 < 100000
          · have hlo : 10000 ≤ V0 := by omega
            have hhi := h_5
            exact ctDg5 hw hn0 sr ru kr M A_ B_ vv cz fmt V0 Er Rv Rc Vr (by rw [← own_dec5 hlo hhi]; exact hM) hV hlo hhi hMb hla Sf hfm OD S2 hcz
          · by_cases h_6 : V0 < 1000000
            · have hlo : 100000 ≤ V0 := by omega
              have hhi := h_6
              exact ctDg6 hw hn0 sr ru kr M A_ B_ vv cz fmt V0 Er Rv Rc Vr (by rw [← own_dec6 hlo hhi]; exact hM) hV hlo hhi hMb hla Sf hfm OD S2 hcz
            · by_cases h_7 : V0 < 10000000
              · have hlo : 1000000 ≤ V0 := by omega
                have hhi := h_7
                exact ctDg7 hw hn0 sr ru kr M A_ B_ vv cz fmt V0 Er Rv Rc Vr (by rw [← own_dec7 hlo hhi]; exact hM) hV hlo hhi hMb hla Sf hfm OD S2 hcz
              · by_cases h_8 : V0 < 100000000
                · have hlo : 10000000 ≤ V0 := by omega
                  have hhi := h_8
                  exact ctDg8 hw hn0 sr ru kr M A_ B_ vv cz fmt V0 Er Rv Rc Vr (by rw [← own_dec8 hlo hhi]; exact hM) hV hlo hhi hMb hla Sf hfm OD S2 hcz
                · by_cases h_9 : V0 < 1000000000
                  · have hlo : 100000000 ≤ V0 := by omega
                    have hhi := h_9
                    exact ctDg9 hw hn0 sr ru kr M A_ B_ vv cz fmt V0 Er Rv Rc Vr (by rw [← own_dec9 hlo hhi]; exact hM) hV hlo hhi hMb hla Sf hfm OD S2 hcz
                  · have hlo : 1000000000 ≤ V0 := by omega
                    have hhi := hmx
                    exact ctDg10 hw hn0 sr ru kr M A_ B_ vv cz fmt V0 Er Rv Rc Vr (by rw [← own_dec10 hlo ]; exact hM) hV hlo hhi hMb hla Sf hfm OD S2 hcz
theorem ef40 (m : MethodId) (x0 : Addr) (x1 : Int32) (x2 : Addr) : entryFrame m #[(.ref x0), (.int x1), (.ref x2)] 4 = mkF m 0 #[.val (.ref x0), .val (.int x1), .val (.ref x2), .unset] [] := by first | (simp [entryFrame, mkF, argsToLocals, Value.category]; done) | rfl
theorem ctSa0 {l : Launch} {Z : State} {a0 : Array Value} (hw : HW a0 Z) {n0 : Nat} {h0 : Heap} (hn0 : n0 ≤ h0.size) (sr ru : Addr) (kr : ClassId) (M : List Int32) (sv uv : Addr) (kv : ClassId) (A_ B_ : List Int32) (cz : Int32) (fmt : Value) (Er : Exa Z h0 sr zq0) (Rv : Fld Z h0 sr zq0 "value" "[B" (.ref ru)) (Rc : Fld Z h0 sr zq0 "coder" "B" (.int 0)) (Vr : Arv Z h0 ru kr .byte (own_n (M).length) (tx M) (.int 0)) (Ev : Exa Z h0 sv zq0) (Qv : Fld Z h0 sv zq0 "value" "[B" (.ref uv)) (Qc : Fld Z h0 sv zq0 "coder" "B" (.int 0)) (Vv : Arv Z h0 uv kv .byte (own_n (([] : List Int32)).length) (tx ([] : List Int32)) (.int 0)) (hM : M = A_ ++ ([] : List Int32) ++ B_) (hls : ∀ c ∈ ([] : List Int32), own_lat c) (hMb : M.length < 900) (hla : ∀ c ∈ M, own_lat c) (Sf : Sta Z Z.heap zq10 zq11 zq12 fmt) (hfm : fmt.isRef = true) (OD : Old Z n0 h0) (S2 : Sta Z Z.heap zq0 zq5 "Z" (.int cz)) (hcz : ¬ cz = 0) :
 Ctr l Z (⟨zq7, "same", zq29⟩ : MethodName) method_4_code 4 (some .boolean) (rQ 4 0 0 70) n0 #[(.ref sr), (.int (own_n (A_).length)), (.ref sv)] h0 (fun v h => v = some (.int 1) ∧ h = h0) := by
 refine Ctr.of (plainFor_of_name pn4) hn0 ?_
 intro p e s m below meth c T0 C hnm hret hlk X0
 rw [ef40 m sr (own_n (A_).length) sv]
 have hML : M.length = A_.length + B_.length := by rw [hM]; simp
 refine G.b 1 C X0 d40_0 rfl rfl rfl <| G.D 4 (cells' := 0) (slots' := 0) (argsL := []) (St := []) C X0 (wd238 hw) (wd66 hw) (wd68 hw) (wd67 hw) (by decide) Ev (wd69 hw) (wd10 hw) (ctLenA hw X0.2.1 sv uv kv ([] : List Int32) cz Ev Qv Qc Vv OD S2 hcz) (lenOf pd12 rfl) rfl d40_1 rfl rfl (by decide) (nQ rfl) rfl rfl (by decide) (by decide) (fun v1 T1 h1 Q1 X1 z1 => ?_)
 obtain ⟨hv1, hh1⟩ := Q1
 subst hv1; rw [hh1] at X1
 refine G.g 5 C X1 d40_4 rfl (l' := #[vR sr, vI (own_n (A_).length), vR sv, vI 0]) rfl <| G.a 6 C X1 d40_5 rfl rfl <| G.i 7 (z := 1) C X1 d40_6 rfl (by decide) <| G.j 23 C X1 d40_7 (tlt (by decide : (0 : Int32) < 1)).1 (by decide) (by decide) <| G.a 24 C X1 d40_23 rfl rfl <| G.i 25 (z := 2) C X1 d40_24 rfl (by decide) <| G.j 43 C X1 d40_25 (tlt (by decide : (0 : Int32) < 2)).1 (by decide) (by decide) <| G.i 44 (z := 1) C X1 d40_43 rfl (by decide) <| G.r 48 C X1 d40_44 (by decide) (by decide) ?_
 exact G.U C X1 d40_48 hret (by simp) (z' := (1 : Int32)) (by decide) hlk (⟨rfl, rfl⟩) (by decide) (by decide)
theorem ctSa1 {l : Launch} {Z : State} {a0 : Array Value} (hw : HW a0 Z) {n0 : Nat} {h0 : Heap} (hn0 : n0 ≤ h0.size) (sr ru : Addr) (kr : ClassId) (M : List Int32) (sv uv : Addr) (kv : ClassId) (A_ B_ : List Int32) (ca : Int32) (cz : Int32) (fmt : Value) (Er : Exa Z h0 sr zq0) (Rv : Fld Z h0 sr zq0 "value" "[B" (.ref ru)) (Rc : Fld Z h0 sr zq0 "coder" "B" (.int 0)) (Vr : Arv Z h0 ru kr .byte (own_n (M).length) (tx M) (.int 0)) (Ev : Exa Z h0 sv zq0) (Qv : Fld Z h0 sv zq0 "value" "[B" (.ref uv)) (Qc : Fld Z h0 sv zq0 "coder" "B" (.int 0)) (Vv : Arv Z h0 uv kv .byte (own_n (([ca] : List Int32)).length) (tx ([ca] : List Int32)) (.int 0)) (hM : M = A_ ++ ([ca] : List Int32) ++ B_) (hls : ∀ c ∈ ([ca] : List Int32), own_lat c) (hMb : M.length < 900) (hla : ∀ c ∈ M, own_lat c) (Sf : Sta Z Z.heap zq10 zq11 zq12 fmt) (hfm : fmt.isRef = true) (OD : Old Z n0 h0) (S2 : Sta Z Z.heap zq0 zq5 "Z" (.int cz)) (hcz : ¬ cz = 0) :
 Ctr l Z (⟨zq7, "same", zq29⟩ : MethodName) method_4_code 4 (some .boolean) (rQ 4 0 0 70) n0 #[(.ref sr), (.int (own_n (A_).length)), (.ref sv)] h0 (fun v h => v = some (.int 1) ∧ h = h0) := by
 refine Ctr.of (plainFor_of_name pn4) hn0 ?_
 intro p e s m below meth c T0 C hnm hret hlk X0
 rw [ef40 m sr (own_n (A_).length) sv]
 have hML : M.length = A_.length + 1 + B_.length := by rw [hM]; simp; omega
 refine G.b 1 C X0 d40_0 rfl rfl rfl <| G.D 4 (cells' := 0) (slots' := 0) (argsL := []) (St := []) C X0 (wd238 hw) (wd66 hw) (wd68 hw) (wd67 hw) (by decide) Ev (wd69 hw) (wd10 hw) (ctLenA hw X0.2.1 sv uv kv ([ca] : List Int32) cz Ev Qv Qc Vv OD S2 hcz) (lenOf pd12 rfl) rfl d40_1 rfl rfl (by decide) (nQ rfl) rfl rfl (by decide) (by decide) (fun v1 T1 h1 Q1 X1 z1 => ?_)
 obtain ⟨hv1, hh1⟩ := Q1
 subst hv1; rw [hh1] at X1
 refine G.g 5 C X1 d40_4 rfl (l' := #[vR sr, vI (own_n (A_).length), vR sv, vI 1]) rfl <| G.a 6 C X1 d40_5 rfl rfl <| G.i 7 (z := 1) C X1 d40_6 rfl (by decide) <| G.k 10 C X1 d40_7 rfl (flt (by decide : ¬ (1 : Int32) < 1)).1 <| G.b 11 C X1 d40_10 rfl rfl rfl <| G.a 12 C X1 d40_11 rfl rfl <| G.D 15 (cells' := 0) (slots' := 0) (argsL := [(.int (own_n (A_).length))]) (St := []) C X1 (wd242 hw) (wd243 hw) (wd245 hw) (wd244 hw) (by decide) Er (wd246 hw) (wd10 hw) (ctCaA hw X1.2.1 sr ru kr M (own_n (A_).length) fmt cz Er Rv Rc Vr (own_n_ge (by omega)) ((own_n_lt (by omega) (by omega)).mpr (by omega)) (by rw [own_n_cl (by omega)]; omega) hla OD Sf hfm S2 hcz) (lenOf pd25 rfl) rfl d40_12 rfl rfl (by decide) (nQ rfl) rfl rfl (by decide) (by decide) (fun v2 T2 h2 Q2 X2 z2 => ?_)
 obtain ⟨hv2, hh2⟩ := Q2
 subst hv2; rw [hh2] at X2
 refine G.b 16 C X2 d40_15 rfl rfl rfl <| G.i 17 (z := 0) C X2 d40_16 rfl (by decide) <| G.D 20 (cells' := 0) (slots' := 0) (argsL := [(.int 0)]) (St := [(.int (M.getD (own_n (A_).length).toNatClampNeg 0))]) C X2 (wd242 hw) (wd243 hw) (wd245 hw) (wd244 hw) (by decide) Ev (wd246 hw) (wd10 hw) (ctCaA hw X2.2.1 sv uv kv ([ca] : List Int32) (0 : Int32) fmt cz Ev Qv Qc Vv (by decide) (show (0 : Int32) < (1 : Int32) from by decide) (show 0 < 1 from by decide) hls OD Sf hfm S2 hcz) (lenOf pd25 rfl) rfl d40_17 rfl rfl (by decide) (nQ rfl) rfl rfl (by decide) (by decide) (fun v3 T3 h3 Q3 X3 z3 => ?_)
 obtain ⟨hv3, hh3⟩ := Q3
 subst hv3; rw [hh3] at X3
 refine G.k 23 C X3 d40_20 rfl (teq (by rw [own_n_cl (by omega), hM, List.append_assoc]; exact own_at_mid A_ (B_) ca)).2 <| G.a 24 C X3 d40_23 rfl rfl <| G.i 25 (z := 2) C X3 d40_24 rfl (by decide) <| G.j 43 C X3 d40_25 (tlt (by decide : (1 : Int32) < 2)).1 (by decide) (by decide) <| G.i 44 (z := 1) C X3 d40_43 rfl (by decide) <| G.r 48 C X3 d40_44 (by decide) (by decide) ?_
 exact G.U C X3 d40_48 hret (by simp) (z' := (1 : Int32)) (by decide) hlk (⟨rfl, rfl⟩) (by decide) (by decide)
theorem ctSa2 {l : Launch} {Z : State} {a0 : Array Value} (hw : HW a0 Z) {n0 : Nat} {h0 : Heap} (hn0 : n0 ≤ h0.size) (sr ru : Addr) (kr : ClassId) (M : List Int32) (sv uv : Addr) (kv : ClassId) (A_ B_ : List Int32) (ca cb : Int32) (cz : Int32) (fmt : Value) (Er : Exa Z h0 sr zq0) (Rv : Fld Z h0 sr zq0 "value" "[B" (.ref ru)) (Rc : Fld Z h0 sr zq0 "coder" "B" (.int 0)) (Vr : Arv Z h0 ru kr .byte (own_n (M).length) (tx M) (.int 0)) (Ev : Exa Z h0 sv zq0) (Qv : Fld Z h0 sv zq0 "value" "[B" (.ref uv)) (Qc : Fld Z h0 sv zq0 "coder" "B" (.int 0)) (Vv : Arv Z h0 uv kv .byte (own_n (([ca, cb] : List Int32)).length) (tx ([ca, cb] : List Int32)) (.int 0)) (hM : M = A_ ++ ([ca, cb] : List Int32) ++ B_) (hls : ∀ c ∈ ([ca, cb] : List Int32), own_lat c) (hMb : M.length < 900) (hla : ∀ c ∈ M, own_lat c) (Sf : Sta Z Z.heap zq10 zq11 zq12 fmt) (hfm : fmt.isRef = true) (OD : Old Z n0 h0) (S2 : Sta Z Z.heap zq0 zq5 "Z" (.int cz)) (hcz : ¬ cz = 0) :
 Ctr l Z (⟨zq7, "same", zq29⟩ : MethodName) method_4_code 4 (some .boolean) (rQ 4 0 0 70) n0 #[(.ref sr), (.int (own_n (A_).length)), (.ref sv)] h0 (fun v h => v = some (.int 1) ∧ h = h0) := by
 refine Ctr.of (plainFor_of_name pn4) hn0 ?_
 intro p e s m below meth c T0 C hnm hret hlk X0
 rw [ef40 m sr (own_n (A_).length) sv]
 have hML : M.length = A_.length + 2 + B_.length := by rw [hM]; simp; omega
 refine G.b 1 C X0 d40_0 rfl rfl rfl <| G.D 4 (cells' := 0) (slots' := 0) (argsL := []) (St := []) C X0 (wd238 hw) (wd66 hw) (wd68 hw) (wd67 hw) (by decide) Ev (wd69 hw) (wd10 hw) (ctLenA hw X0.2.1 sv uv kv ([ca, cb] : List Int32) cz Ev Qv Qc Vv OD S2 hcz) (lenOf pd12 rfl) rfl d40_1 rfl rfl (by decide) (nQ rfl) rfl rfl (by decide) (by decide) (fun v1 T1 h1 Q1 X1 z1 => ?_)
 obtain ⟨hv1, hh1⟩ := Q1
 subst hv1; rw [hh1] at X1
 refine G.g 5 C X1 d40_4 rfl (l' := #[vR sr, vI (own_n (A_).length), vR sv, vI 2]) rfl <| G.a 6 C X1 d40_5 rfl rfl <| G.i 7 (z := 1) C X1 d40_6 rfl (by decide) <| G.k 10 C X1 d40_7 rfl (flt (by decide : ¬ (2 : Int32) < 1)).1 <| G.b 11 C X1 d40_10 rfl rfl rfl <| G.a 12 C X1 d40_11 rfl rfl <| G.D 15 (cells' := 0) (slots' := 0) (argsL := [(.int (own_n (A_).length))]) (St := []) C X1 (wd242 hw) (wd243 hw) (wd245 hw) (wd244 hw) (by decide) Er (wd246 hw) (wd10 hw) (ctCaA hw X1.2.1 sr ru kr M (own_n (A_).length) fmt cz Er Rv Rc Vr (own_n_ge (by omega)) ((own_n_lt (by omega) (by omega)).mpr (by omega)) (by rw [own_n_cl (by omega)]; omega) hla OD Sf hfm S2 hcz) (lenOf pd25 rfl) rfl d40_12 rfl rfl (by decide) (nQ rfl) rfl rfl (by decide) (by decide) (fun v2 T2 h2 Q2 X2 z2 => ?_)
 obtain ⟨hv2, hh2⟩ := Q2
 subst hv2; rw [hh2] at X2
 refine G.b 16 C X2 d40_15 rfl rfl rfl <| G.i 17 (z := 0) C X2 d40_16 rfl (by decide) <| G.D 20 (cells' := 0) (slots' := 0) (argsL := [(.int 0)]) (St := [(.int (M.getD (own_n (A_).length).toNatClampNeg 0))]) C X2 (wd242 hw) (wd243 hw) (wd245 hw) (wd244 hw) (by decide) Ev (wd246 hw) (wd10 hw) (ctCaA hw X2.2.1 sv uv kv ([ca, cb] : List Int32) (0 : Int32) fmt cz Ev Qv Qc Vv (by decide) (show (0 : Int32) < (2 : Int32) from by decide) (show 0 < 2 from by decide) hls OD Sf hfm S2 hcz) (lenOf pd25 rfl) rfl d40_17 rfl rfl (by decide) (nQ rfl) rfl rfl (by decide) (by decide) (fun v3 T3 h3 Q3 X3 z3 => ?_)
 obtain ⟨hv3, hh3⟩ := Q3
 subst hv3; rw [hh3] at X3
 refine G.k 23 C X3 d40_20 rfl (teq (by rw [own_n_cl (by omega), hM, List.append_assoc]; exact own_at_mid A_ (cb :: B_) ca)).2 <| G.a 24 C X3 d40_23 rfl rfl <| G.i 25 (z := 2) C X3 d40_24 rfl (by decide) <| G.k 28 C X3 d40_25 rfl (flt (by decide : ¬ (2 : Int32) < 2)).1 <| G.b 29 C X3 d40_28 rfl rfl rfl <| G.a 30 C X3 d40_29 rfl rfl <| G.i 31 (z := 1) C X3 d40_30 rfl (by decide) <| G.z 32 (z := (own_n (A_.length + 1))) C X3 d40_31 rfl (own_nk A_.length 1 _ rfl) <| G.D 35 (cells' := 0) (slots' := 0) (argsL := [(.int (own_n (A_.length + 1)))]) (St := []) C X3 (wd242 hw) (wd243 hw) (wd245 hw) (wd244 hw) (by decide) Er (wd246 hw) (wd10 hw) (ctCaA hw X3.2.1 sr ru kr M (own_n (A_.length + 1)) fmt cz Er Rv Rc Vr (own_n_ge (by omega)) ((own_n_lt (by omega) (by omega)).mpr (by omega)) (by rw [own_n_cl (by omega)]; omega) hla OD Sf hfm S2 hcz) (lenOf pd25 rfl) rfl d40_32 rfl rfl (by decide) (nQ rfl) rfl rfl (by decide) (by decide) (fun v4 T4 h4 Q4 X4 z4 => ?_)
 obtain ⟨hv4, hh4⟩ := Q4
 subst hv4; rw [hh4] at X4
 refine G.b 36 C X4 d40_35 rfl rfl rfl <| G.i 37 (z := 1) C X4 d40_36 rfl (by decide) <| G.D 40 (cells' := 0) (slots' := 0) (argsL := [(.int 1)]) (St := [(.int (M.getD (own_n (A_.length + 1)).toNatClampNeg 0))]) C X4 (wd242 hw) (wd243 hw) (wd245 hw) (wd244 hw) (by decide) Ev (wd246 hw) (wd10 hw) (ctCaA hw X4.2.1 sv uv kv ([ca, cb] : List Int32) (1 : Int32) fmt cz Ev Qv Qc Vv (by decide) (show (1 : Int32) < (2 : Int32) from by decide) (show 1 < 2 from by decide) hls OD Sf hfm S2 hcz) (lenOf pd25 rfl) rfl d40_37 rfl rfl (by decide) (nQ rfl) rfl rfl (by decide) (by decide) (fun v5 T5 h5 Q5 X5 z5 => ?_)
 obtain ⟨hv5, hh5⟩ := Q5
 subst hv5; rw [hh5] at X5
 refine G.k 43 C X5 d40_40 rfl (teq (by rw [own_n_cl (by omega), hM, List.append_assoc]; exact own_at_mid1 A_ B_ ca cb)).2 <| G.i 44 (z := 1) C X5 d40_43 rfl (by decide) <| G.r 48 C X5 d40_44 (by decide) (by decide) ?_
 exact G.U C X5 d40_48 hret (by simp) (z' := (1 : Int32)) (by decide) hlk (⟨rfl, rfl⟩) (by decide) (by decide)
theorem ctSaA {l : Launch} {Z : State} {a0 : Array Value} (hw : HW a0 Z) {n0 : Nat} {h0 : Heap} (hn0 : n0 ≤ h0.size) (sr ru : Addr) (kr : ClassId) (M : List Int32) (sv uv : Addr) (kv : ClassId) (A_ B_ S_ : List Int32) (cz : Int32) (fmt : Value) (Er : Exa Z h0 sr zq0) (Rv : Fld Z h0 sr zq0 "value" "[B" (.ref ru)) (Rc : Fld Z h0 sr zq0 "coder" "B" (.int 0)) (Vr : Arv Z h0 ru kr .byte (own_n (M).length) (tx M) (.int 0)) (Ev : Exa Z h0 sv zq0) (Qv : Fld Z h0 sv zq0 "value" "[B" (.ref uv)) (Qc : Fld Z h0 sv zq0 "coder" "B" (.int 0)) (Vv : Arv Z h0 uv kv .byte (own_n (S_).length) (tx S_) (.int 0)) (hM : M = A_ ++ S_ ++ B_) (hls : ∀ c ∈ S_, own_lat c) (hS : S_.length ≤ 2) (hMb : M.length < 900) (hla : ∀ c ∈ M, own_lat c) (Sf : Sta Z Z.heap zq10 zq11 zq12 fmt) (hfm : fmt.isRef = true) (OD : Old Z n0 h0) (S2 : Sta Z Z.heap zq0 zq5 "Z" (.int cz)) (hcz : ¬ cz = 0) :
 Ctr l Z (⟨zq7, "same", zq29⟩ : MethodName) method_4_code 4 (some .boolean) (rQ 4 0 0 70) n0 #[(.ref sr), (.int (own_n (A_).length)), (.ref sv)] h0 (fun v h => v = some (.int 1) ∧ h = h0) := by
 match S_, Vv, hM, hls, hS with
 | [], Vv, hM, hls, _ => exact ctSa0 hw hn0 sr ru kr M sv uv kv A_ B_  cz fmt Er Rv Rc Vr Ev Qv Qc Vv hM hls hMb hla Sf hfm OD S2 hcz
 | [ca], Vv, hM, hls, _ => exact ctSa1 hw hn0 sr ru kr M sv uv kv A_ B_ ca cz fmt Er Rv Rc Vr Ev Qv Qc Vv hM hls hMb hla Sf hfm OD S2 hcz
 | [ca, cb], Vv, hM, hls, _ => exact ctSa2 hw hn0 sr ru kr M sv uv kv A_ B_ ca cb cz fmt Er Rv Rc Vr Ev Qv Qc Vv hM hls hMb hla Sf hfm OD S2 hcz
 | _ :: _ :: _ :: _, _, _, _, hS => exact absurd hS (by simp only [List.length_cons]; omega)
theorem ctMi0 {l : Launch} {Z : State} {a0 : Array Value} (hw : HW a0 Z) {n0 : Nat} {h0 : Heap} (hn0 : n0 ≤ h0.size)   :
 Ctr l Z (⟨zq17, "min", "(II)I"⟩ : MethodName) jdk_29_method_69_code 2 (some .int) (rQ 0 0 0 0) n0 #[(.int 0), (.int 2)] h0 (fun v h => v = some (.int 0) ∧ h = h0) := by
 refine Ctr.of (Jvm.Free.JP.mathPlain rfl (by decide +kernel)) hn0 ?_
 intro p e s m below meth c T0 C hnm hret hlk X0
 rw [ef1 m (0 : Int32) (2 : Int32)]
 refine G.a 1 C X0 d1_0 rfl rfl <| G.a 2 C X0 d1_1 rfl rfl <| G.k 5 C X0 d1_2 rfl (flt (by decide : ¬ (2 : Int32) < 0)).2.2.1 <| G.a 6 C X0 d1_5 rfl rfl <| G.r 10 C X0 d1_6 (by decide) (by decide) ?_
 exact G.E C X0 d1_10 hret hlk (⟨rfl, rfl⟩) (by decide) (by decide)
theorem ctMi1 {l : Launch} {Z : State} {a0 : Array Value} (hw : HW a0 Z) {n0 : Nat} {h0 : Heap} (hn0 : n0 ≤ h0.size)   :
 Ctr l Z (⟨zq17, "min", "(II)I"⟩ : MethodName) jdk_29_method_69_code 2 (some .int) (rQ 0 0 0 0) n0 #[(.int 1), (.int 2)] h0 (fun v h => v = some (.int 1) ∧ h = h0) := by
 refine Ctr.of (Jvm.Free.JP.mathPlain rfl (by decide +kernel)) hn0 ?_
 intro p e s m below meth c T0 C hnm hret hlk X0
 rw [ef1 m (1 : Int32) (2 : Int32)]
 refine G.a 1 C X0 d1_0 rfl rfl <| G.a 2 C X0 d1_1 rfl rfl <| G.k 5 C X0 d1_2 rfl (flt (by decide : ¬ (2 : Int32) < 1)).2.2.1 <| G.a 6 C X0 d1_5 rfl rfl <| G.r 10 C X0 d1_6 (by decide) (by decide) ?_
 exact G.E C X0 d1_10 hret hlk (⟨rfl, rfl⟩) (by decide) (by decide)
theorem ctMi2 {l : Launch} {Z : State} {a0 : Array Value} (hw : HW a0 Z) {n0 : Nat} {h0 : Heap} (hn0 : n0 ≤ h0.size)   :
 Ctr l Z (⟨zq17, "min", "(II)I"⟩ : MethodName) jdk_29_method_69_code 2 (some .int) (rQ 0 0 0 0) n0 #[(.int 2), (.int 2)] h0 (fun v h => v = some (.int 2) ∧ h = h0) := by
 refine Ctr.of (Jvm.Free.JP.mathPlain rfl (by decide +kernel)) hn0 ?_
 intro p e s m below meth c T0 C hnm hret hlk X0
 rw [ef1 m (2 : Int32) (2 : Int32)]
 refine G.a 1 C X0 d1_0 rfl rfl <| G.a 2 C X0 d1_1 rfl rfl <| G.k 5 C X0 d1_2 rfl (flt (by decide : ¬ (2 : Int32) < 2)).2.2.1 <| G.a 6 C X0 d1_5 rfl rfl <| G.r 10 C X0 d1_6 (by decide) (by decide) ?_
 exact G.E C X0 d1_10 hret hlk (⟨rfl, rfl⟩) (by decide) (by decide)
theorem ctMi3 {l : Launch} {Z : State} {a0 : Array Value} (hw : HW a0 Z) {n0 : Nat} {h0 : Heap} (hn0 : n0 ≤ h0.size)   :
 Ctr l Z (⟨zq17, "min", "(II)I"⟩ : MethodName) jdk_29_method_69_code 2 (some .int) (rQ 0 0 0 0) n0 #[(.int 3), (.int 2)] h0 (fun v h => v = some (.int 2) ∧ h = h0) := by
 refine Ctr.of (Jvm.Free.JP.mathPlain rfl (by decide +kernel)) hn0 ?_
 intro p e s m below meth c T0 C hnm hret hlk X0
 rw [ef1 m (3 : Int32) (2 : Int32)]
 refine G.a 1 C X0 d1_0 rfl rfl <| G.a 2 C X0 d1_1 rfl rfl <| G.j 9 C X0 d1_2 (tlt (by decide : (2 : Int32) < 3)).2.2.1 (by decide) (by decide) <| G.a 10 C X0 d1_9 rfl rfl ?_
 exact G.E C X0 d1_10 hret hlk (⟨rfl, rfl⟩) (by decide) (by decide)
theorem ctMi {l : Launch} {Z : State} {a0 : Array Value} (hw : HW a0 Z) {n0 : Nat} {h0 : Heap} (hn0 : n0 ≤ h0.size) (xx rs : Int32) (hm : own_m2 xx rs) :
    Ctr l Z (⟨zq17, "min", "(II)I"⟩ : MethodName) jdk_29_method_69_code 2 (some .int) (rQ 0 0 0 0) n0 #[(.int xx), (.int 2)] h0 (fun v h => v = some (.int rs) ∧ h = h0) := by
  rcases hm with ⟨rfl, rfl⟩ | ⟨rfl, rfl⟩ | ⟨rfl, rfl⟩ | ⟨rfl, rfl⟩
  · exact ctMi0 hw hn0
  · exact ctMi1 hw hn0
  · exact ctMi2 hw hn0
  · exact ctMi3 hw hn0
theorem ef2 (m : MethodId) (x0 : Int32) (x1 : Int32) : entryFrame m #[(.int x0), (.int x1)] 4 = mkF m 0 #[.val (.int x0), .val (.int x1), .unset, .unset] [] := by first | (simp [entryFrame, mkF, argsToLocals, Value.category]; done) | rfl
theorem ctStr0 {l : Launch} {Z : State} {a0 : Array Value} (hw : HW a0 Z) {n0 : Nat} {h0 : Heap} (hn0 : n0 ≤ h0.size) (bb cz : Int32) (OD : Old Z n0 h0) (S2 : Sta Z Z.heap zq0 zq5 "Z" (.int cz)) (hcz : ¬ cz = 0) :
 CtrW l Z consts_1 [] (⟨zq7, "str", zq28⟩ : MethodName) method_3_code 4 (some (.object zq0)) (rQ 4 6 32 100) n0 #[(.int bb), (.int 0)] h0 (fun v h sfe => ∃ (b t : Addr) (k : ClassId), v = some (.ref b) ∧ Keep h0 h [] ∧ Exa Z h b zq0 ∧ Fld Z h b zq0 "coder" "B" (.int 0) ∧ Fld Z h b zq0 "value" "[B" (.ref t) ∧ Arv Z h t k .byte (own_n (([] : List Int32)).length) (tx ([] : List Int32)) (.int 0)) := by
 refine CtrW.of (plainFor_of_name pn4) hn0 ?_
 intro p e s m below meth c T0 C hnm hret hlk X0 H0 hSf
 rw [ef2 m bb (0 : Int32)]
 refine G.a 1 C X0 d2_0 rfl rfl <| G.G 4 (z := 255) C X0 d2_1 rfl (by decide) <| G.ac 5 (z := (bb &&& (255 : Int32))) C X0 d2_4 rfl rfl ?_
 obtain ⟨ca, h_ca⟩ : ∃ z : Int32, (bb &&& (255 : Int32)).toUInt32.toUInt16.toUInt32.toInt32 = z := ⟨_, rfl⟩
 refine G.ae 6 (z := ca) C X0 d2_5 rfl h_ca ?_
 have l_ca := own_lat_mask h_ca
 refine G.g 7 C X0 d2_6 rfl (l' := #[vI bb, vI 0, vI ca, .unset]) rfl <| G.a 8 C X0 d2_7 rfl rfl <| G.d 10 (z := 8) C X0 d2_8 rfl (by decide) <| G.ai 11 (z := ((bb.toUInt32 >>> ((8 : Int32) &&& 31).toUInt32).toInt32)) C X0 d2_10 rfl rfl <| G.G 14 (z := 255) C X0 d2_11 rfl (by decide) <| G.ac 15 (z := (((bb.toUInt32 >>> ((8 : Int32) &&& 31).toUInt32).toInt32) &&& (255 : Int32))) C X0 d2_14 rfl rfl ?_
 obtain ⟨cb, h_cb⟩ : ∃ z : Int32, (((bb.toUInt32 >>> ((8 : Int32) &&& 31).toUInt32).toInt32) &&& (255 : Int32)).toUInt32.toUInt16.toUInt32.toInt32 = z := ⟨_, rfl⟩
 refine G.ae 16 (z := cb) C X0 d2_15 rfl h_cb ?_
 have l_cb := own_lat_mask h_cb
 refine G.g 17 C X0 d2_16 rfl (l' := #[vI bb, vI 0, vI ca, vI cb]) rfl <| G.a 18 C X0 d2_17 rfl rfl <| G.q 21 C X0 d2_18 rfl (teq (by decide : (0 : Int32) = 0)).2 <| G.ak 24 (cells' := 1) (slots' := 4) C X0 (wd8 hw) (wd9 hw) (wd10 hw) d2_21 rfl rfl rfl (by decide) (by decide) (fun T1 h1 a1 X1 g1 q1 E1 A1 D1 U1 => ?_)
 have sz2 : h0.size ≤ a1 := Nat.le_trans (Keep.refl h0 []).1 (Nat.le_of_eq g1.symm)
 have Hd3 := H0.ext E1
 have K4 := (Keep.refl h0 []).ext E1
 have F1_value : Fld Z h1 a1 zq0 "value" "[B" .null := D1 (Or.inr (wd24 hw)) (ty := (.array .byte)) (by decide)
 have F1_coder : Fld Z h1 a1 zq0 "coder" "B" (.int 0) := D1 (Or.inr (wd25 hw)) (ty := .byte) (by decide)
 refine G.ad 25 C X1 d2_24 rfl rfl <| G.i 26 (z := 0) C X1 d2_25 rfl (by decide) <| G.aj 28 (cap := 0) (d0 := (.int 0)) (cells' := 2) (slots' := 4) C X1 (wd11 hw) rfl d2_26 rfl (by decide) (by decide) (by decide) rfl rfl rfl (by decide) (by decide) (fun T5 h5 a5 k5 X5 g5 q5 E5 V5 => ?_)
 have Hd8 := Hd3.ext E5
 have K9 := K4.ext E5
 have f10 := (A1.ext E5)
 have f11 := (F1_value.ext E5)
 have f12 := (F1_coder.ext E5)
 have f14 := (Safe.ext E5 Hd3.cv (Safe.ext E1 H0.cv (Safe.new (Nat.le_of_eq g1.symm))))
 refine G.aC 31 (cells' := 6) (slots' := 12) (argsL := [(.ref a5)]) (St := [(.ref a1)]) C X5 (ew hw) Hd8 rfl rfl (wd12 hw) (wd13 hw) (by decide) (wd14 hw) (wd10 hw) (ctNew0 hw X5.2.1 a1 a5 k5 f10 f11 f12 q1 V5) (sfS ⟨f10.lt, f14⟩ (fun _ hx => by cases hx)) (lenOf pd27 rfl) rfl d2_28 rfl rfl (by decide) (nQ rfl) rfl rfl (by decide) (by decide) (fun v13 vm13 T13 h13 Q13 C13 X13 Hd13 R13 => ?_)
 obtain ⟨t13, k13, hv13, K13, E13, F13c, F13v, V13⟩ := Q13
 subst hv13
 have K15 := K9.trans K13 (allS (Or.inr sz2) all0)
 have Vx16 : Arv Z h13 t13 k13 .byte (own_n (([] : List Int32)).length) (tx ([] : List Int32)) (.int 0) := V13
 exact G.as C13 X13 (ew hw) Hd13 d2_31 hret rfl rfl hlk (fun _ _ => (by rw [show (([] : List Int32) : List Int32) = ([] : List Int32) from by rfl]; exact ⟨a1, t13, k13, rfl, K15, E13, F13c, F13v, Vx16⟩)) (by decide) (by decide)
theorem ctStr1 {l : Launch} {Z : State} {a0 : Array Value} (hw : HW a0 Z) {n0 : Nat} {h0 : Heap} (hn0 : n0 ≤ h0.size) (bb cz : Int32) (OD : Old Z n0 h0) (S2 : Sta Z Z.heap zq0 zq5 "Z" (.int cz)) (hcz : ¬ cz = 0) :
 CtrW l Z consts_1 [] (⟨zq7, "str", zq28⟩ : MethodName) method_3_code 4 (some (.object zq0)) (rQ 4 6 32 100) n0 #[(.int bb), (.int 1)] h0 (fun v h sfe => ∃ (b t : Addr) (k : ClassId), v = some (.ref b) ∧ Keep h0 h [] ∧ Exa Z h b zq0 ∧ Fld Z h b zq0 "coder" "B" (.int 0) ∧ Fld Z h b zq0 "value" "[B" (.ref t) ∧ Arv Z h t k .byte (own_n ([own_k0c bb]).length) (tx [own_k0c bb]) (.int 0)) := by
 refine CtrW.of (plainFor_of_name pn4) hn0 ?_
 intro p e s m below meth c T0 C hnm hret hlk X0 H0 hSf
 rw [ef2 m bb (1 : Int32)]
 refine G.a 1 C X0 d2_0 rfl rfl <| G.G 4 (z := 255) C X0 d2_1 rfl (by decide) <| G.ac 5 (z := (bb &&& (255 : Int32))) C X0 d2_4 rfl rfl ?_
 obtain ⟨ca, h_ca⟩ : ∃ z : Int32, (bb &&& (255 : Int32)).toUInt32.toUInt16.toUInt32.toInt32 = z := ⟨_, rfl⟩
 refine G.ae 6 (z := ca) C X0 d2_5 rfl h_ca ?_
 have l_ca := own_lat_mask h_ca
 refine G.g 7 C X0 d2_6 rfl (l' := #[vI bb, vI 1, vI ca, .unset]) rfl <| G.a 8 C X0 d2_7 rfl rfl <| G.d 10 (z := 8) C X0 d2_8 rfl (by decide) <| G.ai 11 (z := ((bb.toUInt32 >>> ((8 : Int32) &&& 31).toUInt32).toInt32)) C X0 d2_10 rfl rfl <| G.G 14 (z := 255) C X0 d2_11 rfl (by decide) <| G.ac 15 (z := (((bb.toUInt32 >>> ((8 : Int32) &&& 31).toUInt32).toInt32) &&& (255 : Int32))) C X0 d2_14 rfl rfl ?_
 obtain ⟨cb, h_cb⟩ : ∃ z : Int32, (((bb.toUInt32 >>> ((8 : Int32) &&& 31).toUInt32).toInt32) &&& (255 : Int32)).toUInt32.toUInt16.toUInt32.toInt32 = z := ⟨_, rfl⟩
 refine G.ae 16 (z := cb) C X0 d2_15 rfl h_cb ?_
 have l_cb := own_lat_mask h_cb
 refine G.g 17 C X0 d2_16 rfl (l' := #[vI bb, vI 1, vI ca, vI cb]) rfl <| G.a 18 C X0 d2_17 rfl rfl <| G.M 32 C X0 d2_18 (feq (by decide : ¬ (1 : Int32) = 0)).2 (by decide) (by decide) <| G.a 33 C X0 d2_32 rfl rfl <| G.i 34 (z := 1) C X0 d2_33 rfl (by decide) <| G.k 37 C X0 d2_34 rfl (teq (by decide : (1 : Int32) = 1)).2 <| G.ak 40 (cells' := 1) (slots' := 4) C X0 (wd8 hw) (wd9 hw) (wd10 hw) d2_37 rfl rfl rfl (by decide) (by decide) (fun T1 h1 a1 X1 g1 q1 E1 A1 D1 U1 => ?_)
 have sz2 : h0.size ≤ a1 := Nat.le_trans (Keep.refl h0 []).1 (Nat.le_of_eq g1.symm)
 have Hd3 := H0.ext E1
 have K4 := (Keep.refl h0 []).ext E1
 have F1_value : Fld Z h1 a1 zq0 "value" "[B" .null := D1 (Or.inr (wd24 hw)) (ty := (.array .byte)) (by decide)
 have F1_coder : Fld Z h1 a1 zq0 "coder" "B" (.int 0) := D1 (Or.inr (wd25 hw)) (ty := .byte) (by decide)
 refine G.ad 41 C X1 d2_40 rfl rfl <| G.i 42 (z := 1) C X1 d2_41 rfl (by decide) <| G.aj 44 (cap := 1) (d0 := (.int 0)) (cells' := 2) (slots' := 5) C X1 (wd11 hw) rfl d2_42 rfl (by decide) (by decide) (by decide) rfl rfl rfl (by decide) (by decide) (fun T5 h5 a5 k5 X5 g5 q5 E5 V5 => ?_)
 have ne6 : a1 ≠ a5 := Nat.ne_of_lt (Nat.lt_of_lt_of_eq A1.lt g5.symm)
 have sz7 : h0.size ≤ a5 := Nat.le_trans K4.1 (Nat.le_of_eq g5.symm)
 have Hd8 := Hd3.ext E5
 have K9 := K4.ext E5
 replace V5 : Arv Z h5 a5 k5 .char (1 : Int32) [(.int 0)] (.int 0) := V5.pad (pad_rep [] (.int 0) 1)
 refine G.ad 45 C X5 d2_44 rfl rfl <| G.i 46 (z := 0) C X5 d2_45 rfl (by decide) <| G.a 47 C X5 d2_46 rfl rfl <| G.av 48 C X5 V5 q5 (i := 0) d2_47 rfl ⟨by decide, by decide⟩ (by decide) (nQ rfl) (fun T10 h10 X10 W10 V10 => ?_)
 replace V10 : Arv Z h10 a5 k5 .char (1 : Int32) [(.int ca)] (.int 0) := by rw [own_nar_lat l_ca] at V10; exact V10
 have Hd11 := Hd8.wr W10 (safe_arv (EL := consts_1) C.2.1.alike V5 (by decide))
 have K12 := K9.wr W10 (Or.inr sz7)
 have f13 := ((A1.ext E5).wr W10)
 have f14 := ((F1_value.ext E5).other W10 (Or.inl ne6))
 have f15 := ((F1_coder.ext E5).other W10 (Or.inl ne6))
 have f16 := (((OD.ext E1).ext E5).wr W10 q5)
 refine G.af 51 (cells' := 3) (slots' := 6) (argsL := [(.ref a5)]) (St := [(.ref a1)]) C X10 rfl rfl (wd12 hw) (wd13 hw) (by decide) (wd14 hw) (wd10 hw) (ctNew1 hw X10.2.1 a1 a5 k5 ca cz f13 f14 f15 q1 V10 l_ca f16 S2 hcz) (lenOf pd27 rfl) rfl d2_48 rfl rfl (by decide) (nQ rfl) rfl rfl (by decide) (by decide) (fun v17 T17 h17 Q17 X17 z17 => ?_)
 obtain ⟨t17, k17, hv17, K17, E17, F17c, F17v, V17⟩ := Q17
 subst hv17
 have f19 := (Safe.wr W10 (safe_arv (EL := consts_1) C.2.1.alike V5 (by decide)) Hd8.cv (Safe.ext E5 Hd3.cv (Safe.ext E1 H0.cv (Safe.new (Nat.le_of_eq g1.symm)))))
 have Hd18 := Hd11.keep K17 (allS f19 all0)
 have K20 := K12.trans K17 (allS (Or.inr sz2) all0)
 have Vx21 : Arv Z h17 t17 k17 .byte (own_n ([ca]).length) (tx [ca]) (.int 0) := V17
 exact G.as C X17 (ew hw) Hd18 d2_51 hret rfl rfl hlk (fun _ _ => (by rw [show ([own_k0c bb] : List Int32) = [ca] from by rw [← h_ca]; rfl]; exact ⟨a1, t17, k17, rfl, K20, E17, F17c, F17v, Vx21⟩)) (by decide) (by decide)
theorem ctStr2 {l : Launch} {Z : State} {a0 : Array Value} (hw : HW a0 Z) {n0 : Nat} {h0 : Heap} (hn0 : n0 ≤ h0.size) (bb cz : Int32) (OD : Old Z n0 h0) (S2 : Sta Z Z.heap zq0 zq5 "Z" (.int cz)) (hcz : ¬ cz = 0) :
 CtrW l Z consts_1 [] (⟨zq7, "str", zq28⟩ : MethodName) method_3_code 4 (some (.object zq0)) (rQ 4 6 32 100) n0 #[(.int bb), (.int 2)] h0 (fun v h sfe => ∃ (b t : Addr) (k : ClassId), v = some (.ref b) ∧ Keep h0 h [] ∧ Exa Z h b zq0 ∧ Fld Z h b zq0 "coder" "B" (.int 0) ∧ Fld Z h b zq0 "value" "[B" (.ref t) ∧ Arv Z h t k .byte (own_n ([own_k0c bb, own_k1c bb]).length) (tx [own_k0c bb, own_k1c bb]) (.int 0)) := by
 refine CtrW.of (plainFor_of_name pn4) hn0 ?_
 intro p e s m below meth c T0 C hnm hret hlk X0 H0 hSf
 rw [ef2 m bb (2 : Int32)]
 refine G.a 1 C X0 d2_0 rfl rfl <| G.G 4 (z := 255) C X0 d2_1 rfl (by decide) <| G.ac 5 (z := (bb &&& (255 : Int32))) C X0 d2_4 rfl rfl ?_
 obtain ⟨ca, h_ca⟩ : ∃ z : Int32, (bb &&& (255 : Int32)).toUInt32.toUInt16.toUInt32.toInt32 = z := ⟨_, rfl⟩
 refine G.ae 6 (z := ca) C X0 d2_5 rfl h_ca ?_
 have l_ca := own_lat_mask h_ca
 refine G.g 7 C X0 d2_6 rfl (l' := #[vI bb, vI 2, vI ca, .unset]) rfl <| G.a 8 C X0 d2_7 rfl rfl <| G.d 10 (z := 8) C X0 d2_8 rfl (by decide) <| G.ai 11 (z := ((bb.toUInt32 >>> ((8 : Int32) &&& 31).toUInt32).toInt32)) C X0 d2_10 rfl rfl <| G.G 14 (z := 255) C X0 d2_11 rfl (by decide) <| G.ac 15 (z := (((bb.toUInt32 >>> ((8 : Int32) &&& 31).toUInt32).toInt32) &&& (255 : Int32))) C X0 d2_14 rfl rfl ?_
 obtain ⟨cb, h_cb⟩ : ∃ z : Int32, (((bb.toUInt32 >>> ((8 : Int32) &&& 31).toUInt32).toInt32) &&& (255 : Int32)).toUInt32.toUInt16.toUInt32.toInt32 = z := ⟨_, rfl⟩
 refine G.ae 16 (z := cb) C X0 d2_15 rfl h_cb ?_
 have l_cb := own_lat_mask h_cb
 refine G.g 17 C X0 d2_16 rfl (l' := #[vI bb, vI 2, vI ca, vI cb]) rfl <| G.a 18 C X0 d2_17 rfl rfl <| G.M 32 C X0 d2_18 (feq (by decide : ¬ (2 : Int32) = 0)).2 (by decide) (by decide) <| G.a 33 C X0 d2_32 rfl rfl <| G.i 34 (z := 1) C X0 d2_33 rfl (by decide) <| G.j 52 C X0 d2_34 (feq (by decide : ¬ (2 : Int32) = 1)).2 (by decide) (by decide) <| G.ak 55 (cells' := 1) (slots' := 4) C X0 (wd8 hw) (wd9 hw) (wd10 hw) d2_52 rfl rfl rfl (by decide) (by decide) (fun T1 h1 a1 X1 g1 q1 E1 A1 D1 U1 => ?_)
 have sz2 : h0.size ≤ a1 := Nat.le_trans (Keep.refl h0 []).1 (Nat.le_of_eq g1.symm)
 have Hd3 := H0.ext E1
 have K4 := (Keep.refl h0 []).ext E1
 have F1_value : Fld Z h1 a1 zq0 "value" "[B" .null := D1 (Or.inr (wd24 hw)) (ty := (.array .byte)) (by decide)
 have F1_coder : Fld Z h1 a1 zq0 "coder" "B" (.int 0) := D1 (Or.inr (wd25 hw)) (ty := .byte) (by decide)
 refine G.ad 56 C X1 d2_55 rfl rfl <| G.i 57 (z := 2) C X1 d2_56 rfl (by decide) <| G.aj 59 (cap := 2) (d0 := (.int 0)) (cells' := 2) (slots' := 6) C X1 (wd11 hw) rfl d2_57 rfl (by decide) (by decide) (by decide) rfl rfl rfl (by decide) (by decide) (fun T5 h5 a5 k5 X5 g5 q5 E5 V5 => ?_)
 have ne6 : a1 ≠ a5 := Nat.ne_of_lt (Nat.lt_of_lt_of_eq A1.lt g5.symm)
 have sz7 : h0.size ≤ a5 := Nat.le_trans K4.1 (Nat.le_of_eq g5.symm)
 have Hd8 := Hd3.ext E5
 have K9 := K4.ext E5
 replace V5 : Arv Z h5 a5 k5 .char (2 : Int32) [(.int 0), (.int 0)] (.int 0) := V5.pad (pad_rep [] (.int 0) 2)
 refine G.ad 60 C X5 d2_59 rfl rfl <| G.i 61 (z := 0) C X5 d2_60 rfl (by decide) <| G.a 62 C X5 d2_61 rfl rfl <| G.av 63 C X5 V5 q5 (i := 0) d2_62 rfl ⟨by decide, by decide⟩ (by decide) (nQ rfl) (fun T10 h10 X10 W10 V10 => ?_)
 replace V10 : Arv Z h10 a5 k5 .char (2 : Int32) [(.int ca), (.int 0)] (.int 0) := by rw [own_nar_lat l_ca] at V10; exact V10
 have Hd11 := Hd8.wr W10 (safe_arv (EL := consts_1) C.2.1.alike V5 (by decide))
 have K12 := K9.wr W10 (Or.inr sz7)
 refine G.ad 64 C X10 d2_63 rfl rfl <| G.i 65 (z := 1) C X10 d2_64 rfl (by decide) <| G.a 66 C X10 d2_65 rfl rfl <| G.av 67 C X10 V10 q5 (i := 1) d2_66 rfl ⟨by decide, by decide⟩ (by decide) (nQ rfl) (fun T13 h13 X13 W13 V13 => ?_)
 replace V13 : Arv Z h13 a5 k5 .char (2 : Int32) [(.int ca), (.int cb)] (.int 0) := by rw [own_nar_lat l_cb] at V13; exact V13
 have Hd14 := Hd11.wr W13 (safe_arv (EL := consts_1) C.2.1.alike V10 (by decide))
 have K15 := K12.wr W13 (Or.inr sz7)
 have f16 := (((A1.ext E5).wr W10).wr W13)
 have f17 := (((F1_value.ext E5).other W10 (Or.inl ne6)).other W13 (Or.inl ne6))
 have f18 := (((F1_coder.ext E5).other W10 (Or.inl ne6)).other W13 (Or.inl ne6))
 have f19 := ((((OD.ext E1).ext E5).wr W10 q5).wr W13 q5)
 refine G.af 70 (cells' := 3) (slots' := 8) (argsL := [(.ref a5)]) (St := [(.ref a1)]) C X13 rfl rfl (wd12 hw) (wd13 hw) (by decide) (wd14 hw) (wd10 hw) (ctNew2 hw X13.2.1 a1 a5 k5 ca cb cz f16 f17 f18 q1 V13 l_ca l_cb f19 S2 hcz) (lenOf pd27 rfl) rfl d2_67 rfl rfl (by decide) (nQ rfl) rfl rfl (by decide) (by decide) (fun v20 T20 h20 Q20 X20 z20 => ?_)
 obtain ⟨t20, k20, hv20, K20, E20, F20c, F20v, V20⟩ := Q20
 subst hv20
 have f22 := (Safe.wr W13 (safe_arv (EL := consts_1) C.2.1.alike V10 (by decide)) Hd11.cv (Safe.wr W10 (safe_arv (EL := consts_1) C.2.1.alike V5 (by decide)) Hd8.cv (Safe.ext E5 Hd3.cv (Safe.ext E1 H0.cv (Safe.new (Nat.le_of_eq g1.symm))))))
 have Hd21 := Hd14.keep K20 (allS f22 all0)
 have K23 := K15.trans K20 (allS (Or.inr sz2) all0)
 have Vx24 : Arv Z h20 t20 k20 .byte (own_n ([ca, cb]).length) (tx [ca, cb]) (.int 0) := V20
 exact G.as C X20 (ew hw) Hd21 d2_70 hret rfl rfl hlk (fun _ _ => (by rw [show ([own_k0c bb, own_k1c bb] : List Int32) = [ca, cb] from by rw [← h_ca, ← h_cb]; rfl]; exact ⟨a1, t20, k20, rfl, K23, E20, F20c, F20v, Vx24⟩)) (by decide) (by decide)
theorem ctStr {l : Launch} {Z : State} {a0 : Array Value} (hw : HW a0 Z) {n0 : Nat} {h0 : Heap} (hn0 : n0 ≤ h0.size) (bb cz : Int32) (F_ : List Int32) (hs : own_sx bb F_) (OD : Old Z n0 h0) (S2 : Sta Z Z.heap zq0 zq5 "Z" (.int cz)) (hcz : ¬ cz = 0) :
    CtrW l Z consts_1 [] (⟨zq7, "str", zq28⟩ : MethodName) method_3_code 4 (some (.object zq0)) (rQ 4 6 32 100) n0 #[(.int bb), (.int (own_n (F_).length))] h0 (fun v h sfe => ∃ (b t : Addr) (k : ClassId), v = some (.ref b) ∧ Keep h0 h [] ∧ Exa Z h b zq0 ∧ Fld Z h b zq0 "coder" "B" (.int 0) ∧ Fld Z h b zq0 "value" "[B" (.ref t) ∧ Arv Z h t k .byte (own_n (F_).length) (tx F_) (.int 0)) := by
  rcases hs with rfl | rfl | rfl
  · exact ctStr0 hw hn0 bb cz OD S2 hcz
  · exact ctStr1 hw hn0 bb cz OD S2 hcz
  · exact ctStr2 hw hn0 bb cz OD S2 hcz
theorem own_excA {a0 : Array Value} {Z : State} (hw : HW a0 Z) : ∀ d ∈ excA zq9, d.before a0 Z = true := by
  intro d hd
  simp only [excA, List.mem_cons, List.not_mem_nil, or_false] at hd
  rcases hd with rfl | rfl | rfl | rfl | rfl | rfl | rfl | rfl | rfl | rfl | rfl | rfl | rfl | rfl | rfl | rfl | rfl | rfl | rfl | rfl | rfl | rfl | rfl | rfl | rfl | rfl | rfl | rfl | rfl
  · exact (wd198 hw)
  · exact (wd177 hw)
  · exact (wd195 hw)
  · exact (wd190 hw)
  · exact (wd196 hw)
  · exact (wd197 hw)
  · exact (wd20 hw)
  · exact (wd21 hw)
  · exact (wd179 hw)
  · exact (wd188 hw)
  · exact (wd201 hw)
  · exact (wd180 hw)
  · exact (wd181 hw)
  · exact (wd183 hw)
  · exact (wd184 hw)
  · exact (wd186 hw)
  · exact (wd187 hw)
  · exact (wd182 hw)
  · exact (wd208 hw)
  · exact (wd185 hw)
  · exact (wd209 hw)
  · exact (wd211 hw)
  · exact (wd210 hw)
  · exact (wd206 hw)
  · exact (wd212 hw)
  · exact (wd193 hw)
  · exact (wd194 hw)
  · exact (wd213 hw)
  · exact (wd192 hw)
theorem ef33 (m : MethodId) (x0 : Addr) (x1 : Addr) : entryFrame m #[(.ref x0), (.ref x1), .null] 3 = mkF m 0 #[.val (.ref x0), .val (.ref x1), .val .null] [] := by first | (simp [entryFrame, mkF, argsToLocals, Value.category]; done) | rfl
theorem ctTh {l : Launch} {Z : State} {a0 : Array Value} (hw : HW a0 Z) {n0 : Nat} {h0 : Heap} (hn0 : n0 ≤ h0.size) (se ms us sp : Addr) (Ee : Exa Z h0 se zq9) (Ue : Unt h0 se) (Fe_cause : Fld Z h0 se zq4 "cause" zq30 .null) (Fe_stackTrace : Fld Z h0 se zq4 "stackTrace" zq22 .null) (Fe_suppressedExceptions : Fld Z h0 se zq4 zq51 zq23 .null) (Fe_detailMessage : Fld Z h0 se zq4 zq25 zq24 .null) (Fe_backtrace : Fld Z h0 se zq4 "backtrace" zq56 .null) (Fe_depth : Fld Z h0 se zq4 "depth" "I" (.int 0)) (Fe_located : Fld Z h0 se zq9 "located" "Z" (.int 0)) (ge : n0 ≤ se) (OD : Old Z n0 h0) (Su : Sta Z Z.heap zq4 zq34 zq22 (.ref us)) (Ss : Sta Z Z.heap zq4 zq35 zq23 (.ref sp)) (hst : l.stackTraces = true) :
 CtrK l Z (⟨zq4, "<init>", zq21⟩ : MethodName) jdk_78_method_3_code 3 none (rQ 3 1 2752 48) n0 #[(.ref se), (.ref ms), .null] h0 (fun v h => v = none ∧ Keep h0 h [se] ∧ Exa Z h se zq9 ∧ Unt h se ∧ Fld Z h se zq4 zq25 zq24 (.ref ms) ∧ Fld Z h se zq4 "cause" zq30 .null ∧ Fld Z h se zq9 "located" "Z" (.int 0)) := by
 refine CtrK.of (by decide +kernel) hn0 ?_
 intro p e s m below meth c T0 C hnm hret hlk X0 hs0 hTK0 hB0
 rw [ef33 m se ms]
 refine G.b 1 C X0 d33_0 rfl rfl rfl <| G.al 4 C X0 (wd179 hw) (wd20 hw) (wd21 hw) d33_1 rfl rfl (by decide) (nQ rfl) fun T1 X1 => G.b 5 C X1 d33_4 rfl rfl rfl <| G.b 6 C X1 d33_5 rfl rfl rfl <| G.I 9 C X1 (hQ (wd180 hw)) Via.refl Fe_cause Ee ge (Or.inl (wd181 hw)) (wd36 hw) (ty := (.object zq4)) (by decide) rfl rfl d33_6 rfl (fun T2 h2 X2 W2 F2 => ?_)
 have K3 := (Keep.refl h0 [se]).wr W2 (mQ 0 rfl)
 refine G.b 10 C X2 d33_9 rfl rfl rfl ?_
 have f4 := (OD.wr W2 ge)
 refine G.x 13 C X2 (hQ (wd182 hw)) Via.refl (Su.ext f4.2) d33_10 rfl (fun T5 X5 => ?_)
 have f6 := (Fe_stackTrace.other W2 (Or.inr (sQ8 hw)))
 have f7 := (Ee.wr W2)
 refine G.I 16 C X5 (hQ (wd183 hw)) Via.refl f6 f7 ge (Or.inl (wd184 hw)) (wd36 hw) (ty := (.array (.object zq15))) (by decide) rfl rfl d33_13 rfl (fun T8 h8 X8 W8 F8 => ?_)
 have K9 := K3.wr W8 (mQ 0 rfl)
 refine G.b 17 C X8 d33_16 rfl rfl rfl ?_
 have f10 := (f4.wr W8 ge)
 refine G.x 20 C X8 (hQ (wd185 hw)) Via.refl (Ss.ext f10.2) d33_17 rfl (fun T11 X11 => ?_)
 have f12 := ((Fe_suppressedExceptions.other W2 (Or.inr (sQ9 hw))).other W8 (Or.inr (sQ10 hw)))
 have f13 := (f7.wr W8)
 refine G.I 23 C X11 (hQ (wd186 hw)) Via.refl f12 f13 ge (Or.inl (wd187 hw)) (wd36 hw) (ty := (.object zq13)) (by decide) rfl rfl d33_20 rfl (fun T14 h14 X14 W14 F14 => ?_)
 have K15 := K9.wr W14 (mQ 0 rfl)
 refine G.b 24 C X14 d33_23 rfl rfl rfl ?_
 have f16 := (f10.wr W14 ge)
 have f18 := ((F2.other W8 (Or.inr (sQ11 hw))).other W14 (Or.inr (sQ12 hw)))
 have f19 := (((Fe_detailMessage.other W2 (Or.inr (sQ13 hw))).other W8 (Or.inr (sQ14 hw))).other W14 (Or.inr (sQ15 hw)))
 have f20 := (((Fe_located.other W2 (Or.inr (sQ16 hw))).other W8 (Or.inr (sQ17 hw))).other W14 (Or.inr (sQ18 hw)))
 have f21 := (f13.wr W14)
 have f22 := (((Ue.wr W2).wr W8).wr W14)
 have f23 := (F8.other W14 (Or.inr (sQ19 hw)))
 have f24 := (((Fe_backtrace.other W2 (Or.inr (sQ20 hw))).other W8 (Or.inr (sQ21 hw))).other W14 (Or.inr (sQ22 hw)))
 refine G.aJ 27 (cells' := 1) (slots' := 2752) (St := []) C X14 hst (by rw [hs0]; exact ThS.ext OD.2 ThS.start) hTK0 hB0 (own_excA hw) (wd188 hw) (wd189 hw) (wd191 hw) (wd190 hw) (wd36 hw) f21 f22 f23 f24 (Su.ext f16.2) ge d33_24 rfl rfl (by decide) (nQ rfl) rfl rfl (by decide) (by decide) (fun T17 h17 X17 K17 A17 U17 Fk17 => ?_)
 have K25 := K15.trans K17 (allS (mQ 0 rfl) all0)
 have Fz17_cause := Fk17 f18 (sQ23 hw) (sQ24 hw) (sQ11 hw)
 have Fz17_suppressedExceptions := Fk17 F14 (sQ25 hw) (sQ26 hw) (sQ10 hw)
 have Fz17_detailMessage := Fk17 f19 (sQ27 hw) (sQ28 hw) (sQ14 hw)
 have Fz17_located := Fk17 f20 (sQ29 hw) (sQ30 hw) (sQ17 hw)
 refine G.O 28 C X17 d33_27 rfl rfl <| G.b 29 C X17 d33_28 rfl rfl rfl <| G.b 30 C X17 d33_29 rfl rfl rfl <| G.I 33 C X17 (hQ (wd215 hw)) Via.refl Fz17_detailMessage A17 ge (Or.inl (wd211 hw)) (wd36 hw) (ty := (.object zq0)) (by decide) rfl rfl d33_30 rfl (fun T26 h26 X26 W26 F26 => ?_)
 have K27 := K25.wr W26 (mQ 0 rfl)
 refine G.b 34 C X26 d33_33 rfl rfl rfl <| G.b 35 C X26 d33_34 rfl rfl rfl ?_
 have f28 := (Fz17_cause.other W26 (Or.inr (sQ31 hw)))
 have f29 := (A17.wr W26)
 refine G.I 38 C X26 (hQ (wd180 hw)) Via.refl f28 f29 ge (Or.inl (wd181 hw)) (wd36 hw) (ty := (.object zq4)) (by decide) rfl rfl d33_35 rfl (fun T30 h30 X30 W30 F30 => ?_)
 have K31 := K27.wr W30 (mQ 0 rfl)
 have f32 := (f29.wr W30)
 have f33 := ((U17.wr W26).wr W30)
 have f34 := (F26.other W30 (Or.inr (sQ13 hw)))
 have f35 := ((Fz17_located.other W26 (Or.inr (sQ32 hw))).other W30 (Or.inr (sQ16 hw)))
 exact G.ab C X30 d33_38 hret hlk (⟨rfl, K31, f32, f33, f34, F30, f35⟩) (by decide) (by decide)
theorem ef32 (m : MethodId) (x0 : Addr) (x1 : Addr) : entryFrame m #[(.ref x0), (.ref x1), .null] 3 = mkF m 0 #[.val (.ref x0), .val (.ref x1), .val .null] [] := by first | (simp [entryFrame, mkF, argsToLocals, Value.category]; done) | rfl
theorem ctEx {l : Launch} {Z : State} {a0 : Array Value} (hw : HW a0 Z) {n0 : Nat} {h0 : Heap} (hn0 : n0 ≤ h0.size) (se ms us sp : Addr) (Ee : Exa Z h0 se zq9) (Ue : Unt h0 se) (Fe_cause : Fld Z h0 se zq4 "cause" zq30 .null) (Fe_stackTrace : Fld Z h0 se zq4 "stackTrace" zq22 .null) (Fe_suppressedExceptions : Fld Z h0 se zq4 zq51 zq23 .null) (Fe_detailMessage : Fld Z h0 se zq4 zq25 zq24 .null) (Fe_backtrace : Fld Z h0 se zq4 "backtrace" zq56 .null) (Fe_depth : Fld Z h0 se zq4 "depth" "I" (.int 0)) (Fe_located : Fld Z h0 se zq9 "located" "Z" (.int 0)) (ge : n0 ≤ se) (OD : Old Z n0 h0) (Su : Sta Z Z.heap zq4 zq34 zq22 (.ref us)) (Ss : Sta Z Z.heap zq4 zq35 zq23 (.ref sp)) (hst : l.stackTraces = true) :
 CtrK l Z (⟨zq52, "<init>", zq21⟩ : MethodName) jdk_59_method_3_code 3 none (rQ 4 1 2752 64) n0 #[(.ref se), (.ref ms), .null] h0 (fun v h => v = none ∧ Keep h0 h [se] ∧ Exa Z h se zq9 ∧ Unt h se ∧ Fld Z h se zq4 zq25 zq24 (.ref ms) ∧ Fld Z h se zq4 "cause" zq30 .null ∧ Fld Z h se zq9 "located" "Z" (.int 0)) := by
 refine CtrK.of (by decide +kernel) hn0 ?_
 intro p e s m below meth c T0 C hnm hret hlk X0 hs0 hTK0 hB0
 rw [ef32 m se ms]
 refine G.b 1 C X0 d32_0 rfl rfl rfl <| G.b 2 C X0 d32_1 rfl rfl rfl <| G.b 3 C X0 d32_2 rfl rfl rfl <| G.ay 6 (cells' := 1) (slots' := 2752) (argsL := [(.ref ms), .null]) (St := []) C X0 hTK0 hB0 rfl rfl (wd173 hw) (wd174 hw) (by decide) (wd178 hw) (wd177 hw) (ctTh hw X0.2.1 se ms us sp Ee Ue Fe_cause Fe_stackTrace Fe_suppressedExceptions Fe_detailMessage Fe_backtrace Fe_depth Fe_located ge OD Su Ss hst) (lenOf pd28 rfl) rfl d32_3 rfl rfl (by decide) (nQ rfl) rfl rfl (by decide) (by decide) (fun v1 T1 h1 Q1 X1 z1 => ?_)
 obtain ⟨hv1, K1, Ee1, Ue1, Fm1, Fq1, Fl1⟩ := Q1
 subst hv1
 have K2 := (Keep.refl h0 [se]).trans K1 (allS (mQ 0 rfl) all0)
 exact G.ab C X1 d32_6 hret hlk (⟨rfl, K2, Ee1, Ue1, Fm1, Fq1, Fl1⟩) (by decide) (by decide)
theorem ef31 (m : MethodId) (x0 : Addr) (x1 : Addr) (x3 : Int32) : entryFrame m #[(.ref x0), (.ref x1), .null, (.int x3)] 4 = mkF m 0 #[.val (.ref x0), .val (.ref x1), .val .null, .val (.int x3)] [] := by first | (simp [entryFrame, mkF, argsToLocals, Value.category]; done) | rfl
theorem ctSe {l : Launch} {Z : State} {a0 : Array Value} (hw : HW a0 Z) {n0 : Nat} {h0 : Heap} (hn0 : n0 ≤ h0.size) (se ms us sp : Addr) (Ee : Exa Z h0 se zq9) (Ue : Unt h0 se) (Fe_cause : Fld Z h0 se zq4 "cause" zq30 .null) (Fe_stackTrace : Fld Z h0 se zq4 "stackTrace" zq22 .null) (Fe_suppressedExceptions : Fld Z h0 se zq4 zq51 zq23 .null) (Fe_detailMessage : Fld Z h0 se zq4 zq25 zq24 .null) (Fe_backtrace : Fld Z h0 se zq4 "backtrace" zq56 .null) (Fe_depth : Fld Z h0 se zq4 "depth" "I" (.int 0)) (Fe_located : Fld Z h0 se zq9 "located" "Z" (.int 0)) (ge : n0 ≤ se) (OD : Old Z n0 h0) (Su : Sta Z Z.heap zq4 zq34 zq22 (.ref us)) (Ss : Sta Z Z.heap zq4 zq35 zq23 (.ref sp)) (hst : l.stackTraces = true) :
 CtrK l Z (⟨zq9, "<init>", zq48⟩ : MethodName) prog_4_method_3_code 4 none (rQ 5 1 2752 80) n0 #[(.ref se), (.ref ms), .null, (.int 1)] h0 (fun v h => v = none ∧ Keep h0 h [se] ∧ Exa Z h se zq9 ∧ Unt h se ∧ Fld Z h se zq4 zq25 zq24 (.ref ms) ∧ Fld Z h se zq4 "cause" zq30 .null ∧ Fld Z h se zq9 "located" "Z" (.int 1)) := by
 refine CtrK.of (plainFor_of_name pn5) hn0 ?_
 intro p e s m below meth c T0 C hnm hret hlk X0 hs0 hTK0 hB0
 rw [ef31 m se ms (1 : Int32)]
 refine G.b 1 C X0 d31_0 rfl rfl rfl <| G.b 2 C X0 d31_1 rfl rfl rfl <| G.b 3 C X0 d31_2 rfl rfl rfl <| G.ay 6 (cells' := 1) (slots' := 2752) (argsL := [(.ref ms), .null]) (St := []) C X0 hTK0 hB0 rfl rfl (wd168 hw) (wd169 hw) (by decide) (wd172 hw) (wd171 hw) (ctEx hw X0.2.1 se ms us sp Ee Ue Fe_cause Fe_stackTrace Fe_suppressedExceptions Fe_detailMessage Fe_backtrace Fe_depth Fe_located ge OD Su Ss hst) (lenOf pd28 rfl) rfl d31_3 rfl rfl (by decide) (nQ rfl) rfl rfl (by decide) (by decide) (fun v1 T1 h1 Q1 X1 z1 => ?_)
 obtain ⟨hv1, K1, Ee1, Ue1, Fm1, Fq1, Fl1⟩ := Q1
 subst hv1
 have K2 := (Keep.refl h0 [se]).trans K1 (allS (mQ 0 rfl) all0)
 refine G.b 7 C X1 d31_6 rfl rfl rfl <| G.a 8 C X1 d31_7 rfl rfl <| G.I 11 C X1 (hQ (wd216 hw)) Via.refl Fl1 Ee1 ge (Or.inr ⟨(wd217 hw), rfl, hnm⟩) (wd36 hw) (ty := .boolean) (by decide) rfl rfl d31_8 rfl (fun T3 h3 X3 W3 F3 => ?_)
 have K4 := K2.wr W3 (mQ 0 rfl)
 have f5 := (Ee1.wr W3)
 have f6 := (Ue1.wr W3)
 have f7 := (Fm1.other W3 (Or.inr (sQ33 hw)))
 have f8 := (Fq1.other W3 (Or.inr (sQ34 hw)))
 exact G.ab C X3 d31_11 hret hlk (⟨rfl, K4, f5, f6, f7, f8, F3⟩) (by decide) (by decide)
theorem ef6 (m : MethodId) (x0 : Addr) (x1 : Int32) (x2 : Int32) (x3 : Addr) : entryFrame m #[(.ref x0), (.int x1), (.int x2), (.ref x3)] 4 = mkF m 0 #[.val (.ref x0), .val (.int x1), .val (.int x2), .val (.ref x3)] [] := by first | (simp [entryFrame, mkF, argsToLocals, Value.category]; done) | rfl
theorem ctAtt {l : Launch} {Z : State} {a0 : Array Value} (hw : HW a0 Z) {n0 : Nat} {h0 : Heap} (hn0 : n0 ≤ h0.size) (fs_ fu_ ps_ pu_ us sp : Addr) (fk_ pk_ : ClassId) (do_ dt_ : Addr) (ko kq : ClassId) (F_ P_ : List Int32) (li_ co_ cz : Int32) (V1 V2 : Nat) (fmt : Value) (E_fs_ : Exa Z h0 fs_ zq0) (V_fs_ : Fld Z h0 fs_ zq0 "value" "[B" (.ref fu_)) (C_fs_ : Fld Z h0 fs_ zq0 "coder" "B" (.int 0)) (A_fs_ : Arv Z h0 fu_ fk_ .byte (own_n (F_).length) (tx F_) (.int 0)) (E_ps_ : Exa Z h0 ps_ zq0) (V_ps_ : Fld Z h0 ps_ zq0 "value" "[B" (.ref pu_)) (C_ps_ : Fld Z h0 ps_ zq0 "coder" "B" (.int 0)) (A_ps_ : Arv Z h0 pu_ pk_ .byte (own_n (P_).length) (tx P_) (.int 0)) (So : Sta Z Z.heap zq2 "DigitOnes" "[B" (.ref do_)) (Sq : Sta Z Z.heap zq2 "DigitTens" "[B" (.ref dt_)) (Vo : Arv Z Z.heap do_ ko .byte (100 : Int32) own_ones (.int 0)) (Vq : Arv Z Z.heap dt_ kq .byte (100 : Int32) own_tens (.int 0)) (hF : F_.length ≤ 2) (hP : P_.length ≤ 2) (hV1 : li_.toInt = (V1 : Int)) (hm1 : V1 < 2147483648) (hV2 : co_.toInt = (V2 : Int)) (hm2 : V2 < 2147483648) (OD : Old Z n0 h0) (Su : Sta Z Z.heap zq4 zq34 zq22 (.ref us)) (Ss : Sta Z Z.heap zq4 zq35 zq23 (.ref sp)) (hst : l.stackTraces = true) (S2 : Sta Z Z.heap zq0 zq5 "Z" (.int cz)) (hcz : ¬ cz = 0) :
    CtrWK l Z consts_1 [] (⟨zq9, "at", zq41⟩ : MethodName) prog_4_method_4_code 4 (some (.object zq9)) (rQ 7 20 4200 180) n0 #[(.ref fs_), (.int li_), (.int co_), (.ref ps_)] h0 (fun v h sfe => ∃ (se b t : Addr) (k : ClassId), v = some (.ref se) ∧ Keep h0 h [] ∧ Exa Z h se zq9 ∧ Unt h se ∧ Fld Z h se zq4 zq25 zq24 (.ref b) ∧ Fld Z h se zq4 "cause" zq30 .null ∧ Fld Z h se zq9 "located" "Z" (.int 1) ∧ Exa Z h b zq0 ∧ Fld Z h b zq0 "coder" "B" (.int 0) ∧ Fld Z h b zq0 "value" "[B" (.ref t) ∧ Arv Z h t k .byte (own_n ((((((((([] : List Int32) ++ F_) ++ ([58] : List Int32)) ++ (own_dec V1)) ++ ([58] : List Int32)) ++ (own_dec V2)) ++ ([58, 32] : List Int32)) ++ P_)).length) (tx (((((((([] : List Int32) ++ F_) ++ ([58] : List Int32)) ++ (own_dec V1)) ++ ([58] : List Int32)) ++ (own_dec V2)) ++ ([58, 32] : List Int32)) ++ P_)) (.int 0)) := by
  refine CtrWK.of (plainFor_of_name pn5) hn0 ?_
  intro p e s m below meth c T0 C hnm hret hlk X0 H0 hSf hs0 hTK0 hB0
  rw [ef6 m fs_ li_ co_ ps_]
  have hD1 := own_dec_len V1
  have hD2 := own_dec_len V2
  refine G.ak 3 (cells' := 1) (slots' := 7) C X0 (wd35 hw) (wd36 hw) (wd33 hw) d6_0 rfl rfl rfl (by decide) (by decide) (fun T1 h1 a1 X1 g1 q1 E1 A1 D1 U1 => ?_)
  have sz6 : h0.size ≤ a1 := Nat.le_trans (Keep.refl h0 []).1 (Nat.le_of_eq g1.symm)
  have Hd7 := H0.ext E1
  have K8 := (Keep.refl h0 []).ext E1
  have F1_cause : Fld Z h1 a1 zq4 "cause" zq30 .null := D1 (Or.inl (wd181 hw)) (ty := (.object zq4)) (by decide)
  have F1_stackTrace : Fld Z h1 a1 zq4 "stackTrace" zq22 .null := D1 (Or.inl (wd184 hw)) (ty := (.array (.object zq15))) (by decide)
  have F1_suppressedExceptions : Fld Z h1 a1 zq4 zq51 zq23 .null := D1 (Or.inl (wd187 hw)) (ty := (.object zq13)) (by decide)
  have F1_detailMessage : Fld Z h1 a1 zq4 zq25 zq24 .null := D1 (Or.inl (wd211 hw)) (ty := (.object zq0)) (by decide)
  have F1_backtrace : Fld Z h1 a1 zq4 "backtrace" zq56 .null := D1 (Or.inl (wd212 hw)) (ty := (.object zq6)) (by decide)
  have F1_depth : Fld Z h1 a1 zq4 "depth" "I" (.int 0) := D1 (Or.inl (wd213 hw)) (ty := .int) (by decide)
  have F1_located : Fld Z h1 a1 zq9 "located" "Z" (.int 0) := D1 (Or.inr (wd217 hw)) (ty := .boolean) (by decide)
  refine G.ad 4 C X1 d6_3 rfl rfl <| G.ak 7 (cells' := 2) (slots' := 11) C X1 (wd37 hw) (wd38 hw) (wd39 hw) d6_4 rfl rfl rfl (by decide) (by decide) (fun T9 h9 a9 X9 g9 q9 E9 A9 D9 U9 => ?_)
  have f11 := (E_fs_.ext E1)
  have ne10 : fs_ ≠ a9 := Nat.ne_of_lt (Nat.lt_of_lt_of_eq f11.lt g9.symm)
  have f13 := (A_fs_.ext E1)
  have ne12 : fu_ ≠ a9 := Nat.ne_of_lt (Nat.lt_of_lt_of_eq f13.lt g9.symm)
  have f15 := (E_ps_.ext E1)
  have ne14 : ps_ ≠ a9 := Nat.ne_of_lt (Nat.lt_of_lt_of_eq f15.lt g9.symm)
  have f17 := (A_ps_.ext E1)
  have ne16 : pu_ ≠ a9 := Nat.ne_of_lt (Nat.lt_of_lt_of_eq f17.lt g9.symm)
  have ne18 : a1 ≠ a9 := Nat.ne_of_lt (Nat.lt_of_lt_of_eq A1.lt g9.symm)
  have sz19 : h0.size ≤ a9 := Nat.le_trans K8.1 (Nat.le_of_eq g9.symm)
  have Hd20 := Hd7.ext E9
  have K21 := K8.ext E9
  have F9_value : Fld Z h9 a9 zq1 "value" "[B" .null := D9 (Or.inl (wd52 hw)) (ty := (.array .byte)) (by decide)
  have F9_coder : Fld Z h9 a9 zq1 "coder" "B" (.int 0) := D9 (Or.inl (wd54 hw)) (ty := .byte) (by decide)
  have F9_count : Fld Z h9 a9 zq1 "count" "I" (.int 0) := D9 (Or.inl (wd77 hw)) (ty := .int) (by decide)
  refine G.ad 8 C X9 d6_7 rfl rfl ?_
  have f22 := (f11.ext E9)
  have f23 := (f13.ext E9)
  have f24 := (f15.ext E9)
  have f25 := (f17.ext E9)
  have f26 := (A1.ext E9)
  have f27 := ((OD.ext E1).ext E9)
  refine G.af 11 (cells' := 3) (slots' := 27) (argsL := []) (St := [(.ref a9), (.ref a1), (.ref a1)]) C X9 rfl rfl (wd40 hw) (wd41 hw) (by decide) (wd42 hw) (wd39 hw) (ctSbIA hw X9.2.1 a9 cz A9 F9_value F9_coder F9_count q9 f27 S2 hcz) (lenOf pd29 rfl) rfl d6_8 rfl rfl (by decide) (nQ rfl) rfl rfl (by decide) (by decide) (fun v28 T28 h28 Q28 X28 z28 => ?_)
  obtain ⟨t28, k28, hv28, K28, hz28, ns28, Es28, Fv28, Fc28, Fn28, Et28, Vt28⟩ := Q28
  subst hv28
  have Hd29 := Hd20.keep K28 (allS (Safe.exa (EL := consts_1) C.2.1.alike A9 (by decide) (by decide)) all0)
  have K30 := K21.trans K28 (allS (Or.inr sz19) all0)
  have nb28_fs_ : fs_ ≠ t28 := Nat.ne_of_lt (Nat.lt_of_lt_of_le f22.lt hz28)
  have nb28_fu_ : fu_ ≠ t28 := Nat.ne_of_lt (Nat.lt_of_lt_of_le f23.lt hz28)
  have nb28_ps_ : ps_ ≠ t28 := Nat.ne_of_lt (Nat.lt_of_lt_of_le f24.lt hz28)
  have nb28_pu_ : pu_ ≠ t28 := Nat.ne_of_lt (Nat.lt_of_lt_of_le f25.lt hz28)
  have nb28_a1 : a1 ≠ t28 := Nat.ne_of_lt (Nat.lt_of_lt_of_le f26.lt hz28)
  refine G.b 12 C X28 d6_11 rfl rfl rfl ?_
  have f31 := (f22.keep K28)
  have f32 := (((V_fs_.ext E1).ext E9).keep K28 (ninS ne10 nin0))
  have f33 := (((C_fs_.ext E1).ext E9).keep K28 (ninS ne10 nin0))
  have f34 := (f23.keep K28 (ninS ne12 nin0))
  have f35 := (f24.keep K28)
  have f36 := (f25.keep K28 (ninS ne16 nin0))
  have f37 := (f26.keep K28)
  have f38 := (f27.keep K28 (allS q9 all0))
  refine G.D 15 (cells' := 4) (slots' := 61) (argsL := [(.ref fs_)]) (St := [(.ref a1), (.ref a1)]) C X28 (wd55 hw) (wd56 hw) (wd58 hw) (wd57 hw) (by decide) Es28 (wd59 hw) (wd39 hw) (ctAppA hw X28.2.1 a9 t28 k28 ([] : List Int32) (16 : Int32) fs_ fu_ fk_ F_ cz Es28 Fv28 Fc28 Fn28 Et28 Vt28 q9 (Nat.le_trans X9.2.1 hz28) ns28 f31 f32 f33 f34 nb28_fu_ ne10 nb28_fs_ (by first | omega | (simp only [List.length_append, List.length_cons, List.length_nil]; omega)) (Or.inl rfl) (Nat.zero_le _) (by first | omega | (simp only [List.length_append, List.length_cons, List.length_nil]; omega)) f38 S2 hcz) (lenOf pd30 rfl) rfl d6_12 rfl rfl (by decide) (nQ rfl) rfl rfl (by decide) (by decide) (fun v39 T39 h39 Q39 X39 z39 => ?_)
  obtain ⟨t39, k39, cq39, hv39, K39, hf39, hq39, hwl39, ns39, Es39, Fv39, Fc39, Fn39, Et39, Vt39⟩ := Q39
  subst hv39
  have Hd40 := Hd29.keep K39 (allS (Safe.exa (EL := consts_1) C.2.1.alike Es28 (by decide) (by decide)) (allS (Safe.keep K28 (allS (Safe.exa (EL := consts_1) C.2.1.alike A9 (by decide) (by decide)) all0) Hd20.cv (Safe.new hz28)) all0))
  have K41 := K30.trans K39 (allS (Or.inr sz19) (allS (Or.inr (Nat.le_trans K21.1 hz28)) all0))
  have nb39_ps_ : ps_ ≠ t39 := own_frn hf39 nb28_ps_ f35.lt
  have nb39_pu_ : pu_ ≠ t39 := own_frn hf39 nb28_pu_ f36.lt
  have nb39_a1 : a1 ≠ t39 := own_frn hf39 nb28_a1 f37.lt
  have ga39 : n0 ≤ t39 := own_frg hf39 (Nat.le_trans X9.2.1 hz28) X28.2.1
  have iw39 : t39 ∈ [] ∨ h0.size ≤ t39 := own_frw hf39 (Or.inr (Nat.le_trans K21.1 hz28)) K30.1
  have Sf39 : Safe Z consts_1 s.vm h39 t39 := by
    rcases hf39 with e | e
    · rw [e]; exact Safe.keep K39 (allS (Safe.exa (EL := consts_1) C.2.1.alike Es28 (by decide) (by decide)) (allS (Safe.keep K28 (allS (Safe.exa (EL := consts_1) C.2.1.alike A9 (by decide) (by decide)) all0) Hd20.cv (Safe.new hz28)) all0)) Hd29.cv (Safe.keep K28 (allS (Safe.exa (EL := consts_1) C.2.1.alike A9 (by decide) (by decide)) all0) Hd20.cv (Safe.new hz28))
    · exact Safe.keep K39 (allS (Safe.exa (EL := consts_1) C.2.1.alike Es28 (by decide) (by decide)) (allS (Safe.keep K28 (allS (Safe.exa (EL := consts_1) C.2.1.alike A9 (by decide) (by decide)) all0) Hd20.cv (Safe.new hz28)) all0)) Hd29.cv (Safe.new e)
  refine G.ap 17 (n := 4) (cells' := 6) (slots' := 69) (z := (1 : Int32)) (vs := [(.int 58)]) C X39 (ew hw) Hd40 (wd103 hw) (wS hw) (List.mem_of_getElem? (i := 0) rfl) ⟨by decide +kernel, by first | rfl | decide +kernel⟩ (by decide) rfl d6_15 rfl (by decide +kernel) (by decide) rfl rfl (by decide) (by decide) (fun vm42 T42 h42 a42 b42 k42 C42 X42 Hd42 E42 R42 A42 F42a F42b V42 sf42 => ?_)
  have K43 := K41.ext E42
  have f44 := ((f37.keep K39).ext E42)
  have f46 := (Es39.ext E42)
  have sn47 := sf42 a9 (Safe.exa (EL := consts_1) C42.2.1.alike f46 (by decide) (by decide))
  have sn48 := sf42 t39 (CHr.safe R42 Et39.lt Sf39)
  have Vx49 : Arv Z h42 b42 k42 .byte (own_n (([58] : List Int32)).length) (tx ([58] : List Int32)) (.int 0) := V42
  have f50 := (Fv39.ext E42)
  have f51 := (Fc39.ext E42)
  have f52 := (Fn39.ext E42)
  have f53 := (Et39.ext E42)
  have f54 := (Vt39.ext E42)
  have f57 := ((f35.keep K39).ext E42)
  have f58 := ((f36.keep K39 (ninS ne16 (ninS nb28_pu_ nin0))).ext E42)
  have f59 := ((f38.keep K39 (allS q9 (allS (Nat.le_trans X9.2.1 hz28) all0))).ext E42)
  refine G.D 20 (cells' := 7) (slots' := 103) (argsL := [(.ref a42)]) (St := [(.ref a1), (.ref a1)]) C42 X42 (wd55 hw) (wd56 hw) (wd58 hw) (wd57 hw) (by decide) f46 (wd59 hw) (wd39 hw) (ctAppA hw X42.2.1 a9 t39 k39 (([] : List Int32) ++ F_) cq39 a42 b42 k42 ([58] : List Int32) cz f46 f50 f51 f52 f53 f54 q9 ga39 ns39 A42 F42b F42a Vx49 (Ne.symm sn48.2) (Ne.symm sn47.1) (Ne.symm sn48.1) (by first | omega | (simp only [List.length_append, List.length_cons, List.length_nil]; omega)) hq39 hwl39 (by first | omega | (simp only [List.length_append, List.length_cons, List.length_nil]; omega)) f59 S2 hcz) (lenOf pd30 rfl) rfl d6_17 rfl rfl (by decide) (nQ rfl) rfl rfl (by decide) (by decide) (fun v60 T60 h60 Q60 X60 z60 => ?_)
  obtain ⟨t60, k60, cq60, hv60, K60, hf60, hq60, hwl60, ns60, Es60, Fv60, Fc60, Fn60, Et60, Vt60⟩ := Q60
  subst hv60
  have Hd61 := Hd42.keep K60 (allS (Safe.exa (EL := consts_1) C42.2.1.alike f46 (by decide) (by decide)) (allS (CHr.safe R42 Et39.lt Sf39) all0))
  have K62 := K43.trans K60 (allS (Or.inr sz19) (allS iw39 all0))
  have nb60_ps_ : ps_ ≠ t60 := own_frn hf60 nb39_ps_ f57.lt
  have nb60_pu_ : pu_ ≠ t60 := own_frn hf60 nb39_pu_ f58.lt
  have nb60_a1 : a1 ≠ t60 := own_frn hf60 nb39_a1 f44.lt
  have ga60 : n0 ≤ t60 := own_frg hf60 ga39 X42.2.1
  have iw60 : t60 ∈ [] ∨ h0.size ≤ t60 := own_frw hf60 iw39 K43.1
  have Sf60 : Safe Z consts_1 vm42 h60 t60 := by
    rcases hf60 with e | e
    · rw [e]; exact Safe.keep K60 (allS (Safe.exa (EL := consts_1) C42.2.1.alike f46 (by decide) (by decide)) (allS (CHr.safe R42 Et39.lt Sf39) all0)) Hd42.cv (CHr.safe R42 Et39.lt Sf39)
    · exact Safe.keep K60 (allS (Safe.exa (EL := consts_1) C42.2.1.alike f46 (by decide) (by decide)) (allS (CHr.safe R42 Et39.lt Sf39) all0)) Hd42.cv (Safe.new e)
  refine G.a 21 C42 X60 d6_20 rfl rfl ?_
  have f65 := (f57.keep K60)
  have f66 := (f58.keep K60 (ninS ne16 (ninS nb39_pu_ nin0)))
  have f67 := (f44.keep K60)
  have f70 := (f59.keep K60 (allS q9 (allS ga39 all0)))
  refine G.D 24 (cells' := 8) (slots' := 137) (argsL := [(.int li_)]) (St := [(.ref a1), (.ref a1)]) C42 X60 (wd104 hw) (wd105 hw) (wd107 hw) (wd106 hw) (by decide) Es60 (wd108 hw) (wd39 hw) (ctApiA hw X60.2.1 a9 t60 k60 ((([] : List Int32) ++ F_) ++ ([58] : List Int32)) cq60 do_ dt_ ko kq li_ cz V1 Es60 Fv60 Fc60 Fn60 Et60 Vt60 q9 ga60 ns60 So Sq Vo Vq hV1 hm1 hq60 hwl60 (by first | omega | (simp only [List.length_append, List.length_cons, List.length_nil]; omega)) f70 S2 hcz) (lenOf pd31 rfl) rfl d6_21 rfl rfl (by decide) (nQ rfl) rfl rfl (by decide) (by decide) (fun v71 T71 h71 Q71 X71 z71 => ?_)
  obtain ⟨t71, k71, cq71, hv71, K71, hf71, hq71, hwl71, ns71, Es71, Fv71, Fc71, Fn71, Et71, Vt71⟩ := Q71
  subst hv71
  have Hd72 := Hd61.keep K71 (allS (Safe.exa (EL := consts_1) C42.2.1.alike Es60 (by decide) (by decide)) (allS Sf60 all0))
  have K73 := K62.trans K71 (allS (Or.inr sz19) (allS iw60 all0))
  have nb71_ps_ : ps_ ≠ t71 := own_frn hf71 nb60_ps_ f65.lt
  have nb71_pu_ : pu_ ≠ t71 := own_frn hf71 nb60_pu_ f66.lt
  have nb71_a1 : a1 ≠ t71 := own_frn hf71 nb60_a1 f67.lt
  have ga71 : n0 ≤ t71 := own_frg hf71 ga60 X60.2.1
  have iw71 : t71 ∈ [] ∨ h0.size ≤ t71 := own_frw hf71 iw60 K62.1
  have Sf71 : Safe Z consts_1 vm42 h71 t71 := by
    rcases hf71 with e | e
    · rw [e]; exact Safe.keep K71 (allS (Safe.exa (EL := consts_1) C42.2.1.alike Es60 (by decide) (by decide)) (allS Sf60 all0)) Hd61.cv Sf60
    · exact Safe.keep K71 (allS (Safe.exa (EL := consts_1) C42.2.1.alike Es60 (by decide) (by decide)) (allS Sf60 all0)) Hd61.cv (Safe.new e)
  refine G.ap 26 (n := 4) (cells' := 10) (slots' := 145) (z := (1 : Int32)) (vs := [(.int 58)]) C42 X71 (ew hw) Hd72 (wd103 hw) (wS hw) (List.mem_of_getElem? (i := 0) rfl) ⟨by decide +kernel, by first | rfl | decide +kernel⟩ (by decide) rfl d6_24 rfl (by decide +kernel) (by decide) rfl rfl (by decide) (by decide) (fun vm74 T74 h74 a74 b74 k74 C74 X74 Hd74 E74 R74 A74 F74a F74b V74 sf74 => ?_)
  have K75 := K73.ext E74
  have f76 := ((f67.keep K71).ext E74)
  have f78 := (Es71.ext E74)
  have sn79 := sf74 a9 (Safe.exa (EL := consts_1) C74.2.1.alike f78 (by decide) (by decide))
  have sn80 := sf74 t71 (CHr.safe R74 Et71.lt Sf71)
  have Vx81 : Arv Z h74 b74 k74 .byte (own_n (([58] : List Int32)).length) (tx ([58] : List Int32)) (.int 0) := V74
  have f82 := (Fv71.ext E74)
  have f83 := (Fc71.ext E74)
  have f84 := (Fn71.ext E74)
  have f85 := (Et71.ext E74)
  have f86 := (Vt71.ext E74)
  have f89 := ((f65.keep K71).ext E74)
  have f90 := ((f66.keep K71 (ninS ne16 (ninS nb60_pu_ nin0))).ext E74)
  have f93 := ((f70.keep K71 (allS q9 (allS ga60 all0))).ext E74)
  refine G.D 29 (cells' := 11) (slots' := 179) (argsL := [(.ref a74)]) (St := [(.ref a1), (.ref a1)]) C74 X74 (wd55 hw) (wd56 hw) (wd58 hw) (wd57 hw) (by decide) f78 (wd59 hw) (wd39 hw) (ctAppA hw X74.2.1 a9 t71 k71 (((([] : List Int32) ++ F_) ++ ([58] : List Int32)) ++ (own_dec V1)) cq71 a74 b74 k74 ([58] : List Int32) cz f78 f82 f83 f84 f85 f86 q9 ga71 ns71 A74 F74b F74a Vx81 (Ne.symm sn80.2) (Ne.symm sn79.1) (Ne.symm sn80.1) (by first | omega | (simp only [List.length_append, List.length_cons, List.length_nil]; omega)) hq71 hwl71 (by first | omega | (simp only [List.length_append, List.length_cons, List.length_nil]; omega)) f93 S2 hcz) (lenOf pd30 rfl) rfl d6_26 rfl rfl (by decide) (nQ rfl) rfl rfl (by decide) (by decide) (fun v94 T94 h94 Q94 X94 z94 => ?_)
  obtain ⟨t94, k94, cq94, hv94, K94, hf94, hq94, hwl94, ns94, Es94, Fv94, Fc94, Fn94, Et94, Vt94⟩ := Q94
  subst hv94
  have Hd95 := Hd74.keep K94 (allS (Safe.exa (EL := consts_1) C74.2.1.alike f78 (by decide) (by decide)) (allS (CHr.safe R74 Et71.lt Sf71) all0))
  have K96 := K75.trans K94 (allS (Or.inr sz19) (allS iw71 all0))
  have nb94_ps_ : ps_ ≠ t94 := own_frn hf94 nb71_ps_ f89.lt
  have nb94_pu_ : pu_ ≠ t94 := own_frn hf94 nb71_pu_ f90.lt
  have nb94_a1 : a1 ≠ t94 := own_frn hf94 nb71_a1 f76.lt
  have ga94 : n0 ≤ t94 := own_frg hf94 ga71 X74.2.1
  have iw94 : t94 ∈ [] ∨ h0.size ≤ t94 := own_frw hf94 iw71 K75.1
  have Sf94 : Safe Z consts_1 vm74 h94 t94 := by
    rcases hf94 with e | e
    · rw [e]; exact Safe.keep K94 (allS (Safe.exa (EL := consts_1) C74.2.1.alike f78 (by decide) (by decide)) (allS (CHr.safe R74 Et71.lt Sf71) all0)) Hd74.cv (CHr.safe R74 Et71.lt Sf71)
    · exact Safe.keep K94 (allS (Safe.exa (EL := consts_1) C74.2.1.alike f78 (by decide) (by decide)) (allS (CHr.safe R74 Et71.lt Sf71) all0)) Hd74.cv (Safe.new e)
  refine G.a 30 C74 X94 d6_29 rfl rfl ?_
  have f99 := (f89.keep K94)
  have f100 := (f90.keep K94 (ninS ne16 (ninS nb71_pu_ nin0)))
  have f101 := (f76.keep K94)
  have f106 := (f93.keep K94 (allS q9 (allS ga71 all0)))
  refine G.D 33 (cells' := 12) (slots' := 213) (argsL := [(.int co_)]) (St := [(.ref a1), (.ref a1)]) C74 X94 (wd104 hw) (wd105 hw) (wd107 hw) (wd106 hw) (by decide) Es94 (wd108 hw) (wd39 hw) (ctApiA hw X94.2.1 a9 t94 k94 ((((([] : List Int32) ++ F_) ++ ([58] : List Int32)) ++ (own_dec V1)) ++ ([58] : List Int32)) cq94 do_ dt_ ko kq co_ cz V2 Es94 Fv94 Fc94 Fn94 Et94 Vt94 q9 ga94 ns94 So Sq Vo Vq hV2 hm2 hq94 hwl94 (by first | omega | (simp only [List.length_append, List.length_cons, List.length_nil]; omega)) f106 S2 hcz) (lenOf pd31 rfl) rfl d6_30 rfl rfl (by decide) (nQ rfl) rfl rfl (by decide) (by decide) (fun v107 T107 h107 Q107 X107 z107 => ?_)
  obtain ⟨t107, k107, cq107, hv107, K107, hf107, hq107, hwl107, ns107, Es107, Fv107, Fc107, Fn107, Et107, Vt107⟩ := Q107
  subst hv107
  have Hd108 := Hd95.keep K107 (allS (Safe.exa (EL := consts_1) C74.2.1.alike Es94 (by decide) (by decide)) (allS Sf94 all0))
  have K109 := K96.trans K107 (allS (Or.inr sz19) (allS iw94 all0))
  have nb107_ps_ : ps_ ≠ t107 := own_frn hf107 nb94_ps_ f99.lt
  have nb107_pu_ : pu_ ≠ t107 := own_frn hf107 nb94_pu_ f100.lt
  have nb107_a1 : a1 ≠ t107 := own_frn hf107 nb94_a1 f101.lt
  have ga107 : n0 ≤ t107 := own_frg hf107 ga94 X94.2.1
  have iw107 : t107 ∈ [] ∨ h0.size ≤ t107 := own_frw hf107 iw94 K96.1
  have Sf107 : Safe Z consts_1 vm74 h107 t107 := by
    rcases hf107 with e | e
    · rw [e]; exact Safe.keep K107 (allS (Safe.exa (EL := consts_1) C74.2.1.alike Es94 (by decide) (by decide)) (allS Sf94 all0)) Hd95.cv Sf94
    · exact Safe.keep K107 (allS (Safe.exa (EL := consts_1) C74.2.1.alike Es94 (by decide) (by decide)) (allS Sf94 all0)) Hd95.cv (Safe.new e)
  refine G.ap 35 (n := 8) (cells' := 14) (slots' := 225) (z := (2 : Int32)) (vs := [(.int 58), (.int 32)]) C74 X107 (ew hw) Hd108 (wd126 hw) (wS hw) (List.mem_of_getElem? (i := 1) rfl) ⟨by decide +kernel, by first | rfl | decide +kernel⟩ (by decide) rfl d6_33 rfl (by decide +kernel) (by decide) rfl rfl (by decide) (by decide) (fun vm110 T110 h110 a110 b110 k110 C110 X110 Hd110 E110 R110 A110 F110a F110b V110 sf110 => ?_)
  have K111 := K109.ext E110
  have f112 := ((f101.keep K107).ext E110)
  have f114 := (Es107.ext E110)
  have sn115 := sf110 a9 (Safe.exa (EL := consts_1) C110.2.1.alike f114 (by decide) (by decide))
  have sn116 := sf110 t107 (CHr.safe R110 Et107.lt Sf107)
  have Vx117 : Arv Z h110 b110 k110 .byte (own_n (([58, 32] : List Int32)).length) (tx ([58, 32] : List Int32)) (.int 0) := V110
  have f118 := (Fv107.ext E110)
  have f119 := (Fc107.ext E110)
  have f120 := (Fn107.ext E110)
  have f121 := (Et107.ext E110)
  have f122 := (Vt107.ext E110)
  have f125 := ((f99.keep K107).ext E110)
  have f126 := ((f100.keep K107 (ninS ne16 (ninS nb94_pu_ nin0))).ext E110)
  have f131 := ((f106.keep K107 (allS q9 (allS ga94 all0))).ext E110)
  refine G.D 38 (cells' := 15) (slots' := 259) (argsL := [(.ref a110)]) (St := [(.ref a1), (.ref a1)]) C110 X110 (wd55 hw) (wd56 hw) (wd58 hw) (wd57 hw) (by decide) f114 (wd59 hw) (wd39 hw) (ctAppA hw X110.2.1 a9 t107 k107 (((((([] : List Int32) ++ F_) ++ ([58] : List Int32)) ++ (own_dec V1)) ++ ([58] : List Int32)) ++ (own_dec V2)) cq107 a110 b110 k110 ([58, 32] : List Int32) cz f114 f118 f119 f120 f121 f122 q9 ga107 ns107 A110 F110b F110a Vx117 (Ne.symm sn116.2) (Ne.symm sn115.1) (Ne.symm sn116.1) (by first | omega | (simp only [List.length_append, List.length_cons, List.length_nil]; omega)) hq107 hwl107 (by first | omega | (simp only [List.length_append, List.length_cons, List.length_nil]; omega)) f131 S2 hcz) (lenOf pd30 rfl) rfl d6_35 rfl rfl (by decide) (nQ rfl) rfl rfl (by decide) (by decide) (fun v132 T132 h132 Q132 X132 z132 => ?_)
  obtain ⟨t132, k132, cq132, hv132, K132, hf132, hq132, hwl132, ns132, Es132, Fv132, Fc132, Fn132, Et132, Vt132⟩ := Q132
  subst hv132
  have Hd133 := Hd110.keep K132 (allS (Safe.exa (EL := consts_1) C110.2.1.alike f114 (by decide) (by decide)) (allS (CHr.safe R110 Et107.lt Sf107) all0))
  have K134 := K111.trans K132 (allS (Or.inr sz19) (allS iw107 all0))
  have nb132_ps_ : ps_ ≠ t132 := own_frn hf132 nb107_ps_ f125.lt
  have nb132_pu_ : pu_ ≠ t132 := own_frn hf132 nb107_pu_ f126.lt
  have nb132_a1 : a1 ≠ t132 := own_frn hf132 nb107_a1 f112.lt
  have ga132 : n0 ≤ t132 := own_frg hf132 ga107 X110.2.1
  have iw132 : t132 ∈ [] ∨ h0.size ≤ t132 := own_frw hf132 iw107 K111.1
  have Sf132 : Safe Z consts_1 vm110 h132 t132 := by
    rcases hf132 with e | e
    · rw [e]; exact Safe.keep K132 (allS (Safe.exa (EL := consts_1) C110.2.1.alike f114 (by decide) (by decide)) (allS (CHr.safe R110 Et107.lt Sf107) all0)) Hd110.cv (CHr.safe R110 Et107.lt Sf107)
    · exact Safe.keep K132 (allS (Safe.exa (EL := consts_1) C110.2.1.alike f114 (by decide) (by decide)) (allS (CHr.safe R110 Et107.lt Sf107) all0)) Hd110.cv (Safe.new e)
  refine G.b 39 C110 X132 d6_38 rfl rfl rfl ?_
  have f135 := (f125.keep K132)
  have f136 := ((((((((((((V_ps_.ext E1).ext E9).keep K28 (ninS ne14 nin0)).keep K39 (ninS ne14 (ninS nb28_ps_ nin0))).ext E42).keep K60 (ninS ne14 (ninS nb39_ps_ nin0))).keep K71 (ninS ne14 (ninS nb60_ps_ nin0))).ext E74).keep K94 (ninS ne14 (ninS nb71_ps_ nin0))).keep K107 (ninS ne14 (ninS nb94_ps_ nin0))).ext E110).keep K132 (ninS ne14 (ninS nb107_ps_ nin0)))
  have f137 := ((((((((((((C_ps_.ext E1).ext E9).keep K28 (ninS ne14 nin0)).keep K39 (ninS ne14 (ninS nb28_ps_ nin0))).ext E42).keep K60 (ninS ne14 (ninS nb39_ps_ nin0))).keep K71 (ninS ne14 (ninS nb60_ps_ nin0))).ext E74).keep K94 (ninS ne14 (ninS nb71_ps_ nin0))).keep K107 (ninS ne14 (ninS nb94_ps_ nin0))).ext E110).keep K132 (ninS ne14 (ninS nb107_ps_ nin0)))
  have f138 := (f126.keep K132 (ninS ne16 (ninS nb107_pu_ nin0)))
  have f141 := (f112.keep K132)
  have f148 := (f131.keep K132 (allS q9 (allS ga107 all0)))
  refine G.D 42 (cells' := 16) (slots' := 293) (argsL := [(.ref ps_)]) (St := [(.ref a1), (.ref a1)]) C110 X132 (wd55 hw) (wd56 hw) (wd58 hw) (wd57 hw) (by decide) Es132 (wd59 hw) (wd39 hw) (ctAppA hw X132.2.1 a9 t132 k132 ((((((([] : List Int32) ++ F_) ++ ([58] : List Int32)) ++ (own_dec V1)) ++ ([58] : List Int32)) ++ (own_dec V2)) ++ ([58, 32] : List Int32)) cq132 ps_ pu_ pk_ P_ cz Es132 Fv132 Fc132 Fn132 Et132 Vt132 q9 ga132 ns132 f135 f136 f137 f138 nb132_pu_ ne14 nb132_ps_ (by first | omega | (simp only [List.length_append, List.length_cons, List.length_nil]; omega)) hq132 hwl132 (by first | omega | (simp only [List.length_append, List.length_cons, List.length_nil]; omega)) f148 S2 hcz) (lenOf pd30 rfl) rfl d6_39 rfl rfl (by decide) (nQ rfl) rfl rfl (by decide) (by decide) (fun v149 T149 h149 Q149 X149 z149 => ?_)
  obtain ⟨t149, k149, cq149, hv149, K149, hf149, hq149, hwl149, ns149, Es149, Fv149, Fc149, Fn149, Et149, Vt149⟩ := Q149
  subst hv149
  have Hd150 := Hd133.keep K149 (allS (Safe.exa (EL := consts_1) C110.2.1.alike Es132 (by decide) (by decide)) (allS Sf132 all0))
  have K151 := K134.trans K149 (allS (Or.inr sz19) (allS iw132 all0))
  have ga149 : n0 ≤ t149 := own_frg hf149 ga132 X132.2.1
  have iw149 : t149 ∈ [] ∨ h0.size ≤ t149 := own_frw hf149 iw132 K134.1
  have Sf149 : Safe Z consts_1 vm110 h149 t149 := by
    rcases hf149 with e | e
    · rw [e]; exact Safe.keep K149 (allS (Safe.exa (EL := consts_1) C110.2.1.alike Es132 (by decide) (by decide)) (allS Sf132 all0)) Hd133.cv Sf132
    · exact Safe.keep K149 (allS (Safe.exa (EL := consts_1) C110.2.1.alike Es132 (by decide) (by decide)) (allS Sf132 all0)) Hd133.cv (Safe.new e)
  have f156 := (f141.keep K149)
  have f163 := (f148.keep K149 (allS q9 (allS ga132 all0)))
  refine G.D 45 (cells' := 18) (slots' := 331) (argsL := []) (St := [(.ref a1), (.ref a1)]) C110 X149 (wd127 hw) (wd128 hw) (wd130 hw) (wd129 hw) (by decide) Es149 (wd131 hw) (wd39 hw) (ctToSA hw X149.2.1 a9 t149 k149 (((((((([] : List Int32) ++ F_) ++ ([58] : List Int32)) ++ (own_dec V1)) ++ ([58] : List Int32)) ++ (own_dec V2)) ++ ([58, 32] : List Int32)) ++ P_) cq149 cz Es149 Fv149 Fc149 Fn149 Et149 Vt149 hq149 (by first | omega | (simp only [List.length_append, List.length_cons, List.length_nil]; omega)) hwl149 f163 S2 hcz) (lenOf pd32 rfl) rfl d6_42 rfl rfl (by decide) (nQ rfl) rfl rfl (by decide) (by decide) (fun v164 T164 h164 Q164 X164 z164 => ?_)
  obtain ⟨b164, t164, k164, hv164, K164, hz164, hy164, E164, F164c, F164v, V164⟩ := Q164
  subst hv164
  have Hd165 := Hd150.keep K164 all0
  have K166 := K151.trans K164 all0
  have nb164_a1_b164 : a1 ≠ b164 := Nat.ne_of_lt (Nat.lt_of_lt_of_le f156.lt hz164)
  have nb164_a1_t164 : a1 ≠ t164 := Nat.ne_of_lt (Nat.lt_of_lt_of_le f156.lt hy164)
  refine G.am 46 C110 X164 d6_45 rfl <| G.i 47 (z := 1) C110 X164 d6_46 rfl (by decide) ?_
  have f167 := (f156.keep K164)
  have f168 := (((((((((((((U1.ext E9).keep K28 (ninS ne18 nin0)).keep K39 (ninS ne18 (ninS nb28_a1 nin0))).ext E42).keep K60 (ninS ne18 (ninS nb39_a1 nin0))).keep K71 (ninS ne18 (ninS nb60_a1 nin0))).ext E74).keep K94 (ninS ne18 (ninS nb71_a1 nin0))).keep K107 (ninS ne18 (ninS nb94_a1 nin0))).ext E110).keep K132 (ninS ne18 (ninS nb107_a1 nin0))).keep K149 (ninS ne18 (ninS nb132_a1 nin0))).keep K164 nin0)
  have f169 := (((((((((((((F1_cause.ext E9).keep K28 (ninS ne18 nin0)).keep K39 (ninS ne18 (ninS nb28_a1 nin0))).ext E42).keep K60 (ninS ne18 (ninS nb39_a1 nin0))).keep K71 (ninS ne18 (ninS nb60_a1 nin0))).ext E74).keep K94 (ninS ne18 (ninS nb71_a1 nin0))).keep K107 (ninS ne18 (ninS nb94_a1 nin0))).ext E110).keep K132 (ninS ne18 (ninS nb107_a1 nin0))).keep K149 (ninS ne18 (ninS nb132_a1 nin0))).keep K164 nin0)
  have f170 := (((((((((((((F1_stackTrace.ext E9).keep K28 (ninS ne18 nin0)).keep K39 (ninS ne18 (ninS nb28_a1 nin0))).ext E42).keep K60 (ninS ne18 (ninS nb39_a1 nin0))).keep K71 (ninS ne18 (ninS nb60_a1 nin0))).ext E74).keep K94 (ninS ne18 (ninS nb71_a1 nin0))).keep K107 (ninS ne18 (ninS nb94_a1 nin0))).ext E110).keep K132 (ninS ne18 (ninS nb107_a1 nin0))).keep K149 (ninS ne18 (ninS nb132_a1 nin0))).keep K164 nin0)
  have f171 := (((((((((((((F1_suppressedExceptions.ext E9).keep K28 (ninS ne18 nin0)).keep K39 (ninS ne18 (ninS nb28_a1 nin0))).ext E42).keep K60 (ninS ne18 (ninS nb39_a1 nin0))).keep K71 (ninS ne18 (ninS nb60_a1 nin0))).ext E74).keep K94 (ninS ne18 (ninS nb71_a1 nin0))).keep K107 (ninS ne18 (ninS nb94_a1 nin0))).ext E110).keep K132 (ninS ne18 (ninS nb107_a1 nin0))).keep K149 (ninS ne18 (ninS nb132_a1 nin0))).keep K164 nin0)
  have f172 := (((((((((((((F1_detailMessage.ext E9).keep K28 (ninS ne18 nin0)).keep K39 (ninS ne18 (ninS nb28_a1 nin0))).ext E42).keep K60 (ninS ne18 (ninS nb39_a1 nin0))).keep K71 (ninS ne18 (ninS nb60_a1 nin0))).ext E74).keep K94 (ninS ne18 (ninS nb71_a1 nin0))).keep K107 (ninS ne18 (ninS nb94_a1 nin0))).ext E110).keep K132 (ninS ne18 (ninS nb107_a1 nin0))).keep K149 (ninS ne18 (ninS nb132_a1 nin0))).keep K164 nin0)
  have f173 := (((((((((((((F1_backtrace.ext E9).keep K28 (ninS ne18 nin0)).keep K39 (ninS ne18 (ninS nb28_a1 nin0))).ext E42).keep K60 (ninS ne18 (ninS nb39_a1 nin0))).keep K71 (ninS ne18 (ninS nb60_a1 nin0))).ext E74).keep K94 (ninS ne18 (ninS nb71_a1 nin0))).keep K107 (ninS ne18 (ninS nb94_a1 nin0))).ext E110).keep K132 (ninS ne18 (ninS nb107_a1 nin0))).keep K149 (ninS ne18 (ninS nb132_a1 nin0))).keep K164 nin0)
  have f174 := (((((((((((((F1_depth.ext E9).keep K28 (ninS ne18 nin0)).keep K39 (ninS ne18 (ninS nb28_a1 nin0))).ext E42).keep K60 (ninS ne18 (ninS nb39_a1 nin0))).keep K71 (ninS ne18 (ninS nb60_a1 nin0))).ext E74).keep K94 (ninS ne18 (ninS nb71_a1 nin0))).keep K107 (ninS ne18 (ninS nb94_a1 nin0))).ext E110).keep K132 (ninS ne18 (ninS nb107_a1 nin0))).keep K149 (ninS ne18 (ninS nb132_a1 nin0))).keep K164 nin0)
  have f175 := (((((((((((((F1_located.ext E9).keep K28 (ninS ne18 nin0)).keep K39 (ninS ne18 (ninS nb28_a1 nin0))).ext E42).keep K60 (ninS ne18 (ninS nb39_a1 nin0))).keep K71 (ninS ne18 (ninS nb60_a1 nin0))).ext E74).keep K94 (ninS ne18 (ninS nb71_a1 nin0))).keep K107 (ninS ne18 (ninS nb94_a1 nin0))).ext E110).keep K132 (ninS ne18 (ninS nb107_a1 nin0))).keep K149 (ninS ne18 (ninS nb132_a1 nin0))).keep K164 nin0)
  have f176 := (f163.keep K164 all0)
  refine G.ay 50 (cells' := 19) (slots' := 3083) (argsL := [(.ref b164), .null, (.int 1)]) (St := [(.ref a1)]) C110 X164 (ktk C.2.1 C110.2.1 hTK0) (kfk C.2.1 C110.2.1 hB0) rfl rfl (wd165 hw) (wd166 hw) (by decide) (wd167 hw) (wd33 hw) (ctSe hw X164.2.1 a1 b164 us sp f167 f168 f169 f170 f171 f172 f173 f174 f175 q1 f176 Su Ss hst) (lenOf pd33 rfl) rfl d6_47 rfl rfl (by decide) (nQ rfl) rfl rfl (by decide) (by decide) (fun v177 T177 h177 Q177 X177 z177 => ?_)
  obtain ⟨hv177, K177, Ee177, Ue177, Fm177, Fq177, Fl177⟩ := Q177
  subst hv177
  have Hd178 := Hd165.keep K177 (allS (Safe.exa (EL := consts_1) C110.2.1.alike f167 (by decide) (by decide)) all0)
  have K179 := K166.trans K177 (allS (Or.inr sz6) all0)
  have f180 := (E164.keep K177)
  have f181 := (F164c.keep K177 (ninS (Ne.symm nb164_a1_b164) nin0))
  have f182 := (F164v.keep K177 (ninS (Ne.symm nb164_a1_b164) nin0))
  have f183 := (V164.keep K177 (ninS (Ne.symm nb164_a1_t164) nin0))
  exact G.as C110 X177 (ew hw) Hd178 d6_50 hret rfl rfl hlk (fun _ _ => ⟨a1, b164, t164, k164, rfl, K179, Ee177, Ue177, Fm177, Fq177, Fl177, f180, f181, f182, f183⟩) (by decide) (by decide)
theorem ef36 (m : MethodId) (x0 : Addr) : entryFrame m #[(.ref x0)] 1 = mkF m 0 #[.val (.ref x0)] [] := by first | (simp [entryFrame, mkF, argsToLocals, Value.category]; done) | rfl
theorem ctIsl {l : Launch} {Z : State} {a0 : Array Value} (hw : HW a0 Z) {n0 : Nat} {h0 : Heap} (hn0 : n0 ≤ h0.size) (se : Addr) (Fl : Fld Z h0 se zq9 "located" "Z" (.int 1)) :
 Ctr l Z (⟨zq9, "isLocated", "()Z"⟩ : MethodName) prog_4_method_5_code 1 (some .boolean) (rQ 0 0 0 0) n0 #[(.ref se)] h0 (fun v h => v = some (.int 1) ∧ h = h0) := by
 refine Ctr.of (plainFor_of_name pn5) hn0 ?_
 intro p e s m below meth c T0 C hnm hret hlk X0
 rw [ef36 m se]
 refine G.b 1 C X0 d36_0 rfl rfl rfl <| G.v 4 C X0 (hQ (wd216 hw)) Via.refl Fl d36_1 rfl (fun T1 X1 => ?_)
 exact G.U C X1 d36_4 hret (by simp) (z' := (1 : Int32)) (by decide) hlk (⟨rfl, rfl⟩) (by decide) (by decide)
theorem ef38 (m : MethodId) (x0 : Addr) : entryFrame m #[(.ref x0)] 1 = mkF m 0 #[.val (.ref x0)] [] := by first | (simp [entryFrame, mkF, argsToLocals, Value.category]; done) | rfl
theorem ctGms {l : Launch} {Z : State} {a0 : Array Value} (hw : HW a0 Z) {n0 : Nat} {h0 : Heap} (hn0 : n0 ≤ h0.size) (se ms : Addr) (Fm : Fld Z h0 se zq4 zq25 zq24 (.ref ms)) :
 Ctr l Z (⟨zq4, "getMessage", zq20⟩ : MethodName) jdk_78_method_6_code 1 (some (.object zq0)) (rQ 0 0 0 0) n0 #[(.ref se)] h0 (fun v h => v = some (.ref ms) ∧ h = h0) := by
 refine Ctr.of (by decide +kernel) hn0 ?_
 intro p e s m below meth c T0 C hnm hret hlk X0
 rw [ef38 m se]
 refine G.b 1 C X0 d38_0 rfl rfl rfl <| G.v 4 C X0 (hQ (wd215 hw)) Via.refl Fm d38_1 rfl (fun T1 X1 => ?_)
 exact G.J C X1 d38_4 hret rfl rfl hlk (⟨rfl, rfl⟩) (by decide) (by decide)
theorem ef0 (m : MethodId) (x0 : Int32) (x1 : Int32) (x2 : Int32) (x3 : Int32) (x4 : Int32) : entryFrame m #[(.int x0), (.int x1), (.int x2), (.int x3), (.int x4)] maxLocals = mkF m 0 #[.val (.int x0), .val (.int x1), .val (.int x2), .val (.int x3), .val (.int x4), .unset, .unset, .unset, .unset, .unset, .unset, .unset, .unset, .unset, .unset, .unset, .unset] [] := by first | (simp [entryFrame, mkF, argsToLocals, Value.category, maxLocals]; done) | rfl
theorem ct0 {l : Launch} {Z : State} {a0 : Array Value} (hw : HW a0 Z) {n0 : Nat} {h0 : Heap} (hn0 : n0 ≤ h0.size) (i0 : Int32) (i1 : Int32) (i2 : Int32) (i3 : Int32) (i4 : Int32) (us sp : Addr) (do_ dt_ : Addr) (ko kq : ClassId) (cz : Int32) (fmt : Value) (OD : Old Z n0 h0) (So : Sta Z Z.heap zq2 "DigitOnes" "[B" (.ref do_)) (Sq : Sta Z Z.heap zq2 "DigitTens" "[B" (.ref dt_)) (Vo : Arv Z Z.heap do_ ko .byte (100 : Int32) own_ones (.int 0)) (Vq : Arv Z Z.heap dt_ kq .byte (100 : Int32) own_tens (.int 0)) (Su : Sta Z Z.heap zq4 zq34 zq22 (.ref us)) (Ss : Sta Z Z.heap zq4 zq35 zq23 (.ref sp)) (hst : l.stackTraces = true) (S2 : Sta Z Z.heap zq0 zq5 "Z" (.int cz)) (hcz : ¬ cz = 0) (Sf : Sta Z Z.heap zq10 zq11 zq12 fmt) (hfm : fmt.isRef = true) :
 CtrWK l Z consts_1 [] x code maxLocals ret room_1 n0 #[(.int i0), (.int i1), (.int i2), (.int i3), (.int i4)] h0 (fun v h sfe => v = some (.int 1)) := by
 refine CtrWK.of (plainFor_of_name pn4) hn0 ?_
 intro p e s m below meth c T0 C hnm hret hlk X0 H0 hSf hs0 hTK0 hB0
 rw [ef0 m i0 i1 i2 i3 i4]
 refine G.f 2 C X0 at_0 rfl rfl <| G.i 3 (z := 3) C X0 at_2 rfl (by decide) ?_
 obtain ⟨xf_, h_xf_⟩ : ∃ z : Int32, i4 &&& (3 : Int32) = z := ⟨_, rfl⟩
 refine G.ac 4 (z := xf_) C X0 at_3 rfl h_xf_ <| G.i 5 (z := 2) C X0 at_4 rfl (by decide) ?_
 obtain ⟨F_, hmF_, hxF_⟩ := own_str_ex i0 (own_k4 h_xf_)
 have hlF_ := own_sx_len hxF_
 refine G.o 8 (cells' := 0) (slots' := 0) (argsL := [(.int xf_), (.int 2)]) (St := []) C X0 (wd0 hw) (wd1 hw) (by decide) (wd3 hw) (wd2 hw) (ctMi hw X0.2.1 xf_ (own_n (F_).length) hmF_) (lenOf pd6 rfl) rfl at_5 rfl rfl (by decide) (nQ rfl) rfl rfl (by decide) (by decide) (fun v1 T1 h1 Q1 X1 z1 => ?_)
 obtain ⟨hv1, hh1⟩ := Q1
 subst hv1; rw [hh1] at X1
 refine G.w 10 C X1 at_8 rfl (l' := #[vI i0, vI i1, vI i2, vI i3, vI i4, vI (own_n (F_).length), .unset, .unset, .unset, .unset, .unset, .unset, .unset, .unset, .unset, .unset, .unset]) rfl <| G.f 12 C X1 at_10 rfl rfl <| G.i 13 (z := 2) C X1 at_12 rfl (by decide) <| G.ai 14 (z := ((i4.toUInt32 >>> ((2 : Int32) &&& 31).toUInt32).toInt32)) C X1 at_13 rfl rfl <| G.i 15 (z := 3) C X1 at_14 rfl (by decide) ?_
 obtain ⟨xp_, h_xp_⟩ : ∃ z : Int32, ((i4.toUInt32 >>> ((2 : Int32) &&& 31).toUInt32).toInt32) &&& (3 : Int32) = z := ⟨_, rfl⟩
 refine G.ac 16 (z := xp_) C X1 at_15 rfl h_xp_ <| G.i 17 (z := 2) C X1 at_16 rfl (by decide) ?_
 obtain ⟨P_, hmP_, hxP_⟩ := own_str_ex i1 (own_k4 h_xp_)
 have hlP_ := own_sx_len hxP_
 refine G.o 20 (cells' := 0) (slots' := 0) (argsL := [(.int xp_), (.int 2)]) (St := []) C X1 (wd0 hw) (wd1 hw) (by decide) (wd3 hw) (wd2 hw) (ctMi hw X1.2.1 xp_ (own_n (P_).length) hmP_) (lenOf pd6 rfl) rfl at_17 rfl rfl (by decide) (nQ rfl) rfl rfl (by decide) (by decide) (fun v2 T2 h2 Q2 X2 z2 => ?_)
 obtain ⟨hv2, hh2⟩ := Q2
 subst hv2; rw [hh2] at X2
 refine G.w 22 C X2 at_20 rfl (l' := #[vI i0, vI i1, vI i2, vI i3, vI i4, vI (own_n (F_).length), vI (own_n (P_).length), .unset, .unset, .unset, .unset, .unset, .unset, .unset, .unset, .unset, .unset]) rfl <| G.a 23 C X2 at_22 rfl rfl <| G.f 25 C X2 at_23 rfl rfl <| G.aB 28 (cells' := 6) (slots' := 32) (argsL := [(.int i0), (.int (own_n (F_).length))]) (St := []) C X2 (ew hw) H0 (wd4 hw) (wd5 hw) (by decide) (wd7 hw) (wd6 hw) (ctStr hw X2.2.1 i0 cz F_ hxF_ OD S2 hcz) (fun _ hx => by cases hx) (lenOf pd34 rfl) rfl at_25 rfl rfl (by decide) (nQ rfl) rfl rfl (by decide) (by decide) (fun v3 vm3 T3 h3 Q3 C3 X3 Hd3 R3 => ?_)
 obtain ⟨b3, t3, k3, hv3, K3, E3, F3c, F3v, V3⟩ := Q3
 subst hv3
 refine G.ag 30 C3 X3 at_28 rfl rfl (l' := #[vI i0, vI i1, vI i2, vI i3, vI i4, vI (own_n (F_).length), vI (own_n (P_).length), vR b3, .unset, .unset, .unset, .unset, .unset, .unset, .unset, .unset, .unset]) rfl <| G.a 31 C3 X3 at_30 rfl rfl <| G.f 33 C3 X3 at_31 rfl rfl ?_
 have f4 := (OD.keep K3 all0)
 refine G.aB 36 (cells' := 12) (slots' := 64) (argsL := [(.int i1), (.int (own_n (P_).length))]) (St := []) C3 X3 (ew hw) Hd3 (wd4 hw) (wd5 hw) (by decide) (wd7 hw) (wd6 hw) (ctStr hw X3.2.1 i1 cz P_ hxP_ f4 S2 hcz) (fun _ hx => by cases hx) (lenOf pd34 rfl) rfl at_33 rfl rfl (by decide) (nQ rfl) rfl rfl (by decide) (by decide) (fun v5 vm5 T5 h5 Q5 C5 X5 Hd5 R5 => ?_)
 obtain ⟨b5, t5, k5, hv5, K5, E5, F5c, F5v, V5⟩ := Q5
 subst hv5
 refine G.ag 38 C5 X5 at_36 rfl rfl (l' := #[vI i0, vI i1, vI i2, vI i3, vI i4, vI (own_n (F_).length), vI (own_n (P_).length), vR b3, vR b5, .unset, .unset, .unset, .unset, .unset, .unset, .unset, .unset]) rfl <| G.a 39 C5 X5 at_38 rfl rfl <| G.F 41 C5 X5 (wd30 hw) at_39 rfl ?_
 obtain ⟨li_, h_li_⟩ : ∃ z : Int32, i2 &&& (2147483647 : Int32) = z := ⟨_, rfl⟩
 refine G.ac 42 (z := li_) C5 X5 at_41 rfl h_li_ ?_
 obtain ⟨V1, hV1, hm1⟩ := own_m31 h_li_
 refine G.w 44 C5 X5 at_42 rfl (l' := #[vI i0, vI i1, vI i2, vI i3, vI i4, vI (own_n (F_).length), vI (own_n (P_).length), vR b3, vR b5, vI li_, .unset, .unset, .unset, .unset, .unset, .unset, .unset]) rfl <| G.a 45 C5 X5 at_44 rfl rfl <| G.F 47 C5 X5 (wd30 hw) at_45 rfl ?_
 obtain ⟨co_, h_co_⟩ : ∃ z : Int32, i3 &&& (2147483647 : Int32) = z := ⟨_, rfl⟩
 refine G.ac 48 (z := co_) C5 X5 at_47 rfl h_co_ ?_
 obtain ⟨V2, hV2, hm2⟩ := own_m31 h_co_
 refine G.w 50 C5 X5 at_48 rfl (l' := #[vI i0, vI i1, vI i2, vI i3, vI i4, vI (own_n (F_).length), vI (own_n (P_).length), vR b3, vR b5, vI li_, vI co_, .unset, .unset, .unset, .unset, .unset, .unset]) rfl <| G.P 52 C5 X5 at_50 rfl rfl rfl <| G.f 54 C5 X5 at_52 rfl rfl <| G.f 56 C5 X5 at_54 rfl rfl <| G.P 58 C5 X5 at_56 rfl rfl rfl ?_
 have f6 := (E3.keep K5)
 have f7 := (F3v.keep K5 nin0)
 have f8 := (F3c.keep K5 nin0)
 have f9 := (V3.keep K5 nin0)
 have f10 := (f4.keep K5 all0)
 refine G.aK 61 (cells' := 32) (slots' := 4264) (argsL := [(.ref b3), (.int li_), (.int co_), (.ref b5)]) (St := []) C5 X5 (ew hw) Hd5 (ktk C.2.1 C5.2.1 hTK0) (kfk C.2.1 C5.2.1 hB0) (wd31 hw) (wd32 hw) (by decide) (wd34 hw) (wd33 hw) (ctAtt hw X5.2.1 b3 t3 b5 t5 us sp k3 k5 do_ dt_ ko kq F_ P_ li_ co_ cz V1 V2 fmt f6 f7 f8 f9 E5 F5v F5c V5 So Sq Vo Vq hlF_ hlP_ hV1 hm1 hV2 hm2 f10 Su Ss hst S2 hcz) (fun _ hx => by cases hx) (lenOf pd35 rfl) rfl at_58 rfl rfl (by decide) (nQ rfl) rfl rfl (by decide) (by decide) (fun v11 vm11 T11 h11 Q11 C11 X11 Hd11 R11 => ?_)
 obtain ⟨se11, b11, t11, k11, hv11, K11, Ee11, Ue11, Fm11, Fq11, Fl11, E11, F11c, F11v, V11⟩ := Q11
 subst hv11
 have hD1 := own_dec_len V1
 have hD2 := own_dec_len V2
 have hLA : ∀ c ∈ (((((((([] : List Int32) ++ F_) ++ ([58] : List Int32)) ++ (own_dec V1)) ++ ([58] : List Int32)) ++ (own_dec V2)) ++ ([58, 32] : List Int32)) ++ P_), own_lat c := (own_alA (own_alA (own_alA (own_alA (own_alA (own_alA (own_alA own_l0 (own_sx_lat hxF_)) own_l58) (own_dec_lat V1)) own_l58) (own_dec_lat V2)) own_l5832) (own_sx_lat hxP_))
 have hMb : ((((((((([] : List Int32) ++ F_) ++ ([58] : List Int32)) ++ (own_dec V1)) ++ ([58] : List Int32)) ++ (own_dec V2)) ++ ([58, 32] : List Int32)) ++ P_)).length < 900 := by first | omega | (simp only [List.length_append, List.length_cons, List.length_nil]; omega)
 refine G.ag 63 C11 X11 at_61 rfl rfl (l' := #[vI i0, vI i1, vI i2, vI i3, vI i4, vI (own_n (F_).length), vI (own_n (P_).length), vR b3, vR b5, vI li_, vI co_, vR se11, .unset, .unset, .unset, .unset, .unset]) rfl <| G.P 65 C11 X11 at_63 rfl rfl rfl <| G.D 68 (cells' := 32) (slots' := 4264) (argsL := []) (St := []) C11 X11 (wd218 hw) (wd219 hw) (wd221 hw) (wd220 hw) (by decide) Ee11 (wd222 hw) (wd33 hw) (ctIsl hw X11.2.1 se11 Fl11) (lenOf pd18 rfl) rfl at_65 rfl rfl (by decide) (nQ rfl) rfl rfl (by decide) (by decide) (fun v12 T12 h12 Q12 X12 z12 => ?_)
 obtain ⟨hv12, hh12⟩ := Q12
 subst hv12; rw [hh12] at X12
 refine G.M 73 C11 X12 at_68 (feq (by decide : ¬ (1 : Int32) = 0)).2 (by decide) (by decide) <| G.P 75 C11 X12 at_73 rfl rfl rfl <| G.gc 78 (St := []) (x := ({ cls := zq9, name := "getCause", desc := zq57 } : Jvm.MethodName)) C11 X12 ⟨rfl, rfl⟩ (wd223 hw) (wd224 hw) (wd225 hw) (wd227 hw) (wd226 hw) Ee11 Ue11 Fq11 (wd228 hw) (wd177 hw) (wd180 hw) at_75 rfl rfl (by decide) (nQ rfl) (by decide) (by decide) fun T13 X13 => G.aE 83 C11 X13 at_78 (by decide) (by decide) <| G.P 85 C11 X13 at_83 rfl rfl rfl <| G.aL 88 (cells' := 32) (slots' := 4264) (argsL := []) (St := []) C11 X13 (wd229 hw) (wd230 hw) (wd231 hw) (by decide) (wd233 hw) (wd232 hw) Ee11 (wd234 hw) (wd177 hw) (ctGms hw X13.2.1 se11 b11 Fm11) (lenOf pd32 rfl) rfl at_85 rfl rfl (by decide) (nQ rfl) rfl rfl (by decide) (by decide) (fun v14 T14 h14 Q14 X14 z14 => ?_)
 obtain ⟨hv14, hh14⟩ := Q14
 subst hv14; rw [hh14] at X14
 refine G.ag 90 C11 X14 at_88 rfl rfl (l' := #[vI i0, vI i1, vI i2, vI i3, vI i4, vI (own_n (F_).length), vI (own_n (P_).length), vR b3, vR b5, vI li_, vI co_, vR se11, vR b11, .unset, .unset, .unset, .unset]) rfl <| G.P 92 C11 X14 at_90 rfl rfl rfl <| G.at 97 C11 X14 at_92 (by decide) (by decide) <| G.f 99 C11 X14 at_97 rfl rfl <| G.o 102 (cells' := 32) (slots' := 4264) (argsL := [(.int li_)]) (St := []) C11 X14 (wd235 hw) (wd236 hw) (by decide) (wd237 hw) (wd6 hw) (ctNdA hw X14.2.1 li_ V1 hV1 hm1) (lenOf pd8 rfl) rfl at_99 rfl rfl (by decide) (nQ rfl) rfl rfl (by decide) (by decide) (fun v15 T15 h15 Q15 X15 z15 => ?_)
 obtain ⟨hv15, hh15⟩ := Q15
 subst hv15; rw [hh15] at X15
 refine G.w 104 C11 X15 at_102 rfl (l' := #[vI i0, vI i1, vI i2, vI i3, vI i4, vI (own_n (F_).length), vI (own_n (P_).length), vR b3, vR b5, vI li_, vI co_, vR se11, vR b11, vI (own_n (own_dec V1).length), .unset, .unset, .unset]) rfl <| G.f 106 C11 X15 at_104 rfl rfl <| G.o 109 (cells' := 32) (slots' := 4264) (argsL := [(.int co_)]) (St := []) C11 X15 (wd235 hw) (wd236 hw) (by decide) (wd237 hw) (wd6 hw) (ctNdA hw X15.2.1 co_ V2 hV2 hm2) (lenOf pd8 rfl) rfl at_106 rfl rfl (by decide) (nQ rfl) rfl rfl (by decide) (by decide) (fun v16 T16 h16 Q16 X16 z16 => ?_)
 obtain ⟨hv16, hh16⟩ := Q16
 subst hv16; rw [hh16] at X16
 refine G.w 111 C11 X16 at_109 rfl (l' := #[vI i0, vI i1, vI i2, vI i3, vI i4, vI (own_n (F_).length), vI (own_n (P_).length), vR b3, vR b5, vI li_, vI co_, vR se11, vR b11, vI (own_n (own_dec V1).length), vI (own_n (own_dec V2).length), .unset, .unset]) rfl <| G.f 113 C11 X16 at_111 rfl rfl <| G.i 114 (z := 1) C11 X16 at_113 rfl (by decide) <| G.z 115 (z := (own_n ((F_).length + 1))) C11 X16 at_114 rfl (own_nk (F_).length 1 _ rfl) <| G.f 117 C11 X16 at_115 rfl rfl <| G.z 118 (z := (own_n (((F_).length + 1) + (own_dec V1).length))) C11 X16 at_117 rfl (own_n_add _ _) <| G.i 119 (z := 1) C11 X16 at_118 rfl (by decide) <| G.z 120 (z := (own_n ((((F_).length + 1) + (own_dec V1).length) + 1))) C11 X16 at_119 rfl (own_nk (((F_).length + 1) + (own_dec V1).length) 1 _ rfl) <| G.f 122 C11 X16 at_120 rfl rfl <| G.z 123 (z := (own_n (((((F_).length + 1) + (own_dec V1).length) + 1) + (own_dec V2).length))) C11 X16 at_122 rfl (own_n_add _ _) <| G.i 124 (z := 2) C11 X16 at_123 rfl (by decide) <| G.z 125 (z := (own_n ((((((F_).length + 1) + (own_dec V1).length) + 1) + (own_dec V2).length) + 2))) C11 X16 at_124 rfl (own_nk (((((F_).length + 1) + (own_dec V1).length) + 1) + (own_dec V2).length) 2 _ rfl) <| G.f 127 C11 X16 at_125 rfl rfl <| G.z 128 (z := (own_n (((((((F_).length + 1) + (own_dec V1).length) + 1) + (own_dec V2).length) + 2) + (P_).length))) C11 X16 at_127 rfl (own_n_add _ _) <| G.w 130 C11 X16 at_128 rfl (l' := #[vI i0, vI i1, vI i2, vI i3, vI i4, vI (own_n (F_).length), vI (own_n (P_).length), vR b3, vR b5, vI li_, vI co_, vR se11, vR b11, vI (own_n (own_dec V1).length), vI (own_n (own_dec V2).length), .val (.int (own_n (((((((F_).length + 1) + (own_dec V1).length) + 1) + (own_dec V2).length) + 2) + (P_).length))), .unset]) rfl ?_
 refine G.P 132 C11 X16 at_130 rfl rfl rfl ?_
 have f17 := (f10.keep K11 all0)
 refine G.D 135 (cells' := 32) (slots' := 4264) (argsL := []) (St := []) C11 X16 (wd238 hw) (wd66 hw) (wd68 hw) (wd67 hw) (by decide) E11 (wd69 hw) (wd10 hw) (ctLenA hw X16.2.1 b11 t11 k11 (((((((([] : List Int32) ++ F_) ++ ([58] : List Int32)) ++ (own_dec V1)) ++ ([58] : List Int32)) ++ (own_dec V2)) ++ ([58, 32] : List Int32)) ++ P_) cz E11 F11v F11c V11 f17 S2 hcz) (lenOf pd12 rfl) rfl at_132 rfl rfl (by decide) (nQ rfl) rfl rfl (by decide) (by decide) (fun v18 T18 h18 Q18 X18 z18 => ?_)
 obtain ⟨hv18, hh18⟩ := Q18
 subst hv18; rw [hh18] at X18
 refine G.f 137 C11 X18 at_135 rfl rfl <| G.j 142 C11 X18 at_137 (teq (congrArg own_n (by first | omega | (simp only [List.length_append, List.length_cons, List.length_nil]; omega)))).1 (by decide) (by decide) <| G.i 143 (z := 0) C11 X18 at_142 rfl (by decide) <| G.w 145 C11 X18 at_143 rfl (l' := #[vI i0, vI i1, vI i2, vI i3, vI i4, vI (own_n (F_).length), vI (own_n (P_).length), vR b3, vR b5, vI li_, vI co_, vR se11, vR b11, vI (own_n (own_dec V1).length), vI (own_n (own_dec V2).length), .val (.int (own_n (((((((F_).length + 1) + (own_dec V1).length) + 1) + (own_dec V2).length) + 2) + (P_).length))), vI 0]) rfl <| G.P 147 C11 X18 at_145 rfl rfl rfl <| G.f 149 C11 X18 at_147 rfl rfl <| G.P 151 C11 X18 at_149 rfl rfl rfl ?_
 have f19 := (f6.keep K11)
 have f20 := (f7.keep K11 nin0)
 have f21 := (f8.keep K11 nin0)
 have f22 := (f9.keep K11 nin0)
 refine G.o 154 (cells' := 32) (slots' := 4264) (argsL := [(.ref b11), (.int 0), (.ref b3)]) (St := []) C11 X18 (wd239 hw) (wd240 hw) (by decide) (wd241 hw) (wd6 hw) (ctSaA hw X18.2.1 b11 t11 k11 (((((((([] : List Int32) ++ F_) ++ ([58] : List Int32)) ++ (own_dec V1)) ++ ([58] : List Int32)) ++ (own_dec V2)) ++ ([58, 32] : List Int32)) ++ P_) b3 t3 k3 ([] : List Int32) (([58] : List Int32) ++ ((own_dec V1) ++ (([58] : List Int32) ++ ((own_dec V2) ++ (([58, 32] : List Int32) ++ P_))))) F_ cz fmt E11 F11v F11c V11 f19 f20 f21 f22 (by simp only [List.append_assoc, List.nil_append, List.append_nil]) (own_sx_lat hxF_) hlF_ hMb hLA Sf hfm f17 S2 hcz) (lenOf pd36 rfl) rfl at_151 rfl rfl (by decide) (nQ rfl) rfl rfl (by decide) (by decide) (fun v23 T23 h23 Q23 X23 z23 => ?_)
 obtain ⟨hv23, hh23⟩ := Q23
 subst hv23; rw [hh23] at X23
 refine G.M 159 C11 X23 at_154 (feq (by decide : ¬ (1 : Int32) = 0)).2 (by decide) (by decide) <| G.f 161 C11 X23 at_159 rfl rfl <| G.f 163 C11 X23 at_161 rfl rfl <| G.z 164 (z := (own_n (F_).length)) C11 X23 at_163 rfl (Int32.zero_add _) <| G.w 166 C11 X23 at_164 rfl (l' := #[vI i0, vI i1, vI i2, vI i3, vI i4, vI (own_n (F_).length), vI (own_n (P_).length), vR b3, vR b5, vI li_, vI co_, vR se11, vR b11, vI (own_n (own_dec V1).length), vI (own_n (own_dec V2).length), .val (.int (own_n (((((((F_).length + 1) + (own_dec V1).length) + 1) + (own_dec V2).length) + 2) + (P_).length))), vI (own_n (F_).length)]) rfl <| G.P 168 C11 X23 at_166 rfl rfl rfl <| G.f 170 C11 X23 at_168 rfl rfl <| G.D 173 (cells' := 32) (slots' := 4264) (argsL := [(.int (own_n (F_).length))]) (St := []) C11 X23 (wd242 hw) (wd243 hw) (wd245 hw) (wd244 hw) (by decide) E11 (wd246 hw) (wd10 hw) (ctCaA hw X23.2.1 b11 t11 k11 (((((((([] : List Int32) ++ F_) ++ ([58] : List Int32)) ++ (own_dec V1)) ++ ([58] : List Int32)) ++ (own_dec V2)) ++ ([58, 32] : List Int32)) ++ P_) (own_n (F_).length) fmt cz E11 F11v F11c V11 (own_n_ge (by first | omega | (simp only [List.length_append, List.length_cons, List.length_nil]; omega))) ((own_n_lt (by first | omega | (simp only [List.length_append, List.length_cons, List.length_nil]; omega)) (by first | omega | (simp only [List.length_append, List.length_cons, List.length_nil]; omega))).mpr (by first | omega | (simp only [List.length_append, List.length_cons, List.length_nil]; omega))) (by rw [own_n_cl (by first | omega | (simp only [List.length_append, List.length_cons, List.length_nil]; omega))]; first | omega | (simp only [List.length_append, List.length_cons, List.length_nil]; omega)) hLA f17 Sf hfm S2 hcz) (lenOf pd25 rfl) rfl at_170 rfl rfl (by decide) (nQ rfl) rfl rfl (by decide) (by decide) (fun v24 T24 h24 Q24 X24 z24 => ?_)
 obtain ⟨hv24, hh24⟩ := Q24
 subst hv24; rw [hh24] at X24
 refine G.d 175 (z := 58) C11 X24 at_173 rfl (by decide) <| G.j 180 C11 X24 at_175 (teq (by rw [own_n_cl (by first | omega | (simp only [List.length_append, List.length_cons, List.length_nil]; omega)), show (((((((([] : List Int32) ++ F_) ++ ([58] : List Int32)) ++ (own_dec V1)) ++ ([58] : List Int32)) ++ (own_dec V2)) ++ ([58, 32] : List Int32)) ++ P_) = F_ ++ (58 : Int32) :: ((own_dec V1) ++ (([58] : List Int32) ++ ((own_dec V2) ++ (([58, 32] : List Int32) ++ P_)))) from by simp only [List.append_assoc, List.nil_append, List.cons_append, List.append_nil]]; exact own_at_mid F_ ((own_dec V1) ++ (([58] : List Int32) ++ ((own_dec V2) ++ (([58, 32] : List Int32) ++ P_)))) 58)).1 (by decide) (by decide) <| G.f 182 C11 X24 at_180 rfl rfl <| G.i 183 (z := 1) C11 X24 at_182 rfl (by decide) <| G.z 184 (z := (own_n ((F_ ++ ([58] : List Int32))).length)) C11 X24 at_183 rfl (own_n_app1 F_ 58) <| G.w 186 C11 X24 at_184 rfl (l' := #[vI i0, vI i1, vI i2, vI i3, vI i4, vI (own_n (F_).length), vI (own_n (P_).length), vR b3, vR b5, vI li_, vI co_, vR se11, vR b11, vI (own_n (own_dec V1).length), vI (own_n (own_dec V2).length), .val (.int (own_n (((((((F_).length + 1) + (own_dec V1).length) + 1) + (own_dec V2).length) + 2) + (P_).length))), .val (.int (own_n ((F_ ++ ([58] : List Int32))).length))]) rfl <| G.P 188 C11 X24 at_186 rfl rfl rfl <| G.f 190 C11 X24 at_188 rfl rfl <| G.f 192 C11 X24 at_190 rfl rfl <| G.o 195 (cells' := 32) (slots' := 4264) (argsL := [(.ref b11), (.int (own_n ((F_ ++ ([58] : List Int32))).length)), (.int li_)]) (St := []) C11 X24 (wd264 hw) (wd265 hw) (by decide) (wd266 hw) (wd6 hw) (ctDgA hw X24.2.1 b11 t11 k11 (((((((([] : List Int32) ++ F_) ++ ([58] : List Int32)) ++ (own_dec V1)) ++ ([58] : List Int32)) ++ (own_dec V2)) ++ ([58, 32] : List Int32)) ++ P_) (F_ ++ ([58] : List Int32)) (([58] : List Int32) ++ ((own_dec V2) ++ (([58, 32] : List Int32) ++ P_))) li_ cz fmt V1 E11 F11v F11c V11 (by simp only [List.append_assoc, List.nil_append, List.append_nil]) hV1 hm1 hMb hLA Sf hfm f17 S2 hcz) (lenOf pd37 rfl) rfl at_192 rfl rfl (by decide) (nQ rfl) rfl rfl (by decide) (by decide) (fun v25 T25 h25 Q25 X25 z25 => ?_)
 obtain ⟨hv25, hh25⟩ := Q25
 subst hv25; rw [hh25] at X25
 refine G.M 200 C11 X25 at_195 (feq (by decide : ¬ (1 : Int32) = 0)).2 (by decide) (by decide) <| G.f 202 C11 X25 at_200 rfl rfl <| G.f 204 C11 X25 at_202 rfl rfl <| G.z 205 (z := (own_n (((F_ ++ ([58] : List Int32)) ++ (own_dec V1))).length)) C11 X25 at_204 rfl (own_n_app _ _) <| G.w 207 C11 X25 at_205 rfl (l' := #[vI i0, vI i1, vI i2, vI i3, vI i4, vI (own_n (F_).length), vI (own_n (P_).length), vR b3, vR b5, vI li_, vI co_, vR se11, vR b11, vI (own_n (own_dec V1).length), vI (own_n (own_dec V2).length), .val (.int (own_n (((((((F_).length + 1) + (own_dec V1).length) + 1) + (own_dec V2).length) + 2) + (P_).length))), .val (.int (own_n (((F_ ++ ([58] : List Int32)) ++ (own_dec V1))).length))]) rfl <| G.P 209 C11 X25 at_207 rfl rfl rfl <| G.f 211 C11 X25 at_209 rfl rfl <| G.D 214 (cells' := 32) (slots' := 4264) (argsL := [(.int (own_n (((F_ ++ ([58] : List Int32)) ++ (own_dec V1))).length))]) (St := []) C11 X25 (wd242 hw) (wd243 hw) (wd245 hw) (wd244 hw) (by decide) E11 (wd246 hw) (wd10 hw) (ctCaA hw X25.2.1 b11 t11 k11 (((((((([] : List Int32) ++ F_) ++ ([58] : List Int32)) ++ (own_dec V1)) ++ ([58] : List Int32)) ++ (own_dec V2)) ++ ([58, 32] : List Int32)) ++ P_) (own_n (((F_ ++ ([58] : List Int32)) ++ (own_dec V1))).length) fmt cz E11 F11v F11c V11 (own_n_ge (by first | omega | (simp only [List.length_append, List.length_cons, List.length_nil]; omega))) ((own_n_lt (by first | omega | (simp only [List.length_append, List.length_cons, List.length_nil]; omega)) (by first | omega | (simp only [List.length_append, List.length_cons, List.length_nil]; omega))).mpr (by first | omega | (simp only [List.length_append, List.length_cons, List.length_nil]; omega))) (by rw [own_n_cl (by first | omega | (simp only [List.length_append, List.length_cons, List.length_nil]; omega))]; first | omega | (simp only [List.length_append, List.length_cons, List.length_nil]; omega)) hLA f17 Sf hfm S2 hcz) (lenOf pd25 rfl) rfl at_211 rfl rfl (by decide) (nQ rfl) rfl rfl (by decide) (by decide) (fun v26 T26 h26 Q26 X26 z26 => ?_)
 obtain ⟨hv26, hh26⟩ := Q26
 subst hv26; rw [hh26] at X26
 refine G.d 216 (z := 58) C11 X26 at_214 rfl (by decide) <| G.j 221 C11 X26 at_216 (teq (by rw [own_n_cl (by first | omega | (simp only [List.length_append, List.length_cons, List.length_nil]; omega)), show (((((((([] : List Int32) ++ F_) ++ ([58] : List Int32)) ++ (own_dec V1)) ++ ([58] : List Int32)) ++ (own_dec V2)) ++ ([58, 32] : List Int32)) ++ P_) = ((F_ ++ ([58] : List Int32)) ++ (own_dec V1)) ++ (58 : Int32) :: ((own_dec V2) ++ (([58, 32] : List Int32) ++ P_)) from by simp only [List.append_assoc, List.nil_append, List.cons_append, List.append_nil]]; exact own_at_mid ((F_ ++ ([58] : List Int32)) ++ (own_dec V1)) ((own_dec V2) ++ (([58, 32] : List Int32) ++ P_)) 58)).1 (by decide) (by decide) <| G.f 223 C11 X26 at_221 rfl rfl <| G.i 224 (z := 1) C11 X26 at_223 rfl (by decide) <| G.z 225 (z := (own_n ((((F_ ++ ([58] : List Int32)) ++ (own_dec V1)) ++ ([58] : List Int32))).length)) C11 X26 at_224 rfl (own_n_app1 ((F_ ++ ([58] : List Int32)) ++ (own_dec V1)) 58) <| G.w 227 C11 X26 at_225 rfl (l' := #[vI i0, vI i1, vI i2, vI i3, vI i4, vI (own_n (F_).length), vI (own_n (P_).length), vR b3, vR b5, vI li_, vI co_, vR se11, vR b11, vI (own_n (own_dec V1).length), vI (own_n (own_dec V2).length), .val (.int (own_n (((((((F_).length + 1) + (own_dec V1).length) + 1) + (own_dec V2).length) + 2) + (P_).length))), .val (.int (own_n ((((F_ ++ ([58] : List Int32)) ++ (own_dec V1)) ++ ([58] : List Int32))).length))]) rfl <| G.P 229 C11 X26 at_227 rfl rfl rfl <| G.f 231 C11 X26 at_229 rfl rfl <| G.f 233 C11 X26 at_231 rfl rfl <| G.o 236 (cells' := 32) (slots' := 4264) (argsL := [(.ref b11), (.int (own_n ((((F_ ++ ([58] : List Int32)) ++ (own_dec V1)) ++ ([58] : List Int32))).length)), (.int co_)]) (St := []) C11 X26 (wd264 hw) (wd265 hw) (by decide) (wd266 hw) (wd6 hw) (ctDgA hw X26.2.1 b11 t11 k11 (((((((([] : List Int32) ++ F_) ++ ([58] : List Int32)) ++ (own_dec V1)) ++ ([58] : List Int32)) ++ (own_dec V2)) ++ ([58, 32] : List Int32)) ++ P_) (((F_ ++ ([58] : List Int32)) ++ (own_dec V1)) ++ ([58] : List Int32)) (([58, 32] : List Int32) ++ P_) co_ cz fmt V2 E11 F11v F11c V11 (by simp only [List.append_assoc, List.nil_append, List.append_nil]) hV2 hm2 hMb hLA Sf hfm f17 S2 hcz) (lenOf pd37 rfl) rfl at_233 rfl rfl (by decide) (nQ rfl) rfl rfl (by decide) (by decide) (fun v27 T27 h27 Q27 X27 z27 => ?_)
 obtain ⟨hv27, hh27⟩ := Q27
 subst hv27; rw [hh27] at X27
 refine G.M 241 C11 X27 at_236 (feq (by decide : ¬ (1 : Int32) = 0)).2 (by decide) (by decide) <| G.f 243 C11 X27 at_241 rfl rfl <| G.f 245 C11 X27 at_243 rfl rfl <| G.z 246 (z := (own_n (((((F_ ++ ([58] : List Int32)) ++ (own_dec V1)) ++ ([58] : List Int32)) ++ (own_dec V2))).length)) C11 X27 at_245 rfl (own_n_app _ _) <| G.w 248 C11 X27 at_246 rfl (l' := #[vI i0, vI i1, vI i2, vI i3, vI i4, vI (own_n (F_).length), vI (own_n (P_).length), vR b3, vR b5, vI li_, vI co_, vR se11, vR b11, vI (own_n (own_dec V1).length), vI (own_n (own_dec V2).length), .val (.int (own_n (((((((F_).length + 1) + (own_dec V1).length) + 1) + (own_dec V2).length) + 2) + (P_).length))), .val (.int (own_n (((((F_ ++ ([58] : List Int32)) ++ (own_dec V1)) ++ ([58] : List Int32)) ++ (own_dec V2))).length))]) rfl <| G.P 250 C11 X27 at_248 rfl rfl rfl <| G.f 252 C11 X27 at_250 rfl rfl <| G.D 255 (cells' := 32) (slots' := 4264) (argsL := [(.int (own_n (((((F_ ++ ([58] : List Int32)) ++ (own_dec V1)) ++ ([58] : List Int32)) ++ (own_dec V2))).length))]) (St := []) C11 X27 (wd242 hw) (wd243 hw) (wd245 hw) (wd244 hw) (by decide) E11 (wd246 hw) (wd10 hw) (ctCaA hw X27.2.1 b11 t11 k11 (((((((([] : List Int32) ++ F_) ++ ([58] : List Int32)) ++ (own_dec V1)) ++ ([58] : List Int32)) ++ (own_dec V2)) ++ ([58, 32] : List Int32)) ++ P_) (own_n (((((F_ ++ ([58] : List Int32)) ++ (own_dec V1)) ++ ([58] : List Int32)) ++ (own_dec V2))).length) fmt cz E11 F11v F11c V11 (own_n_ge (by first | omega | (simp only [List.length_append, List.length_cons, List.length_nil]; omega))) ((own_n_lt (by first | omega | (simp only [List.length_append, List.length_cons, List.length_nil]; omega)) (by first | omega | (simp only [List.length_append, List.length_cons, List.length_nil]; omega))).mpr (by first | omega | (simp only [List.length_append, List.length_cons, List.length_nil]; omega))) (by rw [own_n_cl (by first | omega | (simp only [List.length_append, List.length_cons, List.length_nil]; omega))]; first | omega | (simp only [List.length_append, List.length_cons, List.length_nil]; omega)) hLA f17 Sf hfm S2 hcz) (lenOf pd25 rfl) rfl at_252 rfl rfl (by decide) (nQ rfl) rfl rfl (by decide) (by decide) (fun v28 T28 h28 Q28 X28 z28 => ?_)
 obtain ⟨hv28, hh28⟩ := Q28
 subst hv28; rw [hh28] at X28
 refine G.d 257 (z := 58) C11 X28 at_255 rfl (by decide) <| G.j 262 C11 X28 at_257 (teq (by rw [own_n_cl (by first | omega | (simp only [List.length_append, List.length_cons, List.length_nil]; omega)), show (((((((([] : List Int32) ++ F_) ++ ([58] : List Int32)) ++ (own_dec V1)) ++ ([58] : List Int32)) ++ (own_dec V2)) ++ ([58, 32] : List Int32)) ++ P_) = ((((F_ ++ ([58] : List Int32)) ++ (own_dec V1)) ++ ([58] : List Int32)) ++ (own_dec V2)) ++ (58 : Int32) :: ((32 : Int32) :: P_) from by simp only [List.append_assoc, List.nil_append, List.cons_append, List.append_nil]]; exact own_at_mid ((((F_ ++ ([58] : List Int32)) ++ (own_dec V1)) ++ ([58] : List Int32)) ++ (own_dec V2)) ((32 : Int32) :: P_) 58)).1 (by decide) (by decide) <| G.P 264 C11 X28 at_262 rfl rfl rfl <| G.f 266 C11 X28 at_264 rfl rfl <| G.i 267 (z := 1) C11 X28 at_266 rfl (by decide) <| G.z 268 (z := (own_n ((((((F_ ++ ([58] : List Int32)) ++ (own_dec V1)) ++ ([58] : List Int32)) ++ (own_dec V2))).length + 1))) C11 X28 at_267 rfl (own_nk (((((F_ ++ ([58] : List Int32)) ++ (own_dec V1)) ++ ([58] : List Int32)) ++ (own_dec V2))).length 1 _ rfl) <| G.D 271 (cells' := 32) (slots' := 4264) (argsL := [(.int (own_n ((((((F_ ++ ([58] : List Int32)) ++ (own_dec V1)) ++ ([58] : List Int32)) ++ (own_dec V2))).length + 1)))]) (St := []) C11 X28 (wd242 hw) (wd243 hw) (wd245 hw) (wd244 hw) (by decide) E11 (wd246 hw) (wd10 hw) (ctCaA hw X28.2.1 b11 t11 k11 (((((((([] : List Int32) ++ F_) ++ ([58] : List Int32)) ++ (own_dec V1)) ++ ([58] : List Int32)) ++ (own_dec V2)) ++ ([58, 32] : List Int32)) ++ P_) (own_n ((((((F_ ++ ([58] : List Int32)) ++ (own_dec V1)) ++ ([58] : List Int32)) ++ (own_dec V2))).length + 1)) fmt cz E11 F11v F11c V11 (own_n_ge (by first | omega | (simp only [List.length_append, List.length_cons, List.length_nil]; omega))) ((own_n_lt (by first | omega | (simp only [List.length_append, List.length_cons, List.length_nil]; omega)) (by first | omega | (simp only [List.length_append, List.length_cons, List.length_nil]; omega))).mpr (by first | omega | (simp only [List.length_append, List.length_cons, List.length_nil]; omega))) (by rw [own_n_cl (by first | omega | (simp only [List.length_append, List.length_cons, List.length_nil]; omega))]; first | omega | (simp only [List.length_append, List.length_cons, List.length_nil]; omega)) hLA f17 Sf hfm S2 hcz) (lenOf pd25 rfl) rfl at_268 rfl rfl (by decide) (nQ rfl) rfl rfl (by decide) (by decide) (fun v29 T29 h29 Q29 X29 z29 => ?_)
 obtain ⟨hv29, hh29⟩ := Q29
 subst hv29; rw [hh29] at X29
 refine G.d 273 (z := 32) C11 X29 at_271 rfl (by decide) <| G.j 278 C11 X29 at_273 (teq (by rw [own_n_cl (by first | omega | (simp only [List.length_append, List.length_cons, List.length_nil]; omega)), show (((((((([] : List Int32) ++ F_) ++ ([58] : List Int32)) ++ (own_dec V1)) ++ ([58] : List Int32)) ++ (own_dec V2)) ++ ([58, 32] : List Int32)) ++ P_) = ((((F_ ++ ([58] : List Int32)) ++ (own_dec V1)) ++ ([58] : List Int32)) ++ (own_dec V2)) ++ (58 : Int32) :: (32 : Int32) :: P_ from by simp only [List.append_assoc, List.nil_append, List.cons_append, List.append_nil]]; exact own_at_mid1 ((((F_ ++ ([58] : List Int32)) ++ (own_dec V1)) ++ ([58] : List Int32)) ++ (own_dec V2)) P_ 58 32)).1 (by decide) (by decide) <| G.f 280 C11 X29 at_278 rfl rfl <| G.i 281 (z := 2) C11 X29 at_280 rfl (by decide) <| G.z 282 (z := (own_n ((((((F_ ++ ([58] : List Int32)) ++ (own_dec V1)) ++ ([58] : List Int32)) ++ (own_dec V2)) ++ ([58, 32] : List Int32))).length)) C11 X29 at_281 rfl (own_n_app ((((F_ ++ ([58] : List Int32)) ++ (own_dec V1)) ++ ([58] : List Int32)) ++ (own_dec V2)) ([58, 32] : List Int32)) <| G.w 284 C11 X29 at_282 rfl (l' := #[vI i0, vI i1, vI i2, vI i3, vI i4, vI (own_n (F_).length), vI (own_n (P_).length), vR b3, vR b5, vI li_, vI co_, vR se11, vR b11, vI (own_n (own_dec V1).length), vI (own_n (own_dec V2).length), .val (.int (own_n (((((((F_).length + 1) + (own_dec V1).length) + 1) + (own_dec V2).length) + 2) + (P_).length))), .val (.int (own_n ((((((F_ ++ ([58] : List Int32)) ++ (own_dec V1)) ++ ([58] : List Int32)) ++ (own_dec V2)) ++ ([58, 32] : List Int32))).length))]) rfl <| G.P 286 C11 X29 at_284 rfl rfl rfl <| G.f 288 C11 X29 at_286 rfl rfl <| G.P 290 C11 X29 at_288 rfl rfl rfl ?_
 have f30 := (E5.keep K11)
 have f31 := (F5v.keep K11 nin0)
 have f32 := (F5c.keep K11 nin0)
 have f33 := (V5.keep K11 nin0)
 refine G.o 293 (cells' := 32) (slots' := 4264) (argsL := [(.ref b11), (.int (own_n ((((((F_ ++ ([58] : List Int32)) ++ (own_dec V1)) ++ ([58] : List Int32)) ++ (own_dec V2)) ++ ([58, 32] : List Int32))).length)), (.ref b5)]) (St := []) C11 X29 (wd239 hw) (wd240 hw) (by decide) (wd241 hw) (wd6 hw) (ctSaA hw X29.2.1 b11 t11 k11 (((((((([] : List Int32) ++ F_) ++ ([58] : List Int32)) ++ (own_dec V1)) ++ ([58] : List Int32)) ++ (own_dec V2)) ++ ([58, 32] : List Int32)) ++ P_) b5 t5 k5 (((((F_ ++ ([58] : List Int32)) ++ (own_dec V1)) ++ ([58] : List Int32)) ++ (own_dec V2)) ++ ([58, 32] : List Int32)) ([] : List Int32) P_ cz fmt E11 F11v F11c V11 f30 f31 f32 f33 (by simp only [List.append_assoc, List.nil_append, List.append_nil]) (own_sx_lat hxP_) hlP_ hMb hLA Sf hfm f17 S2 hcz) (lenOf pd36 rfl) rfl at_290 rfl rfl (by decide) (nQ rfl) rfl rfl (by decide) (by decide) (fun v34 T34 h34 Q34 X34 z34 => ?_)
 obtain ⟨hv34, hh34⟩ := Q34
 subst hv34; rw [hh34] at X34
 exact G.aI C11 X34 (ew hw) Hd11 at_293 hret (by simp) (z' := (1 : Int32)) (by decide) hlk (fun _ _ => rfl) (by decide) (by decide)
theorem comes_1 {Post : Tables → Env → Array Value → State → Outcome → State → Prop} (hpost : ∀ tb e args s v u, (limb_1_1.after args s (.returned v) u = true ∧ limb_1_2.after args s (.returned v) u = true ∧ True) → FramedW s (.returned v) u (Jvm.fieldLocs frame_1_writes args s ++ Jvm.arrayLocs frame_1_arrays args s ++ Jvm.staticLocs frame_1_statics s) 40 8896 → Post tb e args s (.returned v) u) :
    ArmFor flags0 classFile x code maxLocals ret World_1 tables_1 room_1 Calls_1 rest_1 Pre_1 Post := by
  intro l hfl _ _ p e ha hc hk s m args below hf hA hF happ hP
  obtain ⟨hcalls, hrest, hpre⟩ := hP
  obtain ⟨-, -, -, hnamed, -, -, -, hat⟩ := (Spec.applies_iff hf).mp happ
  obtain ⟨hg, hn⟩ := and_e (Cond.before_iff.mp (show (Jvm.Cond.and given_1 narrow_1).before args s = true from hpre))
  obtain ⟨g1, g2⟩ := and_e hg
  obtain ⟨g3, g4⟩ := and_e g2
  obtain ⟨g5, g6⟩ := and_e g4
  obtain ⟨g7, g8⟩ := and_e g6
  obtain ⟨g9, g10⟩ := and_e g8
  obtain ⟨w0, w1, w2, w3, w4, rfl⟩ : ∃ w0 w1 w2 w3 w4 : Value, args = #[w0, w1, w2, w3, w4] := by
    have hs : args.size = 5 := by simpa [Cond.value, given_1] using g1
    obtain ⟨L⟩ := args
    match L, hs with
    | [w0, w1, w2, w3, w4], _ => exact ⟨w0, w1, w2, w3, w4, rfl⟩
  have hw := fun d (hd : d ∈ tables_1) => atoms_spec (ws := Jvm.Cond.code x code maxLocals ret :: tables_1) hat d (List.mem_cons_of_mem _ hd)
  have hfit : Fit s := fun {y c} hc i hi => by
    obtain ⟨ha, rfl⟩ := Array.getElem?_eq_some_iff.mp hc
    have q := List.all_eq_true.mp ((Array.all_eq_true_iff_forall_mem.mp hF) _ (Array.getElem_mem ha)) i (List.mem_range.mpr hi)
    simpa [Array.getElem?_eq_getElem hi] using q
  obtain ⟨hsets, hown0⟩ := atoms_of _ (rest_1_c_eq ▸ (show rest_1_c.before _ s = true from hrest))
  obtain ⟨i0, ei0⟩ := is_v g3
  obtain rfl : w0 = (.int i0) := Option.some.inj ei0
  obtain ⟨i1, ei1⟩ := is_v g5
  obtain rfl : w1 = (.int i1) := Option.some.inj ei1
  obtain ⟨i2, ei2⟩ := is_v g7
  obtain rfl : w2 = (.int i2) := Option.some.inj ei2
  obtain ⟨i3, ei3⟩ := is_v g9
  obtain rfl : w3 = (.int i3) := Option.some.inj ei3
  obtain ⟨i4, ei4⟩ := is_v g10
  obtain rfl : w4 = (.int i4) := Option.some.inj ei4
  obtain ⟨do_, dt_, us, sp, ko, kq, cz, fmt, So, Sq, Vo, Vq, Su, Ss, Sf, hfm, S2, hcz⟩ := own_sets hsets (wd23 hw)
  have hst : l.stackTraces = true := own_st hfl
  obtain ⟨n, o, h1, h2, h3, _, L, rfl, ⟨⟨rfl, -⟩, N⟩, hC, hq⟩ := ct0 (l := l) (Z := s) hw (n0 := s.heap.size) (h0 := s.heap) (Nat.le_refl _) i0 i1 i2 i3 i4 us sp do_ dt_ ko kq cz fmt (Old.start s) So Sq Vo Vq Su Ss hst S2 hcz Sf hfm tables_1 p e ha hc hk s m _ below hf ((Spec.applies_iff_loose hf).mp happ).1 ⟨rfl, State.Warmed39.refl s, rfl, (CHv.start (ew hw) hcalls.2.2.1 (hsets _ (List.mem_of_getElem? (i := 2) rfl)) (wd23 hw) (wd9 hw)), fun _ hx => by cases hx⟩ ⟨own_mk hcalls.2.1, own_fk hcalls.1 hf⟩
  refine ⟨n, _, h1, h2, h3, hpost _ _ _ _ _ _ ⟨Cond.after_iff.mpr rfl, Cond.after_iff.mpr (eq_i res_at (Term.int_eval (1)) rfl), trivial⟩ ⟨hq.1, hq.2.1, hq.2.2.1, (hq.2.2.2.sift fun y hy => Or.inr (N y hy)).mono (by decide) (by decide)⟩⟩
theorem main_1_1 : Claimed_1_1 := comes_1 fun _ _ _ _ _ _ h hF => ⟨h.1, hF⟩
theorem main_1_2 : Claimed_1_2 := comes_1 fun _ _ _ _ _ _ h hF => ⟨h.2.1, hF⟩
end Jvm.Pilot.@@N@@
namespace Jvm.Pilot.@@N@@
open Jvm Jvm.ClassFile Sem Op Lib Jvm.Free Jvm.Stand Jvm.Pilot.@@N@@.Jvm.D
/-! MADE BY PROGRAM (witnessworld.py) out of the Statement's table words and the real class files: 43 classes; the members and pool entries that the words name. The judged class is class 1, her method 1. -/
namespace start1
open Jvm.ClassFile
def u (s : String) : CpInfo := .utf8 (stringToUtf16 s)
/-- a pool by its gaps: so many unusable entries, then the entry; so many at the end -/
def gap : Nat → List CpInfo → List CpInfo
  | 0, r => r
  | n + 1, r => .unusable :: gap n r
def poolList (es : List (Nat × CpInfo)) (last : Nat) : List CpInfo := es.foldr (fun e r => gap e.1 (e.2 :: r)) (gap last [])
def pool (es : List (Nat × CpInfo)) (last : Nat) : Array CpInfo := ⟨poolList es last⟩
def fileOf (pool : Array CpInfo) (this : Nat) (attrs : Array Attribute := #[]) (ms : Array MethodInfo := #[]) (fl : Nat := 33) (sup : Nat := 0) (ifs : Array Nat := #[]) (fds : Array FieldInfo := #[]) : ClassFile where
  minorVersion := 0
  majorVersion := 65
  constantPool := pool
  accessFlags := fl
  thisClass := this
  superClass := sup
  interfaces := ifs
  fields := fds
  methods := ms
  attributes := attrs
def plain (name : String) (sup : Option ClassId) : Class where
  name := name
  kind := .ordinary
  loader := none
  accessFlags := 33
  super := sup
  interfaces := #[]
  cf := none
  fields := #[]
  methods := #[]
  instanceTypes := #[]
  staticTypes := #[]
  resolved := #[]
  callSites := []
  init := .initialized
  statics := none
  mirror := none

def pool0 : Array CpInfo := pool [(5, u "<init>"), (0, u "()V"), (1, .class_ 10), (1, u zq6), (85, u "clone"), (0, u "()Ljava/lang/Object;")] 26

def k0c0 : Code := { maxStack := 0, maxLocals := 1, code := object_method_1_code, exceptionTable := #[], attributes := #[] }
def k0m0 : Method := { name := "<init>", desc := "()V", sig := { parameters := [], returnType := none }, accessFlags := 1, code := some k0c0 }
def k0m1 : Method := { name := "clone", desc := "()Ljava/lang/Object;", sig := { parameters := [], returnType := some (.object zq6) }, accessFlags := 260, code := none }
/-- java/lang/Object -/
def k0 : Class := { plain zq6 none with
  accessFlags := 33
  interfaces := #[]
  cf := some (fileOf pool0 8 #[] #[{ accessFlags := 1, nameIndex := 5, descriptorIndex := 6, attributes := #[] }, { accessFlags := 260, nameIndex := 96, descriptorIndex := 97, attributes := #[] }] 33 0 #[] #[])
  fields := #[]
  methods := #[k0m0, k0m1]
  instanceTypes := #[]
  staticTypes := #[]
  resolved := Array.replicate 124 none
  statics := none }

def pool1 : Array CpInfo := pool [(2, .class_ 4), (1, u zq6), (0, u "<init>"), (0, u "()V"), (0, .methodref 8 9), (0, .class_ 10), (0, .nameAndType 11 12), (0, u zq17), (0, u "min"), (0, u "(II)I"), (0, .methodref 14 15), (0, .class_ 16), (0, .nameAndType 17 18), (0, u zq7), (0, u "str"), (0, u zq28), (0, .integer 2147483647), (0, .methodref 21 22), (0, .class_ 23), (0, .nameAndType 24 25), (0, u zq9), (0, u "at"), (0, u zq41), (0, .methodref 21 27), (0, .nameAndType 28 29), (0, u "isLocated"), (0, u "()Z"), (0, .methodref 21 31), (0, .nameAndType 32 33), (0, u "getCause"), (0, u zq57), (0, .methodref 21 35), (0, .nameAndType 36 37), (0, u "getMessage"), (0, u zq20), (0, .methodref 14 39), (0, .nameAndType 40 41), (0, u "nd"), (0, u "(I)I"), (0, .methodref 43 44), (0, .class_ 45), (0, .nameAndType 46 47), (0, u zq0), (0, u "length"), (0, u "()I"), (0, .methodref 14 49), (0, .nameAndType 50 51), (0, u "same"), (0, u zq29), (0, .methodref 43 53), (0, .nameAndType 54 55), (0, u "charAt"), (0, u "(I)C"), (0, .methodref 14 57), (0, .nameAndType 58 59), (0, u "digits"), (0, u zq18), (0, .methodref 43 61), (0, .nameAndType 5 62), (0, u "([C)V"), (0, .integer 100000), (0, .integer 1000000), (0, .integer 10000000), (0, .integer 100000000), (0, .integer 1000000000), (0, .methodref 14 69), (0, .nameAndType 70 71), (0, u "d"), (0, u zq47), (2, u "law"), (0, u "(IIIII)Z")] 3

def k1m0 : Method := { name := "<init>", desc := "()V", sig := { parameters := [], returnType := none }, accessFlags := 2, code := none }
def k1c1 : Code := { maxStack := 4, maxLocals := 17, code := code, exceptionTable := #[], attributes := #[] }
def k1m1 : Method := { name := "law", desc := "(IIIII)Z", sig := { parameters := [.int, .int, .int, .int, .int], returnType := some .boolean }, accessFlags := 9, code := some k1c1 }
def k1c2 : Code := { maxStack := 6, maxLocals := 4, code := method_3_code, exceptionTable := #[], attributes := #[] }
def k1m2 : Method := { name := "str", desc := zq28, sig := { parameters := [.int, .int], returnType := some (.object zq0) }, accessFlags := 10, code := some k1c2 }
def k1c3 : Code := { maxStack := 3, maxLocals := 4, code := method_4_code, exceptionTable := #[], attributes := #[] }
def k1m3 : Method := { name := "same", desc := zq29, sig := { parameters := [(.object zq0), .int, (.object zq0)], returnType := some .boolean }, accessFlags := 10, code := some k1c3 }
def k1c4 : Code := { maxStack := 2, maxLocals := 1, code := method_5_code, exceptionTable := #[], attributes := #[] }
def k1m4 : Method := { name := "nd", desc := "(I)I", sig := { parameters := [.int], returnType := some .int }, accessFlags := 10, code := some k1c4 }
def k1c5 : Code := { maxStack := 4, maxLocals := 4, code := method_6_code, exceptionTable := #[], attributes := #[] }
def k1m5 : Method := { name := "d", desc := zq47, sig := { parameters := [(.object zq0), .int, .int, .int], returnType := some .boolean }, accessFlags := 10, code := some k1c5 }
def k1c6 : Code := { maxStack := 4, maxLocals := 5, code := method_7_code, exceptionTable := #[], attributes := #[] }
def k1m6 : Method := { name := "digits", desc := zq18, sig := { parameters := [(.object zq0), .int, .int], returnType := some .boolean }, accessFlags := 10, code := some k1c6 }
/-- com/example/wirecord/wirecord/SchemaExceptionAtPinLaw -/
def k1 : Class := { plain zq7 (some 0) with
  accessFlags := 49
  interfaces := #[]
  cf := some (fileOf pool1 14 #[] #[{ accessFlags := 2, nameIndex := 5, descriptorIndex := 6, attributes := #[] }, { accessFlags := 9, nameIndex := 74, descriptorIndex := 75, attributes := #[] }, { accessFlags := 10, nameIndex := 17, descriptorIndex := 18, attributes := #[] }, { accessFlags := 10, nameIndex := 50, descriptorIndex := 51, attributes := #[] }, { accessFlags := 10, nameIndex := 40, descriptorIndex := 41, attributes := #[] }, { accessFlags := 10, nameIndex := 70, descriptorIndex := 71, attributes := #[] }, { accessFlags := 10, nameIndex := 58, descriptorIndex := 59, attributes := #[] }] 49 2 #[] #[])
  fields := #[]
  methods := #[k1m0, k1m1, k1m2, k1m3, k1m4, k1m5, k1m6]
  instanceTypes := #[]
  staticTypes := #[]
  resolved := Array.replicate 79 none
  statics := none }

def pool2 : Array CpInfo := pool [(1, .class_ 2), (0, u zq17), (1, .class_ 6), (1, u zq6), (0, u "<init>"), (0, u "()V"), (89, .class_ 100), (1, u "java/lang/Math$RandomNumberGeneratorHolder"), (71, u "negativeZeroFloatBits"), (0, u "J"), (2, u "negativeZeroDoubleBits"), (21, u "max"), (2, u "min"), (43, u zq26), (0, u "Z"), (88, u "(II)I"), (2, u "twoToTheDoubleScaleDown"), (0, u "D"), (4, u "twoToTheDoubleScaleUp"), (9, u "E"), (3, u "PI"), (2, u "TAU"), (2, u "DEGREES_TO_RADIANS"), (0, u "RADIANS_TO_DEGREES")] 94

def k2m0 : Method := { name := "<init>", desc := "()V", sig := { parameters := [], returnType := none }, accessFlags := 2, code := none }
def k2c1 : Code := { maxStack := 2, maxLocals := 2, code := jdk_29_method_65_code, exceptionTable := #[], attributes := #[] }
def k2m1 : Method := { name := "max", desc := "(II)I", sig := { parameters := [.int, .int], returnType := some .int }, accessFlags := 9, code := some k2c1 }
def k2c2 : Code := { maxStack := 2, maxLocals := 2, code := jdk_29_method_69_code, exceptionTable := #[], attributes := #[] }
def k2m2 : Method := { name := "min", desc := "(II)I", sig := { parameters := [.int, .int], returnType := some .int }, accessFlags := 9, code := some k2c2 }
/-- java/lang/Math -/
def k2 : Class := { plain zq17 (some 0) with
  accessFlags := 49
  interfaces := #[]
  cf := some (fileOf pool2 1 #[.nestMembers #[98]] #[{ accessFlags := 2, nameIndex := 7, descriptorIndex := 8, attributes := #[] }, { accessFlags := 9, nameIndex := 198, descriptorIndex := 335, attributes := #[] }, { accessFlags := 9, nameIndex := 201, descriptorIndex := 335, attributes := #[] }] 49 4 #[] #[{ accessFlags := 25, nameIndex := 354, descriptorIndex := 339, attributes := #[] }, { accessFlags := 25, nameIndex := 358, descriptorIndex := 339, attributes := #[] }, { accessFlags := 25, nameIndex := 361, descriptorIndex := 339, attributes := #[] }, { accessFlags := 26, nameIndex := 364, descriptorIndex := 339, attributes := #[] }, { accessFlags := 26, nameIndex := 365, descriptorIndex := 339, attributes := #[] }, { accessFlags := 26, nameIndex := 172, descriptorIndex := 173, attributes := #[] }, { accessFlags := 26, nameIndex := 176, descriptorIndex := 173, attributes := #[] }, { accessFlags := 8, nameIndex := 344, descriptorIndex := 339, attributes := #[] }, { accessFlags := 8, nameIndex := 338, descriptorIndex := 339, attributes := #[] }, { accessFlags := 4120, nameIndex := 245, descriptorIndex := 246, attributes := #[] }])
  fields := #[{ name := "E", type := .double, accessFlags := 25, slot := 0, constantValue := 0 }, { name := "PI", type := .double, accessFlags := 25, slot := 1, constantValue := 0 }, { name := "TAU", type := .double, accessFlags := 25, slot := 2, constantValue := 0 }, { name := "DEGREES_TO_RADIANS", type := .double, accessFlags := 26, slot := 3, constantValue := 0 }, { name := "RADIANS_TO_DEGREES", type := .double, accessFlags := 26, slot := 4, constantValue := 0 }, { name := "negativeZeroFloatBits", type := .long, accessFlags := 26, slot := 5, constantValue := 0 }, { name := "negativeZeroDoubleBits", type := .long, accessFlags := 26, slot := 6, constantValue := 0 }, { name := "twoToTheDoubleScaleUp", type := .double, accessFlags := 8, slot := 7, constantValue := 0 }, { name := "twoToTheDoubleScaleDown", type := .double, accessFlags := 8, slot := 8, constantValue := 0 }, { name := zq26, type := .boolean, accessFlags := 4120, slot := 9, constantValue := 0 }]
  methods := #[k2m0, k2m1, k2m2]
  instanceTypes := #[]
  staticTypes := #[.double, .double, .double, .double, .double, .long, .long, .double, .double, .boolean]
  resolved := Array.replicate 460 none
  statics := none }

def pool3 : Array CpInfo := pool [(1, .class_ 2), (0, u zq37), (0, .class_ 4), (0, u zq6)] 2

/-- java/io/Serializable -/
def k3 : Class := { plain zq37 (some 0) with
  accessFlags := 1537
  interfaces := #[]
  cf := some (fileOf pool3 1 #[] #[] 1537 3 #[] #[])
  fields := #[]
  methods := #[]
  instanceTypes := #[]
  staticTypes := #[]
  resolved := Array.replicate 7 none
  statics := none }

def pool4 : Array CpInfo := pool [(1, .class_ 2), (0, u zq58), (0, .class_ 4), (0, u zq6)] 7

/-- java/lang/Comparable -/
def k4 : Class := { plain zq58 (some 0) with
  accessFlags := 1537
  interfaces := #[]
  cf := some (fileOf pool4 1 #[] #[] 1537 3 #[] #[])
  fields := #[]
  methods := #[]
  instanceTypes := #[]
  staticTypes := #[]
  resolved := Array.replicate 12 none
  statics := none }

def pool5 : Array CpInfo := pool [(2, .class_ 4), (1, u zq59), (42, .class_ 48), (0, u "java/lang/CharSequence$1CodePointIterator"), (10, .class_ 60), (0, u "java/lang/CharSequence$1CharIterator"), (5, .class_ 67), (0, u zq6)] 63

/-- java/lang/CharSequence -/
def k5 : Class := { plain zq59 (some 0) with
  accessFlags := 1537
  interfaces := #[]
  cf := some (fileOf pool5 2 #[.nestMembers #[47, 59]] #[] 1537 66 #[] #[])
  fields := #[]
  methods := #[]
  instanceTypes := #[]
  staticTypes := #[]
  resolved := Array.replicate 131 none
  statics := none }

def pool6 : Array CpInfo := pool [(1, .class_ 2), (0, u zq60), (0, .class_ 4), (0, u zq6)] 6

/-- java/lang/constant/Constable -/
def k6 : Class := { plain zq60 (some 0) with
  accessFlags := 1537
  interfaces := #[]
  cf := some (fileOf pool6 1 #[] #[] 1537 3 #[] #[])
  fields := #[]
  methods := #[]
  instanceTypes := #[]
  staticTypes := #[]
  resolved := Array.replicate 11 none
  statics := none }

def pool7 : Array CpInfo := pool [(1, .class_ 2), (0, u zq61), (0, .class_ 4), (0, u zq6)] 32

/-- java/lang/constant/ConstantDesc -/
def k7 : Class := { plain zq61 (some 0) with
  accessFlags := 1537
  interfaces := #[]
  cf := some (fileOf pool7 1 #[] #[] 1537 3 #[] #[])
  fields := #[]
  methods := #[]
  instanceTypes := #[]
  staticTypes := #[]
  resolved := Array.replicate 37 none
  statics := none }

def pool8 : Array CpInfo := pool [(1, .methodref 2 3), (0, .class_ 4), (0, .nameAndType 5 6), (0, u zq6), (0, u "<init>"), (0, u "()V"), (0, .string 8), (0, u ""), (0, .fieldref 10 11), (0, .class_ 12), (0, .nameAndType 13 14), (0, u zq0), (0, u "value"), (0, u "[B"), (0, .fieldref 10 16), (0, .nameAndType 17 18), (0, u "coder"), (0, u "B"), (2, u "hash"), (0, u "I"), (2, u "hashIsZero"), (0, u "Z"), (0, .methodref 10 28), (0, .nameAndType 5 29), (0, u zq31), (8, .fieldref 10 39), (0, .nameAndType 40 26), (0, u zq5), (1, .class_ 44), (1, u zq19), (0, u "compress"), (1, .methodref 42 48), (0, .nameAndType 49 50), (0, u zq43), (0, u "([BI)B"), (3, .methodref 55 56), (0, .class_ 57), (0, .nameAndType 58 59), (0, u zq14), (0, u zq36), (0, u "([BII)[B"), (47, .class_ 109), (1, u zq50), (32, u "()Z"), (34, .methodref 42 178), (0, .nameAndType 45 179), (0, u "([CII)[B"), (13, .class_ 195), (1, u zq62), (16, .methodref 193 213), (0, .nameAndType 214 215), (0, u "arraycopy"), (0, u zq63), (118, u "()I"), (0, .methodref 10 336), (0, .nameAndType 17 337), (0, u "()B"), (2, u "()[B"), (22, u "([BI)C"), (27, u "(II)V"), (35, u "(I)C"), (61, .methodref 10 490), (0, .nameAndType 5 491), (0, u zq46), (0, .methodref 10 493), (0, .nameAndType 494 142), (0, u "isLatin1"), (0, .methodref 107 496), (0, .nameAndType 497 363), (0, u "charAt"), (3, u "checkIndex"), (4, .nameAndType 507 334), (0, u "length"), (24, u "getBytes"), (16, .methodref 550 506), (0, .class_ 551), (0, u zq1), (0, .methodref 550 553), (0, .nameAndType 554 340), (0, u "getValue"), (20, .class_ 576), (0, u zq59), (22, u "CASE_INSENSITIVE_ORDER"), (0, u "Ljava/util/Comparator;"), (220, u "([BIB)V"), (188, u "([C)V"), (36, .methodref 550 493), (5, .fieldref 1054 1055), (0, .class_ 1056), (0, .nameAndType 1057 1058), (0, u zq10), (0, u zq11), (0, u zq12), (0, .methodref 1054 1060), (0, .nameAndType 501 1061), (0, u zq32), (39, u "serialPersistentFields"), (0, u "[Ljava/io/ObjectStreamField;"), (0, .class_ 1104), (0, u "java/lang/String$CaseInsensitiveComparator"), (1, .class_ 1107), (0, u zq37), (0, .class_ 1109), (0, u zq58), (0, .class_ 1111), (0, u zq60), (0, .class_ 1113), (0, u zq61), (2, u zq16), (0, u "J"), (3, u "REPL"), (0, u "C"), (2, u "LATIN1"), (1, u "UTF16"), (105, u zq38)] 217

def k8m0 : Method := { name := "<init>", desc := "()V", sig := { parameters := [], returnType := none }, accessFlags := 1, code := none }
def k8c1 : Code := { maxStack := 5, maxLocals := 2, code := jdk_42_method_3_code, exceptionTable := #[], attributes := #[] }
def k8m1 : Method := { name := "<init>", desc := "([C)V", sig := { parameters := [(.array .char)], returnType := none }, accessFlags := 1, code := some k8c1 }
def k8c2 : Code := { maxStack := 3, maxLocals := 2, code := jdk_42_method_53_code, exceptionTable := #[], attributes := #[] }
def k8m2 : Method := { name := "<init>", desc := zq38, sig := { parameters := [(.object zq3)], returnType := none }, accessFlags := 1, code := some k8c2 }
def k8c3 : Code := { maxStack := 2, maxLocals := 1, code := jdk_42_method_54_code, exceptionTable := #[], attributes := #[] }
def k8m3 : Method := { name := "length", desc := "()I", sig := { parameters := [], returnType := some .int }, accessFlags := 1, code := some k8c3 }
def k8c4 : Code := { maxStack := 2, maxLocals := 2, code := jdk_42_method_56_code, exceptionTable := #[], attributes := #[] }
def k8m4 : Method := { name := "charAt", desc := "(I)C", sig := { parameters := [.int], returnType := some .char }, accessFlags := 1, code := some k8c4 }
def k8c5 : Code := { maxStack := 5, maxLocals := 4, code := jdk_42_method_147_code, exceptionTable := #[], attributes := #[] }
def k8m5 : Method := { name := "getBytes", desc := "([BIB)V", sig := { parameters := [(.array .byte), .int, .byte], returnType := none }, accessFlags := 0, code := some k8c5 }
def k8c6 : Code := { maxStack := 4, maxLocals := 6, code := jdk_42_method_149_code, exceptionTable := #[], attributes := #[] }
def k8m6 : Method := { name := "<init>", desc := zq31, sig := { parameters := [(.array .char), .int, .int, (.object "java/lang/Void")], returnType := none }, accessFlags := 2, code := some k8c6 }
def k8c7 : Code := { maxStack := 5, maxLocals := 5, code := jdk_42_method_150_code, exceptionTable := #[], attributes := #[] }
def k8m7 : Method := { name := "<init>", desc := zq46, sig := { parameters := [(.object zq1), (.object "java/lang/Void")], returnType := none }, accessFlags := 0, code := some k8c7 }
def k8c8 : Code := { maxStack := 1, maxLocals := 1, code := jdk_42_method_152_code, exceptionTable := #[], attributes := #[] }
def k8m8 : Method := { name := "coder", desc := "()B", sig := { parameters := [], returnType := some .byte }, accessFlags := 0, code := some k8c8 }
def k8c9 : Code := { maxStack := 1, maxLocals := 1, code := jdk_42_method_154_code, exceptionTable := #[], attributes := #[] }
def k8m9 : Method := { name := "isLatin1", desc := "()Z", sig := { parameters := [], returnType := some .boolean }, accessFlags := 0, code := some k8c9 }
def k8c10 : Code := { maxStack := 3, maxLocals := 2, code := jdk_42_method_155_code, exceptionTable := #[], attributes := #[] }
def k8m10 : Method := { name := "checkIndex", desc := "(II)V", sig := { parameters := [.int, .int], returnType := none }, accessFlags := 8, code := some k8c10 }
/-- java/lang/String -/
def k8 : Class := { plain zq0 (some 0) with
  accessFlags := 49
  interfaces := #[3, 4, 5, 6, 7]
  cf := some (fileOf pool8 10 #[.nestMembers #[1103]] #[{ accessFlags := 1, nameIndex := 5, descriptorIndex := 6, attributes := #[] }, { accessFlags := 1, nameIndex := 5, descriptorIndex := 1010, attributes := #[] }, { accessFlags := 1, nameIndex := 5, descriptorIndex := 1233, attributes := #[] }, { accessFlags := 1, nameIndex := 507, descriptorIndex := 334, attributes := #[] }, { accessFlags := 1, nameIndex := 497, descriptorIndex := 427, attributes := #[] }, { accessFlags := 0, nameIndex := 532, descriptorIndex := 821, attributes := #[] }, { accessFlags := 2, nameIndex := 5, descriptorIndex := 29, attributes := #[] }, { accessFlags := 0, nameIndex := 5, descriptorIndex := 491, attributes := #[] }, { accessFlags := 0, nameIndex := 17, descriptorIndex := 337, attributes := #[] }, { accessFlags := 0, nameIndex := 494, descriptorIndex := 142, attributes := #[] }, { accessFlags := 8, nameIndex := 501, descriptorIndex := 391, attributes := #[] }] 49 2 #[1106, 1108, 575, 1110, 1112] #[{ accessFlags := 18, nameIndex := 13, descriptorIndex := 14, attributes := #[] }, { accessFlags := 18, nameIndex := 17, descriptorIndex := 18, attributes := #[] }, { accessFlags := 2, nameIndex := 21, descriptorIndex := 22, attributes := #[] }, { accessFlags := 2, nameIndex := 25, descriptorIndex := 26, attributes := #[] }, { accessFlags := 26, nameIndex := 1116, descriptorIndex := 1117, attributes := #[] }, { accessFlags := 24, nameIndex := 40, descriptorIndex := 26, attributes := #[] }, { accessFlags := 26, nameIndex := 1101, descriptorIndex := 1102, attributes := #[] }, { accessFlags := 26, nameIndex := 1121, descriptorIndex := 1122, attributes := #[] }, { accessFlags := 25, nameIndex := 599, descriptorIndex := 600, attributes := #[] }, { accessFlags := 24, nameIndex := 1125, descriptorIndex := 18, attributes := #[] }, { accessFlags := 24, nameIndex := 1127, descriptorIndex := 18, attributes := #[] }])
  fields := #[{ name := "value", type := (.array .byte), accessFlags := 18, slot := 0, constantValue := 0 }, { name := "coder", type := .byte, accessFlags := 18, slot := 1, constantValue := 0 }, { name := "hash", type := .int, accessFlags := 2, slot := 2, constantValue := 0 }, { name := "hashIsZero", type := .boolean, accessFlags := 2, slot := 3, constantValue := 0 }, { name := zq16, type := .long, accessFlags := 26, slot := 0, constantValue := 0 }, { name := zq5, type := .boolean, accessFlags := 24, slot := 1, constantValue := 0 }, { name := "serialPersistentFields", type := (.array (.object "java/io/ObjectStreamField")), accessFlags := 26, slot := 2, constantValue := 0 }, { name := "REPL", type := .char, accessFlags := 26, slot := 3, constantValue := 0 }, { name := "CASE_INSENSITIVE_ORDER", type := (.object "java/util/Comparator"), accessFlags := 25, slot := 4, constantValue := 0 }, { name := "LATIN1", type := .byte, accessFlags := 24, slot := 5, constantValue := 0 }, { name := "UTF16", type := .byte, accessFlags := 24, slot := 6, constantValue := 0 }]
  methods := #[k8m0, k8m1, k8m2, k8m3, k8m4, k8m5, k8m6, k8m7, k8m8, k8m9, k8m10]
  instanceTypes := #[(.array .byte), .byte, .int, .boolean]
  staticTypes := #[.long, .boolean, (.array (.object "java/io/ObjectStreamField")), .char, (.object "java/util/Comparator"), .byte, .byte]
  resolved := Array.replicate 1451 none
  statics := some 0 }

def pool9 : Array CpInfo := pool [(1, .methodref 2 3), (0, .class_ 4), (0, .nameAndType 5 6), (0, u zq6), (0, u "<init>"), (0, u "()V"), (0, .fieldref 8 9), (0, .class_ 10), (0, .nameAndType 11 12), (0, u zq4), (0, u "cause"), (0, u zq30), (0, .fieldref 8 14), (0, .nameAndType 15 16), (0, u zq34), (0, u zq22), (0, .fieldref 8 18), (0, .nameAndType 19 16), (0, u "stackTrace"), (0, .fieldref 8 21), (0, .nameAndType 22 23), (0, u zq35), (0, u zq23), (0, .fieldref 8 25), (0, .nameAndType 26 23), (0, u zq51), (0, .methodref 8 28), (0, .nameAndType 29 30), (0, u "fillInStackTrace"), (0, u zq57), (0, .fieldref 8 32), (0, .nameAndType 33 34), (0, u zq25), (0, u zq24), (3, u zq20), (2, u "getMessage"), (21, u zq21), (29, .class_ 94), (0, u "java/lang/Throwable$WrappedPrintStream"), (6, .class_ 103), (1, u "java/lang/Throwable$PrintStreamOrWriter"), (54, u "getCause"), (6, u zq26), (0, u "Z"), (26, .class_ 194), (0, u "java/lang/Throwable$WrappedPrintWriter"), (3, .fieldref 8 199), (0, .nameAndType 200 201), (0, u "backtrace"), (0, u zq56), (0, .methodref 8 203), (0, .nameAndType 29 204), (0, u "(I)Ljava/lang/Throwable;"), (6, u "depth"), (0, u "I"), (56, .class_ 271), (1, u "java/lang/Throwable$SentinelHolder"), (32, u "EMPTY_THROWABLE_ARRAY"), (0, u "[Ljava/lang/Throwable;"), (12, .class_ 319), (0, u zq37), (0, u zq16), (0, u "J"), (5, u "NULL_CAUSE_MESSAGE"), (0, u "SELF_SUPPRESSION_MESSAGE"), (0, u "CAUSE_CAPTION"), (0, u "SUPPRESSED_CAPTION")] 73

def k9c0 : Code := { maxStack := 2, maxLocals := 1, code := jdk_78_method_1_code, exceptionTable := #[], attributes := #[] }
def k9m0 : Method := { name := "<init>", desc := "()V", sig := { parameters := [], returnType := none }, accessFlags := 1, code := some k9c0 }
def k9c1 : Code := { maxStack := 2, maxLocals := 3, code := jdk_78_method_3_code, exceptionTable := #[], attributes := #[] }
def k9m1 : Method := { name := "<init>", desc := zq21, sig := { parameters := [(.object zq0), (.object zq4)], returnType := none }, accessFlags := 1, code := some k9c1 }
def k9c2 : Code := { maxStack := 1, maxLocals := 1, code := jdk_78_method_6_code, exceptionTable := #[], attributes := #[] }
def k9m2 : Method := { name := "getMessage", desc := zq20, sig := { parameters := [], returnType := some (.object zq0) }, accessFlags := 1, code := some k9c2 }
def k9c3 : Code := { maxStack := 2, maxLocals := 1, code := ⟨#[0x2a, 0xb4, 0x00, 0x07, 0x2a, 0xa6, 0x00, 0x07, 0x01, 0xa7, 0x00, 0x07, 0x2a, 0xb4, 0x00, 0x07, 0xb0]⟩, exceptionTable := #[], attributes := #[] }
def k9m3 : Method := { name := "getCause", desc := zq57, sig := { parameters := [], returnType := some (.object zq4) }, accessFlags := 33, code := some k9c3 }
def k9c4 : Code := { maxStack := 2, maxLocals := 1, code := ⟨#[0x2a, 0xb4, 0x00, 0x11, 0xc7, 0x00, 0x0a, 0x2a, 0xb4, 0x00, 0xc6, 0xc6, 0x00, 0x10, 0x2a, 0x03, 0xb6, 0x00, 0xca, 0x57, 0x2a, 0xb2, 0x00, 0x0d, 0xb5, 0x00, 0x11, 0x2a, 0xb0]⟩, exceptionTable := #[], attributes := #[] }
def k9m4 : Method := { name := "fillInStackTrace", desc := zq57, sig := { parameters := [], returnType := some (.object zq4) }, accessFlags := 33, code := some k9c4 }
def k9m5 : Method := { name := "fillInStackTrace", desc := "(I)Ljava/lang/Throwable;", sig := { parameters := [.int], returnType := some (.object zq4) }, accessFlags := 258, code := none }
/-- java/lang/Throwable -/
def k9 : Class := { plain zq4 (some 0) with
  accessFlags := 33
  interfaces := #[3]
  cf := some (fileOf pool9 8 #[.nestMembers #[193, 93, 101, 269]] #[{ accessFlags := 1, nameIndex := 5, descriptorIndex := 6, attributes := #[] }, { accessFlags := 1, nameIndex := 5, descriptorIndex := 63, attributes := #[] }, { accessFlags := 1, nameIndex := 41, descriptorIndex := 38, attributes := #[] }, { accessFlags := 33, nameIndex := 158, descriptorIndex := 30, attributes := #[] }, { accessFlags := 33, nameIndex := 29, descriptorIndex := 30, attributes := #[] }, { accessFlags := 258, nameIndex := 29, descriptorIndex := 204, attributes := #[] }] 33 2 #[318] #[{ accessFlags := 26, nameIndex := 320, descriptorIndex := 321, attributes := #[] }, { accessFlags := 130, nameIndex := 200, descriptorIndex := 201, attributes := #[] }, { accessFlags := 2, nameIndex := 33, descriptorIndex := 34, attributes := #[] }, { accessFlags := 26, nameIndex := 15, descriptorIndex := 16, attributes := #[] }, { accessFlags := 2, nameIndex := 11, descriptorIndex := 12, attributes := #[] }, { accessFlags := 2, nameIndex := 19, descriptorIndex := 16, attributes := #[] }, { accessFlags := 130, nameIndex := 211, descriptorIndex := 212, attributes := #[] }, { accessFlags := 26, nameIndex := 22, descriptorIndex := 23, attributes := #[] }, { accessFlags := 2, nameIndex := 26, descriptorIndex := 23, attributes := #[] }, { accessFlags := 26, nameIndex := 327, descriptorIndex := 34, attributes := #[] }, { accessFlags := 26, nameIndex := 328, descriptorIndex := 34, attributes := #[] }, { accessFlags := 26, nameIndex := 329, descriptorIndex := 34, attributes := #[] }, { accessFlags := 26, nameIndex := 330, descriptorIndex := 34, attributes := #[] }, { accessFlags := 26, nameIndex := 304, descriptorIndex := 305, attributes := #[] }, { accessFlags := 4120, nameIndex := 165, descriptorIndex := 166, attributes := #[] }])
  fields := #[{ name := zq16, type := .long, accessFlags := 26, slot := 0, constantValue := 0 }, { name := "backtrace", type := (.object zq6), accessFlags := 130, slot := 0, constantValue := 0 }, { name := zq25, type := (.object zq0), accessFlags := 2, slot := 1, constantValue := 0 }, { name := zq34, type := (.array (.object zq15)), accessFlags := 26, slot := 1, constantValue := 0 }, { name := "cause", type := (.object zq4), accessFlags := 2, slot := 2, constantValue := 0 }, { name := "stackTrace", type := (.array (.object zq15)), accessFlags := 2, slot := 3, constantValue := 0 }, { name := "depth", type := .int, accessFlags := 130, slot := 4, constantValue := 0 }, { name := zq35, type := (.object zq13), accessFlags := 26, slot := 2, constantValue := 0 }, { name := zq51, type := (.object zq13), accessFlags := 2, slot := 5, constantValue := 0 }, { name := "NULL_CAUSE_MESSAGE", type := (.object zq0), accessFlags := 26, slot := 3, constantValue := 0 }, { name := "SELF_SUPPRESSION_MESSAGE", type := (.object zq0), accessFlags := 26, slot := 4, constantValue := 0 }, { name := "CAUSE_CAPTION", type := (.object zq0), accessFlags := 26, slot := 5, constantValue := 0 }, { name := "SUPPRESSED_CAPTION", type := (.object zq0), accessFlags := 26, slot := 6, constantValue := 0 }, { name := "EMPTY_THROWABLE_ARRAY", type := (.array (.object zq4)), accessFlags := 26, slot := 7, constantValue := 0 }, { name := zq26, type := .boolean, accessFlags := 4120, slot := 8, constantValue := 0 }]
  methods := #[k9m0, k9m1, k9m2, k9m3, k9m4, k9m5]
  instanceTypes := #[(.object zq6), (.object zq0), (.object zq4), (.array (.object zq15)), .int, (.object zq13)]
  staticTypes := #[.long, (.array (.object zq15)), (.object zq13), (.object zq0), (.object zq0), (.object zq0), (.object zq0), (.array (.object zq4)), .boolean]
  resolved := Array.replicate 404 none
  statics := some 1 }

def pool10 : Array CpInfo := pool [(2, .class_ 4), (1, u zq4), (0, u "<init>"), (0, u "()V"), (3, .methodref 2 11), (0, .nameAndType 5 12), (0, u zq21), (6, .class_ 20), (0, u zq52), (0, u zq16), (0, u "J")] 17

def k10m0 : Method := { name := "<init>", desc := "()V", sig := { parameters := [], returnType := none }, accessFlags := 1, code := none }
def k10c1 : Code := { maxStack := 3, maxLocals := 3, code := jdk_59_method_3_code, exceptionTable := #[], attributes := #[] }
def k10m1 : Method := { name := "<init>", desc := zq21, sig := { parameters := [(.object zq0), (.object zq4)], returnType := none }, accessFlags := 1, code := some k10c1 }
/-- java/lang/Exception -/
def k10 : Class := { plain zq52 (some 9) with
  accessFlags := 33
  interfaces := #[]
  cf := some (fileOf pool10 19 #[] #[{ accessFlags := 1, nameIndex := 5, descriptorIndex := 6, attributes := #[] }, { accessFlags := 1, nameIndex := 5, descriptorIndex := 12, attributes := #[] }] 33 2 #[] #[{ accessFlags := 24, nameIndex := 21, descriptorIndex := 22, attributes := #[] }])
  fields := #[{ name := zq16, type := .long, accessFlags := 24, slot := 0, constantValue := 0 }]
  methods := #[k10m0, k10m1]
  instanceTypes := #[(.object zq6), (.object zq0), (.object zq4), (.array (.object zq15)), .int, (.object zq13)]
  staticTypes := #[.long]
  resolved := Array.replicate 40 none
  statics := none }

def pool11 : Array CpInfo := pool [(1, .methodref 2 3), (0, .class_ 4), (0, .nameAndType 5 6), (0, u zq9), (0, u "<init>"), (0, u zq48), (0, .methodref 8 9), (0, .class_ 10), (0, .nameAndType 5 11), (0, u zq52), (0, u zq21), (0, .fieldref 2 13), (0, .nameAndType 14 15), (0, u "located"), (0, u "Z"), (0, .class_ 17), (0, u zq3), (0, .methodref 16 19), (0, .nameAndType 5 20), (0, u "()V"), (0, .methodref 16 22), (0, .nameAndType 23 24), (0, u "append"), (0, u zq39), (0, .string 26), (0, u ":"), (0, .methodref 16 28), (0, .nameAndType 23 29), (0, u zq40), (0, .string 31), (0, u ": "), (0, .methodref 16 33), (0, .nameAndType 34 35), (0, u "toString"), (0, u zq20), (0, u zq16), (0, u "J"), (6, u "at"), (0, u zq41), (0, u "isLocated"), (0, u "()Z")] 2

def k11c0 : Code := { maxStack := 3, maxLocals := 4, code := prog_4_method_3_code, exceptionTable := #[], attributes := #[] }
def k11m0 : Method := { name := "<init>", desc := zq48, sig := { parameters := [(.object zq0), (.object zq4), .boolean], returnType := none }, accessFlags := 2, code := some k11c0 }
def k11c1 : Code := { maxStack := 5, maxLocals := 4, code := prog_4_method_4_code, exceptionTable := #[], attributes := #[] }
def k11m1 : Method := { name := "at", desc := zq41, sig := { parameters := [(.object zq0), .int, .int, (.object zq0)], returnType := some (.object zq9) }, accessFlags := 8, code := some k11c1 }
def k11c2 : Code := { maxStack := 1, maxLocals := 1, code := prog_4_method_5_code, exceptionTable := #[], attributes := #[] }
def k11m2 : Method := { name := "isLocated", desc := "()Z", sig := { parameters := [], returnType := some .boolean }, accessFlags := 1, code := some k11c2 }
/-- com/example/wirecord/wirecord/SchemaException -/
def k11 : Class := { plain zq9 (some 10) with
  accessFlags := 49
  interfaces := #[]
  cf := some (fileOf pool11 2 #[] #[{ accessFlags := 2, nameIndex := 5, descriptorIndex := 6, attributes := #[] }, { accessFlags := 8, nameIndex := 44, descriptorIndex := 45, attributes := #[] }, { accessFlags := 1, nameIndex := 46, descriptorIndex := 47, attributes := #[] }] 49 8 #[] #[{ accessFlags := 26, nameIndex := 36, descriptorIndex := 37, attributes := #[] }, { accessFlags := 18, nameIndex := 14, descriptorIndex := 15, attributes := #[] }])
  fields := #[{ name := zq16, type := .long, accessFlags := 26, slot := 0, constantValue := 0 }, { name := "located", type := .boolean, accessFlags := 18, slot := 6, constantValue := 0 }]
  methods := #[k11m0, k11m1, k11m2]
  instanceTypes := #[(.object zq6), (.object zq0), (.object zq4), (.array (.object zq15)), .int, (.object zq13), .boolean]
  staticTypes := #[.long]
  resolved := Array.replicate 50 none
  statics := none }

def pool12 : Array CpInfo := pool [(1, .class_ 2), (0, u zq64), (0, .class_ 4), (0, u zq6)] 9

/-- java/lang/Appendable -/
def k12 : Class := { plain zq64 (some 0) with
  accessFlags := 1537
  interfaces := #[]
  cf := some (fileOf pool12 1 #[] #[] 1537 3 #[] #[])
  fields := #[]
  methods := #[]
  instanceTypes := #[]
  staticTypes := #[]
  resolved := Array.replicate 14 none
  statics := none }

def pool13 : Array CpInfo := pool [(1, .class_ 2), (0, u zq0), (0, .methodref 4 5), (0, .class_ 6), (0, .nameAndType 7 8), (0, u zq6), (0, u "<init>"), (0, u "()V"), (1, .class_ 12), (1, u zq1), (0, u "EMPTYVALUE"), (0, u "[B"), (0, .fieldref 10 16), (0, .nameAndType 17 14), (0, u "value"), (0, .fieldref 1 19), (0, .nameAndType 20 21), (0, u zq5), (0, u "Z"), (0, .fieldref 10 23), (0, .nameAndType 24 25), (0, u "coder"), (0, u "B"), (6, .methodref 1 33), (0, .nameAndType 34 35), (0, u "length"), (0, u "()I"), (0, .class_ 37), (0, u zq2), (1, .integer 2147483647), (0, .methodref 1 41), (0, .nameAndType 24 42), (0, u "()B"), (2, u "append"), (0, u zq27), (1, .class_ 49), (0, u zq59), (19, u zq44), (5, u "maybeLatin1"), (3, .fieldref 10 80), (0, .nameAndType 81 82), (0, u "count"), (0, u "I"), (0, .methodref 10 84), (0, .nameAndType 85 86), (0, u "isLatin1"), (0, u "()Z"), (13, .methodref 10 101), (0, .nameAndType 102 103), (0, u zq49), (0, u "(I)V"), (0, .methodref 10 105), (0, .nameAndType 106 107), (0, u "newCapacity"), (0, u "(I)I"), (0, .methodref 109 110), (0, .class_ 111), (0, .nameAndType 112 113), (0, u zq14), (0, u "copyOf"), (0, u "([BI)[B"), (0, .methodref 115 116), (0, .class_ 117), (0, .nameAndType 118 119), (0, u zq42), (0, u "newLength"), (0, u "(III)I"), (68, u "getChars"), (19, .methodref 10 209), (0, .nameAndType 210 211), (0, u "putStringAt"), (0, u zq45), (5, u zq54), (2, .nameAndType 221 222), (0, u "getBytes"), (0, u "([BIB)V"), (22, .methodref 36 246), (0, .nameAndType 247 107), (0, u "stringSize"), (0, .methodref 36 249), (0, .nameAndType 188 250), (0, u "(II[B)I"), (146, .methodref 10 398), (0, .nameAndType 217 69), (0, .methodref 1 220), (3, u "()[B"), (40, .class_ 445), (0, u zq64), (65, u zq8), (40, u "getValue")] 56

def k13m0 : Method := { name := "<init>", desc := "()V", sig := { parameters := [], returnType := none }, accessFlags := 0, code := none }
def k13c1 : Code := { maxStack := 2, maxLocals := 2, code := jdk_68_method_2_code, exceptionTable := #[], attributes := #[] }
def k13m1 : Method := { name := "<init>", desc := "(I)V", sig := { parameters := [.int], returnType := none }, accessFlags := 0, code := some k13c1 }
def k13c2 : Code := { maxStack := 1, maxLocals := 1, code := jdk_68_method_6_code, exceptionTable := #[], attributes := #[] }
def k13m2 : Method := { name := "length", desc := "()I", sig := { parameters := [], returnType := some .int }, accessFlags := 1, code := some k13c2 }
def k13c3 : Code := { maxStack := 4, maxLocals := 3, code := jdk_68_method_9_code, exceptionTable := #[], attributes := #[] }
def k13m3 : Method := { name := zq49, desc := "(I)V", sig := { parameters := [.int], returnType := none }, accessFlags := 2, code := some k13c3 }
def k13c4 : Code := { maxStack := 5, maxLocals := 6, code := jdk_68_method_10_code, exceptionTable := #[], attributes := #[] }
def k13m4 : Method := { name := "newCapacity", desc := "(I)I", sig := { parameters := [.int], returnType := some .int }, accessFlags := 2, code := some k13c4 }
def k13c5 : Code := { maxStack := 3, maxLocals := 3, code := jdk_68_method_22_code, exceptionTable := #[], attributes := #[] }
def k13m5 : Method := { name := "append", desc := zq27, sig := { parameters := [(.object zq0)], returnType := some (.object zq1) }, accessFlags := 1, code := some k13c5 }
def k13c6 : Code := { maxStack := 4, maxLocals := 4, code := jdk_68_method_32_code, exceptionTable := #[], attributes := #[] }
def k13m6 : Method := { name := "append", desc := zq8, sig := { parameters := [.int], returnType := some (.object zq1) }, accessFlags := 1, code := some k13c6 }
def k13c7 : Code := { maxStack := 1, maxLocals := 1, code := jdk_68_method_64_code, exceptionTable := #[], attributes := #[] }
def k13m7 : Method := { name := "getValue", desc := "()[B", sig := { parameters := [], returnType := some (.array .byte) }, accessFlags := 16, code := some k13c7 }
def k13c8 : Code := { maxStack := 1, maxLocals := 1, code := jdk_68_method_68_code, exceptionTable := #[], attributes := #[] }
def k13m8 : Method := { name := "isLatin1", desc := "()Z", sig := { parameters := [], returnType := some .boolean }, accessFlags := 16, code := some k13c8 }
def k13c9 : Code := { maxStack := 2, maxLocals := 2, code := jdk_68_method_71_code, exceptionTable := #[], attributes := #[] }
def k13m9 : Method := { name := zq54, desc := zq44, sig := { parameters := [(.object zq0)], returnType := none }, accessFlags := 2, code := some k13c9 }
def k13c10 : Code := { maxStack := 4, maxLocals := 3, code := jdk_68_method_73_code, exceptionTable := #[], attributes := #[] }
def k13m10 : Method := { name := "putStringAt", desc := zq45, sig := { parameters := [.int, (.object zq0)], returnType := none }, accessFlags := 2, code := some k13c10 }
/-- java/lang/AbstractStringBuilder -/
def k13 : Class := { plain zq1 (some 0) with
  accessFlags := 1056
  interfaces := #[12, 5]
  cf := some (fileOf pool13 10 #[] #[{ accessFlags := 0, nameIndex := 7, descriptorIndex := 8, attributes := #[] }, { accessFlags := 0, nameIndex := 7, descriptorIndex := 103, attributes := #[] }, { accessFlags := 1, nameIndex := 34, descriptorIndex := 35, attributes := #[] }, { accessFlags := 2, nameIndex := 102, descriptorIndex := 103, attributes := #[] }, { accessFlags := 2, nameIndex := 106, descriptorIndex := 107, attributes := #[] }, { accessFlags := 1, nameIndex := 45, descriptorIndex := 46, attributes := #[] }, { accessFlags := 1, nameIndex := 45, descriptorIndex := 511, attributes := #[] }, { accessFlags := 16, nameIndex := 552, descriptorIndex := 403, attributes := #[] }, { accessFlags := 16, nameIndex := 85, descriptorIndex := 86, attributes := #[] }, { accessFlags := 2, nameIndex := 217, descriptorIndex := 69, attributes := #[] }, { accessFlags := 2, nameIndex := 210, descriptorIndex := 211, attributes := #[] }] 1056 4 #[444, 48] #[{ accessFlags := 0, nameIndex := 17, descriptorIndex := 14, attributes := #[] }, { accessFlags := 0, nameIndex := 24, descriptorIndex := 25, attributes := #[] }, { accessFlags := 0, nameIndex := 75, descriptorIndex := 21, attributes := #[] }, { accessFlags := 0, nameIndex := 81, descriptorIndex := 82, attributes := #[] }, { accessFlags := 26, nameIndex := 13, descriptorIndex := 14, attributes := #[] }])
  fields := #[{ name := "value", type := (.array .byte), accessFlags := 0, slot := 0, constantValue := 0 }, { name := "coder", type := .byte, accessFlags := 0, slot := 1, constantValue := 0 }, { name := "maybeLatin1", type := .boolean, accessFlags := 0, slot := 2, constantValue := 0 }, { name := "count", type := .int, accessFlags := 0, slot := 3, constantValue := 0 }, { name := "EMPTYVALUE", type := (.array .byte), accessFlags := 26, slot := 0, constantValue := 0 }]
  methods := #[k13m0, k13m1, k13m2, k13m3, k13m4, k13m5, k13m6, k13m7, k13m8, k13m9, k13m10]
  instanceTypes := #[(.array .byte), .byte, .boolean, .int]
  staticTypes := #[(.array .byte)]
  resolved := Array.replicate 609 none
  statics := none }

def pool14 : Array CpInfo := pool [(1, .methodref 2 3), (0, .class_ 4), (0, .nameAndType 5 6), (0, u zq1), (0, u "<init>"), (0, u "(I)V"), (11, .class_ 20), (1, u zq0), (3, .class_ 26), (1, u zq3), (0, u "append"), (0, u zq39), (0, .methodref 2 30), (0, .nameAndType 27 31), (0, u zq27), (21, .methodref 2 54), (0, .nameAndType 27 55), (0, u zq8), (81, .methodref 18 138), (0, .nameAndType 5 139), (0, u zq38), (5, u "()V"), (10, u "()I"), (111, u zq40), (74, .methodref 2 344), (0, .nameAndType 345 156), (0, u "length"), (3, .class_ 350), (0, u zq64), (0, .class_ 352), (0, u zq37), (0, .class_ 354), (0, u zq58), (0, .class_ 356), (0, u zq59), (0, u zq16), (0, u "J"), (40, u "toString"), (0, u zq20)] 21

def k14c0 : Code := { maxStack := 2, maxLocals := 1, code := jdk_67_method_1_code, exceptionTable := #[], attributes := #[] }
def k14m0 : Method := { name := "<init>", desc := "()V", sig := { parameters := [], returnType := none }, accessFlags := 1, code := some k14c0 }
def k14c1 : Code := { maxStack := 2, maxLocals := 2, code := jdk_67_method_7_code, exceptionTable := #[], attributes := #[] }
def k14m1 : Method := { name := "append", desc := zq39, sig := { parameters := [(.object zq0)], returnType := some (.object zq3) }, accessFlags := 1, code := some k14c1 }
def k14c2 : Code := { maxStack := 2, maxLocals := 2, code := jdk_67_method_15_code, exceptionTable := #[], attributes := #[] }
def k14m2 : Method := { name := "append", desc := zq40, sig := { parameters := [.int], returnType := some (.object zq3) }, accessFlags := 1, code := some k14c2 }
def k14c3 : Code := { maxStack := 3, maxLocals := 1, code := jdk_67_method_42_code, exceptionTable := #[], attributes := #[] }
def k14m3 : Method := { name := "toString", desc := zq20, sig := { parameters := [], returnType := some (.object zq0) }, accessFlags := 1, code := some k14c3 }
def k14c4 : Code := { maxStack := 1, maxLocals := 1, code := jdk_67_method_93_code, exceptionTable := #[], attributes := #[] }
def k14m4 : Method := { name := "length", desc := "()I", sig := { parameters := [], returnType := some .int }, accessFlags := 4161, code := some k14c4 }
/-- java/lang/StringBuilder -/
def k14 : Class := { plain zq3 (some 13) with
  accessFlags := 49
  interfaces := #[12, 3, 4, 5]
  cf := some (fileOf pool14 24 #[] #[{ accessFlags := 1, nameIndex := 5, descriptorIndex := 145, attributes := #[] }, { accessFlags := 1, nameIndex := 27, descriptorIndex := 28, attributes := #[] }, { accessFlags := 1, nameIndex := 27, descriptorIndex := 268, attributes := #[] }, { accessFlags := 1, nameIndex := 399, descriptorIndex := 400, attributes := #[] }, { accessFlags := 4161, nameIndex := 345, descriptorIndex := 156, attributes := #[] }] 49 2 #[349, 351, 353, 355] #[{ accessFlags := 24, nameIndex := 357, descriptorIndex := 358, attributes := #[] }])
  fields := #[{ name := zq16, type := .long, accessFlags := 24, slot := 0, constantValue := 0 }]
  methods := #[k14m0, k14m1, k14m2, k14m3, k14m4]
  instanceTypes := #[(.array .byte), .byte, .boolean, .int]
  staticTypes := #[.long]
  resolved := Array.replicate 422 none
  statics := none }

def pool15 : Array CpInfo := pool [(2, .class_ 4), (1, u zq6), (0, u "<init>"), (0, u "()V"), (1, .class_ 10), (1, u zq62), (0, u "allowSecurityManager"), (0, u "I"), (16, u "cons"), (0, u "Ljava/io/Console;"), (77, .class_ 110), (1, u "java/lang/System$CallersHolder"), (43, u "initialErrStream"), (0, u "Ljava/io/PrintStream;"), (19, u "security"), (0, u "Ljava/lang/SecurityManager;"), (31, .class_ 209), (0, u "java/lang/System$1"), (7, u "props"), (0, u "Ljava/util/Properties;"), (2, u "lineSeparator"), (0, u zq24), (96, .class_ 321), (1, u "java/lang/System$LoggerFinder"), (5, .class_ 328), (0, u "java/lang/System$Logger"), (67, u "err"), (2, u "out"), (91, u "notSupportedJnuEncoding"), (15, u "in"), (17, u "initialIn"), (0, u "Ljava/io/InputStream;"), (35, u "bootLayer"), (0, u "Ljava/lang/ModuleLayer;"), (99, .class_ 664), (0, u "java/lang/System$2"), (9, u "NEVER"), (2, u "MAYBE"), (49, u "arraycopy"), (0, u zq63), (72, .class_ 802), (0, u "java/lang/System$Logger$Level")] 31

def k15m0 : Method := { name := "<init>", desc := "()V", sig := { parameters := [], returnType := none }, accessFlags := 2, code := none }
def k15m1 : Method := { name := "arraycopy", desc := zq63, sig := { parameters := [(.object zq6), .int, (.object zq6), .int, .int], returnType := none }, accessFlags := 265, code := none }
/-- java/lang/System -/
def k15 : Class := { plain zq62 (some 0) with
  accessFlags := 49
  interfaces := #[]
  cf := some (fileOf pool15 8 #[.nestMembers #[319, 327, 801, 108, 663, 208]] #[{ accessFlags := 2, nameIndex := 5, descriptorIndex := 6, attributes := #[] }, { accessFlags := 265, nameIndex := 727, descriptorIndex := 728, attributes := #[] }] 49 2 #[] #[{ accessFlags := 25, nameIndex := 507, descriptorIndex := 526, attributes := #[] }, { accessFlags := 25, nameIndex := 399, descriptorIndex := 155, attributes := #[] }, { accessFlags := 25, nameIndex := 396, descriptorIndex := 155, attributes := #[] }, { accessFlags := 10, nameIndex := 525, descriptorIndex := 526, attributes := #[] }, { accessFlags := 26, nameIndex := 674, descriptorIndex := 12, attributes := #[] }, { accessFlags := 26, nameIndex := 677, descriptorIndex := 12, attributes := #[] }, { accessFlags := 10, nameIndex := 11, descriptorIndex := 12, attributes := #[] }, { accessFlags := 74, nameIndex := 175, descriptorIndex := 176, attributes := #[] }, { accessFlags := 10, nameIndex := 491, descriptorIndex := 222, attributes := #[] }, { accessFlags := 74, nameIndex := 29, descriptorIndex := 30, attributes := #[] }, { accessFlags := 74, nameIndex := 154, descriptorIndex := 155, attributes := #[] }, { accessFlags := 10, nameIndex := 217, descriptorIndex := 218, attributes := #[] }, { accessFlags := 10, nameIndex := 221, descriptorIndex := 222, attributes := #[] }, { accessFlags := 8, nameIndex := 562, descriptorIndex := 563, attributes := #[] }])
  fields := #[{ name := "in", type := (.object zq65), accessFlags := 25, slot := 0, constantValue := 0 }, { name := "out", type := (.object zq53), accessFlags := 25, slot := 1, constantValue := 0 }, { name := "err", type := (.object zq53), accessFlags := 25, slot := 2, constantValue := 0 }, { name := "initialIn", type := (.object zq65), accessFlags := 10, slot := 3, constantValue := 0 }, { name := "NEVER", type := .int, accessFlags := 26, slot := 4, constantValue := 0 }, { name := "MAYBE", type := .int, accessFlags := 26, slot := 5, constantValue := 0 }, { name := "allowSecurityManager", type := .int, accessFlags := 10, slot := 6, constantValue := 0 }, { name := "security", type := (.object "java/lang/SecurityManager"), accessFlags := 74, slot := 7, constantValue := 0 }, { name := "notSupportedJnuEncoding", type := (.object zq0), accessFlags := 10, slot := 8, constantValue := 0 }, { name := "cons", type := (.object "java/io/Console"), accessFlags := 74, slot := 9, constantValue := 0 }, { name := "initialErrStream", type := (.object zq53), accessFlags := 74, slot := 10, constantValue := 0 }, { name := "props", type := (.object "java/util/Properties"), accessFlags := 10, slot := 11, constantValue := 0 }, { name := "lineSeparator", type := (.object zq0), accessFlags := 10, slot := 12, constantValue := 0 }, { name := "bootLayer", type := (.object "java/lang/ModuleLayer"), accessFlags := 8, slot := 13, constantValue := 0 }]
  methods := #[k15m0, k15m1]
  instanceTypes := #[]
  staticTypes := #[(.object zq65), (.object zq53), (.object zq53), (.object zq65), .int, .int, .int, (.object "java/lang/SecurityManager"), (.object zq0), (.object "java/io/Console"), (.object zq53), (.object "java/util/Properties"), (.object zq0), (.object "java/lang/ModuleLayer")]
  resolved := Array.replicate 834 none
  statics := none }

def pool16 : Array CpInfo := pool [(2, .class_ 4), (1, u zq6), (0, u "<init>"), (0, u "()V"), (1, .class_ 10), (1, u "java/lang/Number"), (2, .class_ 14), (0, u zq37), (0, u zq16), (0, u "J")] 20

def k16m0 : Method := { name := "<init>", desc := "()V", sig := { parameters := [], returnType := none }, accessFlags := 1, code := none }
/-- java/lang/Number -/
def k16 : Class := { plain "java/lang/Number" (some 0) with
  accessFlags := 1057
  interfaces := #[3]
  cf := some (fileOf pool16 8 #[] #[{ accessFlags := 1, nameIndex := 5, descriptorIndex := 6, attributes := #[] }] 1057 2 #[13] #[{ accessFlags := 26, nameIndex := 15, descriptorIndex := 16, attributes := #[] }])
  fields := #[{ name := zq16, type := .long, accessFlags := 26, slot := 0, constantValue := 0 }]
  methods := #[k16m0]
  instanceTypes := #[]
  staticTypes := #[.long]
  resolved := Array.replicate 37 none
  statics := none }

def pool17 : Array CpInfo := pool [(1, .class_ 2), (0, u zq2), (16, u "digits"), (0, u "[C"), (33, u "(I)I"), (19, u "stringSize"), (2, u "getChars"), (0, u "(II[B)I"), (4, .fieldref 1 84), (0, .nameAndType 85 86), (0, u "DigitOnes"), (0, u "[B"), (0, .fieldref 1 88), (0, .nameAndType 89 86), (0, u "DigitTens"), (99, .class_ 190), (0, u "java/lang/Integer$IntegerCache"), (3, u "I"), (8, .class_ 204), (0, u "java/lang/Number"), (2, u "value"), (94, u "TYPE"), (0, u "Ljava/lang/Class;"), (0, .class_ 305), (0, u zq58), (0, .class_ 307), (0, u zq60), (0, .class_ 309), (0, u zq61), (0, u "MIN_VALUE"), (1, u "MAX_VALUE"), (3, u "SIZE"), (1, u "BYTES"), (1, u zq16), (0, u "J")] 131

def k17c0 : Code := { maxStack := 4, maxLocals := 7, code := jdk_33_method_12_code, exceptionTable := #[], attributes := #[] }
def k17m0 : Method := { name := "getChars", desc := "(II[B)I", sig := { parameters := [.int, .int, (.array .byte)], returnType := some .int }, accessFlags := 8, code := some k17c0 }
def k17c1 : Code := { maxStack := 2, maxLocals := 4, code := jdk_33_method_13_code, exceptionTable := #[], attributes := #[] }
def k17m1 : Method := { name := "stringSize", desc := "(I)I", sig := { parameters := [.int], returnType := some .int }, accessFlags := 8, code := some k17c1 }
/-- java/lang/Integer -/
def k17 : Class := { plain zq2 (some 16) with
  accessFlags := 49
  interfaces := #[4, 6, 7]
  cf := some (fileOf pool17 1 #[.nestMembers #[189]] #[{ accessFlags := 8, nameIndex := 77, descriptorIndex := 78, attributes := #[] }, { accessFlags := 8, nameIndex := 74, descriptorIndex := 54, attributes := #[] }] 49 203 #[304, 306, 308] #[{ accessFlags := 25, nameIndex := 310, descriptorIndex := 194, attributes := #[] }, { accessFlags := 25, nameIndex := 312, descriptorIndex := 194, attributes := #[] }, { accessFlags := 25, nameIndex := 302, descriptorIndex := 303, attributes := #[] }, { accessFlags := 24, nameIndex := 19, descriptorIndex := 20, attributes := #[] }, { accessFlags := 24, nameIndex := 89, descriptorIndex := 86, attributes := #[] }, { accessFlags := 24, nameIndex := 85, descriptorIndex := 86, attributes := #[] }, { accessFlags := 18, nameIndex := 207, descriptorIndex := 194, attributes := #[] }, { accessFlags := 25, nameIndex := 316, descriptorIndex := 194, attributes := #[] }, { accessFlags := 25, nameIndex := 318, descriptorIndex := 194, attributes := #[] }, { accessFlags := 26, nameIndex := 320, descriptorIndex := 321, attributes := #[] }])
  fields := #[{ name := "MIN_VALUE", type := .int, accessFlags := 25, slot := 0, constantValue := 0 }, { name := "MAX_VALUE", type := .int, accessFlags := 25, slot := 1, constantValue := 0 }, { name := "TYPE", type := (.object "java/lang/Class"), accessFlags := 25, slot := 2, constantValue := 0 }, { name := "digits", type := (.array .char), accessFlags := 24, slot := 3, constantValue := 0 }, { name := "DigitTens", type := (.array .byte), accessFlags := 24, slot := 4, constantValue := 0 }, { name := "DigitOnes", type := (.array .byte), accessFlags := 24, slot := 5, constantValue := 0 }, { name := "value", type := .int, accessFlags := 18, slot := 0, constantValue := 0 }, { name := "SIZE", type := .int, accessFlags := 25, slot := 6, constantValue := 0 }, { name := "BYTES", type := .int, accessFlags := 25, slot := 7, constantValue := 0 }, { name := zq16, type := .long, accessFlags := 26, slot := 8, constantValue := 0 }]
  methods := #[k17m0, k17m1]
  instanceTypes := #[.int]
  staticTypes := #[.int, .int, (.object "java/lang/Class"), (.array .char), (.array .byte), (.array .byte), .int, .int, .long]
  resolved := Array.replicate 453 none
  statics := some 2 }

def pool18 : Array CpInfo := pool [(2, .class_ 4), (1, u zq6), (0, u "<init>"), (0, u "()V"), (7, .class_ 16), (1, u zq14), (57, .class_ 76), (1, u "java/util/Arrays$NaturalOrder"), (32, u "()Ljava/lang/Object;"), (3, .class_ 115), (1, u "java/util/Arrays$LegacyMergeSort"), (1, u "Z"), (10, .nameAndType 129 109), (0, u "clone"), (9, u zq36), (10, .methodref 151 152), (0, .class_ 153), (0, .nameAndType 154 155), (0, u zq62), (0, u "arraycopy"), (0, u zq63), (146, u "copyOf"), (1, .methodref 305 306), (0, .class_ 307), (0, .nameAndType 308 309), (0, u zq17), (0, u "min"), (0, u "(II)I"), (0, .methodref 311 128), (0, .class_ 312), (0, u "[B"), (26, .methodref 14 340), (0, .nameAndType 341 342), (0, u zq55), (0, u "([BII)[B"), (0, .methodref 14 344), (0, .nameAndType 345 346), (0, u "checkLength"), (0, u "(II)V"), (28, .class_ 376), (0, u "java/util/Arrays$ArrayList"), (68, u zq26), (269, u "MIN_ARRAY_SORT_GRAN"), (0, u "I"), (2, u "INSERTIONSORT_THRESHOLD"), (149, u "([BI)[B"), (105, .class_ 976), (0, u "java/util/Arrays$ArrayItr")] 52

def k18m0 : Method := { name := "<init>", desc := "()V", sig := { parameters := [], returnType := none }, accessFlags := 2, code := none }
def k18c1 : Code := { maxStack := 6, maxLocals := 3, code := jdk_65_method_121_code, exceptionTable := #[], attributes := #[] }
def k18m1 : Method := { name := "copyOf", desc := "([BI)[B", sig := { parameters := [(.array .byte), .int], returnType := some (.array .byte) }, accessFlags := 9, code := some k18c1 }
def k18c2 : Code := { maxStack := 4, maxLocals := 2, code := jdk_65_method_131_code, exceptionTable := #[], attributes := #[] }
def k18m2 : Method := { name := "checkLength", desc := "(II)V", sig := { parameters := [.int, .int], returnType := none }, accessFlags := 10, code := some k18c2 }
def k18c3 : Code := { maxStack := 3, maxLocals := 3, code := jdk_65_method_132_code, exceptionTable := #[], attributes := #[] }
def k18m3 : Method := { name := zq36, desc := "([BII)[B", sig := { parameters := [(.array .byte), .int, .int], returnType := some (.array .byte) }, accessFlags := 9, code := some k18c3 }
def k18c4 : Code := { maxStack := 6, maxLocals := 5, code := jdk_65_method_133_code, exceptionTable := #[], attributes := #[] }
def k18m4 : Method := { name := zq55, desc := "([BII)[B", sig := { parameters := [(.array .byte), .int, .int], returnType := some (.array .byte) }, accessFlags := 10, code := some k18c4 }
/-- java/util/Arrays -/
def k18 : Class := { plain zq14 (some 0) with
  accessFlags := 49
  interfaces := #[]
  cf := some (fileOf pool18 14 #[.nestMembers #[975, 375, 113, 74]] #[{ accessFlags := 2, nameIndex := 5, descriptorIndex := 6, attributes := #[] }, { accessFlags := 9, nameIndex := 302, descriptorIndex := 869, attributes := #[] }, { accessFlags := 10, nameIndex := 345, descriptorIndex := 346, attributes := #[] }, { accessFlags := 9, nameIndex := 139, descriptorIndex := 342, attributes := #[] }, { accessFlags := 10, nameIndex := 341, descriptorIndex := 342, attributes := #[] }] 49 2 #[] #[{ accessFlags := 26, nameIndex := 715, descriptorIndex := 716, attributes := #[] }, { accessFlags := 26, nameIndex := 719, descriptorIndex := 716, attributes := #[] }, { accessFlags := 4120, nameIndex := 445, descriptorIndex := 117, attributes := #[] }])
  fields := #[{ name := "MIN_ARRAY_SORT_GRAN", type := .int, accessFlags := 26, slot := 0, constantValue := 0 }, { name := "INSERTIONSORT_THRESHOLD", type := .int, accessFlags := 26, slot := 1, constantValue := 0 }, { name := zq26, type := .boolean, accessFlags := 4120, slot := 2, constantValue := 0 }]
  methods := #[k18m0, k18m1, k18m2, k18m3, k18m4]
  instanceTypes := #[]
  staticTypes := #[.int, .int, .boolean]
  resolved := Array.replicate 1029 none
  statics := none }

def pool19 : Array CpInfo := pool [(1, .class_ 2), (0, u zq0), (1, .class_ 6), (1, u zq6), (0, u "<init>"), (0, u "()V"), (0, .methodref 1 10), (0, .nameAndType 11 12), (0, u "checkIndex"), (0, u "(II)V"), (1, .class_ 16), (1, u zq50), (36, u "([BI)C"), (67, u zq26), (0, u "Z"), (98, .class_ 223), (1, u "java/lang/StringLatin1$LinesSpliterator"), (28, u "charAt"), (137, .class_ 391), (0, u "java/lang/StringLatin1$CharsSpliterator")] 3

def k19m0 : Method := { name := "<init>", desc := "()V", sig := { parameters := [], returnType := none }, accessFlags := 0, code := none }
def k19c1 : Code := { maxStack := 2, maxLocals := 2, code := jdk_43_method_2_code, exceptionTable := #[], attributes := #[] }
def k19m1 : Method := { name := "charAt", desc := "([BI)C", sig := { parameters := [(.array .byte), .int], returnType := some .char }, accessFlags := 9, code := some k19c1 }
/-- java/lang/StringLatin1 -/
def k19 : Class := { plain zq50 (some 0) with
  accessFlags := 48
  interfaces := #[]
  cf := some (fileOf pool19 14 #[.nestMembers #[390, 221]] #[{ accessFlags := 0, nameIndex := 7, descriptorIndex := 8, attributes := #[] }, { accessFlags := 9, nameIndex := 252, descriptorIndex := 53, attributes := #[] }] 48 4 #[] #[{ accessFlags := 4120, nameIndex := 121, descriptorIndex := 122, attributes := #[] }])
  fields := #[{ name := zq26, type := .boolean, accessFlags := 4120, slot := 0, constantValue := 0 }]
  methods := #[k19m0, k19m1]
  instanceTypes := #[]
  staticTypes := #[.boolean]
  resolved := Array.replicate 395 none
  statics := none }

def pool20 : Array CpInfo := pool [(2, .class_ 4), (1, u zq6), (0, u "<init>"), (0, u "()V"), (17, .class_ 26), (1, u zq10), (6, u "checkIndex"), (21, .class_ 56), (0, u "jdk/internal/util/Preconditions$4"), (57, .class_ 115), (0, u "jdk/internal/util/Preconditions$1"), (7, u zq11), (0, u zq12), (0, .class_ 126), (0, u "jdk/internal/util/Preconditions$2"), (3, u "AIOOBE_FORMATTER"), (0, .class_ 132), (0, u "jdk/internal/util/Preconditions$3"), (3, u "IOOBE_FORMATTER"), (41, u zq32)] 15

def k20m0 : Method := { name := "<init>", desc := "()V", sig := { parameters := [], returnType := none }, accessFlags := 1, code := none }
def k20c1 : Code := { maxStack := 3, maxLocals := 3, code := jdk_41_method_11_code, exceptionTable := #[], attributes := #[] }
def k20m1 : Method := { name := "checkIndex", desc := zq32, sig := { parameters := [.int, .int, (.object zq33)], returnType := some .int }, accessFlags := 9, code := some k20c1 }
/-- jdk/internal/util/Preconditions -/
def k20 : Class := { plain zq10 (some 0) with
  accessFlags := 33
  interfaces := #[]
  cf := some (fileOf pool20 24 #[.nestMembers #[55, 131, 125, 114]] #[{ accessFlags := 1, nameIndex := 5, descriptorIndex := 6, attributes := #[] }, { accessFlags := 9, nameIndex := 33, descriptorIndex := 178, attributes := #[] }] 33 2 #[] #[{ accessFlags := 25, nameIndex := 123, descriptorIndex := 124, attributes := #[] }, { accessFlags := 25, nameIndex := 130, descriptorIndex := 124, attributes := #[] }, { accessFlags := 25, nameIndex := 136, descriptorIndex := 124, attributes := #[] }])
  fields := #[{ name := zq11, type := (.object zq33), accessFlags := 25, slot := 0, constantValue := 0 }, { name := "AIOOBE_FORMATTER", type := (.object zq33), accessFlags := 25, slot := 1, constantValue := 0 }, { name := "IOOBE_FORMATTER", type := (.object zq33), accessFlags := 25, slot := 2, constantValue := 0 }]
  methods := #[k20m0, k20m1]
  instanceTypes := #[]
  staticTypes := #[(.object zq33), (.object zq33), (.object zq33)]
  resolved := Array.replicate 194 none
  statics := some 3 }

def pool21 : Array CpInfo := pool [(6, .class_ 8), (1, u zq6), (0, u "<init>"), (0, u "()V"), (1, .class_ 14), (1, u zq19), (31, u zq26), (0, u "Z"), (13, u "HI_BYTE_SHIFT"), (0, u "I"), (2, u "LO_BYTE_SHIFT"), (49, .methodref 12 116), (0, .nameAndType 117 118), (0, u "compress"), (0, u "([CI[BII)I"), (3, u "([CII)[B"), (138, u zq43), (0, u "([BI)B"), (106, .class_ 371), (1, u "java/lang/StringUTF16$LinesSpliterator"), (58, u "MAX_LENGTH"), (196, .class_ 628), (0, u "java/lang/StringUTF16$CodePointsSpliterator"), (0, .class_ 630), (0, u "java/lang/StringUTF16$CharsSpliterator")] 4

def k21m0 : Method := { name := "<init>", desc := "()V", sig := { parameters := [], returnType := none }, accessFlags := 0, code := none }
def k21c1 : Code := { maxStack := 2, maxLocals := 2, code := jdk_52_method_15_code, exceptionTable := #[], attributes := #[] }
def k21m1 : Method := { name := zq43, desc := "([BI)B", sig := { parameters := [(.array .byte), .int], returnType := some .byte }, accessFlags := 8, code := some k21c1 }
def k21c2 : Code := { maxStack := 5, maxLocals := 6, code := jdk_52_method_16_code, exceptionTable := #[], attributes := #[] }
def k21m2 : Method := { name := "compress", desc := "([CII)[B", sig := { parameters := [(.array .char), .int, .int], returnType := some (.array .byte) }, accessFlags := 9, code := some k21c2 }
def k21c3 : Code := { maxStack := 3, maxLocals := 7, code := jdk_52_method_21_code, exceptionTable := #[], attributes := #[] }
def k21m3 : Method := { name := "compress", desc := "([CI[BII)I", sig := { parameters := [(.array .char), .int, (.array .byte), .int, .int], returnType := some .int }, accessFlags := 9, code := some k21c3 }
/-- java/lang/StringUTF16 -/
def k21 : Class := { plain zq19 (some 0) with
  accessFlags := 48
  interfaces := #[]
  cf := some (fileOf pool21 12 #[.nestMembers #[627, 629, 369]] #[{ accessFlags := 0, nameIndex := 9, descriptorIndex := 10, attributes := #[] }, { accessFlags := 8, nameIndex := 261, descriptorIndex := 262, attributes := #[] }, { accessFlags := 9, nameIndex := 117, descriptorIndex := 122, attributes := #[] }, { accessFlags := 9, nameIndex := 117, descriptorIndex := 118, attributes := #[] }] 48 6 #[] #[{ accessFlags := 26, nameIndex := 61, descriptorIndex := 62, attributes := #[] }, { accessFlags := 26, nameIndex := 65, descriptorIndex := 62, attributes := #[] }, { accessFlags := 24, nameIndex := 430, descriptorIndex := 62, attributes := #[] }, { accessFlags := 4120, nameIndex := 46, descriptorIndex := 47, attributes := #[] }])
  fields := #[{ name := "HI_BYTE_SHIFT", type := .int, accessFlags := 26, slot := 0, constantValue := 0 }, { name := "LO_BYTE_SHIFT", type := .int, accessFlags := 26, slot := 1, constantValue := 0 }, { name := "MAX_LENGTH", type := .int, accessFlags := 24, slot := 2, constantValue := 0 }, { name := zq26, type := .boolean, accessFlags := 4120, slot := 3, constantValue := 0 }]
  methods := #[k21m0, k21m1, k21m2, k21m3]
  instanceTypes := #[]
  staticTypes := #[.int, .int, .int, .boolean]
  resolved := Array.replicate 635 none
  statics := none }

def pool22 : Array CpInfo := pool [(9, u "<init>"), (6, .class_ 18), (1, u zq6), (0, u "()V"), (1, .class_ 23), (1, u zq42), (0, u "LOG2_ARRAY_LONG_INDEX_SCALE"), (0, u "I"), (2, u "U"), (0, u "Ljdk/internal/misc/Unsafe;"), (8, u "BIG_ENDIAN"), (0, u "Z"), (8, u "LOG2_BYTE_BIT_SIZE"), (4, u "LOG2_ARRAY_INT_INDEX_SCALE"), (54, u "JLA"), (0, u "Ljdk/internal/access/JavaLangAccess;"), (11, u "LOG2_ARRAY_BOOLEAN_INDEX_SCALE"), (9, u "LOG2_ARRAY_BYTE_INDEX_SCALE"), (5, u "LOG2_ARRAY_CHAR_INDEX_SCALE"), (5, u "LOG2_ARRAY_SHORT_INDEX_SCALE"), (18, u "LOG2_ARRAY_FLOAT_INDEX_SCALE"), (24, u "LOG2_ARRAY_DOUBLE_INDEX_SCALE"), (6, .methodref 195 196), (0, .class_ 197), (0, .nameAndType 198 199), (0, u zq17), (0, u "max"), (0, u "(II)I"), (0, .integer 2147483639), (76, u "T_BOOLEAN"), (2, u "T_CHAR"), (1, u "T_FLOAT"), (1, u "T_DOUBLE"), (1, u "T_BYTE"), (1, u "T_SHORT"), (1, u "T_INT"), (1, u "T_LONG"), (1, u "SOFT_MAX_ARRAY_LENGTH"), (56, u "newLength"), (0, u "(III)I")] 25

def k22m0 : Method := { name := "<init>", desc := "()V", sig := { parameters := [], returnType := none }, accessFlags := 2, code := none }
def k22c1 : Code := { maxStack := 3, maxLocals := 4, code := jdk_48_method_27_code, exceptionTable := #[], attributes := #[] }
def k22m1 : Method := { name := "newLength", desc := "(III)I", sig := { parameters := [.int, .int, .int], returnType := some .int }, accessFlags := 9, code := some k22c1 }
/-- jdk/internal/util/ArraysSupport -/
def k22 : Class := { plain zq42 (some 0) with
  accessFlags := 33
  interfaces := #[]
  cf := some (fileOf pool22 21 #[] #[{ accessFlags := 2, nameIndex := 9, descriptorIndex := 19, attributes := #[] }, { accessFlags := 9, nameIndex := 351, descriptorIndex := 352, attributes := #[] }] 33 16 #[] #[{ accessFlags := 24, nameIndex := 28, descriptorIndex := 29, attributes := #[] }, { accessFlags := 26, nameIndex := 38, descriptorIndex := 39, attributes := #[] }, { accessFlags := 25, nameIndex := 121, descriptorIndex := 25, attributes := #[] }, { accessFlags := 25, nameIndex := 131, descriptorIndex := 25, attributes := #[] }, { accessFlags := 25, nameIndex := 137, descriptorIndex := 25, attributes := #[] }, { accessFlags := 25, nameIndex := 143, descriptorIndex := 25, attributes := #[] }, { accessFlags := 25, nameIndex := 53, descriptorIndex := 25, attributes := #[] }, { accessFlags := 25, nameIndex := 24, descriptorIndex := 25, attributes := #[] }, { accessFlags := 25, nameIndex := 162, descriptorIndex := 25, attributes := #[] }, { accessFlags := 25, nameIndex := 187, descriptorIndex := 25, attributes := #[] }, { accessFlags := 26, nameIndex := 48, descriptorIndex := 25, attributes := #[] }, { accessFlags := 25, nameIndex := 277, descriptorIndex := 25, attributes := #[] }, { accessFlags := 25, nameIndex := 280, descriptorIndex := 25, attributes := #[] }, { accessFlags := 25, nameIndex := 282, descriptorIndex := 25, attributes := #[] }, { accessFlags := 25, nameIndex := 284, descriptorIndex := 25, attributes := #[] }, { accessFlags := 25, nameIndex := 286, descriptorIndex := 25, attributes := #[] }, { accessFlags := 25, nameIndex := 288, descriptorIndex := 25, attributes := #[] }, { accessFlags := 25, nameIndex := 290, descriptorIndex := 25, attributes := #[] }, { accessFlags := 25, nameIndex := 292, descriptorIndex := 25, attributes := #[] }, { accessFlags := 26, nameIndex := 108, descriptorIndex := 109, attributes := #[] }, { accessFlags := 25, nameIndex := 294, descriptorIndex := 25, attributes := #[] }])
  fields := #[{ name := "U", type := (.object "jdk/internal/misc/Unsafe"), accessFlags := 24, slot := 0, constantValue := 0 }, { name := "BIG_ENDIAN", type := .boolean, accessFlags := 26, slot := 1, constantValue := 0 }, { name := "LOG2_ARRAY_BOOLEAN_INDEX_SCALE", type := .int, accessFlags := 25, slot := 2, constantValue := 0 }, { name := "LOG2_ARRAY_BYTE_INDEX_SCALE", type := .int, accessFlags := 25, slot := 3, constantValue := 0 }, { name := "LOG2_ARRAY_CHAR_INDEX_SCALE", type := .int, accessFlags := 25, slot := 4, constantValue := 0 }, { name := "LOG2_ARRAY_SHORT_INDEX_SCALE", type := .int, accessFlags := 25, slot := 5, constantValue := 0 }, { name := "LOG2_ARRAY_INT_INDEX_SCALE", type := .int, accessFlags := 25, slot := 6, constantValue := 0 }, { name := "LOG2_ARRAY_LONG_INDEX_SCALE", type := .int, accessFlags := 25, slot := 7, constantValue := 0 }, { name := "LOG2_ARRAY_FLOAT_INDEX_SCALE", type := .int, accessFlags := 25, slot := 8, constantValue := 0 }, { name := "LOG2_ARRAY_DOUBLE_INDEX_SCALE", type := .int, accessFlags := 25, slot := 9, constantValue := 0 }, { name := "LOG2_BYTE_BIT_SIZE", type := .int, accessFlags := 26, slot := 10, constantValue := 0 }, { name := "T_BOOLEAN", type := .int, accessFlags := 25, slot := 11, constantValue := 0 }, { name := "T_CHAR", type := .int, accessFlags := 25, slot := 12, constantValue := 0 }, { name := "T_FLOAT", type := .int, accessFlags := 25, slot := 13, constantValue := 0 }, { name := "T_DOUBLE", type := .int, accessFlags := 25, slot := 14, constantValue := 0 }, { name := "T_BYTE", type := .int, accessFlags := 25, slot := 15, constantValue := 0 }, { name := "T_SHORT", type := .int, accessFlags := 25, slot := 16, constantValue := 0 }, { name := "T_INT", type := .int, accessFlags := 25, slot := 17, constantValue := 0 }, { name := "T_LONG", type := .int, accessFlags := 25, slot := 18, constantValue := 0 }, { name := "JLA", type := (.object "jdk/internal/access/JavaLangAccess"), accessFlags := 26, slot := 19, constantValue := 0 }, { name := "SOFT_MAX_ARRAY_LENGTH", type := .int, accessFlags := 25, slot := 20, constantValue := 0 }]
  methods := #[k22m0, k22m1]
  instanceTypes := #[]
  staticTypes := #[(.object "jdk/internal/misc/Unsafe"), .boolean, .int, .int, .int, .int, .int, .int, .int, .int, .int, .int, .int, .int, .int, .int, .int, .int, .int, (.object "jdk/internal/access/JavaLangAccess"), .int]
  resolved := Array.replicate 378 none
  statics := none }

def pool23 : Array CpInfo := pool [(1, .class_ 2), (0, u "java/lang/Cloneable"), (0, .class_ 4), (0, u zq6)] 2

/-- java/lang/Cloneable -/
def k23 : Class := { plain "java/lang/Cloneable" (some 0) with
  accessFlags := 1537
  interfaces := #[]
  cf := some (fileOf pool23 1 #[] #[] 1537 3 #[] #[])
  fields := #[]
  methods := #[]
  instanceTypes := #[]
  staticTypes := #[]
  resolved := Array.replicate 7 none
  statics := none }

def pool24 : Array CpInfo := pool [(2, .class_ 4), (1, u zq6), (0, u "<init>"), (0, u "()V"), (12, .class_ 20), (0, u "java/util/Collections"), (63, u "r"), (0, u "Ljava/util/Random;"), (80, .class_ 167), (0, u "java/util/Collections$UnmodifiableCollection"), (6, .class_ 175), (0, u "java/util/Collections$UnmodifiableSequencedCollection"), (6, .class_ 183), (0, u "java/util/Collections$UnmodifiableSet"), (6, .class_ 191), (0, u "java/util/Collections$UnmodifiableSequencedSet"), (6, .class_ 199), (0, u "java/util/Collections$UnmodifiableSortedSet"), (6, .class_ 207), (0, u "java/util/Collections$UnmodifiableNavigableSet"), (4, .class_ 213), (0, u "java/util/Collections$UnmodifiableList"), (1, .class_ 216), (0, u "java/util/Collections$UnmodifiableRandomAccessList"), (6, .class_ 224), (0, u "java/util/Collections$UnmodifiableMap"), (6, .class_ 232), (0, u "java/util/Collections$UnmodifiableSequencedMap"), (4, .class_ 238), (0, u "java/util/Collections$UnmodifiableSortedMap"), (6, .class_ 246), (0, u "java/util/Collections$UnmodifiableNavigableMap"), (3, .class_ 251), (0, u "java/util/Collections$SynchronizedCollection"), (4, .class_ 257), (0, u "java/util/Collections$SynchronizedSet"), (4, .class_ 263), (0, u "java/util/Collections$SynchronizedSortedSet"), (1, .class_ 266), (0, u "java/util/Collections$SynchronizedNavigableSet"), (1, .class_ 269), (0, u "java/util/Collections$SynchronizedRandomAccessList"), (1, .class_ 272), (0, u "java/util/Collections$SynchronizedList"), (5, .class_ 279), (0, u "java/util/Collections$SynchronizedMap"), (1, .class_ 282), (0, u "java/util/Collections$SynchronizedSortedMap"), (1, .class_ 285), (0, u "java/util/Collections$SynchronizedNavigableMap"), (1, .class_ 288), (0, u "java/util/Collections$CheckedCollection"), (11, .class_ 301), (0, u "java/util/Collections$CheckedQueue"), (3, .class_ 306), (0, u "java/util/Collections$CheckedSet"), (3, .class_ 311), (0, u "java/util/Collections$CheckedSortedSet"), (3, .class_ 316), (0, u "java/util/Collections$CheckedNavigableSet"), (3, .class_ 321), (0, u "java/util/Collections$CheckedRandomAccessList"), (3, .class_ 326), (0, u "java/util/Collections$CheckedList"), (1, .class_ 329), (0, u "java/util/Collections$CheckedMap"), (3, .class_ 334), (0, u "java/util/Collections$CheckedSortedMap"), (3, .class_ 339), (0, u "java/util/Collections$CheckedNavigableMap"), (4, .class_ 346), (1, u "java/util/Collections$EmptyIterator"), (3, .class_ 352), (1, u "java/util/Collections$EmptyListIterator"), (2, .class_ 357), (1, u "java/util/Collections$EmptyEnumeration"), (4, u "EMPTY_SET"), (0, u "Ljava/util/Set;"), (6, u "EMPTY_LIST"), (0, u zq23), (2, u "EMPTY_MAP"), (0, u "Ljava/util/Map;"), (4, .class_ 381), (0, u "java/util/Collections$SingletonSet"), (2, .class_ 385), (0, u "java/util/Collections$1"), (1, .class_ 388), (0, u "java/util/Collections$2"), (1, .class_ 391), (0, u "java/util/Collections$SingletonList"), (1, .class_ 394), (0, u "java/util/Collections$SingletonMap"), (22, .class_ 418), (0, u "java/util/Collections$CopiesList"), (4, .class_ 425), (1, u "java/util/Collections$ReverseComparator"), (8, .class_ 435), (0, u "java/util/Collections$ReverseComparator2"), (6, .class_ 443), (0, u "java/util/Collections$3"), (25, .class_ 470), (0, u "java/util/Collections$SetFromMap"), (2, .class_ 474), (0, u "java/util/Collections$SequencedSetFromMap"), (3, .class_ 479), (0, u "java/util/Collections$AsLIFOQueue"), (11, .class_ 492), (0, u "java/util/Collections$EmptySet"), (1, .class_ 495), (0, u zq67), (1, .class_ 498), (0, u "java/util/Collections$EmptyMap"), (1, u "BINARYSEARCH_THRESHOLD"), (0, u "I"), (2, u "REVERSE_THRESHOLD"), (1, u "SHUFFLE_THRESHOLD"), (1, u "FILL_THRESHOLD"), (1, u "ROTATE_THRESHOLD"), (1, u "COPY_THRESHOLD"), (1, u "REPLACEALL_THRESHOLD"), (1, u "INDEXOFSUBLIST_THRESHOLD"), (333, .class_ 851), (0, u "java/util/Collections$CheckedMap$CheckedEntrySet"), (0, .class_ 853), (0, u "java/util/Collections$CheckedMap$CheckedEntrySet$CheckedEntry"), (0, .class_ 855), (0, u "java/util/Collections$CheckedMap$CheckedEntrySet$1"), (0, .class_ 857), (0, u "java/util/Collections$CheckedList$1"), (0, .class_ 859), (0, u "java/util/Collections$CheckedCollection$1"), (0, .class_ 861), (0, u "java/util/Collections$UnmodifiableNavigableMap$EmptyNavigableMap"), (0, .class_ 863), (0, u "java/util/Collections$UnmodifiableMap$UnmodifiableEntrySet"), (0, .class_ 865), (0, u "java/util/Collections$UnmodifiableMap$UnmodifiableEntrySet$UnmodifiableEntry"), (0, .class_ 867), (0, u "java/util/Collections$UnmodifiableMap$UnmodifiableEntrySet$UnmodifiableEntrySetSpliterator"), (0, .class_ 869), (0, u "java/util/Collections$UnmodifiableMap$UnmodifiableEntrySet$1"), (0, .class_ 871), (0, u "java/util/Collections$UnmodifiableList$1"), (0, .class_ 873), (0, u "java/util/Collections$UnmodifiableNavigableSet$EmptyNavigableSet"), (0, .class_ 875), (0, u "java/util/Collections$UnmodifiableCollection$1")] 57

def k24m0 : Method := { name := "<init>", desc := "()V", sig := { parameters := [], returnType := none }, accessFlags := 2, code := none }
/-- java/util/Collections -/
def k24 : Class := { plain "java/util/Collections" (some 0) with
  accessFlags := 33
  interfaces := #[]
  cf := some (fileOf pool24 19 #[.nestMembers #[478, 473, 469, 434, 423, 417, 393, 390, 380, 497, 494, 491, 355, 350, 344, 338, 333, 328, 850, 852, 854, 320, 325, 856, 315, 310, 305, 300, 287, 858, 284, 281, 278, 268, 271, 265, 262, 256, 250, 245, 860, 237, 231, 223, 862, 864, 866, 868, 215, 212, 870, 206, 872, 198, 190, 182, 174, 166, 874, 442, 387, 384]] #[{ accessFlags := 2, nameIndex := 5, descriptorIndex := 6, attributes := #[] }] 33 2 #[] #[{ accessFlags := 26, nameIndex := 500, descriptorIndex := 501, attributes := #[] }, { accessFlags := 26, nameIndex := 504, descriptorIndex := 501, attributes := #[] }, { accessFlags := 26, nameIndex := 506, descriptorIndex := 501, attributes := #[] }, { accessFlags := 26, nameIndex := 508, descriptorIndex := 501, attributes := #[] }, { accessFlags := 26, nameIndex := 510, descriptorIndex := 501, attributes := #[] }, { accessFlags := 26, nameIndex := 512, descriptorIndex := 501, attributes := #[] }, { accessFlags := 26, nameIndex := 514, descriptorIndex := 501, attributes := #[] }, { accessFlags := 26, nameIndex := 516, descriptorIndex := 501, attributes := #[] }, { accessFlags := 10, nameIndex := 84, descriptorIndex := 85, attributes := #[] }, { accessFlags := 25, nameIndex := 362, descriptorIndex := 363, attributes := #[] }, { accessFlags := 25, nameIndex := 370, descriptorIndex := 371, attributes := #[] }, { accessFlags := 25, nameIndex := 374, descriptorIndex := 375, attributes := #[] }])
  fields := #[{ name := "BINARYSEARCH_THRESHOLD", type := .int, accessFlags := 26, slot := 0, constantValue := 0 }, { name := "REVERSE_THRESHOLD", type := .int, accessFlags := 26, slot := 1, constantValue := 0 }, { name := "SHUFFLE_THRESHOLD", type := .int, accessFlags := 26, slot := 2, constantValue := 0 }, { name := "FILL_THRESHOLD", type := .int, accessFlags := 26, slot := 3, constantValue := 0 }, { name := "ROTATE_THRESHOLD", type := .int, accessFlags := 26, slot := 4, constantValue := 0 }, { name := "COPY_THRESHOLD", type := .int, accessFlags := 26, slot := 5, constantValue := 0 }, { name := "REPLACEALL_THRESHOLD", type := .int, accessFlags := 26, slot := 6, constantValue := 0 }, { name := "INDEXOFSUBLIST_THRESHOLD", type := .int, accessFlags := 26, slot := 7, constantValue := 0 }, { name := "r", type := (.object "java/util/Random"), accessFlags := 10, slot := 8, constantValue := 0 }, { name := "EMPTY_SET", type := (.object "java/util/Set"), accessFlags := 25, slot := 9, constantValue := 0 }, { name := "EMPTY_LIST", type := (.object zq13), accessFlags := 25, slot := 10, constantValue := 0 }, { name := "EMPTY_MAP", type := (.object "java/util/Map"), accessFlags := 25, slot := 11, constantValue := 0 }]
  methods := #[k24m0]
  instanceTypes := #[]
  staticTypes := #[.int, .int, .int, .int, .int, .int, .int, .int, (.object "java/util/Random"), (.object "java/util/Set"), (.object zq13), (.object "java/util/Map")]
  resolved := Array.replicate 933 none
  statics := some 4 }

def pool25 : Array CpInfo := pool [(8, .class_ 10), (1, u "java/lang/Iterable"), (24, .class_ 36), (0, u zq6)] 25

/-- java/lang/Iterable -/
def k25 : Class := { plain "java/lang/Iterable" (some 0) with
  accessFlags := 1537
  interfaces := #[]
  cf := some (fileOf pool25 8 #[] #[] 1537 35 #[] #[])
  fields := #[]
  methods := #[]
  instanceTypes := #[]
  staticTypes := #[]
  resolved := Array.replicate 62 none
  statics := none }

def pool26 : Array CpInfo := pool [(10, .class_ 12), (1, u zq66), (47, .class_ 61), (0, u zq6), (0, .class_ 63), (0, u "java/lang/Iterable")] 51

/-- java/util/Collection -/
def k26 : Class := { plain zq66 (some 0) with
  accessFlags := 1537
  interfaces := #[25]
  cf := some (fileOf pool26 10 #[] #[] 1537 60 #[62] #[])
  fields := #[]
  methods := #[]
  instanceTypes := #[]
  staticTypes := #[]
  resolved := Array.replicate 115 none
  statics := none }

def pool27 : Array CpInfo := pool [(2, .class_ 4), (1, u zq6), (0, u "<init>"), (0, u "()V"), (1, .class_ 10), (1, u zq68), (66, .class_ 78), (0, u zq66)] 81

def k27m0 : Method := { name := "<init>", desc := "()V", sig := { parameters := [], returnType := none }, accessFlags := 4, code := none }
/-- java/util/AbstractCollection -/
def k27 : Class := { plain zq68 (some 0) with
  accessFlags := 1057
  interfaces := #[26]
  cf := some (fileOf pool27 8 #[] #[{ accessFlags := 4, nameIndex := 5, descriptorIndex := 6, attributes := #[] }] 1057 2 #[77] #[])
  fields := #[]
  methods := #[k27m0]
  instanceTypes := #[]
  staticTypes := #[]
  resolved := Array.replicate 160 none
  statics := none }

def pool28 : Array CpInfo := pool [(8, .class_ 10), (1, u zq69), (15, .class_ 27), (0, u zq6), (0, .class_ 29), (0, u zq66)] 27

/-- java/util/SequencedCollection -/
def k28 : Class := { plain zq69 (some 0) with
  accessFlags := 1537
  interfaces := #[26]
  cf := some (fileOf pool28 8 #[] #[] 1537 26 #[28] #[])
  fields := #[]
  methods := #[]
  instanceTypes := #[]
  staticTypes := #[]
  resolved := Array.replicate 57 none
  statics := none }

def pool29 : Array CpInfo := pool [(8, .class_ 10), (1, u zq13), (92, .class_ 104), (0, u zq6), (15, .class_ 121), (0, u zq69)] 129

/-- java/util/List -/
def k29 : Class := { plain zq13 (some 0) with
  accessFlags := 1537
  interfaces := #[28]
  cf := some (fileOf pool29 8 #[] #[] 1537 103 #[120] #[])
  fields := #[]
  methods := #[]
  instanceTypes := #[]
  staticTypes := #[]
  resolved := Array.replicate 251 none
  statics := none }

def pool30 : Array CpInfo := pool [(2, .class_ 4), (1, u zq68), (0, u "<init>"), (0, u "()V"), (1, .class_ 10), (1, u "java/util/AbstractList"), (0, u "modCount"), (0, u "I"), (64, .class_ 78), (0, u "java/util/AbstractList$Itr"), (3, .class_ 83), (0, u "java/util/AbstractList$ListItr"), (9, .class_ 94), (0, u "java/util/AbstractList$RandomAccessSubList"), (3, .class_ 99), (0, u "java/util/AbstractList$SubList"), (33, .class_ 134), (0, u zq13), (73, .class_ 209), (0, u "java/util/AbstractList$SubList$1"), (0, .class_ 211), (0, u "java/util/AbstractList$RandomAccessSpliterator")] 6

def k30m0 : Method := { name := "<init>", desc := "()V", sig := { parameters := [], returnType := none }, accessFlags := 4, code := none }
/-- java/util/AbstractList -/
def k30 : Class := { plain "java/util/AbstractList" (some 27) with
  accessFlags := 1057
  interfaces := #[29]
  cf := some (fileOf pool30 8 #[.nestMembers #[93, 98, 208, 210, 82, 77]] #[{ accessFlags := 4, nameIndex := 5, descriptorIndex := 6, attributes := #[] }] 1057 2 #[133] #[{ accessFlags := 132, nameIndex := 11, descriptorIndex := 12, attributes := #[] }])
  fields := #[{ name := "modCount", type := .int, accessFlags := 132, slot := 0, constantValue := 0 }]
  methods := #[k30m0]
  instanceTypes := #[.int]
  staticTypes := #[]
  resolved := Array.replicate 218 none
  statics := none }

def pool31 : Array CpInfo := pool [(1, .class_ 2), (0, u "java/util/RandomAccess"), (0, .class_ 4), (0, u zq6)] 2

/-- java/util/RandomAccess -/
def k31 : Class := { plain "java/util/RandomAccess" (some 0) with
  accessFlags := 1537
  interfaces := #[]
  cf := some (fileOf pool31 1 #[] #[] 1537 3 #[] #[])
  fields := #[]
  methods := #[]
  instanceTypes := #[]
  staticTypes := #[]
  resolved := Array.replicate 7 none
  statics := none }

def pool32 : Array CpInfo := pool [(2, .class_ 4), (1, u "java/util/AbstractList"), (0, u "<init>"), (0, u "()V"), (1, .class_ 10), (1, u "java/util/Collections"), (54, .class_ 66), (0, u zq67), (0, .class_ 68), (0, u "java/util/RandomAccess"), (0, .class_ 70), (0, u zq37), (0, u zq16), (0, u "J")] 77

def k32m0 : Method := { name := "<init>", desc := "()V", sig := { parameters := [], returnType := none }, accessFlags := 2, code := none }
/-- java/util/Collections$EmptyList -/
def k32 : Class := { plain zq67 (some 30) with
  accessFlags := 32
  interfaces := #[31, 3]
  cf := some (fileOf pool32 65 #[.nestHost 8] #[{ accessFlags := 2, nameIndex := 5, descriptorIndex := 6, attributes := #[] }] 32 2 #[67, 69] #[{ accessFlags := 26, nameIndex := 71, descriptorIndex := 72, attributes := #[] }])
  fields := #[{ name := zq16, type := .long, accessFlags := 26, slot := 0, constantValue := 0 }]
  methods := #[k32m0]
  instanceTypes := #[.int]
  staticTypes := #[.long]
  resolved := Array.replicate 150 none
  statics := none }

def pool33 : Array CpInfo := pool [(2, .class_ 4), (1, u zq15), (0, u "<init>"), (2, .class_ 10), (1, u zq6), (0, u "()V"), (2, u "format"), (0, u "B"), (2, u "classLoaderName"), (0, u zq24), (2, u "moduleName"), (2, u "moduleVersion"), (12, u "declaringClass"), (4, u "methodName"), (2, u "fileName"), (2, u "lineNumber"), (0, u "I"), (65, u "declaringClassObject"), (0, u "Ljava/lang/Class;"), (33, .class_ 153), (1, u "java/lang/StackTraceElement$HashedModules"), (17, .class_ 172), (0, u zq37), (0, u "NATIVE_METHOD"), (1, u "UNKNOWN_SOURCE"), (2, u "BUILTIN_CLASS_LOADER"), (1, u "JDK_NON_UPGRADEABLE_MODULE"), (1, u zq16), (0, u "J")] 51

def k33m0 : Method := { name := "<init>", desc := "()V", sig := { parameters := [], returnType := none }, accessFlags := 2, code := none }
/-- java/lang/StackTraceElement -/
def k33 : Class := { plain zq15 (some 0) with
  accessFlags := 49
  interfaces := #[3]
  cf := some (fileOf pool33 2 #[.nestMembers #[151]] #[{ accessFlags := 2, nameIndex := 5, descriptorIndex := 11, attributes := #[] }] 49 8 #[171] #[{ accessFlags := 26, nameIndex := 173, descriptorIndex := 19, attributes := #[] }, { accessFlags := 26, nameIndex := 175, descriptorIndex := 19, attributes := #[] }, { accessFlags := 130, nameIndex := 116, descriptorIndex := 117, attributes := #[] }, { accessFlags := 2, nameIndex := 18, descriptorIndex := 19, attributes := #[] }, { accessFlags := 2, nameIndex := 22, descriptorIndex := 19, attributes := #[] }, { accessFlags := 2, nameIndex := 25, descriptorIndex := 19, attributes := #[] }, { accessFlags := 2, nameIndex := 38, descriptorIndex := 19, attributes := #[] }, { accessFlags := 2, nameIndex := 43, descriptorIndex := 19, attributes := #[] }, { accessFlags := 2, nameIndex := 46, descriptorIndex := 19, attributes := #[] }, { accessFlags := 2, nameIndex := 49, descriptorIndex := 50, attributes := #[] }, { accessFlags := 2, nameIndex := 14, descriptorIndex := 15, attributes := #[] }, { accessFlags := 26, nameIndex := 178, descriptorIndex := 15, attributes := #[] }, { accessFlags := 26, nameIndex := 180, descriptorIndex := 15, attributes := #[] }, { accessFlags := 26, nameIndex := 182, descriptorIndex := 183, attributes := #[] }])
  fields := #[{ name := "NATIVE_METHOD", type := (.object zq0), accessFlags := 26, slot := 0, constantValue := 0 }, { name := "UNKNOWN_SOURCE", type := (.object zq0), accessFlags := 26, slot := 1, constantValue := 0 }, { name := "declaringClassObject", type := (.object "java/lang/Class"), accessFlags := 130, slot := 0, constantValue := 0 }, { name := "classLoaderName", type := (.object zq0), accessFlags := 2, slot := 1, constantValue := 0 }, { name := "moduleName", type := (.object zq0), accessFlags := 2, slot := 2, constantValue := 0 }, { name := "moduleVersion", type := (.object zq0), accessFlags := 2, slot := 3, constantValue := 0 }, { name := "declaringClass", type := (.object zq0), accessFlags := 2, slot := 4, constantValue := 0 }, { name := "methodName", type := (.object zq0), accessFlags := 2, slot := 5, constantValue := 0 }, { name := "fileName", type := (.object zq0), accessFlags := 2, slot := 6, constantValue := 0 }, { name := "lineNumber", type := .int, accessFlags := 2, slot := 7, constantValue := 0 }, { name := "format", type := .byte, accessFlags := 2, slot := 8, constantValue := 0 }, { name := "BUILTIN_CLASS_LOADER", type := .byte, accessFlags := 26, slot := 2, constantValue := 0 }, { name := "JDK_NON_UPGRADEABLE_MODULE", type := .byte, accessFlags := 26, slot := 3, constantValue := 0 }, { name := zq16, type := .long, accessFlags := 26, slot := 4, constantValue := 0 }]
  methods := #[k33m0]
  instanceTypes := #[(.object "java/lang/Class"), (.object zq0), (.object zq0), (.object zq0), (.object zq0), (.object zq0), (.object zq0), .int, .byte]
  staticTypes := #[(.object zq0), (.object zq0), .byte, .byte, .long]
  resolved := Array.replicate 235 none
  statics := none }

/-- the primitive byte -/
def k34 : Class := { plain "byte" none with kind := .primitive 'B', accessFlags := 0x411 }
/-- [B -/
def k35 : Class := { plain "[B" (some 0) with kind := .array 34 .byte, interfaces := #[23, 3], accessFlags := 1041 }

/-- the primitive char -/
def k36 : Class := { plain "char" none with kind := .primitive 'C', accessFlags := 0x411 }
/-- [C -/
def k37 : Class := { plain "[C" (some 0) with kind := .array 36 .char, interfaces := #[23, 3], accessFlags := 1041 }

/-- the primitive int -/
def k38 : Class := { plain "int" none with kind := .primitive 'I', accessFlags := 0x411 }
/-- [I -/
def k39 : Class := { plain "[I" (some 0) with kind := .array 38 .int, interfaces := #[23, 3], accessFlags := 1041 }

/-- [Ljava/lang/Object; -/
def k40 : Class := { plain "[Ljava/lang/Object;" (some 0) with kind := .array 0 (.object zq6), interfaces := #[23, 3], accessFlags := 1041 }

/-- [Ljava/lang/StackTraceElement; -/
def k41 : Class := { plain zq22 (some 0) with kind := .array 33 (.object zq15), interfaces := #[23, 3], accessFlags := 1041 }

/-- [Ljava/lang/Throwable; -/
def k42 : Class := { plain "[Ljava/lang/Throwable;" (some 0) with kind := .array 9 (.object zq4), interfaces := #[23, 3], accessFlags := 1041 }

def heap : Heap := #[{ cls := 8, slots := #[.long 0, .int 1, .null, .int 0, .null, .int 0, .int 0], vm := .statics 8 },
  { cls := 9, slots := #[.long 0, .ref 7, .ref 8, .null, .null, .null, .null, .ref 9, .int 1], vm := .statics 9 },
  { cls := 17, slots := #[.int 0, .int 0, .null, .null, .ref 6, .ref 5, .int 0, .int 0, .long 0], vm := .statics 17 },
  { cls := 20, slots := #[.null, .null, .null], vm := .statics 20 },
  { cls := 24, slots := #[.int 0, .int 0, .int 0, .int 0, .int 0, .int 0, .int 0, .int 0, .null, .null, .ref 8, .null], vm := .statics 24 },
  { cls := 35, slots := #[.int 48, .int 49, .int 50, .int 51, .int 52, .int 53, .int 54, .int 55, .int 56, .int 57, .int 48, .int 49, .int 50, .int 51, .int 52, .int 53, .int 54, .int 55, .int 56, .int 57, .int 48, .int 49, .int 50, .int 51, .int 52, .int 53, .int 54, .int 55, .int 56, .int 57, .int 48, .int 49, .int 50, .int 51, .int 52, .int 53, .int 54, .int 55, .int 56, .int 57, .int 48, .int 49, .int 50, .int 51, .int 52, .int 53, .int 54, .int 55, .int 56, .int 57, .int 48, .int 49, .int 50, .int 51, .int 52, .int 53, .int 54, .int 55, .int 56, .int 57, .int 48, .int 49, .int 50, .int 51, .int 52, .int 53, .int 54, .int 55, .int 56, .int 57, .int 48, .int 49, .int 50, .int 51, .int 52, .int 53, .int 54, .int 55, .int 56, .int 57, .int 48, .int 49, .int 50, .int 51, .int 52, .int 53, .int 54, .int 55, .int 56, .int 57, .int 48, .int 49, .int 50, .int 51, .int 52, .int 53, .int 54, .int 55, .int 56, .int 57], vm := .none },
  { cls := 35, slots := #[.int 48, .int 48, .int 48, .int 48, .int 48, .int 48, .int 48, .int 48, .int 48, .int 48, .int 49, .int 49, .int 49, .int 49, .int 49, .int 49, .int 49, .int 49, .int 49, .int 49, .int 50, .int 50, .int 50, .int 50, .int 50, .int 50, .int 50, .int 50, .int 50, .int 50, .int 51, .int 51, .int 51, .int 51, .int 51, .int 51, .int 51, .int 51, .int 51, .int 51, .int 52, .int 52, .int 52, .int 52, .int 52, .int 52, .int 52, .int 52, .int 52, .int 52, .int 53, .int 53, .int 53, .int 53, .int 53, .int 53, .int 53, .int 53, .int 53, .int 53, .int 54, .int 54, .int 54, .int 54, .int 54, .int 54, .int 54, .int 54, .int 54, .int 54, .int 55, .int 55, .int 55, .int 55, .int 55, .int 55, .int 55, .int 55, .int 55, .int 55, .int 56, .int 56, .int 56, .int 56, .int 56, .int 56, .int 56, .int 56, .int 56, .int 56, .int 57, .int 57, .int 57, .int 57, .int 57, .int 57, .int 57, .int 57, .int 57, .int 57], vm := .none },
  { cls := 41, slots := #[], vm := .none },
  { cls := 32, slots := #[.int 0], vm := .none },
  { cls := 42, slots := #[], vm := .none }]
def classes : Array Class := #[k0, k1, k2, k3, k4, k5, k6, k7, k8, k9, k10, k11, k12, k13, k14, k15, k16, k17, k18, k19, k20, k21, k22, k23, k24, k25, k26, k27, k28, k29, k30, k31, k32, k33, k34, k35, k36, k37, k38, k39, k40, k41, k42]
def interned : List (Array UInt16 × Addr) := []
def slotsUsed : Nat := 241
def theMethod : MethodId := ⟨1, 1⟩
def args0 : Array Value := #[.int 65, .int 66, .int 12, .int 345, .int 6]
def aboutOver (below : List Frame) : State where
  vm := { classes := classes, interned := interned.toArray }
  heap := heap
  slotsUsed := slotsUsed
  threads := #[{ frames := .invoking theMethod args0 :: below }]
def below0 : List Frame := [.native { method := ⟨0, 0⟩, args := #[] }]
def about1 : State := aboutOver below0
def p0 : Program := .bare "" "" ""
def e0 : Env := launch0.env 0 0 0
theorem w_frames : about1.frames = Frame.invoking theMethod args0 :: below0 := rfl
set_option maxRecDepth 65536 in
theorem w_args : argsFit about1.vm theMethod args0 = true := by decide +kernel
set_option maxRecDepth 65536 in
theorem w_heap : heapFits about1 = true := by decide +kernel
set_option maxRecDepth 65536 in
theorem w_runnable : about1.curStatus? = some .runnable := by decide +kernel
set_option maxRecDepth 65536 in
theorem w_alone : about1.alone = true := by decide +kernel
set_option maxRecDepth 65536 in
theorem w_named : about1.methodNamed? x = some theMethod := by decide +kernel
set_option maxRecDepth 65536 in
theorem w_hears : about1.hears theMethod below0 = true := by decide +kernel
set_option maxRecDepth 65536 in
theorem w_ripe : about1.ripe theMethod args0 below0 = true := by decide +kernel
theorem w_running : about1.status = .running := rfl
set_option maxRecDepth 65536 in
theorem w_room : about1.hasRoom e0.platform room_1 = true :=
  launch0.hasRoom_least _ room_1 (by decide +kernel) (by decide +kernel) (by decide +kernel) (by decide +kernel) (by decide +kernel) (by decide +kernel)
theorem allAtoms_all (ts : List Jvm.Cond) (a : Array Jvm.Value) (st : Jvm.State) : (allAtoms ts).before a st = ts.all (fun c => c.before a st) := by
  induction ts with
  | nil => rfl
  | cons c t ih =>
    show (Jvm.Cond.and c (allAtoms t)).before a st = _
    rw [Jvm.Cond.before_and, ih, List.all_cons]
def words1 : List Jvm.Cond := Jvm.Cond.code x code maxLocals ret :: tables_1
/-- a 'code' word, met by the world's own term for the bytes: nothing is compared byte by byte -/
theorem code_word {y : MethodName} {bytes : ByteArray} {mx : Nat} {rt : Option FieldType} {a : Array Value} {s : State} {m : MethodId} {meth : Method} {c : Code} (h1 : s.methodNamed? y = some m) (h2 : s.vm.method? m = some meth) (h3 : meth.code = some c) (h4 : c.code = bytes)
    (h5 : (c.maxLocals == mx && c.exceptionTable.isEmpty && decide (c.maxStack ≤ mostOperands) && decide (meth.sig.returnType = rt) && !meth.locks && decide (parseMethodDescriptor y.desc = some meth.sig)) = true) : (Jvm.Cond.code y bytes mx rt).before a s = true := by
  simp only [Bool.and_eq_true, beq_iff_eq, Bool.not_eq_true', decide_eq_true_eq] at h5
  obtain ⟨⟨⟨⟨⟨g1, g2⟩, g3⟩, g4⟩, g5⟩, g6⟩ := h5
  simp [Cond.before, Cond.holds, Cond.value, h1, h2, h3, h4, g1, g2, g3, g4, g5, g6]
def isCode : Jvm.Cond → Bool
  | .code _ _ _ _ => true
  | _ => false
theorem all_split {L : List Jvm.Cond} {P : Jvm.Cond → Bool} (h1 : L.all (fun c => isCode c || P c) = true) (h2 : ∀ c ∈ L.filter isCode, P c = true) : L.all P = true := by
  refine List.all_eq_true.mpr fun c hc => ?_
  have h := List.all_eq_true.mp h1 c hc
  rcases Bool.eq_false_or_eq_true (isCode c) with hi | hi
  · exact h2 c (List.mem_filter.mpr ⟨hc, hi⟩)
  · simpa [hi] using h
set_option maxRecDepth 65536 in
theorem w_c0 : (Jvm.Cond.code x code maxLocals ret).before args0 about1 = true := code_word (m := ⟨1, 1⟩) (meth := k1m1) (c := k1c1) (by decide +kernel) rfl rfl rfl (by decide +kernel)
set_option maxRecDepth 65536 in
theorem w_c1 : (Jvm.Cond.code ({ cls := zq17, name := "min", desc := "(II)I" } : Jvm.MethodName) jdk_29_method_69_code (2 : Nat) (Option.some Jvm.ClassFile.FieldType.int)).before args0 about1 = true := code_word (m := ⟨2, 2⟩) (meth := k2m2) (c := k2c2) (by decide +kernel) rfl rfl rfl (by decide +kernel)
set_option maxRecDepth 65536 in
theorem w_c2 : (Jvm.Cond.code ({ cls := zq7, name := "str", desc := zq28 } : Jvm.MethodName) method_3_code (4 : Nat) (Option.some (Jvm.ClassFile.FieldType.object zq0))).before args0 about1 = true := code_word (m := ⟨1, 2⟩) (meth := k1m2) (c := k1c2) (by decide +kernel) rfl rfl rfl (by decide +kernel)
set_option maxRecDepth 65536 in
theorem w_c3 : (Jvm.Cond.code ({ cls := zq0, name := "<init>", desc := "([C)V" } : Jvm.MethodName) jdk_42_method_3_code (2 : Nat) (Option.none : Option Jvm.ClassFile.FieldType)).before args0 about1 = true := code_word (m := ⟨8, 1⟩) (meth := k8m1) (c := k8c1) (by decide +kernel) rfl rfl rfl (by decide +kernel)
set_option maxRecDepth 65536 in
theorem w_c4 : (Jvm.Cond.code ({ cls := zq0, name := "<init>", desc := zq31 } : Jvm.MethodName) jdk_42_method_149_code (6 : Nat) (Option.none : Option Jvm.ClassFile.FieldType)).before args0 about1 = true := code_word (m := ⟨8, 6⟩) (meth := k8m6) (c := k8c6) (by decide +kernel) rfl rfl rfl (by decide +kernel)
set_option maxRecDepth 65536 in
theorem w_c5 : (Jvm.Cond.code ({ cls := zq6, name := "<init>", desc := "()V" } : Jvm.MethodName) object_method_1_code (1 : Nat) (Option.none : Option Jvm.ClassFile.FieldType)).before args0 about1 = true := code_word (m := ⟨0, 0⟩) (meth := k0m0) (c := k0c0) (by decide +kernel) rfl rfl rfl (by decide +kernel)
set_option maxRecDepth 65536 in
theorem w_c6 : (Jvm.Cond.code ({ cls := zq9, name := "at", desc := zq41 } : Jvm.MethodName) prog_4_method_4_code (4 : Nat) (Option.some (Jvm.ClassFile.FieldType.object zq9))).before args0 about1 = true := code_word (m := ⟨11, 1⟩) (meth := k11m1) (c := k11c1) (by decide +kernel) rfl rfl rfl (by decide +kernel)
set_option maxRecDepth 65536 in
theorem w_c7 : (Jvm.Cond.code ({ cls := zq3, name := "<init>", desc := "()V" } : Jvm.MethodName) jdk_67_method_1_code (1 : Nat) (Option.none : Option Jvm.ClassFile.FieldType)).before args0 about1 = true := code_word (m := ⟨14, 0⟩) (meth := k14m0) (c := k14c0) (by decide +kernel) rfl rfl rfl (by decide +kernel)
set_option maxRecDepth 65536 in
theorem w_c8 : (Jvm.Cond.code ({ cls := zq1, name := "<init>", desc := "(I)V" } : Jvm.MethodName) jdk_68_method_2_code (2 : Nat) (Option.none : Option Jvm.ClassFile.FieldType)).before args0 about1 = true := code_word (m := ⟨13, 1⟩) (meth := k13m1) (c := k13c1) (by decide +kernel) rfl rfl rfl (by decide +kernel)
set_option maxRecDepth 65536 in
theorem w_c9 : (Jvm.Cond.code ({ cls := zq3, name := "append", desc := zq39 } : Jvm.MethodName) jdk_67_method_7_code (2 : Nat) (Option.some (Jvm.ClassFile.FieldType.object zq3))).before args0 about1 = true := code_word (m := ⟨14, 1⟩) (meth := k14m1) (c := k14c1) (by decide +kernel) rfl rfl rfl (by decide +kernel)
set_option maxRecDepth 65536 in
theorem w_c10 : (Jvm.Cond.code ({ cls := zq1, name := "append", desc := zq27 } : Jvm.MethodName) jdk_68_method_22_code (3 : Nat) (Option.some (Jvm.ClassFile.FieldType.object zq1))).before args0 about1 = true := code_word (m := ⟨13, 5⟩) (meth := k13m5) (c := k13c5) (by decide +kernel) rfl rfl rfl (by decide +kernel)
set_option maxRecDepth 65536 in
theorem w_c11 : (Jvm.Cond.code ({ cls := zq0, name := "length", desc := "()I" } : Jvm.MethodName) jdk_42_method_54_code (1 : Nat) (Option.some Jvm.ClassFile.FieldType.int)).before args0 about1 = true := code_word (m := ⟨8, 3⟩) (meth := k8m3) (c := k8c3) (by decide +kernel) rfl rfl rfl (by decide +kernel)
set_option maxRecDepth 65536 in
theorem w_c12 : (Jvm.Cond.code ({ cls := zq0, name := "coder", desc := "()B" } : Jvm.MethodName) jdk_42_method_152_code (1 : Nat) (Option.some Jvm.ClassFile.FieldType.byte)).before args0 about1 = true := code_word (m := ⟨8, 8⟩) (meth := k8m8) (c := k8c8) (by decide +kernel) rfl rfl rfl (by decide +kernel)
set_option maxRecDepth 65536 in
theorem w_c13 : (Jvm.Cond.code ({ cls := zq1, name := zq49, desc := "(I)V" } : Jvm.MethodName) jdk_68_method_9_code (3 : Nat) (Option.none : Option Jvm.ClassFile.FieldType)).before args0 about1 = true := code_word (m := ⟨13, 3⟩) (meth := k13m3) (c := k13c3) (by decide +kernel) rfl rfl rfl (by decide +kernel)
set_option maxRecDepth 65536 in
theorem w_c14 : (Jvm.Cond.code ({ cls := zq1, name := "putStringAt", desc := zq45 } : Jvm.MethodName) jdk_68_method_73_code (3 : Nat) (Option.none : Option Jvm.ClassFile.FieldType)).before args0 about1 = true := code_word (m := ⟨13, 10⟩) (meth := k13m10) (c := k13c10) (by decide +kernel) rfl rfl rfl (by decide +kernel)
set_option maxRecDepth 65536 in
theorem w_c15 : (Jvm.Cond.code ({ cls := zq1, name := zq54, desc := zq44 } : Jvm.MethodName) jdk_68_method_71_code (2 : Nat) (Option.none : Option Jvm.ClassFile.FieldType)).before args0 about1 = true := code_word (m := ⟨13, 9⟩) (meth := k13m9) (c := k13c9) (by decide +kernel) rfl rfl rfl (by decide +kernel)
set_option maxRecDepth 65536 in
theorem w_c16 : (Jvm.Cond.code ({ cls := zq0, name := "getBytes", desc := "([BIB)V" } : Jvm.MethodName) jdk_42_method_147_code (4 : Nat) (Option.none : Option Jvm.ClassFile.FieldType)).before args0 about1 = true := code_word (m := ⟨8, 5⟩) (meth := k8m5) (c := k8c5) (by decide +kernel) rfl rfl rfl (by decide +kernel)
set_option maxRecDepth 65536 in
theorem w_c17 : (Jvm.Cond.code ({ cls := zq3, name := "append", desc := zq40 } : Jvm.MethodName) jdk_67_method_15_code (2 : Nat) (Option.some (Jvm.ClassFile.FieldType.object zq3))).before args0 about1 = true := code_word (m := ⟨14, 2⟩) (meth := k14m2) (c := k14c2) (by decide +kernel) rfl rfl rfl (by decide +kernel)
set_option maxRecDepth 65536 in
theorem w_c18 : (Jvm.Cond.code ({ cls := zq1, name := "append", desc := zq8 } : Jvm.MethodName) jdk_68_method_32_code (4 : Nat) (Option.some (Jvm.ClassFile.FieldType.object zq1))).before args0 about1 = true := code_word (m := ⟨13, 6⟩) (meth := k13m6) (c := k13c6) (by decide +kernel) rfl rfl rfl (by decide +kernel)
set_option maxRecDepth 65536 in
theorem w_c19 : (Jvm.Cond.code ({ cls := zq2, name := "stringSize", desc := "(I)I" } : Jvm.MethodName) jdk_33_method_13_code (4 : Nat) (Option.some Jvm.ClassFile.FieldType.int)).before args0 about1 = true := code_word (m := ⟨17, 1⟩) (meth := k17m1) (c := k17c1) (by decide +kernel) rfl rfl rfl (by decide +kernel)
set_option maxRecDepth 65536 in
theorem w_c20 : (Jvm.Cond.code ({ cls := zq1, name := "isLatin1", desc := "()Z" } : Jvm.MethodName) jdk_68_method_68_code (1 : Nat) (Option.some Jvm.ClassFile.FieldType.boolean)).before args0 about1 = true := code_word (m := ⟨13, 8⟩) (meth := k13m8) (c := k13c8) (by decide +kernel) rfl rfl rfl (by decide +kernel)
set_option maxRecDepth 65536 in
theorem w_c21 : (Jvm.Cond.code ({ cls := zq2, name := "getChars", desc := "(II[B)I" } : Jvm.MethodName) jdk_33_method_12_code (7 : Nat) (Option.some Jvm.ClassFile.FieldType.int)).before args0 about1 = true := code_word (m := ⟨17, 0⟩) (meth := k17m0) (c := k17c0) (by decide +kernel) rfl rfl rfl (by decide +kernel)
set_option maxRecDepth 65536 in
theorem w_c22 : (Jvm.Cond.code ({ cls := zq3, name := "toString", desc := zq20 } : Jvm.MethodName) jdk_67_method_42_code (1 : Nat) (Option.some (Jvm.ClassFile.FieldType.object zq0))).before args0 about1 = true := code_word (m := ⟨14, 3⟩) (meth := k14m3) (c := k14c3) (by decide +kernel) rfl rfl rfl (by decide +kernel)
set_option maxRecDepth 65536 in
theorem w_c23 : (Jvm.Cond.code ({ cls := zq0, name := "<init>", desc := zq38 } : Jvm.MethodName) jdk_42_method_53_code (2 : Nat) (Option.none : Option Jvm.ClassFile.FieldType)).before args0 about1 = true := code_word (m := ⟨8, 2⟩) (meth := k8m2) (c := k8c2) (by decide +kernel) rfl rfl rfl (by decide +kernel)
set_option maxRecDepth 65536 in
theorem w_c24 : (Jvm.Cond.code ({ cls := zq0, name := "<init>", desc := zq46 } : Jvm.MethodName) jdk_42_method_150_code (5 : Nat) (Option.none : Option Jvm.ClassFile.FieldType)).before args0 about1 = true := code_word (m := ⟨8, 7⟩) (meth := k8m7) (c := k8c7) (by decide +kernel) rfl rfl rfl (by decide +kernel)
set_option maxRecDepth 65536 in
theorem w_c25 : (Jvm.Cond.code ({ cls := zq1, name := "getValue", desc := "()[B" } : Jvm.MethodName) jdk_68_method_64_code (1 : Nat) (Option.some (Jvm.ClassFile.FieldType.array Jvm.ClassFile.FieldType.byte))).before args0 about1 = true := code_word (m := ⟨13, 7⟩) (meth := k13m7) (c := k13c7) (by decide +kernel) rfl rfl rfl (by decide +kernel)
set_option maxRecDepth 65536 in
theorem w_c26 : (Jvm.Cond.code ({ cls := zq3, name := "length", desc := "()I" } : Jvm.MethodName) jdk_67_method_93_code (1 : Nat) (Option.some Jvm.ClassFile.FieldType.int)).before args0 about1 = true := code_word (m := ⟨14, 4⟩) (meth := k14m4) (c := k14c4) (by decide +kernel) rfl rfl rfl (by decide +kernel)
set_option maxRecDepth 65536 in
theorem w_c27 : (Jvm.Cond.code ({ cls := zq1, name := "length", desc := "()I" } : Jvm.MethodName) jdk_68_method_6_code (1 : Nat) (Option.some Jvm.ClassFile.FieldType.int)).before args0 about1 = true := code_word (m := ⟨13, 2⟩) (meth := k13m2) (c := k13c2) (by decide +kernel) rfl rfl rfl (by decide +kernel)
set_option maxRecDepth 65536 in
theorem w_c28 : (Jvm.Cond.code ({ cls := zq14, name := zq36, desc := "([BII)[B" } : Jvm.MethodName) jdk_65_method_132_code (3 : Nat) (Option.some (Jvm.ClassFile.FieldType.array Jvm.ClassFile.FieldType.byte))).before args0 about1 = true := code_word (m := ⟨18, 3⟩) (meth := k18m3) (c := k18c3) (by decide +kernel) rfl rfl rfl (by decide +kernel)
set_option maxRecDepth 65536 in
theorem w_c29 : (Jvm.Cond.code ({ cls := zq14, name := zq55, desc := "([BII)[B" } : Jvm.MethodName) jdk_65_method_133_code (5 : Nat) (Option.some (Jvm.ClassFile.FieldType.array Jvm.ClassFile.FieldType.byte))).before args0 about1 = true := code_word (m := ⟨18, 4⟩) (meth := k18m4) (c := k18c4) (by decide +kernel) rfl rfl rfl (by decide +kernel)
set_option maxRecDepth 65536 in
theorem w_c30 : (Jvm.Cond.code ({ cls := zq14, name := "checkLength", desc := "(II)V" } : Jvm.MethodName) jdk_65_method_131_code (2 : Nat) (Option.none : Option Jvm.ClassFile.FieldType)).before args0 about1 = true := code_word (m := ⟨18, 2⟩) (meth := k18m2) (c := k18c2) (by decide +kernel) rfl rfl rfl (by decide +kernel)
set_option maxRecDepth 65536 in
theorem w_c31 : (Jvm.Cond.code ({ cls := zq9, name := "<init>", desc := zq48 } : Jvm.MethodName) prog_4_method_3_code (4 : Nat) (Option.none : Option Jvm.ClassFile.FieldType)).before args0 about1 = true := code_word (m := ⟨11, 0⟩) (meth := k11m0) (c := k11c0) (by decide +kernel) rfl rfl rfl (by decide +kernel)
set_option maxRecDepth 65536 in
theorem w_c32 : (Jvm.Cond.code ({ cls := zq52, name := "<init>", desc := zq21 } : Jvm.MethodName) jdk_59_method_3_code (3 : Nat) (Option.none : Option Jvm.ClassFile.FieldType)).before args0 about1 = true := code_word (m := ⟨10, 1⟩) (meth := k10m1) (c := k10c1) (by decide +kernel) rfl rfl rfl (by decide +kernel)
set_option maxRecDepth 65536 in
theorem w_c33 : (Jvm.Cond.code ({ cls := zq4, name := "<init>", desc := zq21 } : Jvm.MethodName) jdk_78_method_3_code (3 : Nat) (Option.none : Option Jvm.ClassFile.FieldType)).before args0 about1 = true := code_word (m := ⟨9, 1⟩) (meth := k9m1) (c := k9c1) (by decide +kernel) rfl rfl rfl (by decide +kernel)
set_option maxRecDepth 65536 in
theorem w_c34 : (Jvm.Cond.code ({ cls := zq4, name := "<init>", desc := "()V" } : Jvm.MethodName) jdk_78_method_1_code (1 : Nat) (Option.none : Option Jvm.ClassFile.FieldType)).before args0 about1 = true := code_word (m := ⟨9, 0⟩) (meth := k9m0) (c := k9c0) (by decide +kernel) rfl rfl rfl (by decide +kernel)
set_option maxRecDepth 65536 in
theorem w_c35 : (Jvm.Cond.code ({ cls := zq9, name := "isLocated", desc := "()Z" } : Jvm.MethodName) prog_4_method_5_code (1 : Nat) (Option.some Jvm.ClassFile.FieldType.boolean)).before args0 about1 = true := code_word (m := ⟨11, 2⟩) (meth := k11m2) (c := k11c2) (by decide +kernel) rfl rfl rfl (by decide +kernel)
set_option maxRecDepth 65536 in
theorem w_c36 : (Jvm.Cond.code ({ cls := zq4, name := "getMessage", desc := zq20 } : Jvm.MethodName) jdk_78_method_6_code (1 : Nat) (Option.some (Jvm.ClassFile.FieldType.object zq0))).before args0 about1 = true := code_word (m := ⟨9, 2⟩) (meth := k9m2) (c := k9c2) (by decide +kernel) rfl rfl rfl (by decide +kernel)
set_option maxRecDepth 65536 in
theorem w_c37 : (Jvm.Cond.code ({ cls := zq7, name := "nd", desc := "(I)I" } : Jvm.MethodName) method_5_code (1 : Nat) (Option.some Jvm.ClassFile.FieldType.int)).before args0 about1 = true := code_word (m := ⟨1, 4⟩) (meth := k1m4) (c := k1c4) (by decide +kernel) rfl rfl rfl (by decide +kernel)
set_option maxRecDepth 65536 in
theorem w_c38 : (Jvm.Cond.code ({ cls := zq7, name := "same", desc := zq29 } : Jvm.MethodName) method_4_code (4 : Nat) (Option.some Jvm.ClassFile.FieldType.boolean)).before args0 about1 = true := code_word (m := ⟨1, 3⟩) (meth := k1m3) (c := k1c3) (by decide +kernel) rfl rfl rfl (by decide +kernel)
set_option maxRecDepth 65536 in
theorem w_c39 : (Jvm.Cond.code ({ cls := zq0, name := "charAt", desc := "(I)C" } : Jvm.MethodName) jdk_42_method_56_code (2 : Nat) (Option.some Jvm.ClassFile.FieldType.char)).before args0 about1 = true := code_word (m := ⟨8, 4⟩) (meth := k8m4) (c := k8c4) (by decide +kernel) rfl rfl rfl (by decide +kernel)
set_option maxRecDepth 65536 in
theorem w_c40 : (Jvm.Cond.code ({ cls := zq0, name := "isLatin1", desc := "()Z" } : Jvm.MethodName) jdk_42_method_154_code (1 : Nat) (Option.some Jvm.ClassFile.FieldType.boolean)).before args0 about1 = true := code_word (m := ⟨8, 9⟩) (meth := k8m9) (c := k8c9) (by decide +kernel) rfl rfl rfl (by decide +kernel)
set_option maxRecDepth 65536 in
theorem w_c41 : (Jvm.Cond.code ({ cls := zq50, name := "charAt", desc := "([BI)C" } : Jvm.MethodName) jdk_43_method_2_code (2 : Nat) (Option.some Jvm.ClassFile.FieldType.char)).before args0 about1 = true := code_word (m := ⟨19, 1⟩) (meth := k19m1) (c := k19c1) (by decide +kernel) rfl rfl rfl (by decide +kernel)
set_option maxRecDepth 65536 in
theorem w_c42 : (Jvm.Cond.code ({ cls := zq0, name := "checkIndex", desc := "(II)V" } : Jvm.MethodName) jdk_42_method_155_code (2 : Nat) (Option.none : Option Jvm.ClassFile.FieldType)).before args0 about1 = true := code_word (m := ⟨8, 10⟩) (meth := k8m10) (c := k8c10) (by decide +kernel) rfl rfl rfl (by decide +kernel)
set_option maxRecDepth 65536 in
theorem w_c43 : (Jvm.Cond.code ({ cls := zq10, name := "checkIndex", desc := zq32 } : Jvm.MethodName) jdk_41_method_11_code (3 : Nat) (Option.some Jvm.ClassFile.FieldType.int)).before args0 about1 = true := code_word (m := ⟨20, 1⟩) (meth := k20m1) (c := k20c1) (by decide +kernel) rfl rfl rfl (by decide +kernel)
set_option maxRecDepth 65536 in
theorem w_c44 : (Jvm.Cond.code ({ cls := zq7, name := "digits", desc := zq18 } : Jvm.MethodName) method_7_code (5 : Nat) (Option.some Jvm.ClassFile.FieldType.boolean)).before args0 about1 = true := code_word (m := ⟨1, 6⟩) (meth := k1m6) (c := k1c6) (by decide +kernel) rfl rfl rfl (by decide +kernel)
set_option maxRecDepth 65536 in
theorem w_c45 : (Jvm.Cond.code ({ cls := zq7, name := "d", desc := zq47 } : Jvm.MethodName) method_6_code (4 : Nat) (Option.some Jvm.ClassFile.FieldType.boolean)).before args0 about1 = true := code_word (m := ⟨1, 5⟩) (meth := k1m5) (c := k1c5) (by decide +kernel) rfl rfl rfl (by decide +kernel)
set_option maxRecDepth 65536 in
theorem w_c46 : (Jvm.Cond.code ({ cls := zq19, name := "compress", desc := "([CII)[B" } : Jvm.MethodName) jdk_52_method_16_code (6 : Nat) (Option.some (Jvm.ClassFile.FieldType.array Jvm.ClassFile.FieldType.byte))).before args0 about1 = true := code_word (m := ⟨21, 2⟩) (meth := k21m2) (c := k21c2) (by decide +kernel) rfl rfl rfl (by decide +kernel)
set_option maxRecDepth 65536 in
theorem w_c47 : (Jvm.Cond.code ({ cls := zq19, name := "compress", desc := "([CI[BII)I" } : Jvm.MethodName) jdk_52_method_21_code (7 : Nat) (Option.some Jvm.ClassFile.FieldType.int)).before args0 about1 = true := code_word (m := ⟨21, 3⟩) (meth := k21m3) (c := k21c3) (by decide +kernel) rfl rfl rfl (by decide +kernel)
set_option maxRecDepth 65536 in
theorem w_c48 : (Jvm.Cond.code ({ cls := zq19, name := zq43, desc := "([BI)B" } : Jvm.MethodName) jdk_52_method_15_code (2 : Nat) (Option.some Jvm.ClassFile.FieldType.byte)).before args0 about1 = true := code_word (m := ⟨21, 1⟩) (meth := k21m1) (c := k21c1) (by decide +kernel) rfl rfl rfl (by decide +kernel)
set_option maxRecDepth 65536 in
theorem w_c49 : (Jvm.Cond.code ({ cls := zq1, name := "newCapacity", desc := "(I)I" } : Jvm.MethodName) jdk_68_method_10_code (6 : Nat) (Option.some Jvm.ClassFile.FieldType.int)).before args0 about1 = true := code_word (m := ⟨13, 4⟩) (meth := k13m4) (c := k13c4) (by decide +kernel) rfl rfl rfl (by decide +kernel)
set_option maxRecDepth 65536 in
theorem w_c50 : (Jvm.Cond.code ({ cls := zq42, name := "newLength", desc := "(III)I" } : Jvm.MethodName) jdk_48_method_27_code (4 : Nat) (Option.some Jvm.ClassFile.FieldType.int)).before args0 about1 = true := code_word (m := ⟨22, 1⟩) (meth := k22m1) (c := k22c1) (by decide +kernel) rfl rfl rfl (by decide +kernel)
set_option maxRecDepth 65536 in
theorem w_c51 : (Jvm.Cond.code ({ cls := zq17, name := "max", desc := "(II)I" } : Jvm.MethodName) jdk_29_method_65_code (2 : Nat) (Option.some Jvm.ClassFile.FieldType.int)).before args0 about1 = true := code_word (m := ⟨2, 1⟩) (meth := k2m1) (c := k2c1) (by decide +kernel) rfl rfl rfl (by decide +kernel)
set_option maxRecDepth 65536 in
theorem w_c52 : (Jvm.Cond.code ({ cls := zq14, name := "copyOf", desc := "([BI)[B" } : Jvm.MethodName) jdk_65_method_121_code (3 : Nat) (Option.some (Jvm.ClassFile.FieldType.array Jvm.ClassFile.FieldType.byte))).before args0 about1 = true := code_word (m := ⟨18, 1⟩) (meth := k18m1) (c := k18c1) (by decide +kernel) rfl rfl rfl (by decide +kernel)
def codes1 : List Jvm.Cond := [Jvm.Cond.code x code maxLocals ret, Jvm.Cond.code ({ cls := zq17, name := "min", desc := "(II)I" } : Jvm.MethodName) jdk_29_method_69_code (2 : Nat) (Option.some Jvm.ClassFile.FieldType.int), Jvm.Cond.code ({ cls := zq7, name := "str", desc := zq28 } : Jvm.MethodName) method_3_code (4 : Nat) (Option.some (Jvm.ClassFile.FieldType.object zq0)), Jvm.Cond.code ({ cls := zq0, name := "<init>", desc := "([C)V" } : Jvm.MethodName) jdk_42_method_3_code (2 : Nat) (Option.none : Option Jvm.ClassFile.FieldType), Jvm.Cond.code ({ cls := zq0, name := "<init>", desc := zq31 } : Jvm.MethodName) jdk_42_method_149_code (6 : Nat) (Option.none : Option Jvm.ClassFile.FieldType), Jvm.Cond.code ({ cls := zq6, name := "<init>", desc := "()V" } : Jvm.MethodName) object_method_1_code (1 : Nat) (Option.none : Option Jvm.ClassFile.FieldType), Jvm.Cond.code ({ cls := zq9, name := "at", desc := zq41 } : Jvm.MethodName) prog_4_method_4_code (4 : Nat) (Option.some (Jvm.ClassFile.FieldType.object zq9)), Jvm.Cond.code ({ cls := zq3, name := "<init>", desc := "()V" } : Jvm.MethodName) jdk_67_method_1_code (1 : Nat) (Option.none : Option Jvm.ClassFile.FieldType), Jvm.Cond.code ({ cls := zq1, name := "<init>", desc := "(I)V" } : Jvm.MethodName) jdk_68_method_2_code (2 : Nat) (Option.none : Option Jvm.ClassFile.FieldType), Jvm.Cond.code ({ cls := zq3, name := "append", desc := zq39 } : Jvm.MethodName) jdk_67_method_7_code (2 : Nat) (Option.some (Jvm.ClassFile.FieldType.object zq3)), Jvm.Cond.code ({ cls := zq1, name := "append", desc := zq27 } : Jvm.MethodName) jdk_68_method_22_code (3 : Nat) (Option.some (Jvm.ClassFile.FieldType.object zq1)), Jvm.Cond.code ({ cls := zq0, name := "length", desc := "()I" } : Jvm.MethodName) jdk_42_method_54_code (1 : Nat) (Option.some Jvm.ClassFile.FieldType.int), Jvm.Cond.code ({ cls := zq0, name := "coder", desc := "()B" } : Jvm.MethodName) jdk_42_method_152_code (1 : Nat) (Option.some Jvm.ClassFile.FieldType.byte), Jvm.Cond.code ({ cls := zq1, name := zq49, desc := "(I)V" } : Jvm.MethodName) jdk_68_method_9_code (3 : Nat) (Option.none : Option Jvm.ClassFile.FieldType), Jvm.Cond.code ({ cls := zq1, name := "putStringAt", desc := zq45 } : Jvm.MethodName) jdk_68_method_73_code (3 : Nat) (Option.none : Option Jvm.ClassFile.FieldType), Jvm.Cond.code ({ cls := zq1, name := zq54, desc := zq44 } : Jvm.MethodName) jdk_68_method_71_code (2 : Nat) (Option.none : Option Jvm.ClassFile.FieldType), Jvm.Cond.code ({ cls := zq0, name := "getBytes", desc := "([BIB)V" } : Jvm.MethodName) jdk_42_method_147_code (4 : Nat) (Option.none : Option Jvm.ClassFile.FieldType), Jvm.Cond.code ({ cls := zq3, name := "append", desc := zq40 } : Jvm.MethodName) jdk_67_method_15_code (2 : Nat) (Option.some (Jvm.ClassFile.FieldType.object zq3)), Jvm.Cond.code ({ cls := zq1, name := "append", desc := zq8 } : Jvm.MethodName) jdk_68_method_32_code (4 : Nat) (Option.some (Jvm.ClassFile.FieldType.object zq1)), Jvm.Cond.code ({ cls := zq2, name := "stringSize", desc := "(I)I" } : Jvm.MethodName) jdk_33_method_13_code (4 : Nat) (Option.some Jvm.ClassFile.FieldType.int), Jvm.Cond.code ({ cls := zq1, name := "isLatin1", desc := "()Z" } : Jvm.MethodName) jdk_68_method_68_code (1 : Nat) (Option.some Jvm.ClassFile.FieldType.boolean), Jvm.Cond.code ({ cls := zq2, name := "getChars", desc := "(II[B)I" } : Jvm.MethodName) jdk_33_method_12_code (7 : Nat) (Option.some Jvm.ClassFile.FieldType.int), Jvm.Cond.code ({ cls := zq3, name := "toString", desc := zq20 } : Jvm.MethodName) jdk_67_method_42_code (1 : Nat) (Option.some (Jvm.ClassFile.FieldType.object zq0)), Jvm.Cond.code ({ cls := zq0, name := "<init>", desc := zq38 } : Jvm.MethodName) jdk_42_method_53_code (2 : Nat) (Option.none : Option Jvm.ClassFile.FieldType), Jvm.Cond.code ({ cls := zq0, name := "<init>", desc := zq46 } : Jvm.MethodName) jdk_42_method_150_code (5 : Nat) (Option.none : Option Jvm.ClassFile.FieldType), Jvm.Cond.code ({ cls := zq1, name := "getValue", desc := "()[B" } : Jvm.MethodName) jdk_68_method_64_code (1 : Nat) (Option.some (Jvm.ClassFile.FieldType.array Jvm.ClassFile.FieldType.byte)), Jvm.Cond.code ({ cls := zq3, name := "length", desc := "()I" } : Jvm.MethodName) jdk_67_method_93_code (1 : Nat) (Option.some Jvm.ClassFile.FieldType.int), Jvm.Cond.code ({ cls := zq1, name := "length", desc := "()I" } : Jvm.MethodName) jdk_68_method_6_code (1 : Nat) (Option.some Jvm.ClassFile.FieldType.int), Jvm.Cond.code ({ cls := zq14, name := zq36, desc := "([BII)[B" } : Jvm.MethodName) jdk_65_method_132_code (3 : Nat) (Option.some (Jvm.ClassFile.FieldType.array Jvm.ClassFile.FieldType.byte)), Jvm.Cond.code ({ cls := zq14, name := zq55, desc := "([BII)[B" } : Jvm.MethodName) jdk_65_method_133_code (5 : Nat) (Option.some (Jvm.ClassFile.FieldType.array Jvm.ClassFile.FieldType.byte)), Jvm.Cond.code ({ cls := zq14, name := "checkLength", desc := "(II)V" } : Jvm.MethodName) jdk_65_method_131_code (2 : Nat) (Option.none : Option Jvm.ClassFile.FieldType), Jvm.Cond.code ({ cls := zq9, name := "<init>", desc := zq48 } : Jvm.MethodName) prog_4_method_3_code (4 : Nat) (Option.none : Option Jvm.ClassFile.FieldType), Jvm.Cond.code ({ cls := zq52, name := "<init>", desc := zq21 } : Jvm.MethodName) jdk_59_method_3_code (3 : Nat) (Option.none : Option Jvm.ClassFile.FieldType), Jvm.Cond.code ({ cls := zq4, name := "<init>", desc := zq21 } : Jvm.MethodName) jdk_78_method_3_code (3 : Nat) (Option.none : Option Jvm.ClassFile.FieldType), Jvm.Cond.code ({ cls := zq4, name := "<init>", desc := "()V" } : Jvm.MethodName) jdk_78_method_1_code (1 : Nat) (Option.none : Option Jvm.ClassFile.FieldType), Jvm.Cond.code ({ cls := zq9, name := "isLocated", desc := "()Z" } : Jvm.MethodName) prog_4_method_5_code (1 : Nat) (Option.some Jvm.ClassFile.FieldType.boolean), Jvm.Cond.code ({ cls := zq4, name := "getMessage", desc := zq20 } : Jvm.MethodName) jdk_78_method_6_code (1 : Nat) (Option.some (Jvm.ClassFile.FieldType.object zq0)), Jvm.Cond.code ({ cls := zq7, name := "nd", desc := "(I)I" } : Jvm.MethodName) method_5_code (1 : Nat) (Option.some Jvm.ClassFile.FieldType.int), Jvm.Cond.code ({ cls := zq7, name := "same", desc := zq29 } : Jvm.MethodName) method_4_code (4 : Nat) (Option.some Jvm.ClassFile.FieldType.boolean), Jvm.Cond.code ({ cls := zq0, name := "charAt", desc := "(I)C" } : Jvm.MethodName) jdk_42_method_56_code (2 : Nat) (Option.some Jvm.ClassFile.FieldType.char), Jvm.Cond.code ({ cls := zq0, name := "isLatin1", desc := "()Z" } : Jvm.MethodName) jdk_42_method_154_code (1 : Nat) (Option.some Jvm.ClassFile.FieldType.boolean), Jvm.Cond.code ({ cls := zq50, name := "charAt", desc := "([BI)C" } : Jvm.MethodName) jdk_43_method_2_code (2 : Nat) (Option.some Jvm.ClassFile.FieldType.char), Jvm.Cond.code ({ cls := zq0, name := "checkIndex", desc := "(II)V" } : Jvm.MethodName) jdk_42_method_155_code (2 : Nat) (Option.none : Option Jvm.ClassFile.FieldType), Jvm.Cond.code ({ cls := zq10, name := "checkIndex", desc := zq32 } : Jvm.MethodName) jdk_41_method_11_code (3 : Nat) (Option.some Jvm.ClassFile.FieldType.int), Jvm.Cond.code ({ cls := zq7, name := "digits", desc := zq18 } : Jvm.MethodName) method_7_code (5 : Nat) (Option.some Jvm.ClassFile.FieldType.boolean), Jvm.Cond.code ({ cls := zq7, name := "d", desc := zq47 } : Jvm.MethodName) method_6_code (4 : Nat) (Option.some Jvm.ClassFile.FieldType.boolean), Jvm.Cond.code ({ cls := zq19, name := "compress", desc := "([CII)[B" } : Jvm.MethodName) jdk_52_method_16_code (6 : Nat) (Option.some (Jvm.ClassFile.FieldType.array Jvm.ClassFile.FieldType.byte)), Jvm.Cond.code ({ cls := zq19, name := "compress", desc := "([CI[BII)I" } : Jvm.MethodName) jdk_52_method_21_code (7 : Nat) (Option.some Jvm.ClassFile.FieldType.int), Jvm.Cond.code ({ cls := zq19, name := zq43, desc := "([BI)B" } : Jvm.MethodName) jdk_52_method_15_code (2 : Nat) (Option.some Jvm.ClassFile.FieldType.byte), Jvm.Cond.code ({ cls := zq1, name := "newCapacity", desc := "(I)I" } : Jvm.MethodName) jdk_68_method_10_code (6 : Nat) (Option.some Jvm.ClassFile.FieldType.int), Jvm.Cond.code ({ cls := zq42, name := "newLength", desc := "(III)I" } : Jvm.MethodName) jdk_48_method_27_code (4 : Nat) (Option.some Jvm.ClassFile.FieldType.int), Jvm.Cond.code ({ cls := zq17, name := "max", desc := "(II)I" } : Jvm.MethodName) jdk_29_method_65_code (2 : Nat) (Option.some Jvm.ClassFile.FieldType.int), Jvm.Cond.code ({ cls := zq14, name := "copyOf", desc := "([BI)[B" } : Jvm.MethodName) jdk_65_method_121_code (3 : Nat) (Option.some (Jvm.ClassFile.FieldType.array Jvm.ClassFile.FieldType.byte))]
set_option maxRecDepth 65536 in
theorem codes_eq : words1.filter isCode = codes1 := rfl
theorem w_codes : ∀ c ∈ words1.filter isCode, c.before args0 about1 = true := by
  rw [codes_eq]
  intro c hc
  simp only [codes1, List.mem_cons, List.not_mem_nil, or_false] at hc
  rcases hc with rfl | rfl | rfl | rfl | rfl | rfl | rfl | rfl | rfl | rfl | rfl | rfl | rfl | rfl | rfl | rfl | rfl | rfl | rfl | rfl | rfl | rfl | rfl | rfl | rfl | rfl | rfl | rfl | rfl | rfl | rfl | rfl | rfl | rfl | rfl | rfl | rfl | rfl | rfl | rfl | rfl | rfl | rfl | rfl | rfl | rfl | rfl | rfl | rfl | rfl | rfl | rfl | rfl
  · exact w_c0
  · exact w_c1
  · exact w_c2
  · exact w_c3
  · exact w_c4
  · exact w_c5
  · exact w_c6
  · exact w_c7
  · exact w_c8
  · exact w_c9
  · exact w_c10
  · exact w_c11
  · exact w_c12
  · exact w_c13
  · exact w_c14
  · exact w_c15
  · exact w_c16
  · exact w_c17
  · exact w_c18
  · exact w_c19
  · exact w_c20
  · exact w_c21
  · exact w_c22
  · exact w_c23
  · exact w_c24
  · exact w_c25
  · exact w_c26
  · exact w_c27
  · exact w_c28
  · exact w_c29
  · exact w_c30
  · exact w_c31
  · exact w_c32
  · exact w_c33
  · exact w_c34
  · exact w_c35
  · exact w_c36
  · exact w_c37
  · exact w_c38
  · exact w_c39
  · exact w_c40
  · exact w_c41
  · exact w_c42
  · exact w_c43
  · exact w_c44
  · exact w_c45
  · exact w_c46
  · exact w_c47
  · exact w_c48
  · exact w_c49
  · exact w_c50
  · exact w_c51
  · exact w_c52
set_option maxRecDepth 65536 in
theorem w_t1 : (words1.take 24).all (fun c => isCode c || c.before args0 about1) = true := by decide +kernel
set_option maxRecDepth 65536 in
theorem w_t2 : ((words1.drop 24).take 24).all (fun c => isCode c || c.before args0 about1) = true := by decide +kernel
set_option maxRecDepth 65536 in
theorem w_t3 : (((words1.drop 24).drop 24).take 24).all (fun c => isCode c || c.before args0 about1) = true := by decide +kernel
set_option maxRecDepth 65536 in
theorem w_t4 : ((((words1.drop 24).drop 24).drop 24).take 24).all (fun c => isCode c || c.before args0 about1) = true := by decide +kernel
set_option maxRecDepth 65536 in
theorem w_t5 : (((((words1.drop 24).drop 24).drop 24).drop 24).take 24).all (fun c => isCode c || c.before args0 about1) = true := by decide +kernel
set_option maxRecDepth 65536 in
theorem w_t6 : ((((((words1.drop 24).drop 24).drop 24).drop 24).drop 24).take 24).all (fun c => isCode c || c.before args0 about1) = true := by decide +kernel
set_option maxRecDepth 65536 in
theorem w_t7 : (((((((words1.drop 24).drop 24).drop 24).drop 24).drop 24).drop 24).take 24).all (fun c => isCode c || c.before args0 about1) = true := by decide +kernel
set_option maxRecDepth 65536 in
theorem w_t8 : ((((((((words1.drop 24).drop 24).drop 24).drop 24).drop 24).drop 24).drop 24).take 24).all (fun c => isCode c || c.before args0 about1) = true := by decide +kernel
set_option maxRecDepth 65536 in
theorem w_t9 : (((((((((words1.drop 24).drop 24).drop 24).drop 24).drop 24).drop 24).drop 24).drop 24).take 24).all (fun c => isCode c || c.before args0 about1) = true := by decide +kernel
set_option maxRecDepth 65536 in
theorem w_t10 : ((((((((((words1.drop 24).drop 24).drop 24).drop 24).drop 24).drop 24).drop 24).drop 24).drop 24).take 24).all (fun c => isCode c || c.before args0 about1) = true := by decide +kernel
set_option maxRecDepth 65536 in
theorem w_t11 : (((((((((((words1.drop 24).drop 24).drop 24).drop 24).drop 24).drop 24).drop 24).drop 24).drop 24).drop 24).take 24).all (fun c => isCode c || c.before args0 about1) = true := by decide +kernel
set_option maxRecDepth 65536 in
theorem w_t12 : ((((((((((((words1.drop 24).drop 24).drop 24).drop 24).drop 24).drop 24).drop 24).drop 24).drop 24).drop 24).drop 24).take 24).all (fun c => isCode c || c.before args0 about1) = true := by decide +kernel
set_option maxRecDepth 65536 in
theorem w_t13 : (((((((((((((words1.drop 24).drop 24).drop 24).drop 24).drop 24).drop 24).drop 24).drop 24).drop 24).drop 24).drop 24).drop 24).take 24).all (fun c => isCode c || c.before args0 about1) = true := by decide +kernel
set_option maxRecDepth 65536 in
theorem w_t14 : (((((((((((((words1.drop 24).drop 24).drop 24).drop 24).drop 24).drop 24).drop 24).drop 24).drop 24).drop 24).drop 24).drop 24).drop 24).all (fun c => isCode c || c.before args0 about1) = true := by decide +kernel
theorem w_tables : (allAtoms (Jvm.Cond.code x code maxLocals ret :: tables_1)).before args0 about1 = true := by
  rw [allAtoms_all]
  show words1.all (fun c => c.before args0 about1) = true
  refine all_split ?_ w_codes
  rw [← List.take_append_drop 24 words1, List.all_append, w_t1, ← List.take_append_drop 24 (words1.drop 24), List.all_append, w_t2, ← List.take_append_drop 24 ((words1.drop 24).drop 24), List.all_append, w_t3, ← List.take_append_drop 24 (((words1.drop 24).drop 24).drop 24), List.all_append, w_t4, ← List.take_append_drop 24 ((((words1.drop 24).drop 24).drop 24).drop 24), List.all_append, w_t5, ← List.take_append_drop 24 (((((words1.drop 24).drop 24).drop 24).drop 24).drop 24), List.all_append, w_t6, ← List.take_append_drop 24 ((((((words1.drop 24).drop 24).drop 24).drop 24).drop 24).drop 24), List.all_append, w_t7, ← List.take_append_drop 24 (((((((words1.drop 24).drop 24).drop 24).drop 24).drop 24).drop 24).drop 24), List.all_append, w_t8, ← List.take_append_drop 24 ((((((((words1.drop 24).drop 24).drop 24).drop 24).drop 24).drop 24).drop 24).drop 24), List.all_append, w_t9, ← List.take_append_drop 24 (((((((((words1.drop 24).drop 24).drop 24).drop 24).drop 24).drop 24).drop 24).drop 24).drop 24), List.all_append, w_t10, ← List.take_append_drop 24 ((((((((((words1.drop 24).drop 24).drop 24).drop 24).drop 24).drop 24).drop 24).drop 24).drop 24).drop 24), List.all_append, w_t11, ← List.take_append_drop 24 (((((((((((words1.drop 24).drop 24).drop 24).drop 24).drop 24).drop 24).drop 24).drop 24).drop 24).drop 24).drop 24), List.all_append, w_t12, ← List.take_append_drop 24 ((((((((((((words1.drop 24).drop 24).drop 24).drop 24).drop 24).drop 24).drop 24).drop 24).drop 24).drop 24).drop 24).drop 24), List.all_append, w_t13, w_t14]
  rfl
set_option maxRecDepth 65536 in
theorem w_rest : rest_1_c.before args0 about1 = true := by decide +kernel
set_option maxRecDepth 65536 in
theorem w_case : (Jvm.Cond.and given_1 narrow_1).before args0 about1 = true := by decide +kernel
set_option maxRecDepth 65536 in
theorem w_consts : constsHeld consts_1 about1 := Jvm.Lit.constsHeldB_iff.mp (by decide +kernel)
theorem w_applies : (headSpec (Jvm.Cond.code x code maxLocals ret :: tables_1) room_1).applies x e0.platform about1 = true :=
  (Spec.applies_iff w_frames).mpr ⟨w_running, w_runnable, w_alone, w_named, w_hears, w_ripe, w_room, w_tables⟩
theorem atStart : AtStart classFile x code maxLocals ret World_1 tables_1 room_1 Calls_1 rest_1 Pre_1 launch0 p0 e0 about1 theMethod args0 below0 :=
  ⟨lists_1, trivial, launch0.admits_env _ _ _, launch0.least_env, fairChoices_fair.cas, fairChoices_fair.clock, w_frames, w_args, w_heap, w_applies, ⟨(by decide +kernel : framesKnown about1 = true), ⟨(by decide +kernel : tablesKnown about1 = true), ⟨w_consts, trivial⟩⟩⟩, w_rest, w_case⟩
end start1
theorem witness_1 : WitnessClaimed_1 := ⟨start1.p0, start1.e0, start1.about1, start1.theMethod, start1.args0, start1.below0, start1.atStart⟩
end Jvm.Pilot.@@N@@
