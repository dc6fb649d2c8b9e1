import JvmDerived
import JvmDerived.Pilot.@@N@@Statement
import JvmDerived.Pilot.@@N@@Code
set_option linter.unusedVariables false
set_option linter.unusedSimpArgs false
namespace Jvm.Pilot.@@N@@
open Jvm Jvm.ClassFile Sem Op Lib Jvm.Free Jvm.Stand Jvm.LawKit Jvm.RoadKit Bundle Jvm.Pilot.@@N@@.Jvm.D
section OwnGo
variable {p : Program} {l : Launch} {e : Env} {R : Room} {s : State} {m : MethodId} {args : Array Value} {below : List Frame} {meth : Method} {c : Code} {T : State} {n0 cells slots cells' slots' : Nat} {Z : State} {a0 : Array Value} {h : Heap} {K : State → Outcome → Prop} {pc : Nat} (pc' : Nat) {Ls : Array Slot} {St : List Value} {own : String} {by0 : ByteArray} {ml : Nat}
/-- from state T with the frame g on top the run comes to an end of which K holds -/
def OGo (p : Program) (e : Env) (below : List Frame) (K : State → Outcome → Prop) (T : State) (g : JFrame) : Prop := ∃ t o, Steps p.tables e below (T.setTop g) t ∧ K t o
/-- what does not change during one body's walk -/
def Cx (p : Program) (s : State) (m : MethodId) (c : Code) (Z : State) (own : String) (by0 : ByteArray) (ml : Nat) : Prop := p.tables.exec = Jvm.exec ∧ Z.Warmed39 s.vm ∧ s.vm.findClass own = some m.cls ∧ c.code = by0 ∧ c.maxLocals = ml
/-- where the walk stands: heap h, only cells from n0 on written -/
def Sd (p : Program) (l : Launch) (e : Env) (R : Room) (s : State) (m : MethodId) (args : Array Value) (below : List Frame) (meth : Method) (c : Code) (n0 : Nat) (T : State) (h : Heap) (cells slots : Nat) : Prop := T.heap = h ∧ n0 ≤ h.size ∧ ∃ locs, Stand p l e R s m args below meth c T locs cells slots ∧ Fr n0 locs
/-- what a body owes at its end -/
def Kk (s : State) (below : List Frame) (n0 : Nat) (Q : Option Value → Heap → Prop) (nc ns : Nat) : State → Outcome → Prop := fun t o => t.status = .running ∧ Ended t below o ∧ ∃ v L, o = .returned v ∧ (Q v t.heap ∧ Fr n0 L) ∧ FrameEnd s o t L nc ns
/-- a body's contract -/
def Ctr (l : Launch) (Z : State) (y : MethodName) (by0 : ByteArray) (ml : Nat) (ret : Option FieldType) (rm : Room) (n0 : Nat) (as' : Array Value) (h : Heap) (Q : Option Value → Heap → Prop) : Prop :=
  ∀ ws, MetFree l y (head1 (Jvm.Cond.code y by0 ml ret :: ws) rm) (fun a U => a = as' ∧ Z.Warmed39 U.vm ∧ U.heap = h) (fun _ _ _ _ _ => True) (fun _ U o U' => ∃ v L, o = .returned v ∧ ((Q v U'.heap ∧ h.size ≤ U'.heap.size) ∧ Fr n0 L) ∧ FrameEnd U o U' L rm.cells rm.slots)
theorem G.st {T T' : State} {g g' : JFrame} (st : ∀ target, Steps p.tables e below (T'.setTop g') target → Steps p.tables e below (T.setTop g) target) (hr : OGo p e below K T' g') : OGo p e below K T g := by
  obtain ⟨t, o, h1, h2⟩ := hr
  exact ⟨t, o, st t h1, h2⟩
theorem G.tr {T T' : State} {g g' : JFrame} (st : Steps p.tables e below (T.setTop g) (T'.setTop g')) (hr : OGo p e below K T' g') : OGo p e below K T g := by
  obtain ⟨t, o, h1, h2⟩ := hr
  exact ⟨t, o, st.trans h1, h2⟩
theorem Ctr.of {y : MethodName} {ret : Option FieldType} {rm : Room} {as' : Array Value} {Q : Option Value → Heap → Prop} (hpl : plainFor y = true) (hn : n0 ≤ h.size)
    (body : ∀ p e s m below meth c T, Cx p s m c Z y.cls by0 ml → meth.name = y.name → meth.sig.returnType = ret → meth.locks = false → Sd p l e rm s m as' below meth c n0 T h 0 0 → OGo p e below (Kk s below n0 Q rm.cells rm.slots) T (entryFrame m as' ml)) :
 Ctr l Z y by0 ml ret rm n0 as' h Q := by
 intro ws
 refine MetFree.of_bodySF hpl hisR ?_
 intro p e s m args below meth c s₁ Bd hml0 hP hK
 obtain ⟨rfl, hZ, hh⟩ := hP
 have hown : s.vm.findClass y.cls = some m.cls := findClass_of_methodNamed Bd.named
 have hnm := (name_of_methodNamed Bd.named Bd.method).1
 have X0 := Stand.of_body Bd
 have e0 : s₁.heap = h := by rw [← hh, Bd.state]; rfl
 obtain ⟨t, o, h1, h2, h3, v, L, h4, ⟨h5, h6⟩, h7⟩ := body p e s m below meth c s₁ ⟨Bd.exec, hZ, hown, Bd.bytes, hml0⟩ hnm Bd.returns (BodyLoose.notSynchronized Bd) ⟨e0, hn, [], X0, Fr.nil n0⟩
 exact ⟨t, o, h1, h2, h3, v, L, h4, ⟨⟨h5, by rw [← hh]; exact h7.2.2.2.1⟩, h6⟩, h7⟩
theorem Ctr.mono {y : MethodName} {ret : Option FieldType} {rm : Room} {as' : Array Value} {Q Q' : Option Value → Heap → Prop} (hM : Ctr l Z y by0 ml ret rm n0 as' h Q) (hq : ∀ v h', Q v h' → Q' v h') : Ctr l Z y by0 ml ret rm n0 as' h Q' := by
  intro ws p e ha hc hk s m args below hf happ hP hK
  obtain ⟨n, o, h1, h2, h3, v, L, h4, ⟨⟨h5, h8⟩, h6⟩, h7⟩ := hM ws p e ha hc hk s m args below hf happ hP hK
  exact ⟨n, o, h1, h2, h3, v, L, h4, ⟨⟨hq _ _ h5, h8⟩, h6⟩, h7⟩
theorem G.g (C : Cx p s m c Z own by0 ml) (X : Sd p l e R s m args below meth c n0 T h cells slots) {k : Nat} {v : Int32} (hd : decode by0 pc = .ok (.iload k, 2)) (hp : pc + 2 = pc') (hl : Ls[k]? = some (.val (.int v))) (hr : OGo p e below K T (mkF m pc' Ls (.int v :: St))) : OGo p e below K T (mkF m pc Ls (St)) := by
  subst hp
  obtain ⟨-, -, locs, Y, -⟩ := X
  exact G.st (fun t k => XS.iload Y.here C.1 rfl (hb C.2.2.2.1 hd) hl k) hr
theorem G.b (C : Cx p s m c Z own by0 ml) (X : Sd p l e R s m args below meth c n0 T h cells slots) {k : Fin 4} {v : Int32} (hd : decode by0 pc = .ok (.iload_n k, 1)) (hp : pc + 1 = pc') (hl : Ls[k.val]? = some (.val (.int v))) (hr : OGo p e below K T (mkF m pc' Ls (.int v :: St))) : OGo p e below K T (mkF m pc Ls (St)) := by
  subst hp
  obtain ⟨-, -, locs, Y, -⟩ := X
  exact G.st (fun t k => XS.iloadN Y.here C.1 rfl (hb C.2.2.2.1 hd) hl k) hr
theorem G.d (C : Cx p s m c Z own by0 ml) (X : Sd p l e R s m args below meth c n0 T h cells slots) {k : Nat} {v : Value} (hd : decode by0 pc = .ok (.aload k, 2)) (hp : pc + 2 = pc') (hl : Ls[k]? = some (.val v)) (hv : v.isRef = true) (hr : OGo p e below K T (mkF m pc' Ls (v :: St))) : OGo p e below K T (mkF m pc Ls (St)) := by
  subst hp
  obtain ⟨-, -, locs, Y, -⟩ := X
  exact G.st (fun t k => XS.aload Y.here C.1 rfl (hb C.2.2.2.1 hd) hl hv k) hr
theorem G.a (C : Cx p s m c Z own by0 ml) (X : Sd p l e R s m args below meth c n0 T h cells slots) {k : Fin 4} {v : Value} (hd : decode by0 pc = .ok (.aload_n k, 1)) (hp : pc + 1 = pc') (hl : Ls[k.val]? = some (.val v)) (hv : v.isRef = true) (hr : OGo p e below K T (mkF m pc' Ls (v :: St))) : OGo p e below K T (mkF m pc Ls (St)) := by
  subst hp
  obtain ⟨-, -, locs, Y, -⟩ := X
  exact G.st (fun t k => XS.aloadN Y.here C.1 rfl (hb C.2.2.2.1 hd) hl hv k) hr
theorem G.w (C : Cx p s m c Z own by0 ml) (X : Sd p l e R s m args below meth c n0 T h cells slots) {k : Nat} {x : Int32} {l' : Array Slot} (hd : decode by0 pc = .ok (.istore k, 2)) (hp : pc + 2 = pc') (hl : storeLocals Ls k (.int x) = some l') (hr : OGo p e below K T (mkF m pc' l' (St))) : OGo p e below K T (mkF m pc Ls (.int x :: St)) := by
  subst hp
  obtain ⟨-, -, locs, Y, -⟩ := X
  exact G.st (fun t k => XS.istore Y.here C.1 rfl (hb C.2.2.2.1 hd) rfl hl k) hr
theorem G.D (C : Cx p s m c Z own by0 ml) (X : Sd p l e R s m args below meth c n0 T h cells slots) {k : Fin 4} {x : Int32} {l' : Array Slot} (hd : decode by0 pc = .ok (.istore_n k, 1)) (hp : pc + 1 = pc') (hl : storeLocals Ls k.val (.int x) = some l') (hr : OGo p e below K T (mkF m pc' l' (St))) : OGo p e below K T (mkF m pc Ls (.int x :: St)) := by
  subst hp
  obtain ⟨-, -, locs, Y, -⟩ := X
  exact G.st (fun t k => XS.istoreN Y.here C.1 rfl (hb C.2.2.2.1 hd) rfl hl k) hr
theorem G.P (C : Cx p s m c Z own by0 ml) (X : Sd p l e R s m args below meth c n0 T h cells slots) {k : Nat} {x : Value} {l' : Array Slot} (hd : decode by0 pc = .ok (.astore k, 2)) (hp : pc + 2 = pc') (hv : x.isRef = true) (hl : storeLocals Ls k x = some l') (hr : OGo p e below K T (mkF m pc' l' (St))) : OGo p e below K T (mkF m pc Ls (x :: St)) := by
  subst hp
  obtain ⟨-, -, locs, Y, -⟩ := X
  exact G.st (fun t k => XS.astore Y.here C.1 rfl (hb C.2.2.2.1 hd) rfl hv hl k) hr
theorem G.ac (C : Cx p s m c Z own by0 ml) (X : Sd p l e R s m args below meth c n0 T h cells slots) {k : Fin 4} {x : Value} {l' : Array Slot} (hd : decode by0 pc = .ok (.astore_n k, 1)) (hp : pc + 1 = pc') (hv : x.isRef = true) (hl : storeLocals Ls k.val x = some l') (hr : OGo p e below K T (mkF m pc' l' (St))) : OGo p e below K T (mkF m pc Ls (x :: St)) := by
  subst hp
  obtain ⟨-, -, locs, Y, -⟩ := X
  exact G.st (fun t k => XS.astoreN Y.here C.1 rfl (hb C.2.2.2.1 hd) rfl hv hl k) hr
theorem G.f (C : Cx p s m c Z own by0 ml) (X : Sd p l e R s m args below meth c n0 T h cells slots) {i : Int} {z : Int32} (hd : decode by0 pc = .ok (.iconst i, 1)) (hp : pc + 1 = pc') (hz : Int32.ofInt i = z) (hr : OGo p e below K T (mkF m pc' Ls (.int z :: St))) : OGo p e below K T (mkF m pc Ls (St)) := by
  subst hp
  subst hz
  obtain ⟨-, -, locs, Y, -⟩ := X
  exact G.st (fun t k => XS.iconst Y.here C.1 rfl (hb C.2.2.2.1 hd)  k) hr
theorem G.j (C : Cx p s m c Z own by0 ml) (X : Sd p l e R s m args below meth c n0 T h cells slots) {i : Int} {z : Int32} (hd : decode by0 pc = .ok (.bipush i, 2)) (hp : pc + 2 = pc') (hz : (Int8.ofInt i).toInt32 = z) (hr : OGo p e below K T (mkF m pc' Ls (.int z :: St))) : OGo p e below K T (mkF m pc Ls (St)) := by
  subst hp
  subst hz
  obtain ⟨-, -, locs, Y, -⟩ := X
  exact G.st (fun t k => XS.bipush Y.here C.1 rfl (hb C.2.2.2.1 hd)  k) hr
theorem G.aa (C : Cx p s m c Z own by0 ml) (X : Sd p l e R s m args below meth c n0 T h cells slots) {i : Int} {z : Int32} (hd : decode by0 pc = .ok (.sipush i, 3)) (hp : pc + 3 = pc') (hz : (Int16.ofInt i).toInt32 = z) (hr : OGo p e below K T (mkF m pc' Ls (.int z :: St))) : OGo p e below K T (mkF m pc Ls (St)) := by
  subst hp
  subst hz
  obtain ⟨-, -, locs, Y, -⟩ := X
  exact G.st (fun t k => XS.sipush Y.here C.1 rfl (hb C.2.2.2.1 hd)  k) hr
theorem G.am (C : Cx p s m c Z own by0 ml) (X : Sd p l e R s m args below meth c n0 T h cells slots)  (hd : decode by0 pc = .ok (.aconst_null, 1)) (hp : pc + 1 = pc')  (hr : OGo p e below K T (mkF m pc' Ls (.null :: St))) : OGo p e below K T (mkF m pc Ls (St)) := by
  subst hp
  obtain ⟨-, -, locs, Y, -⟩ := X
  exact G.st (fun t k => XS.aconstNull Y.here C.1 rfl (hb C.2.2.2.1 hd)  k) hr
theorem G.x (C : Cx p s m c Z own by0 ml) (X : Sd p l e R s m args below meth c n0 T h cells slots) {x y z : Int32} (hd : decode by0 pc = .ok (.iadd, 1)) (hp : pc + 1 = pc') (hz : x + y = z) (hr : OGo p e below K T (mkF m pc' Ls (.int z :: St))) : OGo p e below K T (mkF m pc Ls (.int y :: .int x :: St)) := by
  subst hp
  subst hz
  obtain ⟨-, -, locs, Y, -⟩ := X
  exact G.st (fun t k => XS.iadd Y.here C.1 rfl (hb C.2.2.2.1 hd) rfl k) hr
theorem G.ak (C : Cx p s m c Z own by0 ml) (X : Sd p l e R s m args below meth c n0 T h cells slots) {x y z : Int32} (hd : decode by0 pc = .ok (.isub, 1)) (hp : pc + 1 = pc') (hz : x - y = z) (hr : OGo p e below K T (mkF m pc' Ls (.int z :: St))) : OGo p e below K T (mkF m pc Ls (.int y :: .int x :: St)) := by
  subst hp
  subst hz
  obtain ⟨-, -, locs, Y, -⟩ := X
  exact G.st (fun t k => XS.isub Y.here C.1 rfl (hb C.2.2.2.1 hd) rfl k) hr
theorem G.ab (C : Cx p s m c Z own by0 ml) (X : Sd p l e R s m args below meth c n0 T h cells slots) {x y z : Int32} (hd : decode by0 pc = .ok (.iand, 1)) (hp : pc + 1 = pc') (hz : x &&& y = z) (hr : OGo p e below K T (mkF m pc' Ls (.int z :: St))) : OGo p e below K T (mkF m pc Ls (.int y :: .int x :: St)) := by
  subst hp
  subst hz
  obtain ⟨-, -, locs, Y, -⟩ := X
  exact G.st (fun t k => XS.iand Y.here C.1 rfl (hb C.2.2.2.1 hd) rfl k) hr
theorem G.as (C : Cx p s m c Z own by0 ml) (X : Sd p l e R s m args below meth c n0 T h cells slots) {x y z : Int32} (hd : decode by0 pc = .ok (.ishl, 1)) (hp : pc + 1 = pc') (hz : x <<< (y &&& 31) = z) (hr : OGo p e below K T (mkF m pc' Ls (.int z :: St))) : OGo p e below K T (mkF m pc Ls (.int y :: .int x :: St)) := by
  subst hp
  subst hz
  obtain ⟨-, -, locs, Y, -⟩ := X
  exact G.st (fun t k => XS.ishl Y.here C.1 rfl (hb C.2.2.2.1 hd) rfl k) hr
theorem G.an (C : Cx p s m c Z own by0 ml) (X : Sd p l e R s m args below meth c n0 T h cells slots) {x y z : Int32} (hd : decode by0 pc = .ok (.ishr, 1)) (hp : pc + 1 = pc') (hz : x >>> (y &&& 31) = z) (hr : OGo p e below K T (mkF m pc' Ls (.int z :: St))) : OGo p e below K T (mkF m pc Ls (.int y :: .int x :: St)) := by
  subst hp
  subst hz
  obtain ⟨-, -, locs, Y, -⟩ := X
  exact G.st (fun t k => XS.ishr Y.here C.1 rfl (hb C.2.2.2.1 hd) rfl k) hr
theorem G.ae (C : Cx p s m c Z own by0 ml) (X : Sd p l e R s m args below meth c n0 T h cells slots) {x y z : Int32} (hd : decode by0 pc = .ok (.iushr, 1)) (hp : pc + 1 = pc') (hz : (x.toUInt32 >>> (y &&& 31).toUInt32).toInt32 = z) (hr : OGo p e below K T (mkF m pc' Ls (.int z :: St))) : OGo p e below K T (mkF m pc Ls (.int y :: .int x :: St)) := by
  subst hp
  subst hz
  obtain ⟨-, -, locs, Y, -⟩ := X
  exact G.st (fun t k => XS.iushr Y.here C.1 rfl (hb C.2.2.2.1 hd) rfl k) hr
theorem G.av (C : Cx p s m c Z own by0 ml) (X : Sd p l e R s m args below meth c n0 T h cells slots) {x y z : Int32} (hd : decode by0 pc = .ok (.irem, 1)) (hp : pc + 1 = pc') (hy : y ≠ 0) (hz : x % y = z) (hr : OGo p e below K T (mkF m pc' Ls (.int z :: St))) : OGo p e below K T (mkF m pc Ls (.int y :: .int x :: St)) := by
  subst hp
  subst hz
  obtain ⟨-, -, locs, Y, -⟩ := X
  exact G.st (fun t k => iremM Y C.1 rfl (hb C.2.2.2.1 hd) rfl hy k) hr
theorem G.y (C : Cx p s m c Z own by0 ml) (X : Sd p l e R s m args below meth c n0 T h cells slots) {k : Nat} {cst : Int} {x z : Int32} {l' : Array Slot} (hd : decode by0 pc = .ok (.iinc k cst, 3)) (hp : pc + 3 = pc') (hl : Ls[k]? = some (.val (.int x))) (hz : x + Int32.ofInt cst = z) (hl' : storeLocals Ls k (.int z) = some l') (hr : OGo p e below K T (mkF m pc' l' (St))) : OGo p e below K T (mkF m pc Ls (St)) := by
  subst hp
  subst hz
  obtain ⟨-, -, locs, Y, -⟩ := X
  exact G.st (fun t k => XS.iinc Y.here C.1 rfl (hb C.2.2.2.1 hd) hl hl' k) hr
theorem G.ah (C : Cx p s m c Z own by0 ml) (X : Sd p l e R s m args below meth c n0 T h cells slots) {x : Int32} {z : Int32} (hd : decode by0 pc = .ok (.i2b, 1)) (hp : pc + 1 = pc') (hz : x.toInt8.toInt32 = z) (hr : OGo p e below K T (mkF m pc' Ls (.int z :: St))) : OGo p e below K T (mkF m pc Ls (.int x :: St)) := by
  subst hp
  subst hz
  obtain ⟨-, -, locs, Y, -⟩ := X
  exact G.st (fun t k => XS.i2b Y.here C.1 rfl (hb C.2.2.2.1 hd) rfl k) hr
theorem G.ai (C : Cx p s m c Z own by0 ml) (X : Sd p l e R s m args below meth c n0 T h cells slots) {x : Int32} {z : Int32} (hd : decode by0 pc = .ok (.i2c, 1)) (hp : pc + 1 = pc') (hz : x.toUInt32.toUInt16.toUInt32.toInt32 = z) (hr : OGo p e below K T (mkF m pc' Ls (.int z :: St))) : OGo p e below K T (mkF m pc Ls (.int x :: St)) := by
  subst hp
  subst hz
  obtain ⟨-, -, locs, Y, -⟩ := X
  exact G.st (fun t k => XS.i2c Y.here C.1 rfl (hb C.2.2.2.1 hd) rfl k) hr
theorem G.I (C : Cx p s m c Z own by0 ml) (X : Sd p l e R s m args below meth c n0 T h cells slots) {x : Value} (hd : decode by0 pc = .ok (.dup, 1)) (hp : pc + 1 = pc') (hc : x.category = 1) (hr : OGo p e below K T (mkF m pc' Ls (x :: x :: St))) : OGo p e below K T (mkF m pc Ls (x :: St)) := by
  subst hp
  obtain ⟨-, -, locs, Y, -⟩ := X
  exact G.st (fun t k => XS.dup Y.here C.1 rfl (hb C.2.2.2.1 hd) rfl hc k) hr
theorem G.v (C : Cx p s m c Z own by0 ml) (X : Sd p l e R s m args below meth c n0 T h cells slots) {x : Value} (hd : decode by0 pc = .ok (.pop, 1)) (hp : pc + 1 = pc') (hc : x.category = 1) (hr : OGo p e below K T (mkF m pc' Ls (St))) : OGo p e below K T (mkF m pc Ls (x :: St)) := by
  subst hp
  obtain ⟨-, -, locs, Y, -⟩ := X
  exact G.st (fun t k => XS.pop Y.here C.1 rfl (hb C.2.2.2.1 hd) rfl hc k) hr
theorem G.aw (C : Cx p s m c Z own by0 ml) (X : Sd p l e R s m args below meth c n0 T h cells slots) {x y : Value} (hd : decode by0 pc = .ok (.dup_x1, 1)) (hp : pc + 1 = pc') (hc : x.category = 1) (hc' : y.category = 1) (hr : OGo p e below K T (mkF m pc' Ls (x :: y :: x :: St))) : OGo p e below K T (mkF m pc Ls (x :: y :: St)) := by
  subst hp
  obtain ⟨-, -, locs, Y, -⟩ := X
  exact G.st (fun t k => XS.dupX1 Y.here C.1 rfl (hb C.2.2.2.1 hd) rfl hc hc' k) hr
theorem G.r (C : Cx p s m c Z own by0 ml) (X : Sd p l e R s m args below meth c n0 T h cells slots)  {o : Int} (hd : decode by0 pc = .ok (.goto o, 3))  (ho : 0 ≤ (pc : Int) + o) (hp : ((pc : Int) + o).toNat = pc') (hr : OGo p e below K T (mkF m pc' Ls (St))) : OGo p e below K T (mkF m pc Ls (St)) := by
  obtain ⟨-, -, locs, Y, -⟩ := X
  exact G.st (fun t k => XS.goto Y.here C.1 rfl (pc0 := pc) rfl (hb C.2.2.2.1 hd)  ho hp k) hr
theorem G.ad (C : Cx p s m c Z own by0 ml) (X : Sd p l e R s m args below meth c n0 T h cells slots) {cd : ClassFile.Cond} {x : Int32} {o : Int} (hd : decode by0 pc = .ok (.ifCond cd o, 3)) (hc : if_icmp.holds cd x 0 = true) (ho : 0 ≤ (pc : Int) + o) (hp : ((pc : Int) + o).toNat = pc') (hr : OGo p e below K T (mkF m pc' Ls (St))) : OGo p e below K T (mkF m pc Ls (.int x :: St)) := by
  obtain ⟨-, -, locs, Y, -⟩ := X
  exact G.st (fun t k => XS.ifYes Y.here C.1 rfl (pc0 := pc) rfl (hb C.2.2.2.1 hd) rfl ((if0 _ _).trans hc) ho hp k) hr
theorem G.k (C : Cx p s m c Z own by0 ml) (X : Sd p l e R s m args below meth c n0 T h cells slots) {cd : ClassFile.Cond} {x : Int32} {o : Int} (hd : decode by0 pc = .ok (.ifCond cd o, 3)) (hp : pc + 3 = pc') (hc : if_icmp.holds cd x 0 = false) (hr : OGo p e below K T (mkF m pc' Ls (St))) : OGo p e below K T (mkF m pc Ls (.int x :: St)) := by
  subst hp
  obtain ⟨-, -, locs, Y, -⟩ := X
  exact G.st (fun t k => XS.ifNo Y.here C.1 rfl (hb C.2.2.2.1 hd) rfl ((if0 _ _).trans hc) k) hr
theorem G.q (C : Cx p s m c Z own by0 ml) (X : Sd p l e R s m args below meth c n0 T h cells slots) {cd : ClassFile.Cond} {x y : Int32} {o : Int} (hd : decode by0 pc = .ok (.if_icmp cd o, 3)) (hc : if_icmp.holds cd x y = true) (ho : 0 ≤ (pc : Int) + o) (hp : ((pc : Int) + o).toNat = pc') (hr : OGo p e below K T (mkF m pc' Ls (St))) : OGo p e below K T (mkF m pc Ls (.int y :: .int x :: St)) := by
  obtain ⟨-, -, locs, Y, -⟩ := X
  exact G.st (fun t k => XS.icmpYes Y.here C.1 rfl (pc0 := pc) rfl (hb C.2.2.2.1 hd) rfl hc ho hp k) hr
theorem G.t (C : Cx p s m c Z own by0 ml) (X : Sd p l e R s m args below meth c n0 T h cells slots) {cd : ClassFile.Cond} {x y : Int32} {o : Int} (hd : decode by0 pc = .ok (.if_icmp cd o, 3)) (hp : pc + 3 = pc') (hc : if_icmp.holds cd x y = false) (hr : OGo p e below K T (mkF m pc' Ls (St))) : OGo p e below K T (mkF m pc Ls (.int y :: .int x :: St)) := by
  subst hp
  obtain ⟨-, -, locs, Y, -⟩ := X
  exact G.st (fun t k => XS.icmpNo Y.here C.1 rfl (hb C.2.2.2.1 hd) rfl hc k) hr
theorem G.aB (C : Cx p s m c Z own by0 ml) (X : Sd p l e R s m args below meth c n0 T h cells slots) {b : Addr} {o : Int} (hd : decode by0 pc = .ok (.ifnonnull o, 3))  (ho : 0 ≤ (pc : Int) + o) (hp : ((pc : Int) + o).toNat = pc') (hr : OGo p e below K T (mkF m pc' Ls (St))) : OGo p e below K T (mkF m pc Ls (.ref b :: St)) := by
  obtain ⟨-, -, locs, Y, -⟩ := X
  exact G.st (fun t k => XS.ifnonnullYes Y.here C.1 rfl (pc0 := pc) rfl (hb C.2.2.2.1 hd) rfl ho hp k) hr
theorem G.aF (C : Cx p s m c Z own by0 ml) (X : Sd p l e R s m args below meth c n0 T h cells slots) {cd : ACond} {x y : Value} (h1 : x.isRef = true) (h2 : y.isRef = true) {o : Int} {same : Bool} (hd : decode by0 pc = .ok (.if_acmp cd o, 3)) (hq : decide (x = y) = same) (ho : 0 ≤ (pc : Int) + o) (hp : pc' = if acV cd same = true then ((pc : Int) + o).toNat else pc + 3) (hr : OGo p e below K T (mkF m pc' Ls (St))) : OGo p e below K T (mkF m pc Ls (y :: x :: St)) := by
  obtain ⟨-, -, locs, Y, -⟩ := X
  exact G.st (fun t k => RoadKit.acmp Y C.1 rfl h1 h2 (pc0 := pc) rfl (hb C.2.2.2.1 hd) rfl hq ho hp k) hr
theorem G.aC (C : Cx p s m c Z own by0 ml) (X : Sd p l e R s m args below meth c n0 T h cells slots) {idx : Nat} {v : Int32} (w : (Jvm.Cond.constant own idx v).before a0 Z = true) (hd : decode by0 pc = .ok (.ldc idx, 2)) (hp : pc + 2 = pc') (hr : OGo p e below K T (mkF m pc' Ls (.int v :: St))) : OGo p e below K T (mkF m pc Ls (St)) := by
  subst hp
  obtain ⟨-, -, locs, Y, -⟩ := X
  exact G.st (fun t k => Y.ldcInt C.1 C.2.2.1 (mvT C.2.1 w) (g := mkF m pc Ls St) rfl (hb C.2.2.2.1 hd) t k) hr
theorem G.J (C : Cx p s m c Z own by0 ml) (X : Sd p l e R s m args below meth c n0 T h cells slots) {a : Addr} {k : ClassId} {ty : FieldType} {z : Int32} {vs : List Value} {dv : Value} (V : Arv Z h a k ty z vs dv) (hd : decode by0 pc = .ok (.arraylength, 1)) (hp : pc + 1 = pc') (hr : OGo p e below K T (mkF m pc' Ls (.int z :: St))) : OGo p e below K T (mkF m pc Ls (.ref a :: St)) := by
  subst hp
  obtain ⟨eT, -, locs, Y, -⟩ := X
  obtain ⟨cl, A, -, S, q, -⟩ := V
  refine G.st (fun t k => Y.arraylength C.1 (by rw [eT]; exact A.1) (State.isArrayOf_alike C.2.1.alike A.2.1) (g := mkF m pc Ls (.ref a :: St)) rfl rfl (hb C.2.2.2.1 hd) t ?_) hr
  rw [len_of S q]; exact k
theorem G.at (C : Cx p s m c Z own by0 ml) (X : Sd p l e R s m args below meth c n0 T h cells slots) {a : Addr} {k : ClassId} {z : Int32} {vs : List Value} {dv : Value} (V : Arv Z h a k .char z vs dv) {j : Int32} {v : Int32} (hd : decode by0 pc = .ok (.caload, 1)) (hp : pc + 1 = pc') (hj : ¬ j < 0 ∧ j < z) (hv : vs.getD j.toNatClampNeg dv = .int v) (hr : OGo p e below K T (mkF m pc' Ls (.int v :: St))) : OGo p e below K T (mkF m pc Ls (.int j :: .ref a :: St)) := by
  subst hp
  obtain ⟨eT, -, locs, Y, -⟩ := X
  obtain ⟨cl, A, -, S, q, H, -⟩ := V
  exact G.st (fun t k => Y.caload C.1 (by rw [eT]; exact A.1) (State.isArrayOf_alike C.2.1.alike A.2.1) A.2.2 (inb_of S hj) (Has.at H (inb_of S hj) hv) (g := mkF m pc Ls (.int j :: .ref a :: St)) rfl rfl (hb C.2.2.2.1 hd) t k) hr
theorem G.aG (C : Cx p s m c Z own by0 ml) (X : Sd p l e R s m args below meth c n0 T h cells slots) {a : Addr} {k : ClassId} {z : Int32} {vs : List Value} {dv : Value} (V : Arv Z h a k .byte z vs dv) {j : Int32} {v : Int32} (hd : decode by0 pc = .ok (.baload, 1)) (hp : pc + 1 = pc') (hj : ¬ j < 0 ∧ j < z) (hv : vs.getD j.toNatClampNeg dv = .int v) (hr : OGo p e below K T (mkF m pc' Ls (.int v :: St))) : OGo p e below K T (mkF m pc Ls (.int j :: .ref a :: St)) := by
  subst hp
  obtain ⟨eT, -, locs, Y, -⟩ := X
  obtain ⟨cl, A, -, S, q, H, -⟩ := V
  exact G.st (fun t k => Y.baloadBytes C.1 (by rw [eT]; exact A.1) (State.isArrayOf_alike C.2.1.alike A.2.1) A.2.2 (inb_of S hj) (Has.at H (inb_of S hj) hv) (g := mkF m pc Ls (.int j :: .ref a :: St)) rfl rfl (hb C.2.2.2.1 hd) t k) hr
theorem G.A (C : Cx p s m c Z own by0 ml) (X : Sd p l e R s m args below meth c n0 T h cells slots) {a : Addr} {k : ClassId} {z : Int32} {vs : List Value} {dv : Value} (V : Arv Z h a k .char z vs dv) (ga : n0 ≤ a) {j : Int32} {x : Int32} {i : Nat} (hd : decode by0 pc = .ok (.castore, 1)) (hp : pc + 1 = pc') (hj : ¬ j < 0 ∧ j < z) (hi : j.toNatClampNeg = i) (hl : i < vs.length)
    (hr : ∀ T' h', Sd p l e R s m args below meth c n0 T' h' cells slots → Wr h h' a i (.int (nar .char x)) → Arv Z h' a k .char z (vs.set i (.int (nar .char x))) dv → OGo p e below K T' (mkF m pc' Ls St)) : OGo p e below K T (mkF m pc Ls (.int x :: .int j :: .ref a :: St)) := by
  subst hp hi
  obtain ⟨eT, hn, locs, Y, N⟩ := X
  obtain ⟨cl, A, q1, S, q, H, Gt⟩ := V
  obtain ⟨T', h', Y', e', W, st⟩ := stC Y C.1 C.2.1 eT A (inb_of S hj) (g := mkF m pc Ls (.int x :: .int j :: .ref a :: St)) rfl rfl (hb C.2.2.2.1 hd)
  exact G.st st (hr T' h' ⟨e', by rw [W.size]; exact hn, _, Y', Fr.snoc Y' N ga⟩ W (Arv.set A q1 S q H Gt (fits_nar_char x) W _ rfl hl))
theorem G.ao (C : Cx p s m c Z own by0 ml) (X : Sd p l e R s m args below meth c n0 T h cells slots) {a : Addr} {k : ClassId} {z : Int32} {vs : List Value} {dv : Value} (V : Arv Z h a k .byte z vs dv) (ga : n0 ≤ a) {j : Int32} {x : Int32} {i : Nat} (hd : decode by0 pc = .ok (.bastore, 1)) (hp : pc + 1 = pc') (hj : ¬ j < 0 ∧ j < z) (hi : j.toNatClampNeg = i) (hl : i < vs.length)
    (hr : ∀ T' h', Sd p l e R s m args below meth c n0 T' h' cells slots → Wr h h' a i (.int (nar .byte x)) → Arv Z h' a k .byte z (vs.set i (.int (nar .byte x))) dv → OGo p e below K T' (mkF m pc' Ls St)) : OGo p e below K T (mkF m pc Ls (.int x :: .int j :: .ref a :: St)) := by
  subst hp hi
  obtain ⟨eT, hn, locs, Y, N⟩ := X
  obtain ⟨cl, A, q1, S, q, H, Gt⟩ := V
  obtain ⟨T', h', Y', e', W, st⟩ := stB Y C.1 C.2.1 eT A (inb_of S hj) (g := mkF m pc Ls (.int x :: .int j :: .ref a :: St)) rfl rfl (hb C.2.2.2.1 hd)
  exact G.st st (hr T' h' ⟨e', by rw [W.size]; exact hn, _, Y', Fr.snoc Y' N ga⟩ W (Arv.set A q1 S q H Gt (fits_nar_byte x) W _ rfl hl))
theorem G.af (C : Cx p s m c Z own by0 ml) (X : Sd p l e R s m args below meth c n0 T h cells slots) {aty : ArrayType} {ty : FieldType} {n : Int32} {cap : Nat} {d0 : Value} (w : (Jvm.Cond.arrayClass ty).before a0 Z = true) (hty : newarray.typeOf aty = ty) (hd : decode by0 pc = .ok (.newarray aty, 2)) (hp : pc + 2 = pc') (hn : ¬ n < 0) (hcap : n.toNatClampNeg ≤ cap) (hb8 : cap * 8 ≤ 536870912) (hdv : defaultValue ty = d0) (hc' : cells + 1 = cells') (hs' : slots + cap = slots') (hc : cells' ≤ R.cells) (hl : slots' ≤ R.slots)
    (hr : ∀ T' h' a k, Sd p l e R s m args below meth c n0 T' h' cells' slots' → a = h.size → n0 ≤ a → Ext h h' → Arv Z h' a k ty n [] d0 → OGo p e below K T' (mkF m pc' Ls (.ref a :: St))) : OGo p e below K T (mkF m pc Ls (.int n :: St)) := by
  subst hp hc' hs' hty hdv
  obtain ⟨eT, hn0, locs, Y, N⟩ := X
  obtain ⟨T', h', cA, Y', e', E, A, st⟩ := newP Y C.1 C.2.1 w eT (g := mkF m pc Ls (.int n :: St)) rfl (hb C.2.2.2.1 hd) rfl hn hcap hb8 hc hl
  exact G.st st (hr T' h' _ cA ⟨e', Nat.le_trans hn0 E.1, _, Y', N⟩ rfl hn0 E (Arv.new A hn))
theorem G.aD (C : Cx p s m c Z own by0 ml) (X : Sd p l e R s m args below meth c n0 T h cells slots) {aty : ArrayType} {ty : FieldType} {n : Int32} {cap : Nat} {d0 : Value} {ad : String} (w : (Jvm.Cond.arrayClass ty).before a0 Z = true) (hty : newarray.typeOf aty = ty) (had : "[" ++ ty.toString = ad) (hd : decode by0 pc = .ok (.newarray aty, 2)) (hp : pc + 2 = pc') (hn : ¬ n < 0) (hcap : n.toNatClampNeg ≤ cap) (hb8 : cap * 8 ≤ 536870912) (hdv : defaultValue ty = d0) (hc' : cells + 1 = cells') (hs' : slots + cap = slots') (hc : cells' ≤ R.cells) (hl : slots' ≤ R.slots)
    (hr : ∀ T' h' a k, Sd p l e R s m args below meth c n0 T' h' cells' slots' → a = h.size → n0 ≤ a → Ext h h' → Arv Z h' a k ty n [] d0 → Exa Z h' a ad → OGo p e below K T' (mkF m pc' Ls (.ref a :: St))) : OGo p e below K T (mkF m pc Ls (.int n :: St)) := by
  subst hp hc' hs' hty hdv
  obtain ⟨eT, hn0, locs, Y, N⟩ := X
  obtain ⟨T', h', cA, Y', e', E, A, EE, st⟩ := newPE Y C.1 C.2.1 w eT (g := mkF m pc Ls (.int n :: St)) rfl (hb C.2.2.2.1 hd) rfl hn hcap hb8 hc hl had
  exact G.st st (hr T' h' _ cA ⟨e', Nat.le_trans hn0 E.1, _, Y', N⟩ rfl hn0 E (Arv.new A hn) EE)
theorem G.U (C : Cx p s m c Z own by0 ml) (X : Sd p l e R s m args below meth c n0 T h cells slots) {Cn : String} {idx n : Nat} (w : (Jvm.Cond.classLink own idx Cn).before a0 Z = true) (wi : (Jvm.Cond.instantiable Cn n).before a0 Z = true) (wz : (Jvm.Cond.initialized Cn).before a0 Z = true) (hd : decode by0 pc = .ok (.new idx, 3)) (hp : pc + 3 = pc') (hc' : cells + 1 = cells') (hs' : slots + n = slots') (hc : cells' ≤ R.cells) (hl : slots' ≤ R.slots)
    (hr : ∀ T' h' a, Sd p l e R s m args below meth c n0 T' h' cells' slots' → a = h.size → n0 ≤ a → Ext h h' → Exa Z h' a Cn → (∀ {O nm d : String} {ty : FieldType}, Laid Z a0 Cn O nm d → parseFieldDescriptor d = some ty → Fld Z h' a O nm d (defaultValue ty)) → Unt h' a → OGo p e below K T' (mkF m pc' Ls (.ref a :: St))) : OGo p e below K T (mkF m pc Ls (St)) := by
  subst hp hc' hs'
  obtain ⟨eT, hn0, locs, Y, N⟩ := X
  obtain ⟨T', h', Y', e', E, A, D, U, st⟩ := newO Y C.1 C.2.1 C.2.2.1 w wi wz eT (g := mkF m pc Ls St) rfl (hb C.2.2.2.1 hd) hc hl
  exact G.st st (hr T' h' _ ⟨e', Nat.le_trans hn0 E.1, _, Y', N⟩ rfl hn0 E A D U)
theorem G.u (C : Cx p s m c Z own by0 ml) (X : Sd p l e R s m args below meth c n0 T h cells slots) {R0 O n d host : String} {idx : Nat} {a : Addr} {v : Value} (w : (Jvm.Cond.fieldLink own idx R0 n d).before a0 Z = true ∨ (Jvm.Cond.fieldLinkNest own idx R0 n d host).before a0 Z = true) (via : Via Z R0 O n d) (F : Fld Z h a O n d v) (hd : decode by0 pc = .ok (.getfield idx, 3)) (hp : pc + 3 = pc')
    (hr : ∀ T', Sd p l e R s m args below meth c n0 T' h cells slots → OGo p e below K T' (mkF m pc' Ls (v :: St))) : OGo p e below K T (mkF m pc Ls (.ref a :: St)) := by
  subst hp
  obtain ⟨eT, hn0, locs, Y, N⟩ := X
  obtain ⟨T', Y', e', st⟩ := getF Y C.1 C.2.1 C.2.2.1 w via eT F (g := mkF m pc Ls (.ref a :: St)) rfl rfl (hb C.2.2.2.1 hd)
  exact G.st st (hr T' ⟨e', hn0, _, Y', N⟩)
theorem G.O (C : Cx p s m c Z own by0 ml) (X : Sd p l e R s m args below meth c n0 T h cells slots) {R0 O n d host Cn : String} {idx kk : Nat} {ty : FieldType} {a : Addr} {v old : Value} (w : (Jvm.Cond.fieldLink own idx R0 n d).before a0 Z = true ∨ (Jvm.Cond.fieldLinkNest own idx R0 n d host).before a0 Z = true) (via : Via Z R0 O n d) (F : Fld Z h a O n d old) (E : Exa Z h a Cn) (ga : n0 ≤ a)
    (L : (Jvm.Cond.lays Cn O n d).before a0 Z = true ∨ ((Jvm.Cond.laysFinal Cn O n d).before a0 Z = true ∧ own = O ∧ meth.name = "<init>")) (wi : (Jvm.Cond.instantiable Cn kk).before a0 Z = true) (hty : parseFieldDescriptor d = some ty) (hnn : narrow ty v = v) (hf : fits ty v = true) (hd : decode by0 pc = .ok (.putfield idx, 3)) (hp : pc + 3 = pc')
    (hr : ∀ T' h', Sd p l e R s m args below meth c n0 T' h' cells slots → Wr h h' a (RoadKit.slotOf Z O n d) v → Fld Z h' a O n d v → OGo p e below K T' (mkF m pc' Ls St)) : OGo p e below K T (mkF m pc Ls (v :: .ref a :: St)) := by
  subst hp
  obtain ⟨eT, hn0, locs, Y, N⟩ := X
  obtain ⟨T', h', Y', e', W, st⟩ := putF Y C.1 C.2.1 C.2.2.1 w via eT F E L wi hty hnn hf (g := mkF m pc Ls (v :: .ref a :: St)) rfl rfl (hb C.2.2.2.1 hd)
  exact G.st st (hr T' h' ⟨e', by rw [W.size]; exact hn0, _, Y', Fr.snoc Y' N ga⟩ W (F.same W))
theorem G.ar (C : Cx p s m c Z own by0 ml) (X : Sd p l e R s m args below meth c n0 T h cells slots) {R0 O n d Cn : String} {idx kk : Nat} {ty : FieldType} {a : Addr} {v v' old : Value} (w : (Jvm.Cond.fieldLink own idx R0 n d).before a0 Z = true) (via : Via Z R0 O n d) (F : Fld Z h a O n d old) (E : Exa Z h a Cn) (ga : n0 ≤ a)
    (L : (Jvm.Cond.lays Cn O n d).before a0 Z = true ∨ ((Jvm.Cond.laysFinal Cn O n d).before a0 Z = true ∧ own = O ∧ meth.name = "<init>")) (wi : (Jvm.Cond.instantiable Cn kk).before a0 Z = true) (hty : parseFieldDescriptor d = some ty) (hnn : narrow ty v = v') (hf : fits ty v' = true) (hd : decode by0 pc = .ok (.putfield idx, 3)) (hp : pc + 3 = pc')
    (hr : ∀ T' h', Sd p l e R s m args below meth c n0 T' h' cells slots → Wr h h' a (RoadKit.slotOf Z O n d) v' → Fld Z h' a O n d v' → OGo p e below K T' (mkF m pc' Ls St)) : OGo p e below K T (mkF m pc Ls (v :: .ref a :: St)) := by
  subst hp
  obtain ⟨eT, hn0, locs, Y, N⟩ := X
  obtain ⟨T', h', Y', e', W, st⟩ := putFN Y C.1 C.2.1 C.2.2.1 w via eT F E L wi hty hnn hf (g := mkF m pc Ls (v :: .ref a :: St)) rfl rfl (hb C.2.2.2.1 hd)
  exact G.st st (hr T' h' ⟨e', by rw [W.size]; exact hn0, _, Y', Fr.snoc Y' N ga⟩ W (F.same W))
theorem G.Y (C : Cx p s m c Z own by0 ml) (X : Sd p l e R s m args below meth c n0 T h cells slots) {R0 O n d host : String} {idx : Nat} {v : Value} (w : (Jvm.Cond.fieldLink own idx R0 n d).before a0 Z = true ∨ (Jvm.Cond.fieldLinkNest own idx R0 n d host).before a0 Z = true) (via : Via Z R0 O n d) (F : Sta Z h O n d v) (hd : decode by0 pc = .ok (.getstatic idx, 3)) (hp : pc + 3 = pc')
    (hr : ∀ T', Sd p l e R s m args below meth c n0 T' h cells slots → OGo p e below K T' (mkF m pc' Ls (v :: St))) : OGo p e below K T (mkF m pc Ls (St)) := by
  subst hp
  obtain ⟨eT, hn0, locs, Y, N⟩ := X
  obtain ⟨T', Y', e', st⟩ := getS2 Y C.1 C.2.1 C.2.2.1 w via eT F (g := mkF m pc Ls St) rfl (hb C.2.2.2.1 hd)
  exact G.st st (hr T' ⟨e', hn0, _, Y', N⟩)
theorem G.al (C : Cx p s m c Z own by0 ml) (X : Sd p l e R s m args below meth c n0 T h cells slots) {Kn : String} {idx : Nat} {a : Addr} (w : (Jvm.Cond.classLink own idx Kn).before a0 Z = true) (F : Ins Z h a Kn true) (hd : decode by0 pc = .ok (.checkcast idx, 3)) (hp : pc + 3 = pc')
    (hr : ∀ T', Sd p l e R s m args below meth c n0 T' h cells slots → OGo p e below K T' (mkF m pc' Ls (.ref a :: St))) : OGo p e below K T (mkF m pc Ls (.ref a :: St)) := by
  subst hp
  obtain ⟨eT, hn0, locs, Y, N⟩ := X
  obtain ⟨T', Y', e', st⟩ := castY Y C.1 C.2.1 C.2.2.1 w eT F (g := mkF m pc Ls (.ref a :: St)) rfl rfl (hb C.2.2.2.1 hd)
  exact G.st st (hr T' ⟨e', hn0, _, Y', N⟩)
theorem G.ap (C : Cx p s m c Z own by0 ml) (X : Sd p l e R s m args below meth c n0 T h cells slots) {idx : Nat} {a : Addr} (w1 : (Jvm.Cond.methodLink own idx Lib.objectInit).before a0 Z = true) (w2 : (Jvm.Cond.instanceMethod Lib.objectInit).before a0 Z = true) (w3 : (Jvm.Cond.code Lib.objectInit ⟨#[0xb1]⟩ 1 none).before a0 Z = true) (hd : decode by0 pc = .ok (.invokespecial idx, 3)) (hp : pc + 3 = pc') (hsz : Ls.size = ml) (hf : 1 ≤ R.frames) (hl : (St.map fun v => v.category).sum + 12 ≤ R.locals)
    (hr : ∀ T', Sd p l e R s m args below meth c n0 T' h cells slots → OGo p e below K T' (mkF m pc' Ls St)) : OGo p e below K T (mkF m pc Ls (.ref a :: St)) := by
  subst hp
  obtain ⟨eT, hn0, locs, Y, N⟩ := X
  obtain ⟨T', Y', e', st⟩ := initO Y C.1 C.2.1 C.2.2.1 w1 w2 w3 eT (g := mkF m pc Ls (.ref a :: St)) rfl (by rw [C.2.2.2.2]; exact hsz) rfl (hb C.2.2.2.1 hd) hf (W := (St.map fun v => v.category).sum) (by show 2 * 0 + _ ≤ _; omega) hl
  exact G.st st (hr T' ⟨e', hn0, _, Y', N⟩)
theorem G.E (C : Cx p s m c Z own by0 ml) (X : Sd p l e R s m args below meth c n0 T h cells slots)  {Q : Option Value → Heap → Prop} {nc ns : Nat} (hd : decode by0 pc = .ok (.return_, 1)) (hret : meth.sig.returnType = none) (hlk : meth.locks = false) (hQ : Q (none) h) (hc : cells ≤ nc) (hs : slots ≤ ns) : OGo p e below (Kk s below n0 Q nc ns) T (mkF m pc Ls ([])) := by
  obtain ⟨eT, hn0, locs, Y, N⟩ := X
  obtain ⟨fs, hr, hrun, hended, hW, hsame⟩ := Y.leave (v := none) (fun hh => by rfl) hlk
  exact ⟨_, _, Y.returnOut C.1 hret (hb C.2.2.2.1 hd) hr, hrun, hended, _, locs, rfl, ⟨by show Q _ T.heap; rw [eT]; exact hQ, N⟩, ⟨_, rfl⟩, hW, hsame.mono hc hs⟩
theorem G.z (C : Cx p s m c Z own by0 ml) (X : Sd p l e R s m args below meth c n0 T h cells slots) {z : Int32} {rest : List Value} {Q : Option Value → Heap → Prop} {nc ns : Nat} (hd : decode by0 pc = .ok (.ireturn, 1)) (hret : meth.sig.returnType = some .int) (hlk : meth.locks = false) (hQ : Q (some (.int z)) h) (hc : cells ≤ nc) (hs : slots ≤ ns) : OGo p e below (Kk s below n0 Q nc ns) T (mkF m pc Ls (.int z :: rest)) := by
  obtain ⟨eT, hn0, locs, Y, N⟩ := X
  obtain ⟨fs, hr, hrun, hended, hW, hsame⟩ := Y.leave (v := some (.int z)) (fun hh => by rw [hret] at hh; cases hh) hlk
  exact ⟨_, _, retOut Y C.1 (i := .ireturn) hret rfl (Or.inl ⟨rfl, Or.inl rfl, _, rfl⟩) (hb C.2.2.2.1 hd) hr, hrun, hended, _, locs, rfl, ⟨by show Q _ T.heap; rw [eT]; exact hQ, N⟩, ⟨_, rfl⟩, hW, hsame.mono hc hs⟩
theorem G.M (C : Cx p s m c Z own by0 ml) (X : Sd p l e R s m args below meth c n0 T h cells slots) {z z' : Int32} {rest : List Value} {t : FieldType} {Q : Option Value → Heap → Prop} {nc ns : Nat} (hd : decode by0 pc = .ok (.ireturn, 1)) (hret : meth.sig.returnType = some t) (ht : t = .boolean ∨ t = .byte ∨ t = .char ∨ t = .short) (hz : nar t z = z') (hlk : meth.locks = false) (hQ : Q (some (.int z')) h) (hc : cells ≤ nc) (hs : slots ≤ ns) : OGo p e below (Kk s below n0 Q nc ns) T (mkF m pc Ls (.int z :: rest)) := by
  subst hz
  obtain ⟨eT, hn0, locs, Y, N⟩ := X
  obtain ⟨fs, hr, hrun, hended, hW, hsame⟩ := Y.leave (v := some (.int (nar t z))) (fun hh => by rw [hret] at hh; cases hh) hlk
  exact ⟨_, _, RoadKit.retN Y C.1 hret ht (hb C.2.2.2.1 hd) hr, hrun, hended, _, locs, rfl, ⟨by show Q _ T.heap; rw [eT]; exact hQ, N⟩, ⟨_, rfl⟩, hW, hsame.mono hc hs⟩
theorem G.B (C : Cx p s m c Z own by0 ml) (X : Sd p l e R s m args below meth c n0 T h cells slots) {z : Value} {rest : List Value} {t : FieldType} {Q : Option Value → Heap → Prop} {nc ns : Nat} (hd : decode by0 pc = .ok (.areturn, 1)) (hret : meth.sig.returnType = some t) (ht : t.isReference = true) (hz : z.isRef = true) (hlk : meth.locks = false) (hQ : Q (some z) h) (hc : cells ≤ nc) (hs : slots ≤ ns) : OGo p e below (Kk s below n0 Q nc ns) T (mkF m pc Ls (z :: rest)) := by
  obtain ⟨eT, hn0, locs, Y, N⟩ := X
  obtain ⟨fs, hr, hrun, hended, hW, hsame⟩ := Y.leave (v := some z) (fun hh => by rw [hret] at hh; cases hh) hlk
  exact ⟨_, _, retOut Y C.1 (i := .areturn) hret (by rcases ref_cases hz with rfl | ⟨b, rfl⟩ <;> cases t <;> first | rfl | cases ht) (Or.inr (Or.inr (Or.inr (Or.inr ⟨rfl, ht, hz⟩)))) (hb C.2.2.2.1 hd) hr, hrun, hended, _, locs, rfl, ⟨by show Q _ T.heap; rw [eT]; exact hQ, N⟩, ⟨_, rfl⟩, hW, hsame.mono hc hs⟩
theorem backC {y : MethodName} {cb : ByteArray} {cml : Nat} {ret : Option FieldType} {rm : Room} {as' : Array Value} {Q : Option Value → Heap → Prop} {len W : Nat} (hM : Ctr l Z y cb cml ret rm n0 as' h Q) (hZ : Z.Warmed39 s.vm) (wc : (Jvm.Cond.code y cb cml ret).before a0 Z = true) (wz : (Jvm.Cond.initialized y.cls).before a0 Z = true) (hf : rm.frames + 1 ≤ R.frames) (hl : W + (cml + 11) + rm.locals ≤ R.locals) :
    Back l R p e below s args y len W (fun A a => a = as' ∧ A.U.heap = h ∧ A.cells + rm.cells ≤ R.cells ∧ A.slots + rm.slots ≤ R.slots) (fun A _ v B => ∃ L, ((Q v B.U.heap ∧ h.size ≤ B.U.heap.size) ∧ Fr n0 L) ∧ B.locs = A.locs ++ L ∧ B.cells = A.cells + rm.cells ∧ B.slots = A.slots + rm.slots) :=
  backOf (Q := fun v h' L => (Q v h' ∧ h.size ≤ h'.size) ∧ Fr n0 L) (hM []) hZ wc wz hf hl
theorem G.i (C : Cx p s m c Z own by0 ml) (X : Sd p l e R s m args below meth c n0 T h cells slots) {y : MethodName} {cb : ByteArray} {cml : Nat} {ret : Option FieldType} {rm : Room} {as' : Array Value} {Q : Option Value → Heap → Prop} {idx : Nat}  (w1 : (Jvm.Cond.methodLink own idx y).before a0 Z = true) (w2 : (Jvm.Cond.static y).before a0 Z = true) (hy : y.cls ≠ "java/lang/invoke/MethodHandle" ∧ y.cls ≠ "java/lang/invoke/VarHandle") (w4 : (Jvm.Cond.code y cb cml ret).before a0 Z = true) (w5 : (Jvm.Cond.initialized y.cls).before a0 Z = true) (hM : Ctr l Z y cb cml ret rm n0 as' h Q) {argsL : List Value} (hlen : ∀ sig, parseMethodDescriptor y.desc = some sig → argsL.length = sig.parameters.length) (has : argsL.toArray = as') (hd : decode by0 pc = .ok (.invokestatic idx, 3)) (hp : pc + 3 = pc') (hsz : Ls.size = ml) (hf : rm.frames + 1 ≤ R.frames) (hl : (St.map fun v => v.category).sum + (cml + 11) + rm.locals ≤ R.locals) (hc' : cells + rm.cells = cells') (hs' : slots + rm.slots = slots') (hc : cells' ≤ R.cells) (hs : slots' ≤ R.slots)
    (hr : ∀ v T' h', Q v h' → Sd p l e R s m args below meth c n0 T' h' cells' slots' → h.size ≤ h'.size → OGo p e below K T' (mkF m pc' Ls (v.toList ++ St))) : OGo p e below K T (mkF m pc Ls (argsL.reverse ++ St)) := by
  subst hp hc' hs' has
  obtain ⟨eT, hn0, locs, Y, N⟩ := X
  have hK := backC (args := args) (p := p) (e := e) (below := below) (R := R) (len := 3) (W := (St.map fun v => v.category).sum) hM C.2.1 w4 w5 hf hl
  obtain ⟨v, _, ⟨B, L2, k2, n2⟩, -, Y', ⟨L, hQ, l1, y1, z1⟩, st⟩ := Jvm.LawKit.callS Y C.1 (y := y) C.2.2.1 (mvT C.2.1 w1) (mvT C.2.1 w2) (mvT C.2.1 w5) (mvT C.2.1 w4) hy hK (g := mkF m pc Ls (argsL.reverse ++ St)) rfl (by rw [C.2.2.2.2]; exact hsz) (argsL := argsL) (rest := St) hlen rfl (by show 2 * 0 + _ ≤ _; omega) (hb C.2.2.2.1 hd) (fun _ _ => ⟨rfl, eT, hc, hs⟩)
  dsimp only [Pt.U, Pt.locs, Pt.cells, Pt.slots] at Y' l1 y1 z1 st hQ
  subst l1 y1 z1
  obtain ⟨⟨hQ, hge⟩, hF⟩ := hQ
  exact G.st st (hr v B B.heap hQ ⟨rfl, Nat.le_trans hn0 hge, _, Y', N.app hF⟩ hge)
theorem G.N (C : Cx p s m c Z own by0 ml) (X : Sd p l e R s m args below meth c n0 T h cells slots) {y : MethodName} {cb : ByteArray} {cml : Nat} {ret : Option FieldType} {rm : Room} {as' : Array Value} {Q : Option Value → Heap → Prop} {idx : Nat} {a : Addr} (hy1 : y.name = "<init>") (hrn : ret = none) (w1 : (Jvm.Cond.methodLink own idx y).before a0 Z = true) (w2 : (Jvm.Cond.instanceMethod y).before a0 Z = true) (hy : y.cls ≠ "java/lang/invoke/MethodHandle" ∧ y.cls ≠ "java/lang/invoke/VarHandle") (w4 : (Jvm.Cond.code y cb cml ret).before a0 Z = true) (w5 : (Jvm.Cond.initialized y.cls).before a0 Z = true) (hM : Ctr l Z y cb cml ret rm n0 as' h Q) {argsL : List Value} (hlen : ∀ sig, parseMethodDescriptor y.desc = some sig → argsL.length = sig.parameters.length) (has : (Value.ref a :: argsL).toArray = as') (hd : decode by0 pc = .ok (.invokespecial idx, 3)) (hp : pc + 3 = pc') (hsz : Ls.size = ml) (hf : rm.frames + 1 ≤ R.frames) (hl : (St.map fun v => v.category).sum + (cml + 11) + rm.locals ≤ R.locals) (hc' : cells + rm.cells = cells') (hs' : slots + rm.slots = slots') (hc : cells' ≤ R.cells) (hs : slots' ≤ R.slots)
    (hr : ∀ v T' h', Q v h' → Sd p l e R s m args below meth c n0 T' h' cells' slots' → h.size ≤ h'.size → OGo p e below K T' (mkF m pc' Ls (v.toList ++ St))) : OGo p e below K T (mkF m pc Ls (argsL.reverse ++ Value.ref a :: St)) := by
  subst hp hc' hs' has
  obtain ⟨eT, hn0, locs, Y, N⟩ := X
  have hK := backC (args := args) (p := p) (e := e) (below := below) (R := R) (len := 3) (W := (St.map fun v => v.category).sum) hM C.2.1 w4 w5 hf hl
  obtain ⟨v, _, ⟨B, L2, k2, n2⟩, -, Y', ⟨L, hQ, l1, y1, z1⟩, st⟩ := Y.specialBack C.1 (y := y) hy1 C.2.2.1 (mvT C.2.1 w1) (mvT C.2.1 w2) (mvT C.2.1 (hrn ▸ w4)) hy hK (g := mkF m pc Ls (argsL.reverse ++ Value.ref a :: St)) rfl (by rw [C.2.2.2.2]; exact hsz) (Steps.refl _) (a := a) (argsL := argsL) (rest := St) hlen rfl (by show 2 * 0 + _ ≤ _; omega) (hb C.2.2.2.1 hd) (fun _ _ => ⟨rfl, eT, hc, hs⟩)
  dsimp only [Pt.U, Pt.locs, Pt.cells, Pt.slots] at Y' l1 y1 z1 st hQ
  subst l1 y1 z1
  obtain ⟨⟨hQ, hge⟩, hF⟩ := hQ
  exact G.tr st (hr v B B.heap hQ ⟨rfl, Nat.le_trans hn0 hge, _, Y', N.app hF⟩ hge)
theorem G.o (C : Cx p s m c Z own by0 ml) (X : Sd p l e R s m args below meth c n0 T h cells slots) {y : MethodName} {cb : ByteArray} {cml : Nat} {ret : Option FieldType} {rm : Room} {as' : Array Value} {Q : Option Value → Heap → Prop} {idx : Nat} {a : Addr} {Cn : String} (w1 : (Jvm.Cond.methodLink own idx y).before a0 Z = true) (w2 : (Jvm.Cond.declares y).before a0 Z = true) (w3 : (Jvm.Cond.selects Cn y y).before a0 Z = true) (w6 : (Jvm.Cond.instanceMethod y).before a0 Z = true) (hy : y.cls ≠ "java/lang/invoke/MethodHandle" ∧ y.cls ≠ "java/lang/invoke/VarHandle") (E : Exa Z h a Cn) (w4 : (Jvm.Cond.code y cb cml ret).before a0 Z = true) (w5 : (Jvm.Cond.initialized y.cls).before a0 Z = true) (hM : Ctr l Z y cb cml ret rm n0 as' h Q) {argsL : List Value} (hlen : ∀ sig, parseMethodDescriptor y.desc = some sig → argsL.length = sig.parameters.length) (has : (Value.ref a :: argsL).toArray = as') (hd : decode by0 pc = .ok (.invokevirtual idx, 3)) (hp : pc + 3 = pc') (hsz : Ls.size = ml) (hf : rm.frames + 1 ≤ R.frames) (hl : (St.map fun v => v.category).sum + (cml + 11) + rm.locals ≤ R.locals) (hc' : cells + rm.cells = cells') (hs' : slots + rm.slots = slots') (hc : cells' ≤ R.cells) (hs : slots' ≤ R.slots)
    (hr : ∀ v T' h', Q v h' → Sd p l e R s m args below meth c n0 T' h' cells' slots' → h.size ≤ h'.size → OGo p e below K T' (mkF m pc' Ls (v.toList ++ St))) : OGo p e below K T (mkF m pc Ls (argsL.reverse ++ Value.ref a :: St)) := by
  subst hp hc' hs' has
  obtain ⟨eT, hn0, locs, Y, N⟩ := X
  have hK := backC (args := args) (p := p) (e := e) (below := below) (R := R) (len := 3) (W := (St.map fun v => v.category).sum) hM C.2.1 w4 w5 hf hl
  obtain ⟨v, _, ⟨B, L2, k2, n2⟩, -, Y', ⟨L, hQ, l1, y1, z1⟩, st⟩ := (let ⟨_, _, q1, _, q3⟩ := isOf C.2.1 eT E; Y.virtualBack C.1 (y := y) (z := y) C.2.2.1 (mvT C.2.1 w1) (mvT C.2.1 w2) (notFace_of_selects (args := #[]) (mvT C.2.1 w3)) (mvT C.2.1 w3) (mvT C.2.1 w6) hy hK q1 q3 (g := mkF m pc Ls (argsL.reverse ++ Value.ref a :: St)) rfl (by rw [C.2.2.2.2]; exact hsz) (Steps.refl _) (argsL := argsL) (rest := St) hlen rfl (by show 2 * 0 + _ ≤ _; omega) (hb C.2.2.2.1 hd) (fun _ _ => ⟨rfl, eT, hc, hs⟩))
  dsimp only [Pt.U, Pt.locs, Pt.cells, Pt.slots] at Y' l1 y1 z1 st hQ
  subst l1 y1 z1
  obtain ⟨⟨hQ, hge⟩, hF⟩ := hQ
  exact G.tr st (hr v B B.heap hQ ⟨rfl, Nat.le_trans hn0 hge, _, Y', N.app hF⟩ hge)
theorem G.aH (C : Cx p s m c Z own by0 ml) (X : Sd p l e R s m args below meth c n0 T h cells slots) {y : MethodName} {cb : ByteArray} {cml : Nat} {ret : Option FieldType} {rm : Room} {as' : Array Value} {Q : Option Value → Heap → Prop} {idx : Nat} {yr : MethodName} {a : Addr} {Cn : String} (w1 : (Jvm.Cond.methodLink own idx yr).before a0 Z = true) (w2 : (Jvm.Cond.declares yr).before a0 Z = true) (hnf : NotFace s yr) (w3 : (Jvm.Cond.selects Cn yr y).before a0 Z = true) (w6 : (Jvm.Cond.instanceMethod y).before a0 Z = true) (hy : yr.cls ≠ "java/lang/invoke/MethodHandle" ∧ yr.cls ≠ "java/lang/invoke/VarHandle") (hds : yr.desc = y.desc) (E : Exa Z h a Cn) (w4 : (Jvm.Cond.code y cb cml ret).before a0 Z = true) (w5 : (Jvm.Cond.initialized y.cls).before a0 Z = true) (hM : Ctr l Z y cb cml ret rm n0 as' h Q) {argsL : List Value} (hlen : ∀ sig, parseMethodDescriptor y.desc = some sig → argsL.length = sig.parameters.length) (has : (Value.ref a :: argsL).toArray = as') (hd : decode by0 pc = .ok (.invokevirtual idx, 3)) (hp : pc + 3 = pc') (hsz : Ls.size = ml) (hf : rm.frames + 1 ≤ R.frames) (hl : (St.map fun v => v.category).sum + (cml + 11) + rm.locals ≤ R.locals) (hc' : cells + rm.cells = cells') (hs' : slots + rm.slots = slots') (hc : cells' ≤ R.cells) (hs : slots' ≤ R.slots)
    (hr : ∀ v T' h', Q v h' → Sd p l e R s m args below meth c n0 T' h' cells' slots' → h.size ≤ h'.size → OGo p e below K T' (mkF m pc' Ls (v.toList ++ St))) : OGo p e below K T (mkF m pc Ls (argsL.reverse ++ Value.ref a :: St)) := by
  subst hp hc' hs' has
  obtain ⟨eT, hn0, locs, Y, N⟩ := X
  have hK := backC (args := args) (p := p) (e := e) (below := below) (R := R) (len := 3) (W := (St.map fun v => v.category).sum) hM C.2.1 w4 w5 hf hl
  obtain ⟨v, _, ⟨B, L2, k2, n2⟩, -, Y', ⟨L, hQ, l1, y1, z1⟩, st⟩ := (let ⟨_, _, q1, _, q3⟩ := isOf C.2.1 eT E; Y.virtualBack C.1 (y := yr) (z := y) C.2.2.1 (mvT C.2.1 w1) (mvT C.2.1 w2) hnf (mvT C.2.1 w3) (mvT C.2.1 w6) hy hK q1 q3 (g := mkF m pc Ls (argsL.reverse ++ Value.ref a :: St)) rfl (by rw [C.2.2.2.2]; exact hsz) (Steps.refl _) (argsL := argsL) (rest := St) (hds ▸ hlen) rfl (by show 2 * 0 + _ ≤ _; omega) (hb C.2.2.2.1 hd) (fun _ _ => ⟨rfl, eT, hc, hs⟩))
  dsimp only [Pt.U, Pt.locs, Pt.cells, Pt.slots] at Y' l1 y1 z1 st hQ
  subst l1 y1 z1
  obtain ⟨⟨hQ, hge⟩, hF⟩ := hQ
  exact G.tr st (hr v B B.heap hQ ⟨rfl, Nat.le_trans hn0 hge, _, Y', N.app hF⟩ hge)
theorem G.aI (C : Cx p s m c Z own by0 ml) (X : Sd p l e R s m args below meth c n0 T h cells slots) {ad : String} {idx : Nat} {a : Addr} {k : ClassId} {ty : FieldType} {z : Int32} {vs : List Value} {dv : Value} {cap : Nat} (w1 : (Jvm.Cond.methodLink own idx ⟨ad, "clone", "()Ljava/lang/Object;"⟩).before a0 Z = true) (w2 : (Jvm.Cond.sameMethod ad "java/lang/Object" "clone" "()Ljava/lang/Object;").before a0 Z = true) (w3 : (Jvm.Cond.native ⟨"java/lang/Object", "clone", "()Ljava/lang/Object;"⟩).before a0 Z = true)
    (w4 : (Jvm.Cond.instanceMethod ⟨"java/lang/Object", "clone", "()Ljava/lang/Object;"⟩).before a0 Z = true) (w5 : (Jvm.Cond.selects ad ⟨ad, "clone", "()Ljava/lang/Object;"⟩ ⟨"java/lang/Object", "clone", "()Ljava/lang/Object;"⟩).before a0 Z = true) (w6 : (Jvm.Cond.castable ad "java/lang/Cloneable").before a0 Z = true) (V : Arv Z h a k ty z vs dv) (E : Exa Z h a ad)
    (hd : decode by0 pc = .ok (.invokevirtual idx, 3)) (hp : pc + 3 = pc') (hsz : Ls.size = ml) (hf : 1 ≤ R.frames) (hl : (St.map fun v => v.category).sum + 14 ≤ R.locals) (hcap : z.toNatClampNeg ≤ cap) (hc' : cells + 1 = cells') (hs' : slots + cap = slots') (hc : cells' ≤ R.cells) (hs : slots' ≤ R.slots)
    (hr : ∀ T' h' b, Sd p l e R s m args below meth c n0 T' h' cells' slots' → b = h.size → n0 ≤ b → Ext h h' → Arv Z h' b k ty z vs dv → Exa Z h' b ad → OGo p e below K T' (mkF m pc' Ls (.ref b :: St))) : OGo p e below K T (mkF m pc Ls (.ref a :: St)) := by
  subst hp hc' hs'
  obtain ⟨eT, hn0, locs, Y, N⟩ := X
  obtain ⟨T', h', Y', e', Ex, A, EE, st⟩ := cloneH Y C.1 C.2.1 C.2.2.1 w1 w2 w3 w4 w5 w6 eT (Arv.arh V) E (g := mkF m pc Ls (.ref a :: St)) rfl (by rw [C.2.2.2.2]; exact hsz) rfl (hb C.2.2.2.1 hd) hf (W := (St.map fun v => v.category).sum) (by show 2 * 0 + _ ≤ _; omega) hl hcap hc hs
  exact G.st st (hr T' h' _ ⟨e', Nat.le_trans hn0 Ex.1, _, Y', N⟩ rfl hn0 Ex A EE)
theorem priv_selects {y : MethodName} {k : Nat} (hZ : Z.Warmed39 s.vm) (w2 : (Jvm.Cond.instanceMethod y).before a0 Z = true) (w3 : (Jvm.Cond.privateMethod y).before a0 Z = true) (wi : (Jvm.Cond.instantiable y.cls k).before a0 Z = true) (hy : y.cls ≠ "java/lang/invoke/MethodHandle" ∧ y.cls ≠ "java/lang/invoke/VarHandle") : (Jvm.Cond.selects y.cls y y).before args s = true := by
  obtain ⟨c, k, h1, h2, -, h4, -⟩ := Cond.instantiable_spec (show (Jvm.Cond.instantiable y.cls k).before args s = true from mvT hZ wi)
  have h5 : k.isInterface = false := by
    cases hq : k.isInterface
    · rfl
    · rw [hq] at h4; cases h4
  exact selects_self_of_private h1 h2 h5 (Cond.privateMethod_at (mvP hZ w3 (args := #[]))) (mvT hZ w2) hy
theorem G.au (C : Cx p s m c Z own by0 ml) (X : Sd p l e R s m args below meth c n0 T h cells slots) {y : MethodName} {cb : ByteArray} {cml : Nat} {ret : Option FieldType} {rm : Room} {as' : Array Value} {Q : Option Value → Heap → Prop} {idx : Nat} {a : Addr} {Cn : String} {kk : Nat} (w1 : (Jvm.Cond.methodLink own idx y).before a0 Z = true) (w2 : (Jvm.Cond.instanceMethod y).before a0 Z = true) (w3 : (Jvm.Cond.privateMethod y).before a0 Z = true) (wi : (Jvm.Cond.instantiable y.cls kk).before a0 Z = true) (hy : y.cls ≠ "java/lang/invoke/MethodHandle" ∧ y.cls ≠ "java/lang/invoke/VarHandle") (E : Exa Z h a Cn) (w4 : (Jvm.Cond.code y cb cml ret).before a0 Z = true) (w5 : (Jvm.Cond.initialized y.cls).before a0 Z = true) (hM : Ctr l Z y cb cml ret rm n0 as' h Q) {argsL : List Value} (hlen : ∀ sig, parseMethodDescriptor y.desc = some sig → argsL.length = sig.parameters.length) (has : (Value.ref a :: argsL).toArray = as') (hd : decode by0 pc = .ok (.invokevirtual idx, 3)) (hp : pc + 3 = pc') (hsz : Ls.size = ml) (hf : rm.frames + 1 ≤ R.frames) (hl : (St.map fun v => v.category).sum + (cml + 11) + rm.locals ≤ R.locals) (hc' : cells + rm.cells = cells') (hs' : slots + rm.slots = slots') (hc : cells' ≤ R.cells) (hs : slots' ≤ R.slots)
    (hr : ∀ v T' h', Q v h' → Sd p l e R s m args below meth c n0 T' h' cells' slots' → h.size ≤ h'.size → OGo p e below K T' (mkF m pc' Ls (v.toList ++ St))) : OGo p e below K T (mkF m pc Ls (argsL.reverse ++ Value.ref a :: St)) := by
  subst hp hc' hs' has
  obtain ⟨eT, hn0, locs, Y, N⟩ := X
  have hK := backC (args := args) (p := p) (e := e) (below := below) (R := R) (len := 3) (W := (St.map fun v => v.category).sum) hM C.2.1 w4 w5 hf hl
  obtain ⟨v, _, ⟨B, L2, k2, n2⟩, -, Y', ⟨L, hQ, l1, y1, z1⟩, st⟩ := (let ⟨_, q1, q2⟩ := E.cell; Y.privateBack C.1 (y := y) C.2.2.1 (mvT C.2.1 w1) (mvT C.2.1 w2) (priv_selects C.2.1 w2 w3 wi hy) (Cond.privateMethod_at (mvP C.2.1 w3 (args := #[]))) (mvT C.2.1 w4) hy hK (g := mkF m pc Ls (argsL.reverse ++ Value.ref a :: St)) rfl (by rw [C.2.2.2.2]; exact hsz) (Steps.refl _) (a := a) (by rw [eT]; exact q1) q2 (argsL := argsL) (rest := St) hlen rfl (by show 2 * 0 + _ ≤ _; omega) (hb C.2.2.2.1 hd) (fun _ _ => ⟨rfl, eT, hc, hs⟩))
  dsimp only [Pt.U, Pt.locs, Pt.cells, Pt.slots] at Y' l1 y1 z1 st hQ
  subst l1 y1 z1
  obtain ⟨⟨hQ, hge⟩, hF⟩ := hQ
  exact G.tr st (hr v B B.heap hQ ⟨rfl, Nat.le_trans hn0 hge, _, Y', N.app hF⟩ hge)
theorem G.G (C : Cx p s m c Z own by0 ml) (X : Sd p l e R s m args below meth c n0 T h cells slots) {y : MethodName} {cb : ByteArray} {cml : Nat} {ret : Option FieldType} {rm : Room} {as' : Array Value} {Q : Option Value → Heap → Prop} {idx : Nat} {xi : MethodName} {a : Addr} {Cn : String} {cnt : Nat} (w1 : (Jvm.Cond.methodLink own idx xi).before a0 Z = true) (w2 : (Jvm.Cond.declares xi).before a0 Z = true) (w3 : (Jvm.Cond.interfaceMethod xi.cls xi.cls xi.name xi.desc).before a0 Z = true) (w6 : (Jvm.Cond.selects Cn xi y).before a0 Z = true) (w7 : (Jvm.Cond.instanceMethod y).before a0 Z = true) (w8 : (Jvm.Cond.publicMethod y).before a0 Z = true) (w9 : (Jvm.Cond.unhidden Cn xi.name xi.desc).before a0 Z = true) (w10 : (Jvm.Cond.castable Cn xi.cls).before a0 Z = true) (hy : xi.cls ≠ "java/lang/invoke/MethodHandle" ∧ xi.cls ≠ "java/lang/invoke/VarHandle") (hds : xi.desc = y.desc) (E : Exa Z h a Cn) (w4 : (Jvm.Cond.code y cb cml ret).before a0 Z = true) (w5 : (Jvm.Cond.initialized y.cls).before a0 Z = true) (hM : Ctr l Z y cb cml ret rm n0 as' h Q) {argsL : List Value} (hlen : ∀ sig, parseMethodDescriptor y.desc = some sig → argsL.length = sig.parameters.length) (has : (Value.ref a :: argsL).toArray = as') (hd : decode by0 pc = .ok (.invokeinterface idx cnt, 5)) (hp : pc + 5 = pc') (hsz : Ls.size = ml) (hf : rm.frames + 1 ≤ R.frames) (hl : (St.map fun v => v.category).sum + (cml + 11) + rm.locals ≤ R.locals) (hc' : cells + rm.cells = cells') (hs' : slots + rm.slots = slots') (hc : cells' ≤ R.cells) (hs : slots' ≤ R.slots)
    (hr : ∀ v T' h', Q v h' → Sd p l e R s m args below meth c n0 T' h' cells' slots' → h.size ≤ h'.size → OGo p e below K T' (mkF m pc' Ls (v.toList ++ St))) : OGo p e below K T (mkF m pc Ls (argsL.reverse ++ Value.ref a :: St)) := by
  subst hp hc' hs' has
  obtain ⟨eT, hn0, locs, Y, N⟩ := X
  have hK := backC (args := args) (p := p) (e := e) (below := below) (R := R) (len := 5) (W := (St.map fun v => v.category).sum) hM C.2.1 w4 w5 hf hl
  obtain ⟨v, _, ⟨B, L2, k2, n2⟩, -, Y', ⟨L, hQ, l1, y1, z1⟩, st⟩ := (let ⟨_, _, q1, q2, q3⟩ := isOf C.2.1 eT E; Y.interfaceBack C.1 (xi := xi) (y := y) C.2.2.1 (mvT C.2.1 w1) (mvT C.2.1 w2) (mvT C.2.1 w3 (by simp [Cond.onTables, Cond.keepsFace, Cond.faceAtom, Cond.keeps, Cond.steady, hy.1, hy.2])) (mvT C.2.1 w6) (mvT C.2.1 w7) (mvT C.2.1 w8) (mvT C.2.1 w9) (mvT C.2.1 w10) hy hK q1 q2 q3 (g := mkF m pc Ls (argsL.reverse ++ Value.ref a :: St)) rfl (by rw [C.2.2.2.2]; exact hsz) (Steps.refl _) (argsL := argsL) (rest := St) (hds ▸ hlen) rfl (by show 2 * 0 + _ ≤ _; omega) (hb C.2.2.2.1 hd) (fun _ _ => ⟨rfl, eT, hc, hs⟩))
  dsimp only [Pt.U, Pt.locs, Pt.cells, Pt.slots] at Y' l1 y1 z1 st hQ
  subst l1 y1 z1
  obtain ⟨⟨hQ, hge⟩, hF⟩ := hQ
  exact G.tr st (hr v B B.heap hQ ⟨rfl, Nat.le_trans hn0 hge, _, Y', N.app hF⟩ hge)
theorem sameM {y yw : MethodName} {Cn : String} (w3 : (Jvm.Cond.instanceMethod y).before a0 Z = true) (ws : (Jvm.Cond.selects Cn yw yw).before a0 Z = true) (hc : yw.cls = y.cls) (hy : y.cls ≠ "java/lang/invoke/MethodHandle" ∧ y.cls ≠ "java/lang/invoke/VarHandle") : (Jvm.Cond.sameMethod y.cls y.cls y.name y.desc).before a0 Z = true := by
  obtain ⟨mk, methM, hnamed, -, -, -⟩ := Cond.instanceMethod_spec w3
  have hf := State.methodFound?_of_named hnamed hy
  have hcn := findClass_of_methodNamed hnamed
  obtain ⟨c2, r2, m2, q1, q2, q3, q4, kP, hkP, hkPi⟩ := Cond.selects_spec ws
  have h2 := findClass_of_methodNamed q3
  rw [hc] at h2
  have e : mk.cls = m2.cls := Option.some.inj (hcn.symm.trans h2)
  have hn' : Z.methodNamed? ⟨y.cls, y.name, y.desc⟩ = some mk := hnamed
  simp [Cond.before, Cond.holds, Cond.value, hcn, hf, hn', e, hkP, hkPi]
theorem G.ax (C : Cx p s m c Z own by0 ml) (X : Sd p l e R s m args below meth c n0 T h cells slots) {y : MethodName} {cb : ByteArray} {cml : Nat} {ret : Option FieldType} {rm : Room} {as' : Array Value} {Q : Option Value → Heap → Prop} {idx : Nat} {a : Addr} {Kn Cn : String} {yw : MethodName} (w1 : (Jvm.Cond.methodLink own idx y).before a0 Z = true) (w2 : (Jvm.Cond.instanceMethod y).before a0 Z = true) (ws : (Jvm.Cond.selects Cn yw yw).before a0 Z = true) (hcl : yw.cls = y.cls) (wsup : (Jvm.Cond.superclass own y.cls).before a0 Z = true) (hn : y.name ≠ "<init>") (hy : y.cls ≠ "java/lang/invoke/MethodHandle" ∧ y.cls ≠ "java/lang/invoke/VarHandle") (F : Ins Z h a Kn true) (w4 : (Jvm.Cond.code y cb cml ret).before a0 Z = true) (w5 : (Jvm.Cond.initialized y.cls).before a0 Z = true) (hM : Ctr l Z y cb cml ret rm n0 as' h Q) {argsL : List Value} (hlen : ∀ sig, parseMethodDescriptor y.desc = some sig → argsL.length = sig.parameters.length) (has : (Value.ref a :: argsL).toArray = as') (hd : decode by0 pc = .ok (.invokespecial idx, 3)) (hp : pc + 3 = pc') (hsz : Ls.size = ml) (hf : rm.frames + 1 ≤ R.frames) (hl : (St.map fun v => v.category).sum + (cml + 11) + rm.locals ≤ R.locals) (hc' : cells + rm.cells = cells') (hs' : slots + rm.slots = slots') (hc : cells' ≤ R.cells) (hs : slots' ≤ R.slots)
    (hr : ∀ v T' h', Q v h' → Sd p l e R s m args below meth c n0 T' h' cells' slots' → h.size ≤ h'.size → OGo p e below K T' (mkF m pc' Ls (v.toList ++ St))) : OGo p e below K T (mkF m pc Ls (argsL.reverse ++ Value.ref a :: St)) := by
  subst hp hc' hs' has
  obtain ⟨eT, hn0, locs, Y, N⟩ := X
  have hK := backC (args := args) (p := p) (e := e) (below := below) (R := R) (len := 3) (W := (St.map fun v => v.category).sum) hM C.2.1 w4 w5 hf hl
  obtain ⟨v, _, ⟨B, L2, k2, n2⟩, -, Y', ⟨L, hQ, l1, y1, z1⟩, st⟩ := superBack Y C.1 C.2.1 C.2.2.1 w1 (sameM w2 ws hcl hy) w2 wsup hn hK eT F (g := mkF m pc Ls (argsL.reverse ++ Value.ref a :: St)) rfl (by rw [C.2.2.2.2]; exact hsz) w4 (argsL := argsL) (rest := St) hlen rfl (by show 2 * 0 + _ ≤ _; omega) (hb C.2.2.2.1 hd) (fun _ _ => ⟨rfl, eT, hc, hs⟩)
  dsimp only [Pt.U, Pt.locs, Pt.cells, Pt.slots] at Y' l1 y1 z1 st hQ
  subst l1 y1 z1
  obtain ⟨⟨hQ, hge⟩, hF⟩ := hQ
  exact G.tr st (hr v B B.heap hQ ⟨rfl, Nat.le_trans hn0 hge, _, Y', N.app hF⟩ hge)
theorem priv_selects2 {y yw : MethodName} {Cn : String} (hZ : Z.Warmed39 s.vm) (w2 : (Jvm.Cond.instanceMethod y).before a0 Z = true) (w3 : (Jvm.Cond.privateMethod y).before a0 Z = true) (ws : (Jvm.Cond.selects Cn yw yw).before a0 Z = true) (hcl : yw.cls = y.cls) (hy : y.cls ≠ "java/lang/invoke/MethodHandle" ∧ y.cls ≠ "java/lang/invoke/VarHandle") : (Jvm.Cond.selects y.cls y y).before args s = true := by
  obtain ⟨c2, r2, m2, q1, q2, q3, q4, kP, hkP, hkPi⟩ := Cond.selects_spec (show (Jvm.Cond.selects Cn yw yw).before args s = true from mvT hZ ws)
  have h2 := findClass_of_methodNamed q3
  rw [hcl] at h2
  exact selects_self_of_private h2 hkP hkPi (Cond.privateMethod_at (mvP hZ w3 (args := #[]))) (mvT hZ w2) hy
theorem G.aj (C : Cx p s m c Z own by0 ml) (X : Sd p l e R s m args below meth c n0 T h cells slots) {y : MethodName} {cb : ByteArray} {cml : Nat} {ret : Option FieldType} {rm : Room} {as' : Array Value} {Q : Option Value → Heap → Prop} {idx : Nat} {a : Addr} {Cn Dn : String} {yw : MethodName} (w1 : (Jvm.Cond.methodLink own idx y).before a0 Z = true) (w2 : (Jvm.Cond.instanceMethod y).before a0 Z = true) (w3 : (Jvm.Cond.privateMethod y).before a0 Z = true) (ws : (Jvm.Cond.selects Dn yw yw).before a0 Z = true) (hcl : yw.cls = y.cls) (hy : y.cls ≠ "java/lang/invoke/MethodHandle" ∧ y.cls ≠ "java/lang/invoke/VarHandle") (E : Exa Z h a Cn) (w4 : (Jvm.Cond.code y cb cml ret).before a0 Z = true) (w5 : (Jvm.Cond.initialized y.cls).before a0 Z = true) (hM : Ctr l Z y cb cml ret rm n0 as' h Q) {argsL : List Value} (hlen : ∀ sig, parseMethodDescriptor y.desc = some sig → argsL.length = sig.parameters.length) (has : (Value.ref a :: argsL).toArray = as') (hd : decode by0 pc = .ok (.invokevirtual idx, 3)) (hp : pc + 3 = pc') (hsz : Ls.size = ml) (hf : rm.frames + 1 ≤ R.frames) (hl : (St.map fun v => v.category).sum + (cml + 11) + rm.locals ≤ R.locals) (hc' : cells + rm.cells = cells') (hs' : slots + rm.slots = slots') (hc : cells' ≤ R.cells) (hs : slots' ≤ R.slots)
    (hr : ∀ v T' h', Q v h' → Sd p l e R s m args below meth c n0 T' h' cells' slots' → h.size ≤ h'.size → OGo p e below K T' (mkF m pc' Ls (v.toList ++ St))) : OGo p e below K T (mkF m pc Ls (argsL.reverse ++ Value.ref a :: St)) := by
  subst hp hc' hs' has
  obtain ⟨eT, hn0, locs, Y, N⟩ := X
  have hK := backC (args := args) (p := p) (e := e) (below := below) (R := R) (len := 3) (W := (St.map fun v => v.category).sum) hM C.2.1 w4 w5 hf hl
  obtain ⟨v, _, ⟨B, L2, k2, n2⟩, -, Y', ⟨L, hQ, l1, y1, z1⟩, st⟩ := (let ⟨_, q1, q2⟩ := E.cell; Y.privateBack C.1 (y := y) C.2.2.1 (mvT C.2.1 w1) (mvT C.2.1 w2) (priv_selects2 C.2.1 w2 w3 ws hcl hy) (Cond.privateMethod_at (mvP C.2.1 w3 (args := #[]))) (mvT C.2.1 w4) hy hK (g := mkF m pc Ls (argsL.reverse ++ Value.ref a :: St)) rfl (by rw [C.2.2.2.2]; exact hsz) (Steps.refl _) (a := a) (by rw [eT]; exact q1) q2 (argsL := argsL) (rest := St) hlen rfl (by show 2 * 0 + _ ≤ _; omega) (hb C.2.2.2.1 hd) (fun _ _ => ⟨rfl, eT, hc, hs⟩))
  dsimp only [Pt.U, Pt.locs, Pt.cells, Pt.slots] at Y' l1 y1 z1 st hQ
  subst l1 y1 z1
  obtain ⟨⟨hQ, hge⟩, hF⟩ := hQ
  exact G.tr st (hr v B B.heap hQ ⟨rfl, Nat.le_trans hn0 hge, _, Y', N.app hF⟩ hge)
theorem notface_of {y yw : MethodName} {Cn : String} (hZ : Z.Warmed39 s.vm) (ws : (Jvm.Cond.selects Cn yw yw).before a0 Z = true) (hcl : yw.cls = y.cls) : NotFace s y := fun r0 h0 => by
  obtain ⟨c2, r2, m2, q1, q2, q3, q4, kP, hkP, hkPi⟩ := Cond.selects_spec (show (Jvm.Cond.selects Cn yw yw).before (#[] : Array Value) s = true from mvT hZ ws)
  have h2 := findClass_of_methodNamed q3
  have h1 := findClass_of_methodNamed h0
  rw [hcl] at h2
  have e : r0.cls = m2.cls := Option.some.inj (h1.symm.trans h2)
  exact ⟨kP, by rw [e]; exact hkP, hkPi⟩
theorem G.ay (C : Cx p s m c Z own by0 ml) (X : Sd p l e R s m args below meth c n0 T h cells slots) {idx : Nat} {a b : Addr} {k k' : ClassId} {ty : FieldType} {z z' sp dp nn : Int32} {vs vd us vr : List Value} {dv dd : Value} (w1 : (Jvm.Cond.methodLink own idx Jvm.Stand.acN).before a0 Z = true) (w2 : (Jvm.Cond.native Jvm.Stand.acN).before a0 Z = true) (w3 : (Jvm.Cond.static Jvm.Stand.acN).before a0 Z = true) (w4 : (Jvm.Cond.initialized "java/lang/System").before a0 Z = true)
    (A : Arv Z h a k ty z vs dv) (B : Arv Z h b k' ty z' vd dd) (hp : refKind ty = false) (h1 : ¬ sp < 0) (h2 : ¬ dp < 0) (h3 : ¬ nn < 0) (h4 : sp.toNatClampNeg + nn.toNatClampNeg ≤ z.toNatClampNeg) (h5 : dp.toNatClampNeg + nn.toNatClampNeg ≤ z'.toNatClampNeg)
    (hus : us = (List.range nn.toNatClampNeg).map fun i => vs.getD (sp.toNatClampNeg + i) dv) (hl : dp.toNatClampNeg + nn.toNatClampNeg ≤ vd.length) (hv : vd.take dp.toNatClampNeg ++ us ++ vd.drop (dp.toNatClampNeg + nn.toNatClampNeg) = vr) (ga : n0 ≤ b) (hd : decode by0 pc = .ok (.invokestatic idx, 3)) (hpc : pc + 3 = pc') (hsz : Ls.size = ml) (hf : 1 ≤ R.frames) (hlo : (St.map fun v => v.category).sum + 18 ≤ R.locals)
    (hr : ∀ T' h', Sd p l e R s m args below meth c n0 T' h' cells slots → Keep h h' [b] → Arv Z h' b k' ty z' vr dd → OGo p e below K T' (mkF m pc' Ls St)) : OGo p e below K T (mkF m pc Ls (.int nn :: .int dp :: .ref b :: .int sp :: .ref a :: St)) := by
  subst hpc hv
  obtain ⟨eT, hn0, locs, Y, N⟩ := X
  obtain ⟨T', h', L, Y', e', N', Kp, V, st⟩ := cpA Y C.1 C.2.1 C.2.2.1 w1 w2 w3 w4 eT A B (Or.inl ⟨rfl, hp⟩) h1 h2 h3 h4 h5 hus hl N ga (g := mkF m pc Ls (.int nn :: .int dp :: .ref b :: .int sp :: .ref a :: St)) rfl (by rw [C.2.2.2.2]; exact hsz) rfl (hb C.2.2.2.1 hd) hf (W := (St.map fun v => v.category).sum) (by show 2 * 0 + _ ≤ _; omega) (by show _ + (7 + 11) ≤ _; omega)
  exact G.st st (hr T' h' ⟨e', Nat.le_trans hn0 Kp.1, _, Y', N'⟩ Kp V)
theorem G.aJ (C : Cx p s m c Z own by0 ml) (X : Sd p l e R s m args below meth c n0 T h cells slots) {Cn : String} {idx : Nat} {n : Int32} {cap : Nat} (w1 : (Jvm.Cond.classLink own idx Cn).before a0 Z = true) (w2 : (Jvm.Cond.arrayOver (.object Cn)).before a0 Z = true) (hd : decode by0 pc = .ok (.anewarray idx, 3)) (hp : pc + 3 = pc') (hn : ¬ n < 0) (hcap : n.toNatClampNeg ≤ cap) (hb8 : cap * 8 ≤ 536870912) (hc' : cells + 1 = cells') (hs' : slots + cap = slots') (hc : cells' ≤ R.cells) (hl : slots' ≤ R.slots)
    (hr : ∀ T' h' a k, Sd p l e R s m args below meth c n0 T' h' cells' slots' → a = h.size → n0 ≤ a → Ext h h' → Arv Z h' a k (.object Cn) n [] .null → Ovr Z k Cn → OGo p e below K T' (mkF m pc' Ls (.ref a :: St))) : OGo p e below K T (mkF m pc Ls (.int n :: St)) := by
  subst hp hc' hs'
  obtain ⟨eT, hn0, locs, Y, N⟩ := X
  obtain ⟨T', h', cA, Y', e', E, A, O, st⟩ := newR Y C.1 C.2.1 C.2.2.1 w1 w2 eT (g := mkF m pc Ls (.int n :: St)) rfl (hb C.2.2.2.1 hd) rfl hn hcap hb8 hc hl
  exact G.st st (hr T' h' _ cA ⟨e', Nat.le_trans hn0 E.1, _, Y', N⟩ rfl hn0 E (Arv.new A hn) O)
theorem G.aE (C : Cx p s m c Z own by0 ml) (X : Sd p l e R s m args below meth c n0 T h cells slots) {a y : Addr} {k : ClassId} {Cn Kn : String} {z : Int32} {vs : List Value} {dv : Value} (V : Arv Z h a k (.object Cn) z vs dv) (O : Ovr Z k Kn) (I : Ins Z h y Kn true) (ga : n0 ≤ a) {j : Int32} {i : Nat} (hd : decode by0 pc = .ok (.aastore, 1)) (hp : pc + 1 = pc') (hj : ¬ j < 0 ∧ j < z) (hi : j.toNatClampNeg = i) (hl : i < vs.length)
    (hr : ∀ T' h', Sd p l e R s m args below meth c n0 T' h' cells slots → Wr h h' a i (.ref y) → Arv Z h' a k (.object Cn) z (vs.set i (.ref y)) dv → OGo p e below K T' (mkF m pc' Ls St)) : OGo p e below K T (mkF m pc Ls (.ref y :: .int j :: .ref a :: St)) := by
  subst hp hi
  obtain ⟨eT, hn, locs, Y, N⟩ := X
  obtain ⟨cl, A, q1, S, q, H, Gt⟩ := V
  obtain ⟨T', h', Y', e', W, st⟩ := stR Y C.1 C.2.1 eT A (inb_of S hj) rfl (Sto.of A (by rw [q1]; exact O) I) (g := mkF m pc Ls (.ref y :: .int j :: .ref a :: St)) rfl rfl (hb C.2.2.2.1 hd)
  exact G.st st (hr T' h' ⟨e', by rw [W.size]; exact hn, _, Y', Fr.snoc Y' N ga⟩ W (Arv.set A q1 S q H Gt rfl W _ rfl hl))
theorem G.az (C : Cx p s m c Z own by0 ml) (X : Sd p l e R s m args below meth c n0 T h cells slots) {a : Addr} {k : ClassId} {ty : FieldType} {z : Int32} {vs : List Value} {dv : Value} (V : Arv Z h a k ty z vs dv) (hty : ty.isReference = true) {j : Int32} {v : Value} (hd : decode by0 pc = .ok (.aaload, 1)) (hp : pc + 1 = pc') (hj : ¬ j < 0 ∧ j < z) (hv : vs.getD j.toNatClampNeg dv = v) (hr : OGo p e below K T (mkF m pc' Ls (v :: St))) : OGo p e below K T (mkF m pc Ls (.int j :: .ref a :: St)) := by
  subst hp
  obtain ⟨eT, hn0, locs, Y, N⟩ := X
  obtain ⟨cl, A, -, S, q, H, -⟩ := V
  exact G.st (fun t k => Y.aaload C.1 (by rw [eT]; exact A.1) (State.isArrayOf_alike C.2.1.alike A.2.1) hty A.2.2 (inb_of S hj) (Has.at H (inb_of S hj) hv) (g := mkF m pc Ls (.int j :: .ref a :: St)) rfl rfl (hb C.2.2.2.1 hd) t k) hr
end OwnGo
end Jvm.Pilot.@@N@@
namespace Jvm.Pilot.@@N@@
open Jvm Jvm.ClassFile Sem Op Lib Jvm.Free Jvm.Stand Jvm.LawKit Jvm.RoadKit Bundle Jvm.Pilot.@@N@@.Jvm.D
section OwnCold
variable {p : Program} {l : Launch} {e : Env} {R : Room} {s : State} {m : MethodId} {args : Array Value} {below : List Frame} {meth : Method} {c : Code} {T : State} {n0 cells slots cells' slots' : Nat} {Z : State} {a0 : Array Value} {h h' h0 : Heap} {K : State → Outcome → Prop} {pc : Nat} (pc' : Nat) {Ls : Array Slot} {St : List Value} {own : String} {by0 : ByteArray} {ml : Nat} {EL : List (String × Nat)} {vm : Vm}
/-- from the body's start (tables s.vm, heap h0) to the tables vm and the heap h at hand -/
def Hd (Z : State) (EL : List (String × Nat)) (s : State) (vm : Vm) (h0 h : Heap) : Prop := ∃ k0, s.Since vm k0 ∧ k0 ≤ h.size ∧ CHr Z EL s.vm h0 vm h
theorem Hd.cv (H : Hd Z EL s vm h0 h) : CHv Z EL vm h := by obtain ⟨_, -, -, A⟩ := H; exact A.1
theorem Hd.to (H : Hd Z EL s vm h0 h) (A : CHr Z EL vm h vm h') : Hd Z EL s vm h0 h' := by obtain ⟨k0, h1, h2, B⟩ := H; exact ⟨k0, h1, Nat.le_trans h2 A.2.1, B.trans A⟩
theorem Hd.ext (H : Hd Z EL s vm h0 h) (E : Ext h h') : Hd Z EL s vm h0 h' := H.to (CHr.ext E H.cv)
theorem Hd.wr (H : Hd Z EL s vm h0 h) {a : Addr} {sl : Nat} {v : Value} (W : Wr h h' a sl v) (S : Safe Z EL vm h a) : Hd Z EL s vm h0 h' := H.to (CHr.wr W S H.cv)
theorem Hd.keep (H : Hd Z EL s vm h0 h) {ws : List Addr} (K : Keep h h' ws) (hs : ∀ x ∈ ws, Safe Z EL vm h x) : Hd Z EL s vm h0 h' := H.to (CHr.keep K hs H.cv)
theorem Hd.start (H : CHv Z EL s.vm h) : Hd Z EL s s.vm h h := ⟨0, (State.WarmedH.refl s).since 0, Nat.zero_le _, CHr.refl H⟩
theorem safe_arv {a : Addr} {k : ClassId} {ty : FieldType} {z : Int32} {vs : List Value} {d : Value} (hal : Z.vm.Alike vm) (V : Arv Z h a k ty z vs d) (ht : ty ≠ .byte) : Safe Z EL vm h a := by obtain ⟨c, A, -⟩ := V; exact Safe.arr hal A ht
theorem sfS {P : Addr → Prop} {a : Addr} {l : List Addr} (h : P a) (g : ∀ x ∈ l, P x) : ∀ x ∈ a :: l, P x := fun x hx => (List.mem_cons.mp hx).elim (fun e => e ▸ h) (g x)
/-- what a body that may load constants owes at its end -/
def Kw (Z : State) (EL : List (String × Nat)) (s : State) (below : List Frame) (n0 : Nat) (h0 : Heap) (Q : Option Value → Heap → (Addr → Prop) → Prop) (nc ns : Nat) : State → Outcome → Prop := fun t o => t.status = .running ∧ Ended t below o ∧ ∃ v L, o = .returned v ∧ (Q v t.heap (fun x => Safe Z EL t.vm t.heap x) ∧ Fr n0 L) ∧ CHr Z EL s.vm h0 t.vm t.heap ∧ ReturnedEndW s o t L nc ns
def CtrW (l : Launch) (Z : State) (EL : List (String × Nat)) (sf : List Addr) (y : MethodName) (by0 : ByteArray) (ml : Nat) (ret : Option FieldType) (rm : Room) (n0 : Nat) (as' : Array Value) (h : Heap) (Q : Option Value → Heap → (Addr → Prop) → Prop) : Prop :=
  ∀ ws, MetFree l y (head1 (Jvm.Cond.code y by0 ml ret :: ws) rm) (fun a U => a = as' ∧ Z.Warmed39 U.vm ∧ U.heap = h ∧ CHv Z EL U.vm h ∧ ∀ x ∈ sf, Safe Z EL U.vm h x) (fun _ _ _ _ _ => True) (fun _ U o U' => ∃ v L, o = .returned v ∧ ((Q v U'.heap (fun x => Safe Z EL U'.vm U'.heap x) ∧ h.size ≤ U'.heap.size) ∧ Fr n0 L) ∧ CHr Z EL U.vm U.heap U'.vm U'.heap ∧ ReturnedEndW U o U' L rm.cells rm.slots)
theorem CtrW.of {sf : List Addr} {y : MethodName} {ret : Option FieldType} {rm : Room} {as' : Array Value} {Q : Option Value → Heap → (Addr → Prop) → Prop} (hpl : plainFor y = true) (hn : n0 ≤ h.size)
    (body : ∀ p e s m below meth c T, Cx p (s.setVm s.vm) m c Z y.cls by0 ml → meth.name = y.name → meth.sig.returnType = ret → meth.locks = false → Sd p l e rm (s.setVm s.vm) m as' below meth c n0 T h 0 0 → Hd Z EL s s.vm h h → (∀ x ∈ sf, Safe Z EL s.vm h x) → OGo p e below (Kw Z EL s below n0 h Q rm.cells rm.slots) T (entryFrame m as' ml)) :
 CtrW l Z EL sf y by0 ml ret rm n0 as' h Q := by
 intro ws
 refine MetFree.of_bodySF hpl hisR ?_
 intro p e s m args below meth c s₁ Bd hml0 hP hK
 obtain ⟨rfl, hZ, hh, hC, hSf⟩ := hP
 have hown : s.vm.findClass y.cls = some m.cls := findClass_of_methodNamed Bd.named
 have hnm := (name_of_methodNamed Bd.named Bd.method).1
 have X0 := Stand.of_body Bd
 have e0 : s₁.heap = h := by rw [← hh, Bd.state]; rfl
 obtain ⟨t, o, h1, h2, h3, v, L, h4, ⟨h5, h6⟩, h8, h7⟩ := body p e s m below meth c s₁ ⟨Bd.exec, hZ, hown, Bd.bytes, hml0⟩ hnm Bd.returns (BodyLoose.notSynchronized Bd) ⟨e0, hn, [], X0, Fr.nil n0⟩ (Hd.start hC) hSf
 exact ⟨t, o, h1, h2, h3, v, L, h4, ⟨⟨h5, h8.2.1⟩, h6⟩, by rw [hh]; exact h8, h7⟩
/-- RoadKit.backOfSH, for a callee that is also told of cells that it may write -/
theorem backOfSP {sf : List Addr} {y : MethodName} {bytes : ByteArray} {maxL : Nat} {ret : Option FieldType} {rm : Room} {len W : Nat} {as' : Array Value} {Q : Option Value → Heap → Vm → List Loc → Prop} {vm0 : Vm}
    (hM : MetFree l y (head1 [Jvm.Cond.code y bytes maxL ret] rm) (fun a U => a = as' ∧ Z.Warmed39 U.vm ∧ U.heap = h ∧ CHv Z EL U.vm h ∧ ∀ x ∈ sf, Safe Z EL U.vm h x) (fun _ _ _ _ _ => True) (fun _ U o U' => ∃ v L, o = .returned v ∧ Q v U'.heap U'.vm L ∧ CHr Z EL U.vm U.heap U'.vm U'.heap ∧ ReturnedEndW U o U' L rm.cells rm.slots))
    (hZ : Z.Warmed39 vm0) (wc : (Jvm.Cond.code y bytes maxL ret).before a0 Z = true) (wz : (Jvm.Cond.initialized y.cls).before a0 Z = true) (hf : rm.frames + 1 ≤ R.frames) (hl : W + (maxL + 11) + rm.locals ≤ R.locals) (hEL : EW Z a0 EL) (H : CHv Z EL vm0 h) (hS : ∀ x ∈ sf, x < h.size ∧ Safe Z EL vm0 h x) :
    BackS l R p e below (s.setVm vm0) args y len W (fun A a => a = as' ∧ A.U.heap = h ∧ A.cells + rm.cells ≤ R.cells ∧ A.slots + rm.slots ≤ R.slots)
      (fun A _ v B => ∃ L, Q v B.U.heap B.U.vm L ∧ B.locs = A.locs ++ L ∧ B.cells = A.cells + rm.cells ∧ B.slots = A.slots + rm.slots ∧ CHr Z EL vm0 h B.U.vm B.U.heap) :=
  BackS.of_freeW (bytes := bytes) (maxL := maxL) (ret := ret) (E := fun _ first o t L k n => k = rm.cells ∧ n = rm.slots ∧ (∃ v, o = .returned v ∧ Q v t.heap t.vm L) ∧ CHr Z EL first.vm first.heap t.vm t.heap) hM hf hl
    (fun m meth c A a Y hp => have hU : Z.Warmed39 A.U.vm := wtrans (s := s.setVm vm0) hZ Y.warmed
      ⟨by show (Jvm.Cond.and _ .tt).before a A.U = true; rw [Cond.before_and, mv hU wc]; rfl, mv hU wc, mv hU wz, hp.2.2.1, hp.2.2.2⟩)
    (fun m meth c A a g mk Y hp => ⟨hp.1, wtrans (s := s.setVm vm0) hZ Y.warmed, hp.2.1, (CHv.at Y hZ hEL H).1, fun x hx => (CHv.at Y hZ hEL H).safe (hS x hx).1 (hS x hx).2⟩) (fun _ _ _ _ _ _ _ _ _ => trivial)
    (fun _ _ _ _ ⟨v, L, h1, h2, h3, h4⟩ => ⟨L, _, _, h4, rfl, rfl, ⟨v, h1, h2⟩, h3⟩)
    (fun m meth c A a g mk v t L k n Y hp _ _ ⟨e1, e2, ⟨v', e3, e4⟩, e5⟩ => by
      cases e3; subst e1 e2
      refine ⟨L, e4, rfl, rfl, rfl, (CHv.at Y hZ hEL H).trans ?_⟩
      rw [← hp.2.1]; exact e5)
/-- a String constant, read -/
theorem G.F (C : Cx p (s.setVm vm) m c Z own by0 ml) (X : Sd p l e R (s.setVm vm) m args below meth c n0 T h cells slots) (hEL : EW Z a0 EL) (H : Hd Z EL s vm h0 h) {idx : Nat} {text : String} (w : (Jvm.Cond.stringLink own idx text).before a0 Z = true) (wS : ∀ a ∈ Bundle.stringAtoms, a.before a0 Z = true) (hmem : (own, idx) ∈ EL)
    {vs : List Value} {z : Int32} (ht : (∀ c ∈ text.toList, c.toNat < 256) ∧ text.toList.map (fun c => Value.int (Jvm.Lit.byteI c.toNat.toUInt16)) = vs) (hz : ¬ z < 0) (hl : z.toNatClampNeg = vs.length) (hd : decode by0 pc = .ok (.ldc idx, 2)) (hp : pc + 2 = pc') {n : Nat} (hn : 4 * text.toList.length ≤ n) (hbig : n ≤ 536870912) (hc' : cells + 2 = cells') (hs' : slots + (n + 4) = slots') (hc : cells' ≤ R.cells) (hs : slots' ≤ R.slots)
    (hr : ∀ (vm' : Vm) T' h' a b k, Cx p (s.setVm vm') m c Z own by0 ml → Sd p l e R (s.setVm vm') m args below meth c n0 T' h' cells' slots' → Hd Z EL s vm' h0 h' → Ext h h' → CHr Z EL vm h vm' h' → Exa Z h' a "java/lang/String" → Fld Z h' a "java/lang/String" "coder" "B" (.int 0) → Fld Z h' a "java/lang/String" "value" "[B" (.ref b) → Arv Z h' b k .byte z vs (.int 0) → (∀ x, Safe Z EL vm' h' x → x ≠ a ∧ x ≠ b) → OGo p e below K T' (mkF m pc' Ls (.ref a :: St))) : OGo p e below K T (mkF m pc Ls St) := by
  subst hp hc' hs'
  obtain ⟨eT, hn0, locs, Y, N⟩ := X
  obtain ⟨k0, hS, hk, A⟩ := H
  obtain ⟨a, T', h', k1, b, k, Y', e', E, hS', hk', hZ', hf', x1, x2, x3, x4, -, -, B, -, sf, st⟩ := ldcCH Y C.1 C.2.1 C.2.2.1 w wS eT hS hk hEL hmem A.1 ht hz hl (g := mkF m pc Ls St) rfl (hb C.2.2.2.1 hd) hn hbig hc hs
  exact G.st st (hr T'.vm T' h' a b k ⟨C.1, hZ', hf', C.2.2.2⟩ ⟨e', Nat.le_trans hn0 E.1, _, Y', N⟩ ⟨k1, hS', hk', A.trans B⟩ E B x1 x2 x3 x4 sf)
theorem G.H (C : Cx p (s.setVm vm) m c Z own by0 ml) (X : Sd p l e R (s.setVm vm) m args below meth c n0 T h cells slots) (hEL : EW Z a0 EL) (H : Hd Z EL s vm h0 h)  {Q : Option Value → Heap → (Addr → Prop) → Prop} {nc ns : Nat} (hd : decode by0 pc = .ok (.return_, 1)) (hret : meth.sig.returnType = none) (hlk : meth.locks = false) (hQ : ∀ S' : Addr → Prop, (∀ x, x < h.size → Safe Z EL vm h x → S' x) → Q (none) h S') (hc : cells ≤ nc) (hs : slots ≤ ns) : OGo p e below (Kw Z EL s below n0 h0 Q nc ns) T (mkF m pc Ls ([])) := by
  obtain ⟨eT, hn0, locs, Y, N⟩ := X
  obtain ⟨k0, hS, hk, A⟩ := H
  obtain ⟨fs, hr, hrun, hended, hEnd⟩ := Y.leaveW hS (by rw [eT]; exact hk) (v := none) (fun hh => by rfl) hlk
  have B := CHv.at Y C.2.1 hEL A.1
  exact ⟨_, _, Y.returnOut C.1 hret (hb C.2.2.2.1 hd) hr, hrun, hended, _, locs, rfl, ⟨by show Q _ T.heap (fun x => Safe Z EL T.vm T.heap x); rw [eT]; exact hQ _ (fun x lt S => CHr.safe B lt S), N⟩, by show CHr Z EL s.vm h0 T.vm T.heap; rw [eT]; exact A.trans B, hEnd.1, hEnd.2.1, hEnd.2.2.1, hEnd.2.2.2.mono hc hs⟩
theorem G.aA (C : Cx p (s.setVm vm) m c Z own by0 ml) (X : Sd p l e R (s.setVm vm) m args below meth c n0 T h cells slots) (hEL : EW Z a0 EL) (H : Hd Z EL s vm h0 h) {z z' : Int32} {rest : List Value} {t : FieldType} {Q : Option Value → Heap → (Addr → Prop) → Prop} {nc ns : Nat} (hd : decode by0 pc = .ok (.ireturn, 1)) (hret : meth.sig.returnType = some t) (ht : t = .boolean ∨ t = .byte ∨ t = .char ∨ t = .short) (hz : nar t z = z') (hlk : meth.locks = false) (hQ : ∀ S' : Addr → Prop, (∀ x, x < h.size → Safe Z EL vm h x → S' x) → Q (some (.int z')) h S') (hc : cells ≤ nc) (hs : slots ≤ ns) : OGo p e below (Kw Z EL s below n0 h0 Q nc ns) T (mkF m pc Ls (.int z :: rest)) := by
  subst hz; obtain ⟨eT, hn0, locs, Y, N⟩ := X
  obtain ⟨k0, hS, hk, A⟩ := H
  obtain ⟨fs, hr, hrun, hended, hEnd⟩ := Y.leaveW hS (by rw [eT]; exact hk) (v := some (.int (nar t z))) (fun hh => by rw [hret] at hh; cases hh) hlk
  have B := CHv.at Y C.2.1 hEL A.1
  exact ⟨_, _, RoadKit.retN Y C.1 hret ht (hb C.2.2.2.1 hd) hr, hrun, hended, _, locs, rfl, ⟨by show Q _ T.heap (fun x => Safe Z EL T.vm T.heap x); rw [eT]; exact hQ _ (fun x lt S => CHr.safe B lt S), N⟩, by show CHr Z EL s.vm h0 T.vm T.heap; rw [eT]; exact A.trans B, hEnd.1, hEnd.2.1, hEnd.2.2.1, hEnd.2.2.2.mono hc hs⟩
theorem G.aq (C : Cx p (s.setVm vm) m c Z own by0 ml) (X : Sd p l e R (s.setVm vm) m args below meth c n0 T h cells slots) (hEL : EW Z a0 EL) (H : Hd Z EL s vm h0 h) {z : Value} {rest : List Value} {t : FieldType} {Q : Option Value → Heap → (Addr → Prop) → Prop} {nc ns : Nat} (hd : decode by0 pc = .ok (.areturn, 1)) (hret : meth.sig.returnType = some t) (ht : t.isReference = true) (hz : z.isRef = true) (hlk : meth.locks = false) (hQ : ∀ S' : Addr → Prop, (∀ x, x < h.size → Safe Z EL vm h x → S' x) → Q (some z) h S') (hc : cells ≤ nc) (hs : slots ≤ ns) : OGo p e below (Kw Z EL s below n0 h0 Q nc ns) T (mkF m pc Ls (z :: rest)) := by
  obtain ⟨eT, hn0, locs, Y, N⟩ := X
  obtain ⟨k0, hS, hk, A⟩ := H
  obtain ⟨fs, hr, hrun, hended, hEnd⟩ := Y.leaveW hS (by rw [eT]; exact hk) (v := some z) (fun hh => by rw [hret] at hh; cases hh) hlk
  have B := CHv.at Y C.2.1 hEL A.1
  exact ⟨_, _, retOut Y C.1 (i := .areturn) hret (by rcases ref_cases hz with rfl | ⟨b, rfl⟩ <;> cases t <;> first | rfl | cases ht) (Or.inr (Or.inr (Or.inr (Or.inr ⟨rfl, ht, hz⟩)))) (hb C.2.2.2.1 hd) hr, hrun, hended, _, locs, rfl, ⟨by show Q _ T.heap (fun x => Safe Z EL T.vm T.heap x); rw [eT]; exact hQ _ (fun x lt S => CHr.safe B lt S), N⟩, by show CHr Z EL s.vm h0 T.vm T.heap; rw [eT]; exact A.trans B, hEnd.1, hEnd.2.1, hEnd.2.2.1, hEnd.2.2.2.mono hc hs⟩
theorem G.ag (C : Cx p (s.setVm vm) m c Z own by0 ml) (X : Sd p l e R (s.setVm vm) m args below meth c n0 T h cells slots) (hEL : EW Z a0 EL) (H : Hd Z EL s vm h0 h) {sf : List Addr} {y : MethodName} {cb : ByteArray} {cml : Nat} {ret : Option FieldType} {rm : Room} {as' : Array Value} {Q : Option Value → Heap → (Addr → Prop) → Prop} {idx : Nat}  (w1 : (Jvm.Cond.methodLink own idx y).before a0 Z = true) (w2 : (Jvm.Cond.static y).before a0 Z = true) (hy : y.cls ≠ "java/lang/invoke/MethodHandle" ∧ y.cls ≠ "java/lang/invoke/VarHandle") (w4 : (Jvm.Cond.code y cb cml ret).before a0 Z = true) (w5 : (Jvm.Cond.initialized y.cls).before a0 Z = true) (hM : CtrW l Z EL sf y cb cml ret rm n0 as' h Q) (hSf : ∀ x ∈ sf, x < h.size ∧ Safe Z EL vm h x) {argsL : List Value} (hlen : ∀ sig, parseMethodDescriptor y.desc = some sig → argsL.length = sig.parameters.length) (has : argsL.toArray = as') (hd : decode by0 pc = .ok (.invokestatic idx, 3)) (hp : pc + 3 = pc') (hsz : Ls.size = ml) (hf : rm.frames + 1 ≤ R.frames) (hl : (St.map fun v => v.category).sum + (cml + 11) + rm.locals ≤ R.locals) (hc' : cells + rm.cells = cells') (hs' : slots + rm.slots = slots') (hc : cells' ≤ R.cells) (hs : slots' ≤ R.slots)
    (hr : ∀ v (vm' : Vm) T' h', Q v h' (fun x => Safe Z EL vm' h' x) → Cx p (s.setVm vm') m c Z own by0 ml → Sd p l e R (s.setVm vm') m args below meth c n0 T' h' cells' slots' → Hd Z EL s vm' h0 h' → CHr Z EL vm h vm' h' → OGo p e below K T' (mkF m pc' Ls (v.toList ++ St))) : OGo p e below K T (mkF m pc Ls (argsL.reverse ++ St)) := by
  subst hp hc' hs' has
  obtain ⟨eT, hn0, locs, Y, N⟩ := X
  obtain ⟨k0, hS, hk, A⟩ := H
  have hK := backOfSP (Q := fun v h' vm' L => (Q v h' (fun x => Safe Z EL vm' h' x) ∧ h.size ≤ h'.size) ∧ Fr n0 L) (args := args) (p := p) (e := e) (below := below) (R := R) (s := s) (len := 3) (W := (St.map fun v => v.category).sum) (hM []) C.2.1 w4 w5 hf hl hEL A.1 hSf
  obtain ⟨v, _, ⟨B, L2, k2, n2⟩, -, Y', hS2, hg2, ⟨L, hQ, l1, y1, z1, A2⟩, st⟩ := callSS Y C.1 (y := y) C.2.2.1 (mvT C.2.1 w1) (mvT C.2.1 w2) (mvT C.2.1 w5) (mvT C.2.1 w4) hy hK (g := mkF m pc Ls (argsL.reverse ++ St)) rfl (by rw [C.2.2.2.2]; exact hsz) (argsL := argsL) (rest := St) hlen rfl (by show 2 * 0 + _ ≤ _; omega) (hb C.2.2.2.1 hd) (fun _ _ => ⟨rfl, eT, hc, hs⟩)
  dsimp only [Pt.U, Pt.locs, Pt.cells, Pt.slots] at Y' hS2 hg2 l1 y1 z1 st hQ A2
  subst l1 y1 z1
  obtain ⟨⟨hQ, hge⟩, hF⟩ := hQ
  obtain ⟨Y2, hS3, hZ3, hf3⟩ := rebS (own := own) hS (Nat.le_trans hk (by rw [← eT]; exact Nat.le_refl _)) Y' hS2 hg2 C.2.1 C.2.2.1
  exact G.tr st (hr v B.vm B B.heap hQ ⟨C.1, hZ3, hf3, C.2.2.2⟩ ⟨rfl, Nat.le_trans hn0 hge, _, Y2, N.app hF⟩ ⟨_, hS3, Nat.le_refl _, A.trans A2⟩ A2)
end OwnCold
end Jvm.Pilot.@@N@@
namespace Jvm.Pilot.@@N@@
open Jvm Jvm.ClassFile Sem Op Lib Jvm.Free Jvm.Stand Jvm.LawKit Jvm.RoadKit Jvm.Free.Fl Jvm.FP Bundle Jvm.Pilot.@@N@@.Jvm.D
abbrev zq0 : String := "java/lang/String"
abbrev zq1 : String := "java/lang/AbstractStringBuilder"
abbrev zq2 : String := "java/util/ArrayList"
abbrev zq3 : String := "java/lang/Object"
abbrev zq4 : String := "java/lang/StringBuilder"
abbrev zq5 : String := "COMPACT_STRINGS"
abbrev zq6 : String := "[Ljava/lang/Object;"
abbrev zq7 : String := "elementData"
abbrev zq8 : String := "java/util/AbstractList"
abbrev zq9 : String := "jdk/internal/util/Preconditions"
abbrev zq10 : String := "java/util/Arrays"
abbrev zq11 : String := "com/example/txtokd/txtokd/metrics/MetricLabelsPinLaw"
abbrev zq12 : String := "SIOOBE_FORMATTER"
abbrev zq13 : String := "(I)Ljava/lang/Object;"
abbrev zq14 : String := "Ljava/util/function/BiFunction;"
abbrev zq15 : String := "com/example/txtokd/txtokd/metrics/Metric"
abbrev zq16 : String := "java/lang/StringUTF16"
abbrev zq17 : String := "java/lang/Math"
abbrev zq18 : String := "java/lang/StringLatin1"
abbrev zq19 : String := "(IILjava/util/function/BiFunction;)I"
abbrev zq20 : String := "java/util/List"
abbrev zq21 : String := "(Ljava/lang/Object;)Z"
abbrev zq22 : String := "(Ljava/lang/String;)Ljava/lang/AbstractStringBuilder;"
abbrev zq23 : String := "(C)Ljava/lang/AbstractStringBuilder;"
abbrev zq24 : String := "(Ljava/lang/String;ZLjava/lang/StringBuilder;)V"
abbrev zq25 : String := "(Ljava/util/List;Ljava/util/List;)Ljava/lang/String;"
abbrev zq26 : String := "DEFAULTCAPACITY_EMPTY_ELEMENTDATA"
abbrev zq27 : String := "java/util/function/BiFunction"
abbrev zq28 : String := "copyOfRange"
abbrev zq29 : String := "java/util/Objects"
abbrev zq30 : String := "$assertionsDisabled"
abbrev zq31 : String := "(Ljava/lang/StringBuilder;)V"
abbrev zq32 : String := "([CIILjava/lang/Void;)V"
abbrev zq33 : String := "(Ljava/lang/Object;[Ljava/lang/Object;I)V"
abbrev zq34 : String := "(Ljava/lang/String;)Ljava/lang/StringBuilder;"
abbrev zq35 : String := "(C)Ljava/lang/StringBuilder;"
abbrev zq36 : String := "(C)Ljava/lang/String;"
abbrev zq37 : String := "jdk/internal/util/ArraysSupport"
abbrev zq38 : String := "coderFromArrayLen"
abbrev zq39 : String := "(Ljava/lang/String;)V"
abbrev zq40 : String := "(ILjava/lang/String;)V"
abbrev zq41 : String := "(Ljava/lang/AbstractStringBuilder;Ljava/lang/Void;)V"
abbrev zq42 : String := "(I)[Ljava/lang/Object;"
abbrev zq43 : String := "()[Ljava/lang/Object;"
abbrev zq44 : String := "()Ljava/lang/String;"
abbrev zq45 : String := "(Ljava/lang/String;[CI)Z"
abbrev zq46 : String := "(I)Ljava/lang/String;"
abbrev zq47 : String := "ensureCapacityInternal"
abbrev zq48 : String := "java/util/AbstractCollection"
abbrev zq49 : String := "serialVersionUID"
abbrev zq50 : String := "java/io/PrintStream"
abbrev zq51 : String := "inflateIfNeededFor"
abbrev zq52 : String := "copyOfRangeByte"
abbrev zq53 : String := "escapedValue"
abbrev zq54 : String := "java/io/Serializable"
abbrev zq55 : String := "java/lang/CharSequence"
abbrev zq56 : String := "java/util/Collection"
abbrev zq57 : String := "java/lang/Appendable"
abbrev zq58 : String := "java/lang/Comparable"
abbrev zq59 : String := "java/lang/System"
abbrev zq60 : String := "(Ljava/lang/Object;ILjava/lang/Object;II)V"
abbrev zq61 : String := "java/io/InputStream"
abbrev zq62 : String := "java/util/SequencedCollection"
abbrev zq63 : String := "java/lang/constant/Constable"
abbrev zq64 : String := "java/lang/constant/ConstantDesc"
theorem nQ {a b : Nat} (h : Nat.ble a b = true) : a ≤ b := Nat.le_of_ble_eq_true h
set_option maxRecDepth 65536
set_option maxHeartbeats 40000000
abbrev rQ (a b c d : Nat) : Room := { frames := a, cells := b, slots := c, locals := d }
theorem hQ {own : String} {idx : Nat} {R n d : String} {a0 : Array Value} {Z : State} (w : (Jvm.Cond.fieldLink own idx R n d).before a0 Z = true) : (Jvm.Cond.fieldLink own idx R n d).before a0 Z = true ∨ (Jvm.Cond.fieldLinkNest own idx R n d "").before a0 Z = true := Or.inl w
abbrev HW (a0 : Array Value) (Z : State) : Prop := ∀ d ∈ tables_1, d.before a0 Z = true
theorem mQ {α : Type} {a : α} {l : List α} {P : Prop} (i : Nat) (e : l[i]? = some a) : a ∈ l ∨ P := Or.inl (List.mem_of_getElem? e)
abbrev vR (a : Addr) : Slot := .val (.ref a)
abbrev vI (x : Int32) : Slot := .val (.int x)
abbrev vD (x : UInt64) : Slot := .val (.double x)
abbrev dQ (b : ByteArray) (p : Nat) (i : Instr) (n : Nat) : Prop := decode b p = .ok (i, n)
abbrev b1_ := jdk_38_method_2_code
abbrev b2_ := jdk_39_method_1_code
abbrev b3_ := jdk_22_method_1_code
abbrev b5_ := prog_35_method_5_code
abbrev b6_ := jdk_67_method_1_code
abbrev b7_ := jdk_68_method_2_code
abbrev b8_ := jdk_38_method_8_code
abbrev b9_ := jdk_38_method_9_code
abbrev b10_ := jdk_67_method_42_code
abbrev b11_ := jdk_42_method_53_code
abbrev b12_ := jdk_42_method_150_code
abbrev b13_ := jdk_68_method_64_code
abbrev b14_ := jdk_67_method_93_code
abbrev b15_ := jdk_68_method_6_code
abbrev b16_ := jdk_68_method_68_code
abbrev b17_ := jdk_65_method_132_code
abbrev b18_ := jdk_65_method_133_code
abbrev b19_ := jdk_65_method_131_code
abbrev b20_ := jdk_29_method_69_code
abbrev b21_ := jdk_42_method_54_code
abbrev b22_ := jdk_42_method_152_code
abbrev b23_ := method_7_code
abbrev b24_ := jdk_42_method_139_code
abbrev b25_ := jdk_43_method_3_code
abbrev b26_ := jdk_43_method_46_code
abbrev b27_ := jdk_42_method_151_code
abbrev b28_ := jdk_38_method_25_code
abbrev b29_ := jdk_38_method_24_code
abbrev b30_ := jdk_38_method_7_code
abbrev b31_ := jdk_38_method_6_code
abbrev b32_ := jdk_29_method_65_code
abbrev b33_ := method_4_code
abbrev b34_ := method_3_code
abbrev b35_ := jdk_42_method_3_code
abbrev b36_ := jdk_42_method_149_code
abbrev b37_ := jdk_52_method_16_code
abbrev b38_ := jdk_52_method_21_code
abbrev b39_ := jdk_52_method_15_code
abbrev b40_ := jdk_67_method_14_code
abbrev b41_ := jdk_68_method_31_code
abbrev b42_ := jdk_68_method_9_code
abbrev b43_ := jdk_38_method_20_code
abbrev b44_ := jdk_31_method_17_code
abbrev b45_ := jdk_41_method_11_code
abbrev b46_ := jdk_38_method_18_code
abbrev b47_ := jdk_67_method_7_code
abbrev b48_ := jdk_68_method_22_code
abbrev b49_ := jdk_68_method_73_code
abbrev b50_ := jdk_68_method_71_code
abbrev b51_ := jdk_42_method_147_code
abbrev b52_ := prog_35_method_6_code
abbrev b53_ := jdk_42_method_56_code
abbrev b54_ := jdk_42_method_154_code
abbrev b55_ := jdk_43_method_2_code
abbrev b56_ := jdk_42_method_155_code
abbrev b57_ := method_5_code
abbrev b58_ := method_6_code
abbrev b59_ := jdk_68_method_10_code
abbrev b60_ := jdk_48_method_27_code
abbrev b61_ := jdk_65_method_121_code
theorem wQ {a0 : Array Value} {Z : State} (hw : HW a0 Z) (i : Nat) {x : Jvm.Cond} (e : tables_1[i]? = some x) : x.before a0 Z = true := hw _ (List.mem_of_getElem? e)
def wd0 {a0 Z} (hw : HW a0 Z) := wQ hw 0 rfl
def wd1 {a0 Z} (hw : HW a0 Z) := wQ hw 1 rfl
def wd2 {a0 Z} (hw : HW a0 Z) := wQ hw 2 rfl
def wd3 {a0 Z} (hw : HW a0 Z) := wQ hw 3 rfl
def wd4 {a0 Z} (hw : HW a0 Z) := wQ hw 4 rfl
def wd5 {a0 Z} (hw : HW a0 Z) := wQ hw 5 rfl
def wd6 {a0 Z} (hw : HW a0 Z) := wQ hw 6 rfl
def wd7 {a0 Z} (hw : HW a0 Z) := wQ hw 7 rfl
def wd10 {a0 Z} (hw : HW a0 Z) := wQ hw 10 rfl
def wd11 {a0 Z} (hw : HW a0 Z) := wQ hw 11 rfl
def wd12 {a0 Z} (hw : HW a0 Z) := wQ hw 12 rfl
def wd13 {a0 Z} (hw : HW a0 Z) := wQ hw 13 rfl
def wd16 {a0 Z} (hw : HW a0 Z) := wQ hw 16 rfl
def wd17 {a0 Z} (hw : HW a0 Z) := wQ hw 17 rfl
def wd18 {a0 Z} (hw : HW a0 Z) := wQ hw 18 rfl
def wd19 {a0 Z} (hw : HW a0 Z) := wQ hw 19 rfl
def wd20 {a0 Z} (hw : HW a0 Z) := wQ hw 20 rfl
def wd21 {a0 Z} (hw : HW a0 Z) := wQ hw 21 rfl
def wd22 {a0 Z} (hw : HW a0 Z) := wQ hw 22 rfl
def wd23 {a0 Z} (hw : HW a0 Z) := wQ hw 23 rfl
def wd24 {a0 Z} (hw : HW a0 Z) := wQ hw 24 rfl
def wd25 {a0 Z} (hw : HW a0 Z) := wQ hw 25 rfl
def wd26 {a0 Z} (hw : HW a0 Z) := wQ hw 26 rfl
def wd27 {a0 Z} (hw : HW a0 Z) := wQ hw 27 rfl
def wd28 {a0 Z} (hw : HW a0 Z) := wQ hw 28 rfl
def wd29 {a0 Z} (hw : HW a0 Z) := wQ hw 29 rfl
def wd30 {a0 Z} (hw : HW a0 Z) := wQ hw 30 rfl
def wd31 {a0 Z} (hw : HW a0 Z) := wQ hw 31 rfl
def wd32 {a0 Z} (hw : HW a0 Z) := wQ hw 32 rfl
def wd33 {a0 Z} (hw : HW a0 Z) := wQ hw 33 rfl
def wd34 {a0 Z} (hw : HW a0 Z) := wQ hw 34 rfl
def wd35 {a0 Z} (hw : HW a0 Z) := wQ hw 35 rfl
def wd36 {a0 Z} (hw : HW a0 Z) := wQ hw 36 rfl
def wd37 {a0 Z} (hw : HW a0 Z) := wQ hw 37 rfl
def wd40 {a0 Z} (hw : HW a0 Z) := wQ hw 40 rfl
def wd41 {a0 Z} (hw : HW a0 Z) := wQ hw 41 rfl
def wd42 {a0 Z} (hw : HW a0 Z) := wQ hw 42 rfl
def wd43 {a0 Z} (hw : HW a0 Z) := wQ hw 43 rfl
def wd44 {a0 Z} (hw : HW a0 Z) := wQ hw 44 rfl
def wd45 {a0 Z} (hw : HW a0 Z) := wQ hw 45 rfl
def wd46 {a0 Z} (hw : HW a0 Z) := wQ hw 46 rfl
def wd47 {a0 Z} (hw : HW a0 Z) := wQ hw 47 rfl
def wd48 {a0 Z} (hw : HW a0 Z) := wQ hw 48 rfl
def wd49 {a0 Z} (hw : HW a0 Z) := wQ hw 49 rfl
def wd50 {a0 Z} (hw : HW a0 Z) := wQ hw 50 rfl
def wd51 {a0 Z} (hw : HW a0 Z) := wQ hw 51 rfl
def wd52 {a0 Z} (hw : HW a0 Z) := wQ hw 52 rfl
def wd53 {a0 Z} (hw : HW a0 Z) := wQ hw 53 rfl
def wd54 {a0 Z} (hw : HW a0 Z) := wQ hw 54 rfl
def wd55 {a0 Z} (hw : HW a0 Z) := wQ hw 55 rfl
def wd56 {a0 Z} (hw : HW a0 Z) := wQ hw 56 rfl
def wd57 {a0 Z} (hw : HW a0 Z) := wQ hw 57 rfl
def wd58 {a0 Z} (hw : HW a0 Z) := wQ hw 58 rfl
def wd59 {a0 Z} (hw : HW a0 Z) := wQ hw 59 rfl
def wd60 {a0 Z} (hw : HW a0 Z) := wQ hw 60 rfl
def wd61 {a0 Z} (hw : HW a0 Z) := wQ hw 61 rfl
def wd62 {a0 Z} (hw : HW a0 Z) := wQ hw 62 rfl
def wd63 {a0 Z} (hw : HW a0 Z) := wQ hw 63 rfl
def wd64 {a0 Z} (hw : HW a0 Z) := wQ hw 64 rfl
def wd65 {a0 Z} (hw : HW a0 Z) := wQ hw 65 rfl
def wd66 {a0 Z} (hw : HW a0 Z) := wQ hw 66 rfl
def wd67 {a0 Z} (hw : HW a0 Z) := wQ hw 67 rfl
def wd68 {a0 Z} (hw : HW a0 Z) := wQ hw 68 rfl
def wd69 {a0 Z} (hw : HW a0 Z) := wQ hw 69 rfl
def wd70 {a0 Z} (hw : HW a0 Z) := wQ hw 70 rfl
def wd71 {a0 Z} (hw : HW a0 Z) := wQ hw 71 rfl
def wd72 {a0 Z} (hw : HW a0 Z) := wQ hw 72 rfl
def wd73 {a0 Z} (hw : HW a0 Z) := wQ hw 73 rfl
def wd74 {a0 Z} (hw : HW a0 Z) := wQ hw 74 rfl
def wd75 {a0 Z} (hw : HW a0 Z) := wQ hw 75 rfl
def wd76 {a0 Z} (hw : HW a0 Z) := wQ hw 76 rfl
def wd77 {a0 Z} (hw : HW a0 Z) := wQ hw 77 rfl
def wd79 {a0 Z} (hw : HW a0 Z) := wQ hw 79 rfl
def wd80 {a0 Z} (hw : HW a0 Z) := wQ hw 80 rfl
def wd81 {a0 Z} (hw : HW a0 Z) := wQ hw 81 rfl
def wd82 {a0 Z} (hw : HW a0 Z) := wQ hw 82 rfl
def wd83 {a0 Z} (hw : HW a0 Z) := wQ hw 83 rfl
def wd84 {a0 Z} (hw : HW a0 Z) := wQ hw 84 rfl
def wd85 {a0 Z} (hw : HW a0 Z) := wQ hw 85 rfl
def wd86 {a0 Z} (hw : HW a0 Z) := wQ hw 86 rfl
def wd87 {a0 Z} (hw : HW a0 Z) := wQ hw 87 rfl
def wd88 {a0 Z} (hw : HW a0 Z) := wQ hw 88 rfl
def wd89 {a0 Z} (hw : HW a0 Z) := wQ hw 89 rfl
def wd90 {a0 Z} (hw : HW a0 Z) := wQ hw 90 rfl
def wd91 {a0 Z} (hw : HW a0 Z) := wQ hw 91 rfl
def wd92 {a0 Z} (hw : HW a0 Z) := wQ hw 92 rfl
def wd93 {a0 Z} (hw : HW a0 Z) := wQ hw 93 rfl
def wd94 {a0 Z} (hw : HW a0 Z) := wQ hw 94 rfl
def wd95 {a0 Z} (hw : HW a0 Z) := wQ hw 95 rfl
def wd96 {a0 Z} (hw : HW a0 Z) := wQ hw 96 rfl
def wd97 {a0 Z} (hw : HW a0 Z) := wQ hw 97 rfl
def wd98 {a0 Z} (hw : HW a0 Z) := wQ hw 98 rfl
def wd99 {a0 Z} (hw : HW a0 Z) := wQ hw 99 rfl
def wd100 {a0 Z} (hw : HW a0 Z) := wQ hw 100 rfl
def wd101 {a0 Z} (hw : HW a0 Z) := wQ hw 101 rfl
def wd102 {a0 Z} (hw : HW a0 Z) := wQ hw 102 rfl
def wd103 {a0 Z} (hw : HW a0 Z) := wQ hw 103 rfl
def wd104 {a0 Z} (hw : HW a0 Z) := wQ hw 104 rfl
def wd105 {a0 Z} (hw : HW a0 Z) := wQ hw 105 rfl
def wd106 {a0 Z} (hw : HW a0 Z) := wQ hw 106 rfl
def wd107 {a0 Z} (hw : HW a0 Z) := wQ hw 107 rfl
def wd108 {a0 Z} (hw : HW a0 Z) := wQ hw 108 rfl
def wd109 {a0 Z} (hw : HW a0 Z) := wQ hw 109 rfl
def wd110 {a0 Z} (hw : HW a0 Z) := wQ hw 110 rfl
def wd111 {a0 Z} (hw : HW a0 Z) := wQ hw 111 rfl
def wd112 {a0 Z} (hw : HW a0 Z) := wQ hw 112 rfl
def wd113 {a0 Z} (hw : HW a0 Z) := wQ hw 113 rfl
def wd114 {a0 Z} (hw : HW a0 Z) := wQ hw 114 rfl
def wd115 {a0 Z} (hw : HW a0 Z) := wQ hw 115 rfl
def wd116 {a0 Z} (hw : HW a0 Z) := wQ hw 116 rfl
def wd117 {a0 Z} (hw : HW a0 Z) := wQ hw 117 rfl
def wd118 {a0 Z} (hw : HW a0 Z) := wQ hw 118 rfl
def wd119 {a0 Z} (hw : HW a0 Z) := wQ hw 119 rfl
def wd120 {a0 Z} (hw : HW a0 Z) := wQ hw 120 rfl
def wd121 {a0 Z} (hw : HW a0 Z) := wQ hw 121 rfl
def wd122 {a0 Z} (hw : HW a0 Z) := wQ hw 122 rfl
def wd123 {a0 Z} (hw : HW a0 Z) := wQ hw 123 rfl
def wd124 {a0 Z} (hw : HW a0 Z) := wQ hw 124 rfl
def wd125 {a0 Z} (hw : HW a0 Z) := wQ hw 125 rfl
def wd126 {a0 Z} (hw : HW a0 Z) := wQ hw 126 rfl
def wd127 {a0 Z} (hw : HW a0 Z) := wQ hw 127 rfl
def wd128 {a0 Z} (hw : HW a0 Z) := wQ hw 128 rfl
def wd129 {a0 Z} (hw : HW a0 Z) := wQ hw 129 rfl
def wd130 {a0 Z} (hw : HW a0 Z) := wQ hw 130 rfl
def wd131 {a0 Z} (hw : HW a0 Z) := wQ hw 131 rfl
def wd132 {a0 Z} (hw : HW a0 Z) := wQ hw 132 rfl
def wd133 {a0 Z} (hw : HW a0 Z) := wQ hw 133 rfl
def wd134 {a0 Z} (hw : HW a0 Z) := wQ hw 134 rfl
def wd135 {a0 Z} (hw : HW a0 Z) := wQ hw 135 rfl
def wd136 {a0 Z} (hw : HW a0 Z) := wQ hw 136 rfl
def wd137 {a0 Z} (hw : HW a0 Z) := wQ hw 137 rfl
def wd138 {a0 Z} (hw : HW a0 Z) := wQ hw 138 rfl
def wd139 {a0 Z} (hw : HW a0 Z) := wQ hw 139 rfl
def wd140 {a0 Z} (hw : HW a0 Z) := wQ hw 140 rfl
def wd141 {a0 Z} (hw : HW a0 Z) := wQ hw 141 rfl
def wd142 {a0 Z} (hw : HW a0 Z) := wQ hw 142 rfl
def wd143 {a0 Z} (hw : HW a0 Z) := wQ hw 143 rfl
def wd144 {a0 Z} (hw : HW a0 Z) := wQ hw 144 rfl
def wd145 {a0 Z} (hw : HW a0 Z) := wQ hw 145 rfl
def wd146 {a0 Z} (hw : HW a0 Z) := wQ hw 146 rfl
def wd147 {a0 Z} (hw : HW a0 Z) := wQ hw 147 rfl
def wd148 {a0 Z} (hw : HW a0 Z) := wQ hw 148 rfl
def wd149 {a0 Z} (hw : HW a0 Z) := wQ hw 149 rfl
def wd150 {a0 Z} (hw : HW a0 Z) := wQ hw 150 rfl
def wd151 {a0 Z} (hw : HW a0 Z) := wQ hw 151 rfl
def wd152 {a0 Z} (hw : HW a0 Z) := wQ hw 152 rfl
def wd153 {a0 Z} (hw : HW a0 Z) := wQ hw 153 rfl
def wd154 {a0 Z} (hw : HW a0 Z) := wQ hw 154 rfl
def wd155 {a0 Z} (hw : HW a0 Z) := wQ hw 155 rfl
def wd156 {a0 Z} (hw : HW a0 Z) := wQ hw 156 rfl
def wd157 {a0 Z} (hw : HW a0 Z) := wQ hw 157 rfl
def wd158 {a0 Z} (hw : HW a0 Z) := wQ hw 158 rfl
def wd159 {a0 Z} (hw : HW a0 Z) := wQ hw 159 rfl
def wd160 {a0 Z} (hw : HW a0 Z) := wQ hw 160 rfl
def wd161 {a0 Z} (hw : HW a0 Z) := wQ hw 161 rfl
def wd162 {a0 Z} (hw : HW a0 Z) := wQ hw 162 rfl
def wd163 {a0 Z} (hw : HW a0 Z) := wQ hw 163 rfl
def wd164 {a0 Z} (hw : HW a0 Z) := wQ hw 164 rfl
def wd165 {a0 Z} (hw : HW a0 Z) := wQ hw 165 rfl
def wd166 {a0 Z} (hw : HW a0 Z) := wQ hw 166 rfl
def wd167 {a0 Z} (hw : HW a0 Z) := wQ hw 167 rfl
def wd168 {a0 Z} (hw : HW a0 Z) := wQ hw 168 rfl
def wd169 {a0 Z} (hw : HW a0 Z) := wQ hw 169 rfl
def wd171 {a0 Z} (hw : HW a0 Z) := wQ hw 171 rfl
def wd172 {a0 Z} (hw : HW a0 Z) := wQ hw 172 rfl
def wd173 {a0 Z} (hw : HW a0 Z) := wQ hw 173 rfl
def wd174 {a0 Z} (hw : HW a0 Z) := wQ hw 174 rfl
def wd176 {a0 Z} (hw : HW a0 Z) := wQ hw 176 rfl
def wd177 {a0 Z} (hw : HW a0 Z) := wQ hw 177 rfl
def wd178 {a0 Z} (hw : HW a0 Z) := wQ hw 178 rfl
def wd179 {a0 Z} (hw : HW a0 Z) := wQ hw 179 rfl
def wd181 {a0 Z} (hw : HW a0 Z) := wQ hw 181 rfl
def wd182 {a0 Z} (hw : HW a0 Z) := wQ hw 182 rfl
def wd183 {a0 Z} (hw : HW a0 Z) := wQ hw 183 rfl
def wd184 {a0 Z} (hw : HW a0 Z) := wQ hw 184 rfl
def wd185 {a0 Z} (hw : HW a0 Z) := wQ hw 185 rfl
def wd186 {a0 Z} (hw : HW a0 Z) := wQ hw 186 rfl
def wd187 {a0 Z} (hw : HW a0 Z) := wQ hw 187 rfl
def wd188 {a0 Z} (hw : HW a0 Z) := wQ hw 188 rfl
def wd189 {a0 Z} (hw : HW a0 Z) := wQ hw 189 rfl
def wd190 {a0 Z} (hw : HW a0 Z) := wQ hw 190 rfl
def wd191 {a0 Z} (hw : HW a0 Z) := wQ hw 191 rfl
def wd192 {a0 Z} (hw : HW a0 Z) := wQ hw 192 rfl
def wd193 {a0 Z} (hw : HW a0 Z) := wQ hw 193 rfl
def wd194 {a0 Z} (hw : HW a0 Z) := wQ hw 194 rfl
def wd195 {a0 Z} (hw : HW a0 Z) := wQ hw 195 rfl
def wd196 {a0 Z} (hw : HW a0 Z) := wQ hw 196 rfl
def wd197 {a0 Z} (hw : HW a0 Z) := wQ hw 197 rfl
def wd198 {a0 Z} (hw : HW a0 Z) := wQ hw 198 rfl
def wd199 {a0 Z} (hw : HW a0 Z) := wQ hw 199 rfl
def wd200 {a0 Z} (hw : HW a0 Z) := wQ hw 200 rfl
def wd201 {a0 Z} (hw : HW a0 Z) := wQ hw 201 rfl
def wd202 {a0 Z} (hw : HW a0 Z) := wQ hw 202 rfl
def wd203 {a0 Z} (hw : HW a0 Z) := wQ hw 203 rfl
def wd204 {a0 Z} (hw : HW a0 Z) := wQ hw 204 rfl
def wd205 {a0 Z} (hw : HW a0 Z) := wQ hw 205 rfl
def wd206 {a0 Z} (hw : HW a0 Z) := wQ hw 206 rfl
def wd207 {a0 Z} (hw : HW a0 Z) := wQ hw 207 rfl
def wd208 {a0 Z} (hw : HW a0 Z) := wQ hw 208 rfl
def wd209 {a0 Z} (hw : HW a0 Z) := wQ hw 209 rfl
def wd210 {a0 Z} (hw : HW a0 Z) := wQ hw 210 rfl
def wd211 {a0 Z} (hw : HW a0 Z) := wQ hw 211 rfl
def wd212 {a0 Z} (hw : HW a0 Z) := wQ hw 212 rfl
def wd213 {a0 Z} (hw : HW a0 Z) := wQ hw 213 rfl
def wd214 {a0 Z} (hw : HW a0 Z) := wQ hw 214 rfl
def wd215 {a0 Z} (hw : HW a0 Z) := wQ hw 215 rfl
def wd216 {a0 Z} (hw : HW a0 Z) := wQ hw 216 rfl
def wd217 {a0 Z} (hw : HW a0 Z) := wQ hw 217 rfl
def wd218 {a0 Z} (hw : HW a0 Z) := wQ hw 218 rfl
def wd219 {a0 Z} (hw : HW a0 Z) := wQ hw 219 rfl
def wd220 {a0 Z} (hw : HW a0 Z) := wQ hw 220 rfl
def wd222 {a0 Z} (hw : HW a0 Z) := wQ hw 222 rfl
def wd223 {a0 Z} (hw : HW a0 Z) := wQ hw 223 rfl
def wd224 {a0 Z} (hw : HW a0 Z) := wQ hw 224 rfl
def wd225 {a0 Z} (hw : HW a0 Z) := wQ hw 225 rfl
def wd227 {a0 Z} (hw : HW a0 Z) := wQ hw 227 rfl
def wd228 {a0 Z} (hw : HW a0 Z) := wQ hw 228 rfl
def wd229 {a0 Z} (hw : HW a0 Z) := wQ hw 229 rfl
def wd230 {a0 Z} (hw : HW a0 Z) := wQ hw 230 rfl
def wd231 {a0 Z} (hw : HW a0 Z) := wQ hw 231 rfl
def wd232 {a0 Z} (hw : HW a0 Z) := wQ hw 232 rfl
def wd233 {a0 Z} (hw : HW a0 Z) := wQ hw 233 rfl
def wd234 {a0 Z} (hw : HW a0 Z) := wQ hw 234 rfl
def wd235 {a0 Z} (hw : HW a0 Z) := wQ hw 235 rfl
def wd236 {a0 Z} (hw : HW a0 Z) := wQ hw 236 rfl
def wd237 {a0 Z} (hw : HW a0 Z) := wQ hw 237 rfl
def wd238 {a0 Z} (hw : HW a0 Z) := wQ hw 238 rfl
def wd239 {a0 Z} (hw : HW a0 Z) := wQ hw 239 rfl
def wd240 {a0 Z} (hw : HW a0 Z) := wQ hw 240 rfl
def wd241 {a0 Z} (hw : HW a0 Z) := wQ hw 241 rfl
def wd242 {a0 Z} (hw : HW a0 Z) := wQ hw 242 rfl
def wd243 {a0 Z} (hw : HW a0 Z) := wQ hw 243 rfl
def wd244 {a0 Z} (hw : HW a0 Z) := wQ hw 244 rfl
def wd245 {a0 Z} (hw : HW a0 Z) := wQ hw 245 rfl
def wd246 {a0 Z} (hw : HW a0 Z) := wQ hw 246 rfl
def wd247 {a0 Z} (hw : HW a0 Z) := wQ hw 247 rfl
def wd248 {a0 Z} (hw : HW a0 Z) := wQ hw 248 rfl
def wd249 {a0 Z} (hw : HW a0 Z) := wQ hw 249 rfl
def wd250 {a0 Z} (hw : HW a0 Z) := wQ hw 250 rfl
def wd251 {a0 Z} (hw : HW a0 Z) := wQ hw 251 rfl
def wd252 {a0 Z} (hw : HW a0 Z) := wQ hw 252 rfl
def wd253 {a0 Z} (hw : HW a0 Z) := wQ hw 253 rfl
def wd254 {a0 Z} (hw : HW a0 Z) := wQ hw 254 rfl
def wd255 {a0 Z} (hw : HW a0 Z) := wQ hw 255 rfl
def wd256 {a0 Z} (hw : HW a0 Z) := wQ hw 256 rfl
def wd257 {a0 Z} (hw : HW a0 Z) := wQ hw 257 rfl
def wd258 {a0 Z} (hw : HW a0 Z) := wQ hw 258 rfl
def wd260 {a0 Z} (hw : HW a0 Z) := wQ hw 260 rfl
def wd261 {a0 Z} (hw : HW a0 Z) := wQ hw 261 rfl
def wd262 {a0 Z} (hw : HW a0 Z) := wQ hw 262 rfl
def wd263 {a0 Z} (hw : HW a0 Z) := wQ hw 263 rfl
def wd264 {a0 Z} (hw : HW a0 Z) := wQ hw 264 rfl
def wd266 {a0 Z} (hw : HW a0 Z) := wQ hw 266 rfl
def wd267 {a0 Z} (hw : HW a0 Z) := wQ hw 267 rfl
def wd268 {a0 Z} (hw : HW a0 Z) := wQ hw 268 rfl
def wd269 {a0 Z} (hw : HW a0 Z) := wQ hw 269 rfl
def wd271 {a0 Z} (hw : HW a0 Z) := wQ hw 271 rfl
def wd272 {a0 Z} (hw : HW a0 Z) := wQ hw 272 rfl
def wd273 {a0 Z} (hw : HW a0 Z) := wQ hw 273 rfl
def wd274 {a0 Z} (hw : HW a0 Z) := wQ hw 274 rfl
def wd275 {a0 Z} (hw : HW a0 Z) := wQ hw 275 rfl
def wd276 {a0 Z} (hw : HW a0 Z) := wQ hw 276 rfl
def wd277 {a0 Z} (hw : HW a0 Z) := wQ hw 277 rfl
def wd278 {a0 Z} (hw : HW a0 Z) := wQ hw 278 rfl
def wd279 {a0 Z} (hw : HW a0 Z) := wQ hw 279 rfl
def wd280 {a0 Z} (hw : HW a0 Z) := wQ hw 280 rfl
def wd281 {a0 Z} (hw : HW a0 Z) := wQ hw 281 rfl
def wd282 {a0 Z} (hw : HW a0 Z) := wQ hw 282 rfl
def wd283 {a0 Z} (hw : HW a0 Z) := wQ hw 283 rfl
def wd284 {a0 Z} (hw : HW a0 Z) := wQ hw 284 rfl
def wd285 {a0 Z} (hw : HW a0 Z) := wQ hw 285 rfl
def wd286 {a0 Z} (hw : HW a0 Z) := wQ hw 286 rfl
def wd287 {a0 Z} (hw : HW a0 Z) := wQ hw 287 rfl
def wd288 {a0 Z} (hw : HW a0 Z) := wQ hw 288 rfl
def wd289 {a0 Z} (hw : HW a0 Z) := wQ hw 289 rfl
def wd290 {a0 Z} (hw : HW a0 Z) := wQ hw 290 rfl
def wd291 {a0 Z} (hw : HW a0 Z) := wQ hw 291 rfl
def wd292 {a0 Z} (hw : HW a0 Z) := wQ hw 292 rfl
def wd293 {a0 Z} (hw : HW a0 Z) := wQ hw 293 rfl
def wd294 {a0 Z} (hw : HW a0 Z) := wQ hw 294 rfl
def wd295 {a0 Z} (hw : HW a0 Z) := wQ hw 295 rfl
def wd296 {a0 Z} (hw : HW a0 Z) := wQ hw 296 rfl
def wd297 {a0 Z} (hw : HW a0 Z) := wQ hw 297 rfl
def wd298 {a0 Z} (hw : HW a0 Z) := wQ hw 298 rfl
def wd299 {a0 Z} (hw : HW a0 Z) := wQ hw 299 rfl
def wd300 {a0 Z} (hw : HW a0 Z) := wQ hw 300 rfl
def wd301 {a0 Z} (hw : HW a0 Z) := wQ hw 301 rfl
def wd302 {a0 Z} (hw : HW a0 Z) := wQ hw 302 rfl
def wd303 {a0 Z} (hw : HW a0 Z) := wQ hw 303 rfl
def wd304 {a0 Z} (hw : HW a0 Z) := wQ hw 304 rfl
def wd305 {a0 Z} (hw : HW a0 Z) := wQ hw 305 rfl
def wd306 {a0 Z} (hw : HW a0 Z) := wQ hw 306 rfl
def wd307 {a0 Z} (hw : HW a0 Z) := wQ hw 307 rfl
def wd308 {a0 Z} (hw : HW a0 Z) := wQ hw 308 rfl
def wd309 {a0 Z} (hw : HW a0 Z) := wQ hw 309 rfl
def wd310 {a0 Z} (hw : HW a0 Z) := wQ hw 310 rfl
def wd311 {a0 Z} (hw : HW a0 Z) := wQ hw 311 rfl
def wd312 {a0 Z} (hw : HW a0 Z) := wQ hw 312 rfl
def wd313 {a0 Z} (hw : HW a0 Z) := wQ hw 313 rfl
def wd314 {a0 Z} (hw : HW a0 Z) := wQ hw 314 rfl
def wd316 {a0 Z} (hw : HW a0 Z) := wQ hw 316 rfl
def wd317 {a0 Z} (hw : HW a0 Z) := wQ hw 317 rfl
def wd318 {a0 Z} (hw : HW a0 Z) := wQ hw 318 rfl
def wd319 {a0 Z} (hw : HW a0 Z) := wQ hw 319 rfl
def wd320 {a0 Z} (hw : HW a0 Z) := wQ hw 320 rfl
def wd321 {a0 Z} (hw : HW a0 Z) := wQ hw 321 rfl
def wd322 {a0 Z} (hw : HW a0 Z) := wQ hw 322 rfl
def wd323 {a0 Z} (hw : HW a0 Z) := wQ hw 323 rfl
def wd324 {a0 Z} (hw : HW a0 Z) := wQ hw 324 rfl
def wd325 {a0 Z} (hw : HW a0 Z) := wQ hw 325 rfl
def wd326 {a0 Z} (hw : HW a0 Z) := wQ hw 326 rfl
def wd327 {a0 Z} (hw : HW a0 Z) := wQ hw 327 rfl
def wd328 {a0 Z} (hw : HW a0 Z) := wQ hw 328 rfl
def wd330 {a0 Z} (hw : HW a0 Z) := wQ hw 330 rfl
def wd331 {a0 Z} (hw : HW a0 Z) := wQ hw 331 rfl
def wd332 {a0 Z} (hw : HW a0 Z) := wQ hw 332 rfl
def wd333 {a0 Z} (hw : HW a0 Z) := wQ hw 333 rfl
def wd334 {a0 Z} (hw : HW a0 Z) := wQ hw 334 rfl
def wd335 {a0 Z} (hw : HW a0 Z) := wQ hw 335 rfl
def sQ0 {a0 Z} (hw : HW a0 Z) := slot_ne (Or.inl (wd49 hw)) (Or.inl (wd47 hw)) (by decide) (t := .byte) (t' := (.array .byte)) (by decide) (by decide)
def sQ1 {a0 Z} (hw : HW a0 Z) := slot_ne (Or.inl (wd47 hw)) (Or.inl (wd49 hw)) (by decide) (t := (.array .byte)) (t' := .byte) (by decide) (by decide)
def sQ2 {a0 Z} (hw : HW a0 Z) := slot_ne (Or.inl (wd99 hw)) (Or.inl (wd47 hw)) (by decide) (t := .int) (t' := (.array .byte)) (by decide) (by decide)
def sQ3 {a0 Z} (hw : HW a0 Z) := slot_ne (Or.inl (wd99 hw)) (Or.inl (wd49 hw)) (by decide) (t := .int) (t' := .byte) (by decide) (by decide)
def sQ4 {a0 Z} (hw : HW a0 Z) := slot_ne (Or.inl (wd47 hw)) (Or.inl (wd99 hw)) (by decide) (t := (.array .byte)) (t' := .int) (by decide) (by decide)
def sQ5 {a0 Z} (hw : HW a0 Z) := slot_ne (Or.inl (wd49 hw)) (Or.inl (wd99 hw)) (by decide) (t := .byte) (t' := .int) (by decide) (by decide)
def sQ6 {a0 Z} (hw : HW a0 Z) := slot_ne (Or.inr (wd126 hw)) (Or.inr (wd106 hw)) (by decide) (t := (.array .byte)) (t' := .byte) (by decide) (by decide)
def sQ7 {a0 Z} (hw : HW a0 Z) := slot_ne (Or.inr (wd106 hw)) (Or.inr (wd126 hw)) (by decide) (t := .byte) (t' := (.array .byte)) (by decide) (by decide)
def sQ8 {a0 Z} (hw : HW a0 Z) := slot_ne (Or.inl (wd25 hw)) (Or.inl (wd22 hw)) (by decide) (t := (.array (.object zq3))) (t' := .int) (by decide) (by decide)
def sQ9 {a0 Z} (hw : HW a0 Z) := slot_ne (Or.inl (wd60 hw)) (Or.inl (wd22 hw)) (by decide) (t := .int) (t' := .int) (by decide) (by decide)
def sQ10 {a0 Z} (hw : HW a0 Z) := slot_ne (Or.inl (wd22 hw)) (Or.inl (wd25 hw)) (by decide) (t := .int) (t' := (.array (.object zq3))) (by decide) (by decide)
def sQ11 {a0 Z} (hw : HW a0 Z) := slot_ne (Or.inl (wd60 hw)) (Or.inl (wd25 hw)) (by decide) (t := .int) (t' := (.array (.object zq3))) (by decide) (by decide)
def sQ12 {a0 Z} (hw : HW a0 Z) := slot_ne (Or.inl (wd22 hw)) (Or.inl (wd60 hw)) (by decide) (t := .int) (t' := .int) (by decide) (by decide)
def sQ13 {a0 Z} (hw : HW a0 Z) := slot_ne (Or.inl (wd25 hw)) (Or.inl (wd60 hw)) (by decide) (t := (.array (.object zq3))) (t' := .int) (by decide) (by decide)
theorem d1_0 : dQ b1_ 0 (.aload_n 0) 1 := by decide +kernel
theorem d1_1 : dQ b1_ 1 (.invokespecial 1) 3 := by decide +kernel
theorem d1_4 : dQ b1_ 4 (.aload_n 0) 1 := by decide +kernel
theorem d1_5 : dQ b1_ 5 (.getstatic 39) 3 := by decide +kernel
theorem d1_8 : dQ b1_ 8 (.putfield 9) 3 := by decide +kernel
theorem d1_11 : dQ b1_ 11 .return_ 1 := by decide +kernel
theorem d2_0 : dQ b2_ 0 (.aload_n 0) 1 := by decide +kernel
theorem d2_1 : dQ b2_ 1 (.invokespecial 1) 3 := by decide +kernel
theorem d2_4 : dQ b2_ 4 (.aload_n 0) 1 := by decide +kernel
theorem d2_5 : dQ b2_ 5 (.iconst 0) 1 := by decide +kernel
theorem d2_6 : dQ b2_ 6 (.putfield 7) 3 := by decide +kernel
theorem d2_9 : dQ b2_ 9 .return_ 1 := by decide +kernel
theorem d3_0 : dQ b3_ 0 (.aload_n 0) 1 := by decide +kernel
theorem d3_1 : dQ b3_ 1 (.invokespecial 1) 3 := by decide +kernel
theorem d3_4 : dQ b3_ 4 .return_ 1 := by decide +kernel
theorem d5_0 : dQ b5_ 0 (.new 22) 3 := by decide +kernel
theorem d5_3 : dQ b5_ 3 .dup 1 := by decide +kernel
theorem d5_4 : dQ b5_ 4 (.invokespecial 40) 3 := by decide +kernel
theorem d5_7 : dQ b5_ 7 (.astore_n 2) 1 := by decide +kernel
theorem d5_8 : dQ b5_ 8 (.iconst 0) 1 := by decide +kernel
theorem d5_9 : dQ b5_ 9 (.istore_n 3) 1 := by decide +kernel
theorem d5_10 : dQ b5_ 10 (.iload_n 3) 1 := by decide +kernel
theorem d5_11 : dQ b5_ 11 (.aload_n 0) 1 := by decide +kernel
theorem d5_12 : dQ b5_ 12 (.invokeinterface 41 1) 5 := by decide +kernel
theorem d5_17 : dQ b5_ 17 (.if_icmp .ge 65) 3 := by decide +kernel
theorem d5_20 : dQ b5_ 20 (.aload_n 2) 1 := by decide +kernel
theorem d5_21 : dQ b5_ 21 (.iload_n 3) 1 := by decide +kernel
theorem d5_22 : dQ b5_ 22 (.ifCond .ne 8) 3 := by decide +kernel
theorem d5_25 : dQ b5_ 25 (.bipush 123) 2 := by decide +kernel
theorem d5_27 : dQ b5_ 27 (.goto 5) 3 := by decide +kernel
theorem d5_30 : dQ b5_ 30 (.bipush 44) 2 := by decide +kernel
theorem d5_32 : dQ b5_ 32 (.invokevirtual 27) 3 := by decide +kernel
theorem d5_35 : dQ b5_ 35 (.aload_n 0) 1 := by decide +kernel
theorem d5_36 : dQ b5_ 36 (.iload_n 3) 1 := by decide +kernel
theorem d5_37 : dQ b5_ 37 (.invokeinterface 47 2) 5 := by decide +kernel
theorem d5_42 : dQ b5_ 42 (.checkcast 51) 3 := by decide +kernel
theorem d5_45 : dQ b5_ 45 (.invokevirtual 21) 3 := by decide +kernel
theorem d5_48 : dQ b5_ 48 (.ldc 53) 2 := by decide +kernel
theorem d5_50 : dQ b5_ 50 (.invokevirtual 21) 3 := by decide +kernel
theorem d5_53 : dQ b5_ 53 .pop 1 := by decide +kernel
theorem d5_54 : dQ b5_ 54 (.aload_n 1) 1 := by decide +kernel
theorem d5_55 : dQ b5_ 55 (.iload_n 3) 1 := by decide +kernel
theorem d5_56 : dQ b5_ 56 (.invokeinterface 47 2) 5 := by decide +kernel
theorem d5_61 : dQ b5_ 61 (.checkcast 51) 3 := by decide +kernel
theorem d5_64 : dQ b5_ 64 (.iconst 1) 1 := by decide +kernel
theorem d5_65 : dQ b5_ 65 (.aload_n 2) 1 := by decide +kernel
theorem d5_66 : dQ b5_ 66 (.invokestatic 30) 3 := by decide +kernel
theorem d5_69 : dQ b5_ 69 (.aload_n 2) 1 := by decide +kernel
theorem d5_70 : dQ b5_ 70 (.bipush 34) 2 := by decide +kernel
theorem d5_72 : dQ b5_ 72 (.invokevirtual 27) 3 := by decide +kernel
theorem d5_75 : dQ b5_ 75 .pop 1 := by decide +kernel
theorem d5_76 : dQ b5_ 76 (.iinc 3 1) 3 := by decide +kernel
theorem d5_79 : dQ b5_ 79 (.goto (-69)) 3 := by decide +kernel
theorem d5_82 : dQ b5_ 82 (.aload_n 0) 1 := by decide +kernel
theorem d5_83 : dQ b5_ 83 (.invokeinterface 55 1) 5 := by decide +kernel
theorem d5_88 : dQ b5_ 88 (.ifCond .ne 10) 3 := by decide +kernel
theorem d5_91 : dQ b5_ 91 (.aload_n 2) 1 := by decide +kernel
theorem d5_92 : dQ b5_ 92 (.bipush 125) 2 := by decide +kernel
theorem d5_94 : dQ b5_ 94 (.invokevirtual 27) 3 := by decide +kernel
theorem d5_97 : dQ b5_ 97 .pop 1 := by decide +kernel
theorem d5_98 : dQ b5_ 98 (.aload_n 2) 1 := by decide +kernel
theorem d5_99 : dQ b5_ 99 (.invokevirtual 59) 3 := by decide +kernel
theorem d5_102 : dQ b5_ 102 .areturn 1 := by decide +kernel
theorem d6_0 : dQ b6_ 0 (.aload_n 0) 1 := by decide +kernel
theorem d6_1 : dQ b6_ 1 (.bipush 16) 2 := by decide +kernel
theorem d6_3 : dQ b6_ 3 (.invokespecial 1) 3 := by decide +kernel
theorem d6_6 : dQ b6_ 6 .return_ 1 := by decide +kernel
theorem d7_0 : dQ b7_ 0 (.aload_n 0) 1 := by decide +kernel
theorem d7_1 : dQ b7_ 1 (.invokespecial 3) 3 := by decide +kernel
theorem d7_4 : dQ b7_ 4 (.getstatic 18) 3 := by decide +kernel
theorem d7_7 : dQ b7_ 7 (.ifCond .eq 18) 3 := by decide +kernel
theorem d7_10 : dQ b7_ 10 (.aload_n 0) 1 := by decide +kernel
theorem d7_11 : dQ b7_ 11 (.iload_n 1) 1 := by decide +kernel
theorem d7_12 : dQ b7_ 12 (.newarray .byte) 2 := by decide +kernel
theorem d7_14 : dQ b7_ 14 (.putfield 15) 3 := by decide +kernel
theorem d7_17 : dQ b7_ 17 (.aload_n 0) 1 := by decide +kernel
theorem d7_18 : dQ b7_ 18 (.iconst 0) 1 := by decide +kernel
theorem d7_19 : dQ b7_ 19 (.putfield 22) 3 := by decide +kernel
theorem d7_22 : dQ b7_ 22 (.goto 16) 3 := by decide +kernel
theorem d7_38 : dQ b7_ 38 .return_ 1 := by decide +kernel
theorem d8_0 : dQ b8_ 0 (.aload_n 0) 1 := by decide +kernel
theorem d8_1 : dQ b8_ 1 (.getfield 48) 3 := by decide +kernel
theorem d8_4 : dQ b8_ 4 .ireturn 1 := by decide +kernel
theorem d9_0 : dQ b9_ 0 (.aload_n 0) 1 := by decide +kernel
theorem d9_1 : dQ b9_ 1 (.getfield 48) 3 := by decide +kernel
theorem d9_4 : dQ b9_ 4 (.ifCond .ne 7) 3 := by decide +kernel
theorem d9_7 : dQ b9_ 7 (.iconst 1) 1 := by decide +kernel
theorem d9_8 : dQ b9_ 8 (.goto 4) 3 := by decide +kernel
theorem d9_11 : dQ b9_ 11 (.iconst 0) 1 := by decide +kernel
theorem d9_12 : dQ b9_ 12 .ireturn 1 := by decide +kernel
theorem d10_0 : dQ b10_ 0 (.new 18) 3 := by decide +kernel
theorem d10_3 : dQ b10_ 3 .dup 1 := by decide +kernel
theorem d10_4 : dQ b10_ 4 (.aload_n 0) 1 := by decide +kernel
theorem d10_5 : dQ b10_ 5 (.invokespecial 137) 3 := by decide +kernel
theorem d10_8 : dQ b10_ 8 .areturn 1 := by decide +kernel
theorem d11_0 : dQ b11_ 0 (.aload_n 0) 1 := by decide +kernel
theorem d11_1 : dQ b11_ 1 (.aload_n 1) 1 := by decide +kernel
theorem d11_2 : dQ b11_ 2 .aconst_null 1 := by decide +kernel
theorem d11_3 : dQ b11_ 3 (.invokespecial 489) 3 := by decide +kernel
theorem d11_6 : dQ b11_ 6 .return_ 1 := by decide +kernel
theorem d12_0 : dQ b12_ 0 (.aload_n 0) 1 := by decide +kernel
theorem d12_1 : dQ b12_ 1 (.invokespecial 1) 3 := by decide +kernel
theorem d12_4 : dQ b12_ 4 (.aload_n 1) 1 := by decide +kernel
theorem d12_5 : dQ b12_ 5 (.invokevirtual 552) 3 := by decide +kernel
theorem d12_8 : dQ b12_ 8 (.astore_n 3) 1 := by decide +kernel
theorem d12_9 : dQ b12_ 9 (.aload_n 1) 1 := by decide +kernel
theorem d12_10 : dQ b12_ 10 (.invokevirtual 549) 3 := by decide +kernel
theorem d12_13 : dQ b12_ 13 (.istore 4) 2 := by decide +kernel
theorem d12_15 : dQ b12_ 15 (.aload_n 1) 1 := by decide +kernel
theorem d12_16 : dQ b12_ 16 (.invokevirtual 1047) 3 := by decide +kernel
theorem d12_19 : dQ b12_ 19 (.ifCond .eq 22) 3 := by decide +kernel
theorem d12_22 : dQ b12_ 22 (.aload_n 0) 1 := by decide +kernel
theorem d12_23 : dQ b12_ 23 (.iconst 0) 1 := by decide +kernel
theorem d12_24 : dQ b12_ 24 (.putfield 15) 3 := by decide +kernel
theorem d12_27 : dQ b12_ 27 (.aload_n 0) 1 := by decide +kernel
theorem d12_28 : dQ b12_ 28 (.aload_n 3) 1 := by decide +kernel
theorem d12_29 : dQ b12_ 29 (.iconst 0) 1 := by decide +kernel
theorem d12_30 : dQ b12_ 30 (.iload 4) 2 := by decide +kernel
theorem d12_32 : dQ b12_ 32 (.invokestatic 54) 3 := by decide +kernel
theorem d12_35 : dQ b12_ 35 (.putfield 9) 3 := by decide +kernel
theorem d12_38 : dQ b12_ 38 (.goto 59) 3 := by decide +kernel
theorem d12_97 : dQ b12_ 97 .return_ 1 := by decide +kernel
theorem d13_0 : dQ b13_ 0 (.aload_n 0) 1 := by decide +kernel
theorem d13_1 : dQ b13_ 1 (.getfield 15) 3 := by decide +kernel
theorem d13_4 : dQ b13_ 4 .areturn 1 := by decide +kernel
theorem d14_0 : dQ b14_ 0 (.aload_n 0) 1 := by decide +kernel
theorem d14_1 : dQ b14_ 1 (.invokespecial 343) 3 := by decide +kernel
theorem d14_4 : dQ b14_ 4 .ireturn 1 := by decide +kernel
theorem d15_0 : dQ b15_ 0 (.aload_n 0) 1 := by decide +kernel
theorem d15_1 : dQ b15_ 1 (.getfield 79) 3 := by decide +kernel
theorem d15_4 : dQ b15_ 4 .ireturn 1 := by decide +kernel
theorem d16_0 : dQ b16_ 0 (.getstatic 18) 3 := by decide +kernel
theorem d16_3 : dQ b16_ 3 (.ifCond .eq 14) 3 := by decide +kernel
theorem d16_6 : dQ b16_ 6 (.aload_n 0) 1 := by decide +kernel
theorem d16_7 : dQ b16_ 7 (.getfield 22) 3 := by decide +kernel
theorem d16_10 : dQ b16_ 10 (.ifCond .ne 7) 3 := by decide +kernel
theorem d16_13 : dQ b16_ 13 (.iconst 1) 1 := by decide +kernel
theorem d16_14 : dQ b16_ 14 (.goto 4) 3 := by decide +kernel
theorem d16_18 : dQ b16_ 18 .ireturn 1 := by decide +kernel
theorem d17_0 : dQ b17_ 0 (.iload_n 1) 1 := by decide +kernel
theorem d17_1 : dQ b17_ 1 (.ifCond .ne 9) 3 := by decide +kernel
theorem d17_4 : dQ b17_ 4 (.iload_n 2) 1 := by decide +kernel
theorem d17_5 : dQ b17_ 5 (.aload_n 0) 1 := by decide +kernel
theorem d17_6 : dQ b17_ 6 .arraylength 1 := by decide +kernel
theorem d17_7 : dQ b17_ 7 (.if_icmp .eq 10) 3 := by decide +kernel
theorem d17_10 : dQ b17_ 10 (.aload_n 0) 1 := by decide +kernel
theorem d17_11 : dQ b17_ 11 (.iload_n 1) 1 := by decide +kernel
theorem d17_12 : dQ b17_ 12 (.iload_n 2) 1 := by decide +kernel
theorem d17_13 : dQ b17_ 13 (.invokestatic 339) 3 := by decide +kernel
theorem d17_16 : dQ b17_ 16 .areturn 1 := by decide +kernel
theorem d17_17 : dQ b17_ 17 (.aload_n 0) 1 := by decide +kernel
theorem d17_18 : dQ b17_ 18 (.invokevirtual 310) 3 := by decide +kernel
theorem d17_21 : dQ b17_ 21 (.checkcast 311) 3 := by decide +kernel
theorem d17_24 : dQ b17_ 24 .areturn 1 := by decide +kernel
theorem d18_0 : dQ b18_ 0 (.iload_n 1) 1 := by decide +kernel
theorem d18_1 : dQ b18_ 1 (.iload_n 2) 1 := by decide +kernel
theorem d18_2 : dQ b18_ 2 (.invokestatic 343) 3 := by decide +kernel
theorem d18_5 : dQ b18_ 5 (.iload_n 2) 1 := by decide +kernel
theorem d18_6 : dQ b18_ 6 (.iload_n 1) 1 := by decide +kernel
theorem d18_7 : dQ b18_ 7 .isub 1 := by decide +kernel
theorem d18_8 : dQ b18_ 8 (.istore_n 3) 1 := by decide +kernel
theorem d18_9 : dQ b18_ 9 (.iload_n 3) 1 := by decide +kernel
theorem d18_10 : dQ b18_ 10 (.newarray .byte) 2 := by decide +kernel
theorem d18_12 : dQ b18_ 12 (.astore 4) 2 := by decide +kernel
theorem d18_14 : dQ b18_ 14 (.aload_n 0) 1 := by decide +kernel
theorem d18_15 : dQ b18_ 15 (.iload_n 1) 1 := by decide +kernel
theorem d18_16 : dQ b18_ 16 (.aload 4) 2 := by decide +kernel
theorem d18_18 : dQ b18_ 18 (.iconst 0) 1 := by decide +kernel
theorem d18_19 : dQ b18_ 19 (.aload_n 0) 1 := by decide +kernel
theorem d18_20 : dQ b18_ 20 .arraylength 1 := by decide +kernel
theorem d18_21 : dQ b18_ 21 (.iload_n 1) 1 := by decide +kernel
theorem d18_22 : dQ b18_ 22 .isub 1 := by decide +kernel
theorem d18_23 : dQ b18_ 23 (.iload_n 3) 1 := by decide +kernel
theorem d18_24 : dQ b18_ 24 (.invokestatic 304) 3 := by decide +kernel
theorem d18_27 : dQ b18_ 27 (.invokestatic 150) 3 := by decide +kernel
theorem d18_30 : dQ b18_ 30 (.aload 4) 2 := by decide +kernel
theorem d18_32 : dQ b18_ 32 .areturn 1 := by decide +kernel
theorem d19_0 : dQ b19_ 0 (.iload_n 1) 1 := by decide +kernel
theorem d19_1 : dQ b19_ 1 (.iload_n 0) 1 := by decide +kernel
theorem d19_2 : dQ b19_ 2 (.if_icmp .ge 35) 3 := by decide +kernel
theorem d19_37 : dQ b19_ 37 .return_ 1 := by decide +kernel
theorem d20_0 : dQ b20_ 0 (.iload_n 0) 1 := by decide +kernel
theorem d20_1 : dQ b20_ 1 (.iload_n 1) 1 := by decide +kernel
theorem d20_2 : dQ b20_ 2 (.if_icmp .gt 7) 3 := by decide +kernel
theorem d20_5 : dQ b20_ 5 (.iload_n 0) 1 := by decide +kernel
theorem d20_6 : dQ b20_ 6 (.goto 4) 3 := by decide +kernel
theorem d20_9 : dQ b20_ 9 (.iload_n 1) 1 := by decide +kernel
theorem d20_10 : dQ b20_ 10 .ireturn 1 := by decide +kernel
theorem d21_0 : dQ b21_ 0 (.aload_n 0) 1 := by decide +kernel
theorem d21_1 : dQ b21_ 1 (.getfield 9) 3 := by decide +kernel
theorem d21_4 : dQ b21_ 4 .arraylength 1 := by decide +kernel
theorem d21_5 : dQ b21_ 5 (.aload_n 0) 1 := by decide +kernel
theorem d21_6 : dQ b21_ 6 (.invokevirtual 335) 3 := by decide +kernel
theorem d21_9 : dQ b21_ 9 .ishr 1 := by decide +kernel
theorem d21_10 : dQ b21_ 10 .ireturn 1 := by decide +kernel
theorem d22_0 : dQ b22_ 0 (.getstatic 38) 3 := by decide +kernel
theorem d22_3 : dQ b22_ 3 (.ifCond .eq 10) 3 := by decide +kernel
theorem d22_6 : dQ b22_ 6 (.aload_n 0) 1 := by decide +kernel
theorem d22_7 : dQ b22_ 7 (.getfield 15) 3 := by decide +kernel
theorem d22_10 : dQ b22_ 10 (.goto 4) 3 := by decide +kernel
theorem d22_14 : dQ b22_ 14 .ireturn 1 := by decide +kernel
theorem d23_0 : dQ b23_ 0 (.iload_n 2) 1 := by decide +kernel
theorem d23_1 : dQ b23_ 1 (.aload_n 0) 1 := by decide +kernel
theorem d23_2 : dQ b23_ 2 (.invokevirtual 38) 3 := by decide +kernel
theorem d23_5 : dQ b23_ 5 (.if_icmp .ge 14) 3 := by decide +kernel
theorem d23_8 : dQ b23_ 8 (.aload_n 0) 1 := by decide +kernel
theorem d23_9 : dQ b23_ 9 (.iload_n 2) 1 := by decide +kernel
theorem d23_10 : dQ b23_ 10 (.invokevirtual 59) 3 := by decide +kernel
theorem d23_13 : dQ b23_ 13 (.aload_n 1) 1 := by decide +kernel
theorem d23_14 : dQ b23_ 14 (.iload_n 2) 1 := by decide +kernel
theorem d23_15 : dQ b23_ 15 .caload 1 := by decide +kernel
theorem d23_16 : dQ b23_ 16 (.if_icmp .ne 7) 3 := by decide +kernel
theorem d23_19 : dQ b23_ 19 (.iconst 1) 1 := by decide +kernel
theorem d23_20 : dQ b23_ 20 (.goto 4) 3 := by decide +kernel
theorem d23_24 : dQ b23_ 24 .ireturn 1 := by decide +kernel
theorem d24_0 : dQ b24_ 0 (.getstatic 38) 3 := by decide +kernel
theorem d24_3 : dQ b24_ 3 (.ifCond .eq 23) 3 := by decide +kernel
theorem d24_6 : dQ b24_ 6 (.iload_n 0) 1 := by decide +kernel
theorem d24_7 : dQ b24_ 7 (.invokestatic 1015) 3 := by decide +kernel
theorem d24_10 : dQ b24_ 10 (.ifCond .eq 16) 3 := by decide +kernel
theorem d24_13 : dQ b24_ 13 (.new 10) 3 := by decide +kernel
theorem d24_16 : dQ b24_ 16 .dup 1 := by decide +kernel
theorem d24_17 : dQ b24_ 17 (.iload_n 0) 1 := by decide +kernel
theorem d24_18 : dQ b24_ 18 (.invokestatic 1018) 3 := by decide +kernel
theorem d24_21 : dQ b24_ 21 (.iconst 0) 1 := by decide +kernel
theorem d24_22 : dQ b24_ 22 (.invokespecial 209) 3 := by decide +kernel
theorem d24_25 : dQ b24_ 25 .areturn 1 := by decide +kernel
theorem d25_0 : dQ b25_ 0 (.iload_n 0) 1 := by decide +kernel
theorem d25_1 : dQ b25_ 1 (.sipush 255) 3 := by decide +kernel
theorem d25_4 : dQ b25_ 4 (.if_icmp .gt 7) 3 := by decide +kernel
theorem d25_7 : dQ b25_ 7 (.iconst 1) 1 := by decide +kernel
theorem d25_8 : dQ b25_ 8 (.goto 4) 3 := by decide +kernel
theorem d25_12 : dQ b25_ 12 .ireturn 1 := by decide +kernel
theorem d26_0 : dQ b26_ 0 (.iconst 1) 1 := by decide +kernel
theorem d26_1 : dQ b26_ 1 (.newarray .byte) 2 := by decide +kernel
theorem d26_3 : dQ b26_ 3 .dup 1 := by decide +kernel
theorem d26_4 : dQ b26_ 4 (.iconst 0) 1 := by decide +kernel
theorem d26_5 : dQ b26_ 5 (.iload_n 0) 1 := by decide +kernel
theorem d26_6 : dQ b26_ 6 .i2b 1 := by decide +kernel
theorem d26_7 : dQ b26_ 7 .bastore 1 := by decide +kernel
theorem d26_8 : dQ b26_ 8 .areturn 1 := by decide +kernel
theorem d27_0 : dQ b27_ 0 (.aload_n 0) 1 := by decide +kernel
theorem d27_1 : dQ b27_ 1 (.invokespecial 1) 3 := by decide +kernel
theorem d27_4 : dQ b27_ 4 (.aload_n 0) 1 := by decide +kernel
theorem d27_5 : dQ b27_ 5 (.aload_n 1) 1 := by decide +kernel
theorem d27_6 : dQ b27_ 6 (.putfield 9) 3 := by decide +kernel
theorem d27_9 : dQ b27_ 9 (.aload_n 0) 1 := by decide +kernel
theorem d27_10 : dQ b27_ 10 (.iload_n 2) 1 := by decide +kernel
theorem d27_11 : dQ b27_ 11 (.putfield 15) 3 := by decide +kernel
theorem d27_14 : dQ b27_ 14 .return_ 1 := by decide +kernel
theorem d28_0 : dQ b28_ 0 (.aload_n 0) 1 := by decide +kernel
theorem d28_1 : dQ b28_ 1 .dup 1 := by decide +kernel
theorem d28_2 : dQ b28_ 2 (.getfield 63) 3 := by decide +kernel
theorem d28_5 : dQ b28_ 5 (.iconst 1) 1 := by decide +kernel
theorem d28_6 : dQ b28_ 6 .iadd 1 := by decide +kernel
theorem d28_7 : dQ b28_ 7 (.putfield 63) 3 := by decide +kernel
theorem d28_10 : dQ b28_ 10 (.aload_n 0) 1 := by decide +kernel
theorem d28_11 : dQ b28_ 11 (.aload_n 1) 1 := by decide +kernel
theorem d28_12 : dQ b28_ 12 (.aload_n 0) 1 := by decide +kernel
theorem d28_13 : dQ b28_ 13 (.getfield 9) 3 := by decide +kernel
theorem d28_16 : dQ b28_ 16 (.aload_n 0) 1 := by decide +kernel
theorem d28_17 : dQ b28_ 17 (.getfield 48) 3 := by decide +kernel
theorem d28_20 : dQ b28_ 20 (.invokevirtual 131) 3 := by decide +kernel
theorem d28_23 : dQ b28_ 23 (.iconst 1) 1 := by decide +kernel
theorem d28_24 : dQ b28_ 24 .ireturn 1 := by decide +kernel
theorem d29_0 : dQ b29_ 0 (.iload_n 3) 1 := by decide +kernel
theorem d29_1 : dQ b29_ 1 (.aload_n 2) 1 := by decide +kernel
theorem d29_2 : dQ b29_ 2 .arraylength 1 := by decide +kernel
theorem d29_3 : dQ b29_ 3 (.if_icmp .ne 8) 3 := by decide +kernel
theorem d29_6 : dQ b29_ 6 (.aload_n 0) 1 := by decide +kernel
theorem d29_7 : dQ b29_ 7 (.invokevirtual 129) 3 := by decide +kernel
theorem d29_10 : dQ b29_ 10 (.astore_n 2) 1 := by decide +kernel
theorem d29_11 : dQ b29_ 11 (.aload_n 2) 1 := by decide +kernel
theorem d29_12 : dQ b29_ 12 (.iload_n 3) 1 := by decide +kernel
theorem d29_13 : dQ b29_ 13 (.aload_n 1) 1 := by decide +kernel
theorem d29_14 : dQ b29_ 14 .aastore 1 := by decide +kernel
theorem d29_15 : dQ b29_ 15 (.aload_n 0) 1 := by decide +kernel
theorem d29_16 : dQ b29_ 16 (.iload_n 3) 1 := by decide +kernel
theorem d29_17 : dQ b29_ 17 (.iconst 1) 1 := by decide +kernel
theorem d29_18 : dQ b29_ 18 .iadd 1 := by decide +kernel
theorem d29_19 : dQ b29_ 19 (.putfield 48) 3 := by decide +kernel
theorem d29_22 : dQ b29_ 22 .return_ 1 := by decide +kernel
theorem d30_0 : dQ b30_ 0 (.aload_n 0) 1 := by decide +kernel
theorem d30_1 : dQ b30_ 1 (.aload_n 0) 1 := by decide +kernel
theorem d30_2 : dQ b30_ 2 (.getfield 48) 3 := by decide +kernel
theorem d30_5 : dQ b30_ 5 (.iconst 1) 1 := by decide +kernel
theorem d30_6 : dQ b30_ 6 .iadd 1 := by decide +kernel
theorem d30_7 : dQ b30_ 7 (.invokevirtual 69) 3 := by decide +kernel
theorem d30_10 : dQ b30_ 10 .areturn 1 := by decide +kernel
theorem d31_0 : dQ b31_ 0 (.aload_n 0) 1 := by decide +kernel
theorem d31_1 : dQ b31_ 1 (.getfield 9) 3 := by decide +kernel
theorem d31_4 : dQ b31_ 4 .arraylength 1 := by decide +kernel
theorem d31_5 : dQ b31_ 5 (.istore_n 2) 1 := by decide +kernel
theorem d31_6 : dQ b31_ 6 (.iload_n 2) 1 := by decide +kernel
theorem d31_7 : dQ b31_ 7 (.ifCond .gt 13) 3 := by decide +kernel
theorem d31_10 : dQ b31_ 10 (.aload_n 0) 1 := by decide +kernel
theorem d31_11 : dQ b31_ 11 (.getfield 9) 3 := by decide +kernel
theorem d31_14 : dQ b31_ 14 (.getstatic 39) 3 := by decide +kernel
theorem d31_17 : dQ b31_ 17 (.if_acmp .eq 28) 3 := by decide +kernel
theorem d31_45 : dQ b31_ 45 (.aload_n 0) 1 := by decide +kernel
theorem d31_46 : dQ b31_ 46 (.bipush 10) 2 := by decide +kernel
theorem d31_48 : dQ b31_ 48 (.iload_n 1) 1 := by decide +kernel
theorem d31_49 : dQ b31_ 49 (.invokestatic 79) 3 := by decide +kernel
theorem d31_52 : dQ b31_ 52 (.anewarray 7) 3 := by decide +kernel
theorem d31_55 : dQ b31_ 55 .dup_x1 1 := by decide +kernel
theorem d31_56 : dQ b31_ 56 (.putfield 9) 3 := by decide +kernel
theorem d31_59 : dQ b31_ 59 .areturn 1 := by decide +kernel
theorem d32_0 : dQ b32_ 0 (.iload_n 0) 1 := by decide +kernel
theorem d32_1 : dQ b32_ 1 (.iload_n 1) 1 := by decide +kernel
theorem d32_2 : dQ b32_ 2 (.if_icmp .lt 7) 3 := by decide +kernel
theorem d32_5 : dQ b32_ 5 (.iload_n 0) 1 := by decide +kernel
theorem d32_6 : dQ b32_ 6 (.goto 4) 3 := by decide +kernel
theorem d32_9 : dQ b32_ 9 (.iload_n 1) 1 := by decide +kernel
theorem d32_10 : dQ b32_ 10 .ireturn 1 := by decide +kernel
theorem d33_0 : dQ b33_ 0 (.iload_n 0) 1 := by decide +kernel
theorem d33_1 : dQ b33_ 1 (.iconst 3) 1 := by decide +kernel
theorem d33_2 : dQ b33_ 2 .iand 1 := by decide +kernel
theorem d33_3 : dQ b33_ 3 (.iconst 3) 1 := by decide +kernel
theorem d33_4 : dQ b33_ 4 .irem 1 := by decide +kernel
theorem d33_5 : dQ b33_ 5 (.istore_n 1) 1 := by decide +kernel
theorem d33_6 : dQ b33_ 6 (.iload_n 1) 1 := by decide +kernel
theorem d33_7 : dQ b33_ 7 (.ifCond .ne 6) 3 := by decide +kernel
theorem d33_10 : dQ b33_ 10 (.ldc 46) 2 := by decide +kernel
theorem d33_12 : dQ b33_ 12 .areturn 1 := by decide +kernel
theorem d33_13 : dQ b33_ 13 (.iload_n 1) 1 := by decide +kernel
theorem d33_14 : dQ b33_ 14 (.iconst 1) 1 := by decide +kernel
theorem d33_15 : dQ b33_ 15 (.if_icmp .ne 25) 3 := by decide +kernel
theorem d33_18 : dQ b33_ 18 (.iconst 1) 1 := by decide +kernel
theorem d33_19 : dQ b33_ 19 (.newarray .char) 2 := by decide +kernel
theorem d33_21 : dQ b33_ 21 (.astore_n 2) 1 := by decide +kernel
theorem d33_22 : dQ b33_ 22 (.aload_n 2) 1 := by decide +kernel
theorem d33_23 : dQ b33_ 23 (.iconst 0) 1 := by decide +kernel
theorem d33_24 : dQ b33_ 24 (.iload_n 0) 1 := by decide +kernel
theorem d33_25 : dQ b33_ 25 (.iconst 2) 1 := by decide +kernel
theorem d33_26 : dQ b33_ 26 .iushr 1 := by decide +kernel
theorem d33_27 : dQ b33_ 27 (.invokestatic 48) 3 := by decide +kernel
theorem d33_30 : dQ b33_ 30 .castore 1 := by decide +kernel
theorem d33_31 : dQ b33_ 31 (.new 11) 3 := by decide +kernel
theorem d33_34 : dQ b33_ 34 .dup 1 := by decide +kernel
theorem d33_35 : dQ b33_ 35 (.aload_n 2) 1 := by decide +kernel
theorem d33_36 : dQ b33_ 36 (.invokespecial 52) 3 := by decide +kernel
theorem d33_39 : dQ b33_ 39 .areturn 1 := by decide +kernel
theorem d33_40 : dQ b33_ 40 (.iconst 2) 1 := by decide +kernel
theorem d33_41 : dQ b33_ 41 (.newarray .char) 2 := by decide +kernel
theorem d33_43 : dQ b33_ 43 (.astore_n 2) 1 := by decide +kernel
theorem d33_44 : dQ b33_ 44 (.aload_n 2) 1 := by decide +kernel
theorem d33_45 : dQ b33_ 45 (.iconst 0) 1 := by decide +kernel
theorem d33_46 : dQ b33_ 46 (.iload_n 0) 1 := by decide +kernel
theorem d33_47 : dQ b33_ 47 (.iconst 2) 1 := by decide +kernel
theorem d33_48 : dQ b33_ 48 .iushr 1 := by decide +kernel
theorem d33_49 : dQ b33_ 49 (.invokestatic 48) 3 := by decide +kernel
theorem d33_52 : dQ b33_ 52 .castore 1 := by decide +kernel
theorem d33_53 : dQ b33_ 53 (.aload_n 2) 1 := by decide +kernel
theorem d33_54 : dQ b33_ 54 (.iconst 1) 1 := by decide +kernel
theorem d33_55 : dQ b33_ 55 (.iload_n 0) 1 := by decide +kernel
theorem d33_56 : dQ b33_ 56 (.bipush 12) 2 := by decide +kernel
theorem d33_58 : dQ b33_ 58 .iushr 1 := by decide +kernel
theorem d33_59 : dQ b33_ 59 (.invokestatic 48) 3 := by decide +kernel
theorem d33_62 : dQ b33_ 62 .castore 1 := by decide +kernel
theorem d33_63 : dQ b33_ 63 (.new 11) 3 := by decide +kernel
theorem d33_66 : dQ b33_ 66 .dup 1 := by decide +kernel
theorem d33_67 : dQ b33_ 67 (.aload_n 2) 1 := by decide +kernel
theorem d33_68 : dQ b33_ 68 (.invokespecial 52) 3 := by decide +kernel
theorem d33_71 : dQ b33_ 71 .areturn 1 := by decide +kernel
theorem d34_0 : dQ b34_ 0 (.iload_n 0) 1 := by decide +kernel
theorem d34_1 : dQ b34_ 1 (.iconst 3) 1 := by decide +kernel
theorem d34_2 : dQ b34_ 2 .iand 1 := by decide +kernel
theorem d34_3 : dQ b34_ 3 (.istore_n 1) 1 := by decide +kernel
theorem d34_4 : dQ b34_ 4 (.iload_n 1) 1 := by decide +kernel
theorem d34_5 : dQ b34_ 5 (.ifCond .ne 6) 3 := by decide +kernel
theorem d34_8 : dQ b34_ 8 (.bipush 92) 2 := by decide +kernel
theorem d34_10 : dQ b34_ 10 .ireturn 1 := by decide +kernel
theorem d34_11 : dQ b34_ 11 (.iload_n 1) 1 := by decide +kernel
theorem d34_12 : dQ b34_ 12 (.iconst 1) 1 := by decide +kernel
theorem d34_13 : dQ b34_ 13 (.if_icmp .ne 6) 3 := by decide +kernel
theorem d34_16 : dQ b34_ 16 (.bipush 10) 2 := by decide +kernel
theorem d34_18 : dQ b34_ 18 .ireturn 1 := by decide +kernel
theorem d34_19 : dQ b34_ 19 (.iload_n 1) 1 := by decide +kernel
theorem d34_20 : dQ b34_ 20 (.iconst 2) 1 := by decide +kernel
theorem d34_21 : dQ b34_ 21 (.if_icmp .ne 6) 3 := by decide +kernel
theorem d34_24 : dQ b34_ 24 (.bipush 34) 2 := by decide +kernel
theorem d34_26 : dQ b34_ 26 .ireturn 1 := by decide +kernel
theorem d34_27 : dQ b34_ 27 (.iload_n 0) 1 := by decide +kernel
theorem d34_28 : dQ b34_ 28 (.iconst 2) 1 := by decide +kernel
theorem d34_29 : dQ b34_ 29 .iushr 1 := by decide +kernel
theorem d34_30 : dQ b34_ 30 (.sipush 255) 3 := by decide +kernel
theorem d34_33 : dQ b34_ 33 .iand 1 := by decide +kernel
theorem d34_34 : dQ b34_ 34 .i2c 1 := by decide +kernel
theorem d34_35 : dQ b34_ 35 .ireturn 1 := by decide +kernel
theorem d35_0 : dQ b35_ 0 (.aload_n 0) 1 := by decide +kernel
theorem d35_1 : dQ b35_ 1 (.aload_n 1) 1 := by decide +kernel
theorem d35_2 : dQ b35_ 2 (.iconst 0) 1 := by decide +kernel
theorem d35_3 : dQ b35_ 3 (.aload_n 1) 1 := by decide +kernel
theorem d35_4 : dQ b35_ 4 .arraylength 1 := by decide +kernel
theorem d35_5 : dQ b35_ 5 .aconst_null 1 := by decide +kernel
theorem d35_6 : dQ b35_ 6 (.invokespecial 27) 3 := by decide +kernel
theorem d35_9 : dQ b35_ 9 .return_ 1 := by decide +kernel
theorem d36_0 : dQ b36_ 0 (.aload_n 0) 1 := by decide +kernel
theorem d36_1 : dQ b36_ 1 (.invokespecial 1) 3 := by decide +kernel
theorem d36_4 : dQ b36_ 4 (.iload_n 3) 1 := by decide +kernel
theorem d36_5 : dQ b36_ 5 (.ifCond .ne 22) 3 := by decide +kernel
theorem d36_27 : dQ b36_ 27 (.getstatic 38) 3 := by decide +kernel
theorem d36_30 : dQ b36_ 30 (.ifCond .eq 28) 3 := by decide +kernel
theorem d36_33 : dQ b36_ 33 (.aload_n 1) 1 := by decide +kernel
theorem d36_34 : dQ b36_ 34 (.iload_n 2) 1 := by decide +kernel
theorem d36_35 : dQ b36_ 35 (.iload_n 3) 1 := by decide +kernel
theorem d36_36 : dQ b36_ 36 (.invokestatic 177) 3 := by decide +kernel
theorem d36_39 : dQ b36_ 39 (.astore 5) 2 := by decide +kernel
theorem d36_41 : dQ b36_ 41 (.aload_n 0) 1 := by decide +kernel
theorem d36_42 : dQ b36_ 42 (.aload 5) 2 := by decide +kernel
theorem d36_44 : dQ b36_ 44 (.iload_n 3) 1 := by decide +kernel
theorem d36_45 : dQ b36_ 45 (.invokestatic 47) 3 := by decide +kernel
theorem d36_48 : dQ b36_ 48 (.putfield 15) 3 := by decide +kernel
theorem d36_51 : dQ b36_ 51 (.aload_n 0) 1 := by decide +kernel
theorem d36_52 : dQ b36_ 52 (.aload 5) 2 := by decide +kernel
theorem d36_54 : dQ b36_ 54 (.putfield 9) 3 := by decide +kernel
theorem d36_57 : dQ b36_ 57 .return_ 1 := by decide +kernel
theorem d37_0 : dQ b37_ 0 (.iload_n 2) 1 := by decide +kernel
theorem d37_1 : dQ b37_ 1 (.newarray .byte) 2 := by decide +kernel
theorem d37_3 : dQ b37_ 3 (.astore_n 3) 1 := by decide +kernel
theorem d37_4 : dQ b37_ 4 (.aload_n 0) 1 := by decide +kernel
theorem d37_5 : dQ b37_ 5 (.iload_n 1) 1 := by decide +kernel
theorem d37_6 : dQ b37_ 6 (.aload_n 3) 1 := by decide +kernel
theorem d37_7 : dQ b37_ 7 (.iconst 0) 1 := by decide +kernel
theorem d37_8 : dQ b37_ 8 (.iload_n 2) 1 := by decide +kernel
theorem d37_9 : dQ b37_ 9 (.invokestatic 115) 3 := by decide +kernel
theorem d37_12 : dQ b37_ 12 (.istore 4) 2 := by decide +kernel
theorem d37_14 : dQ b37_ 14 (.iload 4) 2 := by decide +kernel
theorem d37_16 : dQ b37_ 16 (.iload_n 2) 1 := by decide +kernel
theorem d37_17 : dQ b37_ 17 (.if_icmp .eq 40) 3 := by decide +kernel
theorem d37_57 : dQ b37_ 57 (.aload_n 3) 1 := by decide +kernel
theorem d37_58 : dQ b37_ 58 .areturn 1 := by decide +kernel
theorem d38_0 : dQ b38_ 0 (.iconst 0) 1 := by decide +kernel
theorem d38_1 : dQ b38_ 1 (.istore 5) 2 := by decide +kernel
theorem d38_3 : dQ b38_ 3 (.iload 5) 2 := by decide +kernel
theorem d38_5 : dQ b38_ 5 (.iload 4) 2 := by decide +kernel
theorem d38_7 : dQ b38_ 7 (.if_icmp .ge 37) 3 := by decide +kernel
theorem d38_10 : dQ b38_ 10 (.aload_n 0) 1 := by decide +kernel
theorem d38_11 : dQ b38_ 11 (.iload_n 1) 1 := by decide +kernel
theorem d38_12 : dQ b38_ 12 .caload 1 := by decide +kernel
theorem d38_13 : dQ b38_ 13 (.istore 6) 2 := by decide +kernel
theorem d38_15 : dQ b38_ 15 (.iload 6) 2 := by decide +kernel
theorem d38_17 : dQ b38_ 17 (.sipush 255) 3 := by decide +kernel
theorem d38_20 : dQ b38_ 20 (.if_icmp .le 6) 3 := by decide +kernel
theorem d38_26 : dQ b38_ 26 (.aload_n 2) 1 := by decide +kernel
theorem d38_27 : dQ b38_ 27 (.iload_n 3) 1 := by decide +kernel
theorem d38_28 : dQ b38_ 28 (.iload 6) 2 := by decide +kernel
theorem d38_30 : dQ b38_ 30 .i2b 1 := by decide +kernel
theorem d38_31 : dQ b38_ 31 .bastore 1 := by decide +kernel
theorem d38_32 : dQ b38_ 32 (.iinc 1 1) 3 := by decide +kernel
theorem d38_35 : dQ b38_ 35 (.iinc 3 1) 3 := by decide +kernel
theorem d38_38 : dQ b38_ 38 (.iinc 5 1) 3 := by decide +kernel
theorem d38_41 : dQ b38_ 41 (.goto (-38)) 3 := by decide +kernel
theorem d38_44 : dQ b38_ 44 (.iload 4) 2 := by decide +kernel
theorem d38_46 : dQ b38_ 46 .ireturn 1 := by decide +kernel
theorem d39_0 : dQ b39_ 0 (.iload_n 1) 1 := by decide +kernel
theorem d39_1 : dQ b39_ 1 (.aload_n 0) 1 := by decide +kernel
theorem d39_2 : dQ b39_ 2 .arraylength 1 := by decide +kernel
theorem d39_3 : dQ b39_ 3 .isub 1 := by decide +kernel
theorem d39_4 : dQ b39_ 4 (.bipush 31) 2 := by decide +kernel
theorem d39_6 : dQ b39_ 6 .iushr 1 := by decide +kernel
theorem d39_7 : dQ b39_ 7 .i2b 1 := by decide +kernel
theorem d39_8 : dQ b39_ 8 .ireturn 1 := by decide +kernel
theorem d40_0 : dQ b40_ 0 (.aload_n 0) 1 := by decide +kernel
theorem d40_1 : dQ b40_ 1 (.iload_n 1) 1 := by decide +kernel
theorem d40_2 : dQ b40_ 2 (.invokespecial 50) 3 := by decide +kernel
theorem d40_5 : dQ b40_ 5 .pop 1 := by decide +kernel
theorem d40_6 : dQ b40_ 6 (.aload_n 0) 1 := by decide +kernel
theorem d40_7 : dQ b40_ 7 .areturn 1 := by decide +kernel
theorem d41_0 : dQ b41_ 0 (.aload_n 0) 1 := by decide +kernel
theorem d41_1 : dQ b41_ 1 (.aload_n 0) 1 := by decide +kernel
theorem d41_2 : dQ b41_ 2 (.getfield 79) 3 := by decide +kernel
theorem d41_5 : dQ b41_ 5 (.iconst 1) 1 := by decide +kernel
theorem d41_6 : dQ b41_ 6 .iadd 1 := by decide +kernel
theorem d41_7 : dQ b41_ 7 (.invokevirtual 100) 3 := by decide +kernel
theorem d41_10 : dQ b41_ 10 (.aload_n 0) 1 := by decide +kernel
theorem d41_11 : dQ b41_ 11 (.invokevirtual 83) 3 := by decide +kernel
theorem d41_14 : dQ b41_ 14 (.ifCond .eq 31) 3 := by decide +kernel
theorem d41_17 : dQ b41_ 17 (.iload_n 1) 1 := by decide +kernel
theorem d41_18 : dQ b41_ 18 (.invokestatic 191) 3 := by decide +kernel
theorem d41_21 : dQ b41_ 21 (.ifCond .eq 24) 3 := by decide +kernel
theorem d41_24 : dQ b41_ 24 (.aload_n 0) 1 := by decide +kernel
theorem d41_25 : dQ b41_ 25 (.getfield 15) 3 := by decide +kernel
theorem d41_28 : dQ b41_ 28 (.aload_n 0) 1 := by decide +kernel
theorem d41_29 : dQ b41_ 29 .dup 1 := by decide +kernel
theorem d41_30 : dQ b41_ 30 (.getfield 79) 3 := by decide +kernel
theorem d41_33 : dQ b41_ 33 .dup_x1 1 := by decide +kernel
theorem d41_34 : dQ b41_ 34 (.iconst 1) 1 := by decide +kernel
theorem d41_35 : dQ b41_ 35 .iadd 1 := by decide +kernel
theorem d41_36 : dQ b41_ 36 (.putfield 79) 3 := by decide +kernel
theorem d41_39 : dQ b41_ 39 (.iload_n 1) 1 := by decide +kernel
theorem d41_40 : dQ b41_ 40 .i2b 1 := by decide +kernel
theorem d41_41 : dQ b41_ 41 .bastore 1 := by decide +kernel
theorem d41_42 : dQ b41_ 42 (.goto 33) 3 := by decide +kernel
theorem d41_75 : dQ b41_ 75 (.aload_n 0) 1 := by decide +kernel
theorem d41_76 : dQ b41_ 76 .areturn 1 := by decide +kernel
theorem d42_0 : dQ b42_ 0 (.aload_n 0) 1 := by decide +kernel
theorem d42_1 : dQ b42_ 1 (.getfield 15) 3 := by decide +kernel
theorem d42_4 : dQ b42_ 4 .arraylength 1 := by decide +kernel
theorem d42_5 : dQ b42_ 5 (.aload_n 0) 1 := by decide +kernel
theorem d42_6 : dQ b42_ 6 (.getfield 22) 3 := by decide +kernel
theorem d42_9 : dQ b42_ 9 .ishr 1 := by decide +kernel
theorem d42_10 : dQ b42_ 10 (.istore_n 2) 1 := by decide +kernel
theorem d42_11 : dQ b42_ 11 (.iload_n 1) 1 := by decide +kernel
theorem d42_12 : dQ b42_ 12 (.iload_n 2) 1 := by decide +kernel
theorem d42_13 : dQ b42_ 13 .isub 1 := by decide +kernel
theorem d42_14 : dQ b42_ 14 (.ifCond .le 24) 3 := by decide +kernel
theorem d42_17 : dQ b42_ 17 (.aload_n 0) 1 := by decide +kernel
theorem d42_18 : dQ b42_ 18 (.aload_n 0) 1 := by decide +kernel
theorem d42_19 : dQ b42_ 19 (.getfield 15) 3 := by decide +kernel
theorem d42_22 : dQ b42_ 22 (.aload_n 0) 1 := by decide +kernel
theorem d42_23 : dQ b42_ 23 (.iload_n 1) 1 := by decide +kernel
theorem d42_24 : dQ b42_ 24 (.invokevirtual 104) 3 := by decide +kernel
theorem d42_27 : dQ b42_ 27 (.aload_n 0) 1 := by decide +kernel
theorem d42_28 : dQ b42_ 28 (.getfield 22) 3 := by decide +kernel
theorem d42_31 : dQ b42_ 31 .ishl 1 := by decide +kernel
theorem d42_32 : dQ b42_ 32 (.invokestatic 108) 3 := by decide +kernel
theorem d42_35 : dQ b42_ 35 (.putfield 15) 3 := by decide +kernel
theorem d42_38 : dQ b42_ 38 .return_ 1 := by decide +kernel
theorem d43_0 : dQ b43_ 0 (.iload_n 1) 1 := by decide +kernel
theorem d43_1 : dQ b43_ 1 (.aload_n 0) 1 := by decide +kernel
theorem d43_2 : dQ b43_ 2 (.getfield 48) 3 := by decide +kernel
theorem d43_5 : dQ b43_ 5 (.invokestatic 118) 3 := by decide +kernel
theorem d43_8 : dQ b43_ 8 .pop 1 := by decide +kernel
theorem d43_9 : dQ b43_ 9 (.aload_n 0) 1 := by decide +kernel
theorem d43_10 : dQ b43_ 10 (.iload_n 1) 1 := by decide +kernel
theorem d43_11 : dQ b43_ 11 (.invokevirtual 123) 3 := by decide +kernel
theorem d43_14 : dQ b43_ 14 .areturn 1 := by decide +kernel
theorem d44_0 : dQ b44_ 0 (.iload_n 0) 1 := by decide +kernel
theorem d44_1 : dQ b44_ 1 (.iload_n 1) 1 := by decide +kernel
theorem d44_2 : dQ b44_ 2 .aconst_null 1 := by decide +kernel
theorem d44_3 : dQ b44_ 3 (.invokestatic 105) 3 := by decide +kernel
theorem d44_6 : dQ b44_ 6 .ireturn 1 := by decide +kernel
theorem d45_0 : dQ b45_ 0 (.iload_n 0) 1 := by decide +kernel
theorem d45_1 : dQ b45_ 1 (.ifCond .lt 8) 3 := by decide +kernel
theorem d45_4 : dQ b45_ 4 (.iload_n 0) 1 := by decide +kernel
theorem d45_5 : dQ b45_ 5 (.iload_n 1) 1 := by decide +kernel
theorem d45_6 : dQ b45_ 6 (.if_icmp .lt 10) 3 := by decide +kernel
theorem d45_16 : dQ b45_ 16 (.iload_n 0) 1 := by decide +kernel
theorem d45_17 : dQ b45_ 17 .ireturn 1 := by decide +kernel
theorem d46_0 : dQ b46_ 0 (.aload_n 0) 1 := by decide +kernel
theorem d46_1 : dQ b46_ 1 (.getfield 9) 3 := by decide +kernel
theorem d46_4 : dQ b46_ 4 (.iload_n 1) 1 := by decide +kernel
theorem d46_5 : dQ b46_ 5 .aaload 1 := by decide +kernel
theorem d46_6 : dQ b46_ 6 .areturn 1 := by decide +kernel
theorem d47_0 : dQ b47_ 0 (.aload_n 0) 1 := by decide +kernel
theorem d47_1 : dQ b47_ 1 (.aload_n 1) 1 := by decide +kernel
theorem d47_2 : dQ b47_ 2 (.invokespecial 29) 3 := by decide +kernel
theorem d47_5 : dQ b47_ 5 .pop 1 := by decide +kernel
theorem d47_6 : dQ b47_ 6 (.aload_n 0) 1 := by decide +kernel
theorem d47_7 : dQ b47_ 7 .areturn 1 := by decide +kernel
theorem d48_0 : dQ b48_ 0 (.aload_n 1) 1 := by decide +kernel
theorem d48_1 : dQ b48_ 1 (.ifnonnull 8) 3 := by decide +kernel
theorem d48_9 : dQ b48_ 9 (.aload_n 1) 1 := by decide +kernel
theorem d48_10 : dQ b48_ 10 (.invokevirtual 32) 3 := by decide +kernel
theorem d48_13 : dQ b48_ 13 (.istore_n 2) 1 := by decide +kernel
theorem d48_14 : dQ b48_ 14 (.aload_n 0) 1 := by decide +kernel
theorem d48_15 : dQ b48_ 15 (.aload_n 0) 1 := by decide +kernel
theorem d48_16 : dQ b48_ 16 (.getfield 79) 3 := by decide +kernel
theorem d48_19 : dQ b48_ 19 (.iload_n 2) 1 := by decide +kernel
theorem d48_20 : dQ b48_ 20 .iadd 1 := by decide +kernel
theorem d48_21 : dQ b48_ 21 (.invokevirtual 100) 3 := by decide +kernel
theorem d48_24 : dQ b48_ 24 (.aload_n 0) 1 := by decide +kernel
theorem d48_25 : dQ b48_ 25 (.aload_n 0) 1 := by decide +kernel
theorem d48_26 : dQ b48_ 26 (.getfield 79) 3 := by decide +kernel
theorem d48_29 : dQ b48_ 29 (.aload_n 1) 1 := by decide +kernel
theorem d48_30 : dQ b48_ 30 (.invokevirtual 208) 3 := by decide +kernel
theorem d48_33 : dQ b48_ 33 (.aload_n 0) 1 := by decide +kernel
theorem d48_34 : dQ b48_ 34 .dup 1 := by decide +kernel
theorem d48_35 : dQ b48_ 35 (.getfield 79) 3 := by decide +kernel
theorem d48_38 : dQ b48_ 38 (.iload_n 2) 1 := by decide +kernel
theorem d48_39 : dQ b48_ 39 .iadd 1 := by decide +kernel
theorem d48_40 : dQ b48_ 40 (.putfield 79) 3 := by decide +kernel
theorem d48_43 : dQ b48_ 43 (.aload_n 0) 1 := by decide +kernel
theorem d48_44 : dQ b48_ 44 .areturn 1 := by decide +kernel
theorem d49_0 : dQ b49_ 0 (.aload_n 0) 1 := by decide +kernel
theorem d49_1 : dQ b49_ 1 (.aload_n 2) 1 := by decide +kernel
theorem d49_2 : dQ b49_ 2 (.invokevirtual 397) 3 := by decide +kernel
theorem d49_5 : dQ b49_ 5 (.aload_n 2) 1 := by decide +kernel
theorem d49_6 : dQ b49_ 6 (.aload_n 0) 1 := by decide +kernel
theorem d49_7 : dQ b49_ 7 (.getfield 15) 3 := by decide +kernel
theorem d49_10 : dQ b49_ 10 (.iload_n 1) 1 := by decide +kernel
theorem d49_11 : dQ b49_ 11 (.aload_n 0) 1 := by decide +kernel
theorem d49_12 : dQ b49_ 12 (.getfield 22) 3 := by decide +kernel
theorem d49_15 : dQ b49_ 15 (.invokevirtual 399) 3 := by decide +kernel
theorem d49_18 : dQ b49_ 18 .return_ 1 := by decide +kernel
theorem d50_0 : dQ b50_ 0 (.getstatic 18) 3 := by decide +kernel
theorem d50_3 : dQ b50_ 3 (.ifCond .eq 18) 3 := by decide +kernel
theorem d50_6 : dQ b50_ 6 (.aload_n 0) 1 := by decide +kernel
theorem d50_7 : dQ b50_ 7 (.getfield 22) 3 := by decide +kernel
theorem d50_10 : dQ b50_ 10 (.aload_n 1) 1 := by decide +kernel
theorem d50_11 : dQ b50_ 11 (.invokevirtual 40) 3 := by decide +kernel
theorem d50_14 : dQ b50_ 14 (.if_icmp .eq 7) 3 := by decide +kernel
theorem d50_21 : dQ b50_ 21 .return_ 1 := by decide +kernel
theorem d51_0 : dQ b51_ 0 (.aload_n 0) 1 := by decide +kernel
theorem d51_1 : dQ b51_ 1 (.invokevirtual 335) 3 := by decide +kernel
theorem d51_4 : dQ b51_ 4 (.iload_n 3) 1 := by decide +kernel
theorem d51_5 : dQ b51_ 5 (.if_icmp .ne 23) 3 := by decide +kernel
theorem d51_8 : dQ b51_ 8 (.aload_n 0) 1 := by decide +kernel
theorem d51_9 : dQ b51_ 9 (.getfield 9) 3 := by decide +kernel
theorem d51_12 : dQ b51_ 12 (.iconst 0) 1 := by decide +kernel
theorem d51_13 : dQ b51_ 13 (.aload_n 1) 1 := by decide +kernel
theorem d51_14 : dQ b51_ 14 (.iload_n 2) 1 := by decide +kernel
theorem d51_15 : dQ b51_ 15 (.iload_n 3) 1 := by decide +kernel
theorem d51_16 : dQ b51_ 16 .ishl 1 := by decide +kernel
theorem d51_17 : dQ b51_ 17 (.aload_n 0) 1 := by decide +kernel
theorem d51_18 : dQ b51_ 18 (.getfield 9) 3 := by decide +kernel
theorem d51_21 : dQ b51_ 21 .arraylength 1 := by decide +kernel
theorem d51_22 : dQ b51_ 22 (.invokestatic 212) 3 := by decide +kernel
theorem d51_25 : dQ b51_ 25 (.goto 18) 3 := by decide +kernel
theorem d51_43 : dQ b51_ 43 .return_ 1 := by decide +kernel
theorem d52_0 : dQ b52_ 0 (.iconst 0) 1 := by decide +kernel
theorem d52_1 : dQ b52_ 1 (.istore_n 3) 1 := by decide +kernel
theorem d52_2 : dQ b52_ 2 (.iload_n 3) 1 := by decide +kernel
theorem d52_3 : dQ b52_ 3 (.aload_n 0) 1 := by decide +kernel
theorem d52_4 : dQ b52_ 4 (.invokevirtual 63) 3 := by decide +kernel
theorem d52_7 : dQ b52_ 7 (.if_icmp .ge 78) 3 := by decide +kernel
theorem d52_10 : dQ b52_ 10 (.aload_n 0) 1 := by decide +kernel
theorem d52_11 : dQ b52_ 11 (.iload_n 3) 1 := by decide +kernel
theorem d52_12 : dQ b52_ 12 (.invokevirtual 66) 3 := by decide +kernel
theorem d52_15 : dQ b52_ 15 (.istore 4) 2 := by decide +kernel
theorem d52_17 : dQ b52_ 17 (.iload 4) 2 := by decide +kernel
theorem d52_19 : dQ b52_ 19 (.bipush 92) 2 := by decide +kernel
theorem d52_21 : dQ b52_ 21 (.if_icmp .ne 13) 3 := by decide +kernel
theorem d52_24 : dQ b52_ 24 (.aload_n 2) 1 := by decide +kernel
theorem d52_25 : dQ b52_ 25 (.ldc 70) 2 := by decide +kernel
theorem d52_27 : dQ b52_ 27 (.invokevirtual 21) 3 := by decide +kernel
theorem d52_30 : dQ b52_ 30 .pop 1 := by decide +kernel
theorem d52_31 : dQ b52_ 31 (.goto 48) 3 := by decide +kernel
theorem d52_34 : dQ b52_ 34 (.iload 4) 2 := by decide +kernel
theorem d52_36 : dQ b52_ 36 (.bipush 10) 2 := by decide +kernel
theorem d52_38 : dQ b52_ 38 (.if_icmp .ne 13) 3 := by decide +kernel
theorem d52_41 : dQ b52_ 41 (.aload_n 2) 1 := by decide +kernel
theorem d52_42 : dQ b52_ 42 (.ldc 72) 2 := by decide +kernel
theorem d52_44 : dQ b52_ 44 (.invokevirtual 21) 3 := by decide +kernel
theorem d52_47 : dQ b52_ 47 .pop 1 := by decide +kernel
theorem d52_48 : dQ b52_ 48 (.goto 31) 3 := by decide +kernel
theorem d52_51 : dQ b52_ 51 (.iload 4) 2 := by decide +kernel
theorem d52_53 : dQ b52_ 53 (.bipush 34) 2 := by decide +kernel
theorem d52_55 : dQ b52_ 55 (.if_icmp .ne 17) 3 := by decide +kernel
theorem d52_58 : dQ b52_ 58 (.iload_n 1) 1 := by decide +kernel
theorem d52_59 : dQ b52_ 59 (.ifCond .eq 13) 3 := by decide +kernel
theorem d52_62 : dQ b52_ 62 (.aload_n 2) 1 := by decide +kernel
theorem d52_63 : dQ b52_ 63 (.ldc 74) 2 := by decide +kernel
theorem d52_65 : dQ b52_ 65 (.invokevirtual 21) 3 := by decide +kernel
theorem d52_68 : dQ b52_ 68 .pop 1 := by decide +kernel
theorem d52_69 : dQ b52_ 69 (.goto 10) 3 := by decide +kernel
theorem d52_72 : dQ b52_ 72 (.aload_n 2) 1 := by decide +kernel
theorem d52_73 : dQ b52_ 73 (.iload 4) 2 := by decide +kernel
theorem d52_75 : dQ b52_ 75 (.invokevirtual 27) 3 := by decide +kernel
theorem d52_78 : dQ b52_ 78 .pop 1 := by decide +kernel
theorem d52_79 : dQ b52_ 79 (.iinc 3 1) 3 := by decide +kernel
theorem d52_82 : dQ b52_ 82 (.goto (-80)) 3 := by decide +kernel
theorem d52_85 : dQ b52_ 85 .return_ 1 := by decide +kernel
theorem d53_0 : dQ b53_ 0 (.aload_n 0) 1 := by decide +kernel
theorem d53_1 : dQ b53_ 1 (.invokevirtual 492) 3 := by decide +kernel
theorem d53_4 : dQ b53_ 4 (.ifCond .eq 12) 3 := by decide +kernel
theorem d53_7 : dQ b53_ 7 (.aload_n 0) 1 := by decide +kernel
theorem d53_8 : dQ b53_ 8 (.getfield 9) 3 := by decide +kernel
theorem d53_11 : dQ b53_ 11 (.iload_n 1) 1 := by decide +kernel
theorem d53_12 : dQ b53_ 12 (.invokestatic 495) 3 := by decide +kernel
theorem d53_15 : dQ b53_ 15 .ireturn 1 := by decide +kernel
theorem d54_0 : dQ b54_ 0 (.getstatic 38) 3 := by decide +kernel
theorem d54_3 : dQ b54_ 3 (.ifCond .eq 14) 3 := by decide +kernel
theorem d54_6 : dQ b54_ 6 (.aload_n 0) 1 := by decide +kernel
theorem d54_7 : dQ b54_ 7 (.getfield 15) 3 := by decide +kernel
theorem d54_10 : dQ b54_ 10 (.ifCond .ne 7) 3 := by decide +kernel
theorem d54_13 : dQ b54_ 13 (.iconst 1) 1 := by decide +kernel
theorem d54_14 : dQ b54_ 14 (.goto 4) 3 := by decide +kernel
theorem d54_18 : dQ b54_ 18 .ireturn 1 := by decide +kernel
theorem d55_0 : dQ b55_ 0 (.iload_n 1) 1 := by decide +kernel
theorem d55_1 : dQ b55_ 1 (.aload_n 0) 1 := by decide +kernel
theorem d55_2 : dQ b55_ 2 .arraylength 1 := by decide +kernel
theorem d55_3 : dQ b55_ 3 (.invokestatic 9) 3 := by decide +kernel
theorem d55_6 : dQ b55_ 6 (.aload_n 0) 1 := by decide +kernel
theorem d55_7 : dQ b55_ 7 (.iload_n 1) 1 := by decide +kernel
theorem d55_8 : dQ b55_ 8 .baload 1 := by decide +kernel
theorem d55_9 : dQ b55_ 9 (.sipush 255) 3 := by decide +kernel
theorem d55_12 : dQ b55_ 12 .iand 1 := by decide +kernel
theorem d55_13 : dQ b55_ 13 .i2c 1 := by decide +kernel
theorem d55_14 : dQ b55_ 14 .ireturn 1 := by decide +kernel
theorem d56_0 : dQ b56_ 0 (.iload_n 0) 1 := by decide +kernel
theorem d56_1 : dQ b56_ 1 (.iload_n 1) 1 := by decide +kernel
theorem d56_2 : dQ b56_ 2 (.getstatic 1053) 3 := by decide +kernel
theorem d56_5 : dQ b56_ 5 (.invokestatic 1059) 3 := by decide +kernel
theorem d56_8 : dQ b56_ 8 .pop 1 := by decide +kernel
theorem d56_9 : dQ b56_ 9 .return_ 1 := by decide +kernel
theorem d57_0 : dQ b57_ 0 (.iload_n 2) 1 := by decide +kernel
theorem d57_1 : dQ b57_ 1 (.iconst 3) 1 := by decide +kernel
theorem d57_2 : dQ b57_ 2 .iand 1 := by decide +kernel
theorem d57_3 : dQ b57_ 3 (.iconst 3) 1 := by decide +kernel
theorem d57_4 : dQ b57_ 4 .irem 1 := by decide +kernel
theorem d57_5 : dQ b57_ 5 (.istore_n 3) 1 := by decide +kernel
theorem d57_6 : dQ b57_ 6 (.iload_n 1) 1 := by decide +kernel
theorem d57_7 : dQ b57_ 7 (.istore 4) 2 := by decide +kernel
theorem d57_9 : dQ b57_ 9 (.iload_n 3) 1 := by decide +kernel
theorem d57_10 : dQ b57_ 10 (.iconst 1) 1 := by decide +kernel
theorem d57_11 : dQ b57_ 11 (.if_icmp .lt 17) 3 := by decide +kernel
theorem d57_14 : dQ b57_ 14 (.aload_n 0) 1 := by decide +kernel
theorem d57_15 : dQ b57_ 15 (.iload 4) 2 := by decide +kernel
theorem d57_17 : dQ b57_ 17 (.iload_n 2) 1 := by decide +kernel
theorem d57_18 : dQ b57_ 18 (.iconst 2) 1 := by decide +kernel
theorem d57_19 : dQ b57_ 19 .iushr 1 := by decide +kernel
theorem d57_20 : dQ b57_ 20 (.invokestatic 48) 3 := by decide +kernel
theorem d57_23 : dQ b57_ 23 (.invokestatic 55) 3 := by decide +kernel
theorem d57_26 : dQ b57_ 26 (.istore 4) 2 := by decide +kernel
theorem d57_28 : dQ b57_ 28 (.iload_n 3) 1 := by decide +kernel
theorem d57_29 : dQ b57_ 29 (.iconst 2) 1 := by decide +kernel
theorem d57_30 : dQ b57_ 30 (.if_icmp .lt 18) 3 := by decide +kernel
theorem d57_33 : dQ b57_ 33 (.aload_n 0) 1 := by decide +kernel
theorem d57_34 : dQ b57_ 34 (.iload 4) 2 := by decide +kernel
theorem d57_36 : dQ b57_ 36 (.iload_n 2) 1 := by decide +kernel
theorem d57_37 : dQ b57_ 37 (.bipush 12) 2 := by decide +kernel
theorem d57_39 : dQ b57_ 39 .iushr 1 := by decide +kernel
theorem d57_40 : dQ b57_ 40 (.invokestatic 48) 3 := by decide +kernel
theorem d57_43 : dQ b57_ 43 (.invokestatic 55) 3 := by decide +kernel
theorem d57_46 : dQ b57_ 46 (.istore 4) 2 := by decide +kernel
theorem d57_48 : dQ b57_ 48 (.iload 4) 2 := by decide +kernel
theorem d57_50 : dQ b57_ 50 .ireturn 1 := by decide +kernel
theorem d58_0 : dQ b58_ 0 (.iload_n 2) 1 := by decide +kernel
theorem d58_1 : dQ b58_ 1 (.bipush 92) 2 := by decide +kernel
theorem d58_3 : dQ b58_ 3 (.if_icmp .ne 19) 3 := by decide +kernel
theorem d58_6 : dQ b58_ 6 (.aload_n 0) 1 := by decide +kernel
theorem d58_7 : dQ b58_ 7 (.iload_n 1) 1 := by decide +kernel
theorem d58_8 : dQ b58_ 8 (.bipush 92) 2 := by decide +kernel
theorem d58_10 : dQ b58_ 10 .castore 1 := by decide +kernel
theorem d58_11 : dQ b58_ 11 (.aload_n 0) 1 := by decide +kernel
theorem d58_12 : dQ b58_ 12 (.iload_n 1) 1 := by decide +kernel
theorem d58_13 : dQ b58_ 13 (.iconst 1) 1 := by decide +kernel
theorem d58_14 : dQ b58_ 14 .iadd 1 := by decide +kernel
theorem d58_15 : dQ b58_ 15 (.bipush 92) 2 := by decide +kernel
theorem d58_17 : dQ b58_ 17 .castore 1 := by decide +kernel
theorem d58_18 : dQ b58_ 18 (.iload_n 1) 1 := by decide +kernel
theorem d58_19 : dQ b58_ 19 (.iconst 2) 1 := by decide +kernel
theorem d58_20 : dQ b58_ 20 .iadd 1 := by decide +kernel
theorem d58_21 : dQ b58_ 21 .ireturn 1 := by decide +kernel
theorem d58_22 : dQ b58_ 22 (.iload_n 2) 1 := by decide +kernel
theorem d58_23 : dQ b58_ 23 (.bipush 10) 2 := by decide +kernel
theorem d58_25 : dQ b58_ 25 (.if_icmp .ne 19) 3 := by decide +kernel
theorem d58_28 : dQ b58_ 28 (.aload_n 0) 1 := by decide +kernel
theorem d58_29 : dQ b58_ 29 (.iload_n 1) 1 := by decide +kernel
theorem d58_30 : dQ b58_ 30 (.bipush 92) 2 := by decide +kernel
theorem d58_32 : dQ b58_ 32 .castore 1 := by decide +kernel
theorem d58_33 : dQ b58_ 33 (.aload_n 0) 1 := by decide +kernel
theorem d58_34 : dQ b58_ 34 (.iload_n 1) 1 := by decide +kernel
theorem d58_35 : dQ b58_ 35 (.iconst 1) 1 := by decide +kernel
theorem d58_36 : dQ b58_ 36 .iadd 1 := by decide +kernel
theorem d58_37 : dQ b58_ 37 (.bipush 110) 2 := by decide +kernel
theorem d58_39 : dQ b58_ 39 .castore 1 := by decide +kernel
theorem d58_40 : dQ b58_ 40 (.iload_n 1) 1 := by decide +kernel
theorem d58_41 : dQ b58_ 41 (.iconst 2) 1 := by decide +kernel
theorem d58_42 : dQ b58_ 42 .iadd 1 := by decide +kernel
theorem d58_43 : dQ b58_ 43 .ireturn 1 := by decide +kernel
theorem d58_44 : dQ b58_ 44 (.iload_n 2) 1 := by decide +kernel
theorem d58_45 : dQ b58_ 45 (.bipush 34) 2 := by decide +kernel
theorem d58_47 : dQ b58_ 47 (.if_icmp .ne 19) 3 := by decide +kernel
theorem d58_50 : dQ b58_ 50 (.aload_n 0) 1 := by decide +kernel
theorem d58_51 : dQ b58_ 51 (.iload_n 1) 1 := by decide +kernel
theorem d58_52 : dQ b58_ 52 (.bipush 92) 2 := by decide +kernel
theorem d58_54 : dQ b58_ 54 .castore 1 := by decide +kernel
theorem d58_55 : dQ b58_ 55 (.aload_n 0) 1 := by decide +kernel
theorem d58_56 : dQ b58_ 56 (.iload_n 1) 1 := by decide +kernel
theorem d58_57 : dQ b58_ 57 (.iconst 1) 1 := by decide +kernel
theorem d58_58 : dQ b58_ 58 .iadd 1 := by decide +kernel
theorem d58_59 : dQ b58_ 59 (.bipush 34) 2 := by decide +kernel
theorem d58_61 : dQ b58_ 61 .castore 1 := by decide +kernel
theorem d58_62 : dQ b58_ 62 (.iload_n 1) 1 := by decide +kernel
theorem d58_63 : dQ b58_ 63 (.iconst 2) 1 := by decide +kernel
theorem d58_64 : dQ b58_ 64 .iadd 1 := by decide +kernel
theorem d58_65 : dQ b58_ 65 .ireturn 1 := by decide +kernel
theorem d58_66 : dQ b58_ 66 (.aload_n 0) 1 := by decide +kernel
theorem d58_67 : dQ b58_ 67 (.iload_n 1) 1 := by decide +kernel
theorem d58_68 : dQ b58_ 68 (.iload_n 2) 1 := by decide +kernel
theorem d58_69 : dQ b58_ 69 .castore 1 := by decide +kernel
theorem d58_70 : dQ b58_ 70 (.iload_n 1) 1 := by decide +kernel
theorem d58_71 : dQ b58_ 71 (.iconst 1) 1 := by decide +kernel
theorem d58_72 : dQ b58_ 72 .iadd 1 := by decide +kernel
theorem d58_73 : dQ b58_ 73 .ireturn 1 := by decide +kernel
theorem d59_0 : dQ b59_ 0 (.aload_n 0) 1 := by decide +kernel
theorem d59_1 : dQ b59_ 1 (.getfield 15) 3 := by decide +kernel
theorem d59_4 : dQ b59_ 4 .arraylength 1 := by decide +kernel
theorem d59_5 : dQ b59_ 5 (.istore_n 2) 1 := by decide +kernel
theorem d59_6 : dQ b59_ 6 (.iload_n 1) 1 := by decide +kernel
theorem d59_7 : dQ b59_ 7 (.aload_n 0) 1 := by decide +kernel
theorem d59_8 : dQ b59_ 8 (.getfield 22) 3 := by decide +kernel
theorem d59_11 : dQ b59_ 11 .ishl 1 := by decide +kernel
theorem d59_12 : dQ b59_ 12 (.istore_n 3) 1 := by decide +kernel
theorem d59_13 : dQ b59_ 13 (.iload_n 3) 1 := by decide +kernel
theorem d59_14 : dQ b59_ 14 (.iload_n 2) 1 := by decide +kernel
theorem d59_15 : dQ b59_ 15 .isub 1 := by decide +kernel
theorem d59_16 : dQ b59_ 16 (.istore 4) 2 := by decide +kernel
theorem d59_18 : dQ b59_ 18 (.iload_n 2) 1 := by decide +kernel
theorem d59_19 : dQ b59_ 19 (.iload 4) 2 := by decide +kernel
theorem d59_21 : dQ b59_ 21 (.iload_n 2) 1 := by decide +kernel
theorem d59_22 : dQ b59_ 22 (.iconst 2) 1 := by decide +kernel
theorem d59_23 : dQ b59_ 23 (.aload_n 0) 1 := by decide +kernel
theorem d59_24 : dQ b59_ 24 (.getfield 22) 3 := by decide +kernel
theorem d59_27 : dQ b59_ 27 .ishl 1 := by decide +kernel
theorem d59_28 : dQ b59_ 28 .iadd 1 := by decide +kernel
theorem d59_29 : dQ b59_ 29 (.invokestatic 114) 3 := by decide +kernel
theorem d59_32 : dQ b59_ 32 (.istore 5) 2 := by decide +kernel
theorem d59_34 : dQ b59_ 34 (.iload 5) 2 := by decide +kernel
theorem d59_36 : dQ b59_ 36 (.ldc 39) 2 := by decide +kernel
theorem d59_38 : dQ b59_ 38 (.if_icmp .ne 13) 3 := by decide +kernel
theorem d59_51 : dQ b59_ 51 (.iload 5) 2 := by decide +kernel
theorem d59_53 : dQ b59_ 53 (.aload_n 0) 1 := by decide +kernel
theorem d59_54 : dQ b59_ 54 (.getfield 22) 3 := by decide +kernel
theorem d59_57 : dQ b59_ 57 .ishr 1 := by decide +kernel
theorem d59_58 : dQ b59_ 58 .ireturn 1 := by decide +kernel
theorem d60_0 : dQ b60_ 0 (.iload_n 0) 1 := by decide +kernel
theorem d60_1 : dQ b60_ 1 (.iload_n 1) 1 := by decide +kernel
theorem d60_2 : dQ b60_ 2 (.iload_n 2) 1 := by decide +kernel
theorem d60_3 : dQ b60_ 3 (.invokestatic 194) 3 := by decide +kernel
theorem d60_6 : dQ b60_ 6 .iadd 1 := by decide +kernel
theorem d60_7 : dQ b60_ 7 (.istore_n 3) 1 := by decide +kernel
theorem d60_8 : dQ b60_ 8 (.iconst 0) 1 := by decide +kernel
theorem d60_9 : dQ b60_ 9 (.iload_n 3) 1 := by decide +kernel
theorem d60_10 : dQ b60_ 10 (.if_icmp .ge 11) 3 := by decide +kernel
theorem d60_13 : dQ b60_ 13 (.iload_n 3) 1 := by decide +kernel
theorem d60_14 : dQ b60_ 14 (.ldc 200) 2 := by decide +kernel
theorem d60_16 : dQ b60_ 16 (.if_icmp .gt 5) 3 := by decide +kernel
theorem d60_19 : dQ b60_ 19 (.iload_n 3) 1 := by decide +kernel
theorem d60_20 : dQ b60_ 20 .ireturn 1 := by decide +kernel
theorem d61_0 : dQ b61_ 0 (.iload_n 1) 1 := by decide +kernel
theorem d61_1 : dQ b61_ 1 (.aload_n 0) 1 := by decide +kernel
theorem d61_2 : dQ b61_ 2 .arraylength 1 := by decide +kernel
theorem d61_3 : dQ b61_ 3 (.if_icmp .ne 11) 3 := by decide +kernel
theorem d61_14 : dQ b61_ 14 (.iload_n 1) 1 := by decide +kernel
theorem d61_15 : dQ b61_ 15 (.newarray .byte) 2 := by decide +kernel
theorem d61_17 : dQ b61_ 17 (.astore_n 2) 1 := by decide +kernel
theorem d61_18 : dQ b61_ 18 (.aload_n 0) 1 := by decide +kernel
theorem d61_19 : dQ b61_ 19 (.iconst 0) 1 := by decide +kernel
theorem d61_20 : dQ b61_ 20 (.aload_n 2) 1 := by decide +kernel
theorem d61_21 : dQ b61_ 21 (.iconst 0) 1 := by decide +kernel
theorem d61_22 : dQ b61_ 22 (.aload_n 0) 1 := by decide +kernel
theorem d61_23 : dQ b61_ 23 .arraylength 1 := by decide +kernel
theorem d61_24 : dQ b61_ 24 (.iload_n 1) 1 := by decide +kernel
theorem d61_25 : dQ b61_ 25 (.invokestatic 304) 3 := by decide +kernel
theorem d61_28 : dQ b61_ 28 (.invokestatic 150) 3 := by decide +kernel
theorem d61_31 : dQ b61_ 31 (.aload_n 2) 1 := by decide +kernel
theorem d61_32 : dQ b61_ 32 .areturn 1 := by decide +kernel
theorem pd0 : parseMethodDescriptor "()B" = some ⟨[], some .byte⟩ := by decide +kernel
theorem pd1 : parseMethodDescriptor "(I)V" = some ⟨[.int], none⟩ := by decide +kernel
theorem pd2 : parseMethodDescriptor "(II)I" = some ⟨[.int, .int], some .int⟩ := by decide +kernel
theorem pd3 : parseMethodDescriptor "(III)I" = some ⟨[.int, .int, .int], some .int⟩ := by decide +kernel
theorem pd4 : parseMethodDescriptor "(I)I" = some ⟨[.int], some .int⟩ := by decide +kernel
theorem pd5 : parseMethodDescriptor "([BI)[B" = some ⟨[(.array .byte), .int], some (.array .byte)⟩ := by decide +kernel
theorem pd6 : parseMethodDescriptor zq39 = some ⟨[(.object zq0)], none⟩ := by decide +kernel
theorem pd7 : parseMethodDescriptor "([BIB)V" = some ⟨[(.array .byte), .int, .byte], none⟩ := by decide +kernel
theorem pd8 : parseMethodDescriptor "()I" = some ⟨[], some .int⟩ := by decide +kernel
theorem pd9 : parseMethodDescriptor zq40 = some ⟨[.int, (.object zq0)], none⟩ := by decide +kernel
theorem pd10 : parseMethodDescriptor zq22 = some ⟨[(.object zq0)], some (.object zq1)⟩ := by decide +kernel
theorem pd11 : parseMethodDescriptor "()Z" = some ⟨[], some .boolean⟩ := by decide +kernel
theorem pd12 : parseMethodDescriptor "(C)Z" = some ⟨[.char], some .boolean⟩ := by decide +kernel
theorem pd13 : parseMethodDescriptor zq23 = some ⟨[.char], some (.object zq1)⟩ := by decide +kernel
theorem pd14 : parseMethodDescriptor "(II)V" = some ⟨[.int, .int], none⟩ := by decide +kernel
theorem pd15 : parseMethodDescriptor "([BII)[B" = some ⟨[(.array .byte), .int, .int], some (.array .byte)⟩ := by decide +kernel
theorem pd16 : parseMethodDescriptor "()[B" = some ⟨[], some (.array .byte)⟩ := by decide +kernel
theorem pd17 : parseMethodDescriptor zq41 = some ⟨[(.object zq1), (.object "java/lang/Void")], none⟩ := by decide +kernel
theorem pd18 : parseMethodDescriptor zq31 = some ⟨[(.object zq4)], none⟩ := by decide +kernel
theorem pd19 : parseMethodDescriptor zq19 = some ⟨[.int, .int, (.object zq27)], some .int⟩ := by decide +kernel
theorem pd20 : parseMethodDescriptor "([BI)C" = some ⟨[(.array .byte), .int], some .char⟩ := by decide +kernel
theorem pd21 : parseMethodDescriptor "([CI[BII)I" = some ⟨[(.array .char), .int, (.array .byte), .int, .int], some .int⟩ := by decide +kernel
theorem pd22 : parseMethodDescriptor "([CII)[B" = some ⟨[(.array .char), .int, .int], some (.array .byte)⟩ := by decide +kernel
theorem pd23 : parseMethodDescriptor "([BI)B" = some ⟨[(.array .byte), .int], some .byte⟩ := by decide +kernel
theorem pd24 : parseMethodDescriptor zq32 = some ⟨[(.array .char), .int, .int, (.object "java/lang/Void")], none⟩ := by decide +kernel
theorem pd25 : parseMethodDescriptor "(I)C" = some ⟨[.int], some .char⟩ := by decide +kernel
theorem pd26 : parseMethodDescriptor "([C)V" = some ⟨[(.array .char)], none⟩ := by decide +kernel
theorem pd27 : parseMethodDescriptor "(C)[B" = some ⟨[.char], some (.array .byte)⟩ := by decide +kernel
theorem pd28 : parseMethodDescriptor "([BB)V" = some ⟨[(.array .byte), .byte], none⟩ := by decide +kernel
theorem pd29 : parseMethodDescriptor "()V" = some ⟨[], none⟩ := by decide +kernel
theorem pd30 : parseMethodDescriptor zq42 = some ⟨[.int], some (.array (.object zq3))⟩ := by decide +kernel
theorem pd31 : parseMethodDescriptor zq43 = some ⟨[], some (.array (.object zq3))⟩ := by decide +kernel
theorem pd32 : parseMethodDescriptor zq33 = some ⟨[(.object zq3), (.array (.object zq3)), .int], none⟩ := by decide +kernel
theorem pd33 : parseMethodDescriptor zq13 = some ⟨[.int], some (.object zq3)⟩ := by decide +kernel
theorem pd34 : parseMethodDescriptor zq34 = some ⟨[(.object zq0)], some (.object zq4)⟩ := by decide +kernel
theorem pd35 : parseMethodDescriptor zq35 = some ⟨[.char], some (.object zq4)⟩ := by decide +kernel
theorem pd36 : parseMethodDescriptor zq44 = some ⟨[], some (.object zq0)⟩ := by decide +kernel
theorem pd37 : parseMethodDescriptor zq24 = some ⟨[(.object zq0), .boolean, (.object zq4)], none⟩ := by decide +kernel
theorem pd38 : parseMethodDescriptor "([CIC)I" = some ⟨[(.array .char), .int, .char], some .int⟩ := by decide +kernel
theorem pd39 : parseMethodDescriptor zq25 = some ⟨[(.object zq20), (.object zq20)], some (.object zq0)⟩ := by decide +kernel
theorem pd40 : parseMethodDescriptor zq45 = some ⟨[(.object zq0), (.array .char), .int], some .boolean⟩ := by decide +kernel
theorem pd41 : parseMethodDescriptor zq36 = some ⟨[.char], some (.object zq0)⟩ := by decide +kernel
theorem pd42 : parseMethodDescriptor zq21 = some ⟨[(.object zq3)], some .boolean⟩ := by decide +kernel
theorem pd43 : parseMethodDescriptor zq46 = some ⟨[.int], some (.object zq0)⟩ := by decide +kernel
theorem pd44 : parseMethodDescriptor "([CII)I" = some ⟨[(.array .char), .int, .int], some .int⟩ := by decide +kernel
theorem pn0 : plainName zq37 = true := by first | (simp [plainName, overriddenIn]; done) | decide +kernel
theorem pn1 : plainName zq10 = true := by first | (simp [plainName, overriddenIn]; done) | decide +kernel
theorem pn2 : plainName zq9 = true := by first | (simp [plainName, overriddenIn]; done) | decide +kernel
theorem pn3 : plainName zq11 = true := by first | (simp [plainName, overriddenIn]; done) | decide +kernel
theorem pn4 : plainName zq15 = true := by first | (simp [plainName, overriddenIn]; done) | decide +kernel
theorem wS {a0 : Array Value} {Z : State} (hw : HW a0 Z) : ∀ a ∈ Bundle.stringAtoms, a.before a0 Z = true := by
  intro a ha
  simp only [Bundle.stringAtoms, List.mem_cons, List.not_mem_nil, or_false] at ha
  rcases ha with rfl | rfl | rfl | rfl | rfl | rfl | rfl
  · exact (wd44 hw)
  · exact (wd75 hw)
  · exact (wd45 hw)
  · exact (wd126 hw)
  · exact (wd106 hw)
  · exact (wd212 hw)
  · exact (wd213 hw)
theorem ew {a0 : Array Value} {Z : State} (hw : HW a0 Z) : EW Z a0 consts_1 := (EW.cons (wd279 hw) (by decide +kernel) (EW.cons (wd302 hw) (by decide +kernel) (EW.cons (wd310 hw) (by decide +kernel) (EW.cons (wd311 hw) (by decide +kernel) (EW.cons (wd211 hw) (by decide +kernel) EW.nil)))))
theorem own_k4 {k x : Int32} (h : x &&& 3 = k) : k = 0 ∨ k = 1 ∨ k = 2 ∨ k = 3 := by
  have q := c_mask x 3 2 (by decide) (by decide)
  rw [h] at q
  have e0 : (0 : Int32).toInt = 0 := by decide
  have e1 : (1 : Int32).toInt = 1 := by decide
  have e2 : (2 : Int32).toInt = 2 := by decide
  have e3 : (3 : Int32).toInt = 3 := by decide
  have h5 : k.toInt = 0 ∨ k.toInt = 1 ∨ k.toInt = 2 ∨ k.toInt = 3 := by omega
  rcases h5 with h | h | h | h
  · exact Or.inl (Int32.toInt_inj.mp (h.trans e0.symm))
  · exact Or.inr (Or.inl (Int32.toInt_inj.mp (h.trans e1.symm)))
  · exact Or.inr (Or.inr (Or.inl (Int32.toInt_inj.mp (h.trans e2.symm))))
  · exact Or.inr (Or.inr (Or.inr (Int32.toInt_inj.mp (h.trans e3.symm))))
theorem own_same (a : Addr) : (Value.ref a == Value.ref a) = true := by simp
/-- a char of the law: below 256 -/
def own_lat (c : Int32) : Prop := ¬ c < 0 ∧ ¬ (255 : Int32) < c
theorem own_lat_mask {x c : Int32} (h : (x &&& (255 : Int32)).toUInt32.toUInt16.toUInt32.toInt32 = c) : own_lat c := by
  have q := c_mask x 255 8 (by decide) (by decide)
  have r := c_i2c (x &&& 255)
  rw [h] at r
  have e0 : (0 : Int32).toInt = 0 := by decide
  have e2 : (255 : Int32).toInt = 255 := by decide
  unfold own_lat
  rw [Int32.lt_iff_toInt_lt, Int32.lt_iff_toInt_lt, e0, e2]; omega
theorem own_nar_lat {c : Int32} (h : own_lat c) : nar .char c = c := by
  obtain ⟨h1, h2⟩ := h
  have e0 : (0 : Int32).toInt = 0 := by decide
  have e2 : (255 : Int32).toInt = 255 := by decide
  rw [Int32.lt_iff_toInt_lt, e0] at h1
  rw [Int32.lt_iff_toInt_lt, e2] at h2
  have r := c_i2c c
  refine Int32.toInt_inj.mp ?_
  show (c.toUInt32.toUInt16.toUInt32.toInt32).toInt = c.toInt
  omega
def own_n (k : Nat) : Int32 := Int32.ofNat k
theorem own_n_int {k : Nat} (h : k < 1000) : (own_n k).toInt = k := Int32.toInt_ofNat_of_lt (by omega)
theorem own_n_cl {k : Nat} (h : k < 1000) : (own_n k).toNatClampNeg = k := by simp [Int32.toNatClampNeg, own_n_int h]
theorem own_n_ge {k : Nat} (h : k < 1000) : ¬ own_n k < 0 := by
  have e0 : (0 : Int32).toInt = 0 := by decide
  rw [Int32.lt_iff_toInt_lt, own_n_int h, e0]; omega
theorem own_n_lt {a b : Nat} (ha : a < 1000) (hb : b < 1000) : own_n a < own_n b ↔ a < b := by
  rw [Int32.lt_iff_toInt_lt, own_n_int ha, own_n_int hb]; omega
theorem own_n_add (a b : Nat) : own_n a + own_n b = own_n (a + b) := (Int32.ofNat_add a b).symm
theorem own_n_app (V W : List Int32) : own_n V.length + own_n W.length = own_n (V ++ W).length := by rw [own_n_add, List.length_append]
theorem own_n_app1 (W : List Int32) (c : Int32) : own_n W.length + (1 : Int32) = own_n (W ++ [c]).length := own_n_app W [c]
theorem own_shr0 (x : Int32) : x >>> ((0 : Int32) &&& 31) = x := by
  rw [show ((0 : Int32) &&& 31) = 0 from by decide]; simp
theorem own_shl0 (x : Int32) : x <<< ((0 : Int32) &&& 31) = x := by
  rw [show ((0 : Int32) &&& 31) = 0 from by decide]; simp
theorem own_sub0 (x : Int32) : x - (0 : Int32) = x := by simp
def own_b (c : Int32) : Int32 := nar .byte (c.toInt8.toInt32)
def tx (W : List Int32) : List Value := W.map fun c => .int (own_b c)
def tc (W : List Int32) : List Value := W.map fun c => .int c
theorem tx_len (W : List Int32) : (tx W).length = W.length := List.length_map ..
theorem tc_len (W : List Int32) : (tc W).length = W.length := List.length_map ..
theorem tx_app (V W : List Int32) : tx (V ++ W) = tx V ++ tx W := List.map_append ..
theorem tc_app (V W : List Int32) : tc (V ++ W) = tc V ++ tc W := List.map_append ..
theorem own_st1 (W : List Int32) (c : Int32) (d : Value) : (tx W ++ List.replicate 1 d).set W.length (.int (own_b c)) = tx (W ++ [c]) := by
  rw [tx_app, ← tx_len W, List.set_append_right _ _ (Nat.le_refl _), Nat.sub_self]; rfl
theorem own_sc1 (W : List Int32) (c : Int32) (d : Value) : (tc W ++ List.replicate 1 d).set W.length (.int c) = tc (W ++ [c]) := by
  rw [tc_app, ← tc_len W, List.set_append_right _ _ (Nat.le_refl _), Nat.sub_self]; rfl
theorem own_cpy (vs : List Value) (d : Value) (n m : Nat) (h : vs.length ≤ n) : ∀ i, vs.getD i d = (((List.range n).map fun i => vs.getD (0 + i) d) ++ List.replicate m d).getD i d := by
  intro i
  by_cases q : i < n
  · simp [List.getD_eq_getElem?_getD, List.getElem?_append, q]
  · have e : vs[i]? = none := List.getElem?_eq_none (by omega)
    by_cases r : i - n < m
    · simp [List.getD_eq_getElem?_getD, List.getElem?_append, q, e, List.getElem?_replicate, r]
    · simp [List.getD_eq_getElem?_getD, List.getElem?_append, q, e, List.getElem?_replicate, r]
theorem own_us (M : List Int32) (d : Value) (h : M.length < 1000) : tx M = (List.range (own_n M.length).toNatClampNeg).map fun i => (tx M).getD ((0 : Int32).toNatClampNeg + i) d := by
  rw [own_n_cl h, show (0 : Int32).toNatClampNeg = 0 from by decide]
  refine List.ext_getElem (by simp [tx_len]) fun i h1 h2 => ?_
  simp [List.getD_eq_getElem?_getD, h1]
theorem own_vr (W M : List Int32) (d : Value) (h : W.length + M.length < 1000) : (tx W ++ List.replicate M.length d).take (own_n W.length).toNatClampNeg ++ tx M ++ (tx W ++ List.replicate M.length d).drop ((own_n W.length).toNatClampNeg + (own_n M.length).toNatClampNeg) = tx (W ++ M) := by
  rw [own_n_cl (by omega), own_n_cl (by omega), tx_app, ← tx_len W, List.take_left]
  rw [List.drop_eq_nil_of_le (by simp), List.append_nil]
theorem own_vr0 (W : List Int32) (d : Value) (h : W.length < 1000) : (([] : List Value) ++ List.replicate W.length d).take (0 : Int32).toNatClampNeg ++ tx W ++ (([] : List Value) ++ List.replicate W.length d).drop ((0 : Int32).toNatClampNeg + (own_n W.length).toNatClampNeg) = tx W := by
  rw [own_n_cl h, show (0 : Int32).toNatClampNeg = 0 from by decide]
  rw [List.drop_eq_nil_of_le (by simp)]; simp
theorem own_frn {x t t' n : Nat} (h : t' = t ∨ n ≤ t') (h1 : x ≠ t) (h2 : x < n) : x ≠ t' := by
  rcases h with rfl | h
  · exact h1
  · omega
theorem own_frg {t t' n m : Nat} (h : t' = t ∨ n ≤ t') (h1 : m ≤ t) (h2 : m ≤ n) : m ≤ t' := by
  rcases h with rfl | h
  · exact h1
  · omega
theorem own_frw {t t' n m : Nat} {ws : List Nat} (h : t' = t ∨ n ≤ t') (h1 : t ∈ ws ∨ m ≤ t) (h2 : m ≤ n) : t' ∈ ws ∨ m ≤ t' := by
  rcases h with rfl | h
  · exact h1
  · right; omega
theorem own_b_back {c : Int32} (h : own_lat c) : ((own_b c) &&& (255 : Int32)).toUInt32.toUInt16.toUInt32.toInt32 = c := by
  obtain ⟨h1, h2⟩ := h
  have e0 : (0 : Int32).toInt = 0 := by decide
  have e2 : (255 : Int32).toInt = 255 := by decide
  rw [Int32.lt_iff_toInt_lt, e0] at h1
  rw [Int32.lt_iff_toInt_lt, e2] at h2
  have h3 : c = own_n c.toInt.toNat := Int32.toInt_inj.mp (by rw [own_n_int (by omega)]; omega)
  have h4 : ∀ k : Fin 256, ((own_b (own_n k.val)) &&& (255 : Int32)).toUInt32.toUInt16.toUInt32.toInt32 = own_n k.val := by decide +kernel
  have h5 := h4 ⟨c.toInt.toNat, by omega⟩
  rw [h3]; exact h5
theorem own_tx_at {W : List Int32} {i : Nat} (d : Value) (h : i < W.length) : (tx W).getD i d = .int (own_b (W.getD i 0)) := by
  simp [tx, List.getD_eq_getElem?_getD, h]
theorem own_tc_at {W : List Int32} {i : Nat} (d : Value) (h : i < W.length) : (tc W).getD i d = .int (W.getD i 0) := by
  simp [tc, List.getD_eq_getElem?_getD, h]
theorem own_lat_at {W : List Int32} {i : Nat} (hl : ∀ c ∈ W, own_lat c) (h : i < W.length) : own_lat (W.getD i 0) := by
  rw [List.getD_eq_getElem?_getD, List.getElem?_eq_getElem h]; exact hl _ (List.getElem_mem h)
theorem own_fit {n : Nat} {cp : Int32} (hcp : cp = 16 ∨ cp = 34) (h : n ≤ cp.toNatClampNeg) : ¬ (0 : Int32) < own_n n - cp := by
  have e0 : (0 : Int32).toInt = 0 := by decide
  have q : cp.toNatClampNeg ≤ 34 ∧ 0 ≤ cp.toInt ∧ cp.toInt ≤ 34 := by rcases hcp with rfl | rfl <;> decide
  have r := own_n_int (k := n) (by omega)
  have z : cp.toNatClampNeg = cp.toInt.toNat := rfl
  have u := c_isub (own_n n) cp
  have v := rng32 (own_n n - cp)
  rw [Int32.lt_iff_toInt_lt, e0]
  omega
theorem own_grow {n : Nat} (h : 16 < n) (h2 : n < 34) : (0 : Int32) < own_n n - 16 ∧ own_n n - 16 < 18 := by
  have e0 : (0 : Int32).toInt = 0 := by decide
  have e1 : (16 : Int32).toInt = 16 := by decide
  have e2 : (18 : Int32).toInt = 18 := by decide
  have r := own_n_int (k := n) (by omega)
  have u := c_isub (own_n n) 16
  have v := rng32 (own_n n - 16)
  rw [Int32.lt_iff_toInt_lt, Int32.lt_iff_toInt_lt, e0, e2]
  omega
theorem own_cp16 : (16 : Int32).toNatClampNeg = 16 := by decide
theorem own_cp34 : (34 : Int32).toNatClampNeg = 34 := by decide
theorem own_c0 (x : Nat) : (0 : Int32).toNatClampNeg + x ≤ x := by rw [show (0 : Int32).toNatClampNeg = 0 from by decide]; omega
theorem own_wh {W M : List Int32} {cp : Int32} (h : W.length + M.length < 1000) (q : W.length + M.length ≤ cp.toNatClampNeg) : (own_n W.length).toNatClampNeg + (own_n M.length).toNatClampNeg ≤ cp.toNatClampNeg := by rw [own_n_cl (by omega), own_n_cl (by omega)]; exact q
theorem own_wl {W M : List Int32} {d : Value} (h : W.length + M.length < 1000) : (own_n W.length).toNatClampNeg + (own_n M.length).toNatClampNeg ≤ (tx W ++ List.replicate M.length d).length := by rw [own_n_cl (by omega), own_n_cl (by omega)]; simp [tx_len]
theorem own_ix {n : Nat} {cp : Int32} (hc : ¬ cp < 0) (h : n < 1000) (q : n < cp.toNatClampNeg) : ¬ own_n n < 0 ∧ own_n n < cp := by
  have e0 : (0 : Int32).toInt = 0 := by decide
  rw [Int32.lt_iff_toInt_lt, e0] at hc
  refine ⟨own_n_ge h, ?_⟩
  rw [Int32.lt_iff_toInt_lt, own_n_int h]
  have z : cp.toNatClampNeg = cp.toInt.toNat := rfl
  omega
theorem own_cpp {cp : Int32} (h : cp = 16 ∨ cp = 34) : ¬ cp < 0 := by rcases h with rfl | rfl <;> decide
theorem own_cpc {cp : Int32} (h : cp = 16 ∨ cp = 34) : cp.toNatClampNeg ≤ 34 := by rcases h with rfl | rfl <;> decide
theorem own_ne {n : Nat} {cp : Int32} (h : n < 1000) (q : n < cp.toNatClampNeg) : ¬ own_n n = cp := fun e => by rw [← e, own_n_cl h] at q; omega
theorem own_eq {n : Nat} {cp : Int32} (hc : ¬ cp < 0) (h : n < 1000) (q : n = cp.toNatClampNeg) : own_n n = cp := by
  have e0 : (0 : Int32).toInt = 0 := by decide
  rw [Int32.lt_iff_toInt_lt, e0] at hc
  refine Int32.toInt_inj.mp ?_
  rw [own_n_int h]
  have z : cp.toNatClampNeg = cp.toInt.toNat := rfl
  omega
theorem own_mlt {n : Nat} {cp : Int32} (hc : ¬ cp < 0) (h : n < 1000) (q : n < cp.toNatClampNeg) : own_n n < cp := (own_ix hc h q).2
def own_ush (x k : Int32) : Int32 := (x.toUInt32 >>> (k &&& 31).toUInt32).toInt32
def own_pick (x : Int32) : Int32 := if x &&& 3 = 0 then 92 else if x &&& 3 = 1 then 10 else if x &&& 3 = 2 then 34 else ((own_ush x 2) &&& (255 : Int32)).toUInt32.toUInt16.toUInt32.toInt32
theorem own_pk0 {x k p : Int32} (hp : own_pick x = p) (h : x &&& 3 = k) (q : k = 0) : nar .char 92 = p := by
  subst q; rw [← hp]; unfold own_pick; rw [if_pos h]; decide
theorem own_pk1 {x k p : Int32} (hp : own_pick x = p) (h : x &&& 3 = k) (q0 : ¬ k = 0) (q : k = 1) : nar .char 10 = p := by
  subst q; rw [← hp]; unfold own_pick; rw [h, if_neg q0, if_pos rfl]; decide
theorem own_pk2 {x k p : Int32} (hp : own_pick x = p) (h : x &&& 3 = k) (q0 : ¬ k = 0) (q1 : ¬ k = 1) (q : k = 2) : nar .char 34 = p := by
  subst q; rw [← hp]; unfold own_pick; rw [h, if_neg q0, if_neg q1, if_pos rfl]; decide
theorem own_pk3 {x k p : Int32} (hp : own_pick x = p) (h : x &&& 3 = k) (q0 : ¬ k = 0) (q1 : ¬ k = 1) (q2 : ¬ k = 2) : nar .char (((x.toUInt32 >>> ((2 : Int32) &&& 31).toUInt32).toInt32 &&& (255 : Int32)).toUInt32.toUInt16.toUInt32.toInt32) = p := by
  rw [own_nar_lat (own_lat_mask rfl), ← hp]; unfold own_pick; rw [h, if_neg q0, if_neg q1, if_neg q2]; rfl
theorem own_pick_lat (x : Int32) : own_lat (own_pick x) := by
  unfold own_pick
  split
  · unfold own_lat; decide
  · split
    · unfold own_lat; decide
    · split
      · unfold own_lat; decide
      · exact own_lat_mask rfl
def own_val (v : Int32) : List Int32 := if (v &&& 3) % 3 = 0 then [] else if (v &&& 3) % 3 = 1 then [own_pick (own_ush v 2)] else [own_pick (own_ush v 2), own_pick (own_ush v 12)]
theorem own_k3 {x k : Int32} (h : (x &&& 3) % 3 = k) : k = 0 ∨ k = 1 ∨ k = 2 := by
  rcases own_k4 (x := x) rfl with q | q | q | q <;> rw [q] at h <;> subst h <;> decide
theorem own_v0 {v : Int32} (h : (v &&& 3) % 3 = 0) : own_val v = [] := by unfold own_val; rw [if_pos h]
theorem own_v1 {v a : Int32} (h : (v &&& 3) % 3 = 1) (ha : own_pick (own_ush v 2) = a) : own_val v = [a] := by
  unfold own_val; rw [h, if_neg (by decide), if_pos rfl, ha]
theorem own_v2 {v a b : Int32} (h : (v &&& 3) % 3 = 2) (ha : own_pick (own_ush v 2) = a) (hb : own_pick (own_ush v 12) = b) : own_val v = [a, b] := by
  unfold own_val; rw [h, if_neg (by decide), if_neg (by decide), ha, hb]
theorem own_val_len (v : Int32) : (own_val v).length ≤ 2 := by
  unfold own_val
  split
  · simp
  · split <;> simp
theorem own_val_lat (v : Int32) : ∀ c ∈ own_val v, own_lat c := by
  intro c hc
  unfold own_val at hc
  split at hc
  · cases hc
  · split at hc
    · simp only [List.mem_cons, List.not_mem_nil, or_false] at hc; subst hc; exact own_pick_lat _
    · simp only [List.mem_cons, List.not_mem_nil, or_false] at hc; rcases hc with rfl | rfl <;> exact own_pick_lat _
def own_esc (c : Int32) : List Int32 := if c = 92 then [92, 92] else if c = 10 then [92, 110] else if c = 34 then [92, 34] else [c]
theorem own_ea {c : Int32} (h : c = 92) : own_esc c = [92, 92] := by unfold own_esc; rw [if_pos h]
theorem own_eb {c : Int32} (h : ¬ c = 92) (g : c = 10) : own_esc c = [92, 110] := by unfold own_esc; rw [if_neg h, if_pos g]
theorem own_ec {c : Int32} (h : ¬ c = 92) (g : ¬ c = 10) (f : c = 34) : own_esc c = [92, 34] := by unfold own_esc; rw [if_neg h, if_neg g, if_pos f]
theorem own_ed {c : Int32} (h : ¬ c = 92) (g : ¬ c = 10) (f : ¬ c = 34) : own_esc c = [c] := by unfold own_esc; rw [if_neg h, if_neg g, if_neg f]
def own_escL : List Int32 → List Int32
  | [] => []
  | c :: r => own_esc c ++ own_escL r
theorem own_esc_len (c : Int32) : (own_esc c).length ≤ 2 := by
  unfold own_esc
  split
  · simp
  · split
    · simp
    · split <;> simp
theorem own_escL_len : ∀ M : List Int32, (own_escL M).length ≤ 2 * M.length
  | [] => Nat.le_refl _
  | c :: r => by
    have h1 := own_esc_len c
    have h2 := own_escL_len r
    simp only [own_escL, List.length_append, List.length_cons]; omega
theorem own_esc_lat {c : Int32} (h : own_lat c) : ∀ x ∈ own_esc c, own_lat x := by
  intro x hx
  unfold own_esc at hx
  have l1 : own_lat 92 := by unfold own_lat; decide
  have l2 : own_lat 110 := by unfold own_lat; decide
  have l3 : own_lat 34 := by unfold own_lat; decide
  split at hx
  · simp only [List.mem_cons, List.not_mem_nil, or_false] at hx; rcases hx with rfl | rfl <;> exact l1
  · split at hx
    · simp only [List.mem_cons, List.not_mem_nil, or_false] at hx; rcases hx with rfl | rfl <;> assumption
    · split at hx
      · simp only [List.mem_cons, List.not_mem_nil, or_false] at hx; rcases hx with rfl | rfl <;> assumption
      · simp only [List.mem_cons, List.not_mem_nil, or_false] at hx; subst hx; exact h
theorem own_escL_lat : ∀ {M : List Int32}, (∀ c ∈ M, own_lat c) → ∀ x ∈ own_escL M, own_lat x
  | [], _, x, hx => by cases hx
  | c :: r, h, x, hx => by
    simp only [own_escL, List.mem_append] at hx
    rcases hx with hx | hx
    · exact own_esc_lat (h c (List.mem_cons_self ..)) x hx
    · exact own_escL_lat (fun y hy => h y (List.mem_cons_of_mem _ hy)) x hx
theorem own_nk (X Y : List Int32) (k : Nat) (h : Y.length = X.length + k) : own_n X.length + own_n k = own_n Y.length := by rw [own_n_add, h]
theorem own_al0 : ∀ c ∈ ([] : List Int32), own_lat c := fun c h => by cases h
theorem own_alS {c : Int32} {r : List Int32} (h : own_lat c) (g : ∀ x ∈ r, own_lat x) : ∀ x ∈ c :: r, own_lat x := fun x hx => (List.mem_cons.mp hx).elim (fun e => e ▸ h) (g x)
theorem own_alA {X Y : List Int32} (h : ∀ x ∈ X, own_lat x) (g : ∀ x ∈ Y, own_lat x) : ∀ x ∈ X ++ Y, own_lat x := fun x hx => (List.mem_append.mp hx).elim (h x) (g x)
theorem own_ltl {ii : Int32} {M : List Int32} (h0 : ¬ ii < 0) (h : ii < own_n M.length) (hb : M.length < 1000) : ii.toNatClampNeg < M.length := by
  have e0 : (0 : Int32).toInt = 0 := by decide
  rw [Int32.lt_iff_toInt_lt, e0] at h0
  rw [Int32.lt_iff_toInt_lt, own_n_int hb] at h
  have z : ii.toNatClampNeg = ii.toInt.toNat := rfl
  omega
theorem own_arne {Z : State} {h : Heap} {a b : Addr} {k k' : ClassId} {ty ty' : FieldType} {z z' : Int32} {vs vs' : List Value} {d d' : Value} (V : Arv Z h a k ty z vs d) (W : Arv Z h b k' ty' z' vs' d') (q : ty ≠ ty') : a ≠ b := fun e => by
  subst e
  obtain ⟨c, A, -⟩ := V
  obtain ⟨c', A', -⟩ := W
  cases A.1.symm.trans A'.1
  obtain ⟨-, k1, h1, cp1, h2⟩ := A.2.1
  obtain ⟨-, k2, h3, cp2, h4⟩ := A'.2.1
  cases h1.symm.trans h3
  rw [h2] at h4
  cases h4
  exact q rfl
theorem own_len0 {Z : State} {args : Array Value} {t : Term} {de : Addr} {cl : Cell} {z : Int32} (ht : t.eval args Z none [] Z = some (.ref de)) (ha : Z.arrayAt? de = some cl) (hl : (Term.length t).eval args Z none [] Z = some (.int z)) : cl.slots.size < 2 ^ 31 ∧ cl.slots.size.toInt32 = z := by
  simp only [Term.eval, Option.bind_eq_bind, ht, Option.bind_some, ha] at hl
  split at hl
  · rename_i q; exact ⟨q, by simpa using hl⟩
  · cases hl
theorem own_sets {Z : State} {args : Array Value} (h : ∀ d ∈ jdkStatics_1, d.before args Z = true) (hfit : Fit Z) (wi : (Jvm.Cond.initialized zq2).before args Z = true) :
    ∃ (de : Addr) (kd : ClassId) (cz : Int32) (fmt : Value), Sta Z Z.heap zq2 zq26 zq6 (.ref de) ∧ Arv Z Z.heap de kd (.object zq3) (0 : Int32) [] .null ∧ Sta Z Z.heap zq0 zq5 "Z" (.int cz) ∧ ¬ cz = 0 ∧ Sta Z Z.heap zq9 zq12 zq14 fmt ∧ fmt.isRef = true := by
  have hd := h _ (List.mem_of_getElem? (i := 2) rfl)
  have h1 := Cond.before_iff.mp (h _ (List.mem_of_getElem? (i := 6) rfl))
  have h2 := Cond.before_iff.mp (h _ (List.mem_of_getElem? (i := 8) rfl))
  have h7 := h _ (List.mem_of_getElem? (i := 9) rfl)
  have h8 := Cond.before_iff.mp (h _ (List.mem_of_getElem? (i := 10) rfl))
  have h9 := Cond.before_iff.mp (h _ (List.mem_of_getElem? (i := 11) rfl))
  have h10 := h _ (List.mem_of_getElem? (i := 16) rfl)
  have h11 := Cond.before_iff.mp (h _ (List.mem_of_getElem? (i := 17) rfl))
  obtain ⟨de, e1⟩ := arr_v h1
  obtain ⟨cl, A⟩ := Arr.start e1 h1
  obtain ⟨q1, q2⟩ := own_len0 e1 (Arr.fin (State.Warmed39.refl Z).alike A) (eqv_i (Term.int_eval (0 : Int32)) h2)
  obtain ⟨cz, e2⟩ := is_v h8
  obtain ⟨fmt, e3, e4⟩ := isR_v h11
  refine ⟨de, cl.cls, cz, fmt, Sta.start e1 (Or.inr ⟨wi, hd⟩), Arv.start hfit A q1 q2 (by decide) (by decide) trivial, Sta.start e2 (Or.inl h7), fun q => ?_, Sta.start e3 (Or.inl h10), e4⟩
  subst q
  simp only [Cond.value] at h9
  rw [e2] at h9
  simp [Term.eval] at h9
theorem own_frt {t t' t0 n m : Nat} (h : t' = t ∨ n ≤ t') (h1 : t = t0 ∨ m ≤ t) (h2 : m ≤ n) : t' = t0 ∨ m ≤ t' := by
  rcases h with rfl | h
  · exact h1
  · right; omega

theorem ef22 (m : MethodId) (x0 : Addr) : entryFrame m #[(.ref x0)] 1 = mkF m 0 #[.val (.ref x0)] [] := by first | (simp [entryFrame, mkF, argsToLocals, Value.category]; done) | rfl
theorem ctCoderA {l : Launch} {Z : State} {a0 : Array Value} (hw : HW a0 Z) {n0 : Nat} {h0 : Heap} (hn0 : n0 ≤ h0.size) (sx : Addr) (cz : Int32) (Fc : Fld Z h0 sx zq0 "coder" "B" (.int 0)) (OD : Old Z n0 h0) (S2 : Sta Z Z.heap zq0 zq5 "Z" (.int cz)) (hcz : ¬ cz = 0) :
 Ctr l Z (⟨zq0, "coder", "()B"⟩ : MethodName) jdk_42_method_152_code 1 (some .byte) (rQ 0 0 0 0) n0 #[(.ref sx)] h0 (fun v h => v = some (.int 0) ∧ h = h0) := by
 refine Ctr.of (by decide +kernel) hn0 ?_
 intro p e s m below meth c T0 C hnm hret hlk X0
 rw [ef22 m sx]
 refine G.Y 3 C X0 (hQ (wd138 hw)) Via.refl (S2.ext OD.2) d22_0 rfl fun T1 X1 => G.k 6 C X1 d22_3 rfl (feq hcz).1 <| G.a 7 C X1 d22_6 rfl rfl rfl <| G.u 10 C X1 (hQ (wd105 hw)) Via.refl Fc d22_7 rfl fun T2 X2 => G.r 14 C X2 d22_10 (by decide) (by decide) ?_
 exact G.M C X2 d22_14 hret (by simp) (z' := (0 : Int32)) (by decide) hlk (⟨rfl, rfl⟩) (by decide) (by decide)
theorem ef21 (m : MethodId) (x0 : Addr) : entryFrame m #[(.ref x0)] 1 = mkF m 0 #[.val (.ref x0)] [] := by first | (simp [entryFrame, mkF, argsToLocals, Value.category]; done) | rfl
theorem ctLenA {l : Launch} {Z : State} {a0 : Array Value} (hw : HW a0 Z) {n0 : Nat} {h0 : Heap} (hn0 : n0 ≤ h0.size) (sr ru : Addr) (kr : ClassId) (M : List Int32) (cz : Int32) (Er : Exa Z h0 sr zq0) (Rv : Fld Z h0 sr zq0 "value" "[B" (.ref ru)) (Rc : Fld Z h0 sr zq0 "coder" "B" (.int 0)) (Vr : Arv Z h0 ru kr .byte (own_n (M).length) (tx M) (.int 0)) (OD : Old Z n0 h0) (S2 : Sta Z Z.heap zq0 zq5 "Z" (.int cz)) (hcz : ¬ cz = 0) :
 Ctr l Z (⟨zq0, "length", "()I"⟩ : MethodName) jdk_42_method_54_code 1 (some .int) (rQ 1 0 0 20) n0 #[(.ref sr)] h0 (fun v h => v = some (.int (own_n (M).length)) ∧ h = h0) := by
 refine Ctr.of (by decide +kernel) hn0 ?_
 intro p e s m below meth c T0 C hnm hret hlk X0
 rw [ef21 m sr]
 refine G.a 1 C X0 d21_0 rfl rfl rfl <| G.u 4 C X0 (hQ (wd125 hw)) Via.refl Rv d21_1 rfl fun T1 X1 => G.J 5 C X1 Vr d21_4 rfl <| G.a 6 C X1 d21_5 rfl rfl rfl <| G.o 9 (cells' := 0) (slots' := 0) (argsL := []) (St := [(.int (own_n (M).length))]) C X1 (wd133 hw) (wd134 hw) (wd136 hw) (wd135 hw) (by decide) Er (wd137 hw) (wd44 hw) (ctCoderA hw X1.2.1 sr cz Rc OD S2 hcz) (lenOf pd0 rfl) rfl d21_6 rfl rfl (by decide) (nQ rfl) rfl rfl (by decide) (by decide) (fun v2 T2 h2 Q2 X2 z2 => ?_)
 obtain ⟨hv2, hh2⟩ := Q2
 subst hv2; rw [hh2] at X2
 refine G.an 10 (z := (own_n (M).length)) C X2 d21_9 rfl (own_shr0 _) ?_
 exact G.z C X2 d21_10 hret hlk (⟨rfl, rfl⟩) (by decide) (by decide)
theorem ef16 (m : MethodId) (x0 : Addr) : entryFrame m #[(.ref x0)] 1 = mkF m 0 #[.val (.ref x0)] [] := by first | (simp [entryFrame, mkF, argsToLocals, Value.category]; done) | rfl
theorem ctIlA {l : Launch} {Z : State} {a0 : Array Value} (hw : HW a0 Z) {n0 : Nat} {h0 : Heap} (hn0 : n0 ≤ h0.size) (sb : Addr) (cz : Int32) (Fc : Fld Z h0 sb zq1 "coder" "B" (.int 0)) (OD : Old Z n0 h0) (S2 : Sta Z Z.heap zq0 zq5 "Z" (.int cz)) (hcz : ¬ cz = 0) :
 Ctr l Z (⟨zq1, "isLatin1", "()Z"⟩ : MethodName) jdk_68_method_68_code 1 (some .boolean) (rQ 0 0 0 0) n0 #[(.ref sb)] h0 (fun v h => v = some (.int 1) ∧ h = h0) := by
 refine Ctr.of (by decide +kernel) hn0 ?_
 intro p e s m below meth c T0 C hnm hret hlk X0
 rw [ef16 m sb]
 refine G.Y 3 C X0 (hQ (wd43 hw)) Via.refl (S2.ext OD.2) d16_0 rfl fun T1 X1 => G.k 6 C X1 d16_3 rfl (feq hcz).1 <| G.a 7 C X1 d16_6 rfl rfl rfl <| G.u 10 C X1 (hQ (wd48 hw)) Via.refl Fc d16_7 rfl fun T2 X2 => G.k 13 C X2 d16_10 rfl (teq (by decide : (0 : Int32) = 0)).2 <| G.f 14 (z := 1) C X2 d16_13 rfl (by decide) <| G.r 18 C X2 d16_14 (by decide) (by decide) ?_
 exact G.M C X2 d16_18 hret (by simp) (z' := (1 : Int32)) (by decide) hlk (⟨rfl, rfl⟩) (by decide) (by decide)
theorem ef7 (m : MethodId) (x0 : Addr) (x1 : Int32) : entryFrame m #[(.ref x0), (.int x1)] 2 = mkF m 0 #[.val (.ref x0), .val (.int x1)] [] := by first | (simp [entryFrame, mkF, argsToLocals, Value.category]; done) | rfl
theorem ctAsbIA {l : Launch} {Z : State} {a0 : Array Value} (hw : HW a0 Z) {n0 : Nat} {h0 : Heap} (hn0 : n0 ≤ h0.size) (sb : Addr) (cz : Int32) (Es : Exa Z h0 sb zq4) (Fv : Fld Z h0 sb zq1 "value" "[B" .null) (Fc : Fld Z h0 sb zq1 "coder" "B" (.int 0)) (Fn : Fld Z h0 sb zq1 "count" "I" (.int 0)) (gs : n0 ≤ sb) (OD : Old Z n0 h0) (S2 : Sta Z Z.heap zq0 zq5 "Z" (.int cz)) (hcz : ¬ cz = 0) :
 Ctr l Z (⟨zq1, "<init>", "(I)V"⟩ : MethodName) jdk_68_method_2_code 2 none (rQ 1 1 16 12) n0 #[(.ref sb), (.int 16)] h0 (fun v h => ∃ (t : Addr) (k : ClassId), v = none ∧ Keep h0 h [sb] ∧ h0.size ≤ t ∧ sb ≠ t ∧ Exa Z h sb zq4 ∧ Fld Z h sb zq1 "value" "[B" (.ref t) ∧ Fld Z h sb zq1 "coder" "B" (.int 0) ∧ Fld Z h sb zq1 "count" "I" (.int (own_n (([] : List Int32)).length)) ∧ Exa Z h t "[B" ∧ Arv Z h t k .byte (16 : Int32) (tx ([] : List Int32)) (.int 0)) := by
 refine Ctr.of (by decide +kernel) hn0 ?_
 intro p e s m below meth c T0 C hnm hret hlk X0
 rw [ef7 m sb (16 : Int32)]
 refine G.a 1 C X0 d7_0 rfl rfl rfl <| G.ap 4 C X0 (wd42 hw) (wd19 hw) (wd20 hw) d7_1 rfl rfl (by decide) (nQ rfl) fun T1 X1 => G.Y 7 C X1 (hQ (wd43 hw)) Via.refl (S2.ext OD.2) d7_4 rfl fun T2 X2 => G.k 10 C X2 d7_7 rfl (feq hcz).1 <| G.a 11 C X2 d7_10 rfl rfl rfl <| G.b 12 C X2 d7_11 rfl rfl <| G.aD 14 (cap := 16) (d0 := (.int 0)) (cells' := 1) (slots' := 16) C X2 (wd45 hw) rfl (ad := "[B") (by decide) d7_12 rfl (by decide) (by decide) (by decide) rfl rfl rfl (by decide) (by decide) (fun T3 h3 a3 k3 X3 g3 q3 E3 V3 A3 => ?_)
 have ne4 : sb ≠ a3 := Nat.ne_of_lt (Nat.lt_of_lt_of_eq Es.lt g3.symm)
 have sz5 : h0.size ≤ a3 := Nat.le_trans (Keep.refl h0 [sb]).1 (Nat.le_of_eq g3.symm)
 have K6 := (Keep.refl h0 [sb]).ext E3
 replace V3 : Arv Z h3 a3 k3 .byte (16 : Int32) [] (.int 0) := V3.pad (pad_rep [] (.int 0) 0)
 have f7 := (Fv.ext E3)
 have f8 := (Es.ext E3)
 refine G.O 17 C X3 (hQ (wd46 hw)) Via.refl f7 f8 gs (Or.inl (wd47 hw)) (wd31 hw) (ty := (.array .byte)) (by decide) rfl rfl d7_14 rfl (fun T9 h9 X9 W9 F9 => ?_)
 have K10 := K6.wr W9 (mQ 0 rfl)
 refine G.a 18 C X9 d7_17 rfl rfl rfl <| G.f 19 (z := 0) C X9 d7_18 rfl (by decide) ?_
 have f11 := ((Fc.ext E3).other W9 (Or.inr (sQ0 hw)))
 have f12 := (f8.wr W9)
 refine G.ar 22 C X9 (wd48 hw) Via.refl f11 f12 gs (Or.inl (wd49 hw)) (wd31 hw) (ty := .byte) (by decide) (v' := .int (0 : Int32)) rfl (by decide) d7_19 rfl (fun T13 h13 X13 W13 F13 => ?_)
 have K14 := K10.wr W13 (mQ 0 rfl)
 refine G.r 38 C X13 d7_22 (by decide) (by decide) ?_
 have f15 := (f12.wr W13)
 have f16 := (F9.other W13 (Or.inr (sQ1 hw)))
 have f17 := (((Fn.ext E3).other W9 (Or.inr (sQ2 hw))).other W13 (Or.inr (sQ3 hw)))
 have f18 := ((A3.wr W9).wr W13)
 have f19 := ((V3.other W9 (Ne.symm ne4)).other W13 (Ne.symm ne4))
 exact G.E C X13 d7_38 hret hlk (⟨a3, k3, rfl, K14, sz5, ne4, f15, f16, F13, f17, f18, f19⟩) (by decide) (by decide)
theorem ef6 (m : MethodId) (x0 : Addr) : entryFrame m #[(.ref x0)] 1 = mkF m 0 #[.val (.ref x0)] [] := by first | (simp [entryFrame, mkF, argsToLocals, Value.category]; done) | rfl
theorem ctSbIA {l : Launch} {Z : State} {a0 : Array Value} (hw : HW a0 Z) {n0 : Nat} {h0 : Heap} (hn0 : n0 ≤ h0.size) (sb : Addr) (cz : Int32) (Es : Exa Z h0 sb zq4) (Fv : Fld Z h0 sb zq1 "value" "[B" .null) (Fc : Fld Z h0 sb zq1 "coder" "B" (.int 0)) (Fn : Fld Z h0 sb zq1 "count" "I" (.int 0)) (gs : n0 ≤ sb) (OD : Old Z n0 h0) (S2 : Sta Z Z.heap zq0 zq5 "Z" (.int cz)) (hcz : ¬ cz = 0) :
 Ctr l Z (⟨zq4, "<init>", "()V"⟩ : MethodName) jdk_67_method_1_code 1 none (rQ 2 1 16 28) n0 #[(.ref sb)] h0 (fun v h => ∃ (t : Addr) (k : ClassId), v = none ∧ Keep h0 h [sb] ∧ h0.size ≤ t ∧ sb ≠ t ∧ Exa Z h sb zq4 ∧ Fld Z h sb zq1 "value" "[B" (.ref t) ∧ Fld Z h sb zq1 "coder" "B" (.int 0) ∧ Fld Z h sb zq1 "count" "I" (.int (own_n (([] : List Int32)).length)) ∧ Exa Z h t "[B" ∧ Arv Z h t k .byte (16 : Int32) (tx ([] : List Int32)) (.int 0)) := by
 refine Ctr.of (by decide +kernel) hn0 ?_
 intro p e s m below meth c T0 C hnm hret hlk X0
 rw [ef6 m sb]
 refine G.a 1 C X0 d6_0 rfl rfl rfl <| G.j 3 (z := 16) C X0 d6_1 rfl (by decide) <| G.N 6 (cells' := 1) (slots' := 16) (argsL := [(.int 16)]) (St := []) C X0 rfl rfl (wd36 hw) (wd37 hw) (by decide) (wd41 hw) (wd40 hw) (ctAsbIA hw X0.2.1 sb cz Es Fv Fc Fn gs OD S2 hcz) (lenOf pd1 rfl) rfl d6_3 rfl rfl (by decide) (nQ rfl) rfl rfl (by decide) (by decide) (fun v1 T1 h1 Q1 X1 z1 => ?_)
 obtain ⟨t1, k1, hv1, K1, hz1, ns1, Es1, Fv1, Fc1, Fn1, Et1, Vt1⟩ := Q1
 subst hv1
 have K2 := (Keep.refl h0 [sb]).trans K1 (allS (mQ 0 rfl) all0)
 exact G.E C X1 d6_6 hret hlk (⟨t1, k1, rfl, K2, hz1, ns1, Es1, Fv1, Fc1, Fn1, Et1, Vt1⟩) (by decide) (by decide)
theorem ef42 (m : MethodId) (x0 : Addr) (x1 : Int32) : entryFrame m #[(.ref x0), (.int x1)] 3 = mkF m 0 #[.val (.ref x0), .val (.int x1), .unset] [] := by first | (simp [entryFrame, mkF, argsToLocals, Value.category]; done) | rfl
theorem ctEcFA {l : Launch} {Z : State} {a0 : Array Value} (hw : HW a0 Z) {n0 : Nat} {h0 : Heap} (hn0 : n0 ≤ h0.size) (sb tb : Addr) (kt : ClassId) (vs : List Value) (cp jj : Int32) (Es : Exa Z h0 sb zq4) (Fv : Fld Z h0 sb zq1 "value" "[B" (.ref tb)) (Fc : Fld Z h0 sb zq1 "coder" "B" (.int 0)) (Vt : Arv Z h0 tb kt .byte cp vs (.int 0)) (hj : ¬ (0 : Int32) < jj - cp) :
 Ctr l Z (⟨zq1, zq47, "(I)V"⟩ : MethodName) jdk_68_method_9_code 3 none (rQ 0 0 0 0) n0 #[(.ref sb), (.int jj)] h0 (fun v h => v = none ∧ h = h0) := by
 refine Ctr.of (by decide +kernel) hn0 ?_
 intro p e s m below meth c T0 C hnm hret hlk X0
 rw [ef42 m sb jj]
 refine G.a 1 C X0 d42_0 rfl rfl rfl <| G.u 4 C X0 (hQ (wd46 hw)) Via.refl Fv d42_1 rfl fun T1 X1 => G.J 5 C X1 Vt d42_4 rfl <| G.a 6 C X1 d42_5 rfl rfl rfl <| G.u 9 C X1 (hQ (wd48 hw)) Via.refl Fc d42_6 rfl fun T2 X2 => G.an 10 (z := cp) C X2 d42_9 rfl (own_shr0 _) <| G.D 11 C X2 d42_10 rfl (l' := #[vR sb, vI jj, vI cp]) rfl <| G.b 12 C X2 d42_11 rfl rfl <| G.b 13 C X2 d42_12 rfl rfl <| G.ak 14 (z := (jj - cp)) C X2 d42_13 rfl rfl <| G.ad 38 C X2 d42_14 (flt hj).2.2.2 (by decide) (by decide) ?_
 exact G.E C X2 d42_38 hret hlk (⟨rfl, rfl⟩) (by decide) (by decide)
theorem ef32 (m : MethodId) (x0 : Int32) (x1 : Int32) : entryFrame m #[(.int x0), (.int x1)] 2 = mkF m 0 #[.val (.int x0), .val (.int x1)] [] := by first | (simp [entryFrame, mkF, argsToLocals, Value.category]; done) | rfl
theorem ctMxA {l : Launch} {Z : State} {a0 : Array Value} (hw : HW a0 Z) {n0 : Nat} {h0 : Heap} (hn0 : n0 ≤ h0.size) (gr : Int32) (hg : gr < 18) :
 Ctr l Z (⟨zq17, "max", "(II)I"⟩ : MethodName) jdk_29_method_65_code 2 (some .int) (rQ 0 0 0 0) n0 #[(.int gr), (.int 18)] h0 (fun v h => v = some (.int 18) ∧ h = h0) := by
 refine Ctr.of (Jvm.Free.JP.mathPlain rfl (by decide +kernel)) hn0 ?_
 intro p e s m below meth c T0 C hnm hret hlk X0
 rw [ef32 m gr (18 : Int32)]
 refine G.b 1 C X0 d32_0 rfl rfl <| G.b 2 C X0 d32_1 rfl rfl <| G.q 9 C X0 d32_2 (tlt hg).1 (by decide) (by decide) <| G.b 10 C X0 d32_9 rfl rfl ?_
 exact G.z C X0 d32_10 hret hlk (⟨rfl, rfl⟩) (by decide) (by decide)
theorem ef60 (m : MethodId) (x0 : Int32) (x1 : Int32) (x2 : Int32) : entryFrame m #[(.int x0), (.int x1), (.int x2)] 4 = mkF m 0 #[.val (.int x0), .val (.int x1), .val (.int x2), .unset] [] := by first | (simp [entryFrame, mkF, argsToLocals, Value.category]; done) | rfl
theorem ctNlA {l : Launch} {Z : State} {a0 : Array Value} (hw : HW a0 Z) {n0 : Nat} {h0 : Heap} (hn0 : n0 ≤ h0.size) (gr : Int32) (hg : gr < 18) :
 Ctr l Z (⟨zq37, "newLength", "(III)I"⟩ : MethodName) jdk_48_method_27_code 4 (some .int) (rQ 1 0 0 20) n0 #[(.int 16), (.int gr), (.int 18)] h0 (fun v h => v = some (.int 34) ∧ h = h0) := by
 refine Ctr.of (plainFor_of_name pn0) hn0 ?_
 intro p e s m below meth c T0 C hnm hret hlk X0
 rw [ef60 m (16 : Int32) gr (18 : Int32)]
 refine G.b 1 C X0 d60_0 rfl rfl <| G.b 2 C X0 d60_1 rfl rfl <| G.b 3 C X0 d60_2 rfl rfl <| G.i 6 (cells' := 0) (slots' := 0) (argsL := [(.int gr), (.int 18)]) (St := [(.int 16)]) C X0 (wd321 hw) (wd183 hw) (by decide) (wd184 hw) (wd119 hw) (ctMxA hw X0.2.1 gr hg) (lenOf pd2 rfl) rfl d60_3 rfl rfl (by decide) (nQ rfl) rfl rfl (by decide) (by decide) (fun v1 T1 h1 Q1 X1 z1 => ?_)
 obtain ⟨hv1, hh1⟩ := Q1
 subst hv1; rw [hh1] at X1
 refine G.x 7 (z := (34 : Int32)) C X1 d60_6 rfl (by decide) <| G.D 8 C X1 d60_7 rfl (l' := #[vI 16, vI gr, vI 18, vI 34]) rfl <| G.f 9 (z := 0) C X1 d60_8 rfl (by decide) <| G.b 10 C X1 d60_9 rfl rfl <| G.t 13 C X1 d60_10 rfl (tlt (by decide : (0 : Int32) < 34)).2.1 <| G.b 14 C X1 d60_13 rfl rfl <| G.aC 16 C X1 (wd322 hw) d60_14 rfl <| G.t 19 C X1 d60_16 rfl (flt (by decide : ¬ (2147483639 : Int32) < 34)).2.2.1 <| G.b 20 C X1 d60_19 rfl rfl ?_
 exact G.z C X1 d60_20 hret hlk (⟨rfl, rfl⟩) (by decide) (by decide)
theorem ef59 (m : MethodId) (x0 : Addr) (x1 : Int32) : entryFrame m #[(.ref x0), (.int x1)] 6 = mkF m 0 #[.val (.ref x0), .val (.int x1), .unset, .unset, .unset, .unset] [] := by first | (simp [entryFrame, mkF, argsToLocals, Value.category]; done) | rfl
theorem ctNcA {l : Launch} {Z : State} {a0 : Array Value} (hw : HW a0 Z) {n0 : Nat} {h0 : Heap} (hn0 : n0 ≤ h0.size) (sb tb : Addr) (kt : ClassId) (W : List Int32) (jj : Int32) (Es : Exa Z h0 sb zq4) (Fv : Fld Z h0 sb zq1 "value" "[B" (.ref tb)) (Fc : Fld Z h0 sb zq1 "coder" "B" (.int 0)) (Vt : Arv Z h0 tb kt .byte (16 : Int32) (tx W) (.int 0)) (hj2 : jj - 16 < 18) :
 Ctr l Z (⟨zq1, "newCapacity", "(I)I"⟩ : MethodName) jdk_68_method_10_code 6 (some .int) (rQ 2 0 0 40) n0 #[(.ref sb), (.int jj)] h0 (fun v h => v = some (.int 34) ∧ h = h0) := by
 refine Ctr.of (by decide +kernel) hn0 ?_
 intro p e s m below meth c T0 C hnm hret hlk X0
 rw [ef59 m sb jj]
 refine G.a 1 C X0 d59_0 rfl rfl rfl <| G.u 4 C X0 (hQ (wd46 hw)) Via.refl Fv d59_1 rfl fun T1 X1 => G.J 5 C X1 Vt d59_4 rfl <| G.D 6 C X1 d59_5 rfl (l' := #[vR sb, vI jj, vI 16, .unset, .unset, .unset]) rfl <| G.b 7 C X1 d59_6 rfl rfl <| G.a 8 C X1 d59_7 rfl rfl rfl <| G.u 11 C X1 (hQ (wd48 hw)) Via.refl Fc d59_8 rfl fun T2 X2 => G.as 12 (z := jj) C X2 d59_11 rfl (own_shl0 _) <| G.D 13 C X2 d59_12 rfl (l' := #[vR sb, vI jj, vI 16, vI jj, .unset, .unset]) rfl <| G.b 14 C X2 d59_13 rfl rfl <| G.b 15 C X2 d59_14 rfl rfl <| G.ak 16 (z := (jj - (16 : Int32))) C X2 d59_15 rfl rfl <| G.w 18 C X2 d59_16 rfl (l' := #[vR sb, vI jj, vI 16, vI jj, vI (jj - (16 : Int32)), .unset]) rfl <| G.b 19 C X2 d59_18 rfl rfl <| G.g 21 C X2 d59_19 rfl rfl ?_
 refine G.b 22 C X2 d59_21 rfl rfl <| G.f 23 (z := 2) C X2 d59_22 rfl (by decide) <| G.a 24 C X2 d59_23 rfl rfl rfl <| G.u 27 C X2 (hQ (wd48 hw)) Via.refl Fc d59_24 rfl fun T3 X3 => G.as 28 (z := (2 : Int32)) C X3 d59_27 rfl (by decide) <| G.x 29 (z := (18 : Int32)) C X3 d59_28 rfl (by decide) <| G.i 32 (cells' := 0) (slots' := 0) (argsL := [(.int 16), (.int (jj - (16 : Int32))), (.int 18)]) (St := []) C X3 (wd317 hw) (wd318 hw) (by decide) (wd320 hw) (wd319 hw) (ctNlA hw X3.2.1 _ hj2) (lenOf pd3 rfl) rfl d59_29 rfl rfl (by decide) (nQ rfl) rfl rfl (by decide) (by decide) (fun v4 T4 h4 Q4 X4 z4 => ?_)
 obtain ⟨hv4, hh4⟩ := Q4
 subst hv4; rw [hh4] at X4
 refine G.w 34 C X4 d59_32 rfl (l' := #[vR sb, vI jj, vI 16, vI jj, vI (jj - (16 : Int32)), vI 34]) rfl <| G.g 36 C X4 d59_34 rfl rfl <| G.aC 38 C X4 (wd323 hw) d59_36 rfl <| G.q 51 C X4 d59_38 (feq (by decide : ¬ (34 : Int32) = 2147483647)).2 (by decide) (by decide) <| G.g 53 C X4 d59_51 rfl rfl <| G.a 54 C X4 d59_53 rfl rfl rfl <| G.u 57 C X4 (hQ (wd48 hw)) Via.refl Fc d59_54 rfl fun T5 X5 => G.an 58 (z := (34 : Int32)) C X5 d59_57 rfl (by decide) ?_
 exact G.z C X5 d59_58 hret hlk (⟨rfl, rfl⟩) (by decide) (by decide)
theorem ef20 (m : MethodId) (x0 : Int32) (x1 : Int32) : entryFrame m #[(.int x0), (.int x1)] 2 = mkF m 0 #[.val (.int x0), .val (.int x1)] [] := by first | (simp [entryFrame, mkF, argsToLocals, Value.category]; done) | rfl
theorem ctMn1A {l : Launch} {Z : State} {a0 : Array Value} (hw : HW a0 Z) {n0 : Nat} {h0 : Heap} (hn0 : n0 ≤ h0.size)   :
 Ctr l Z (⟨zq17, "min", "(II)I"⟩ : MethodName) jdk_29_method_69_code 2 (some .int) (rQ 0 0 0 0) n0 #[(.int 16), (.int 34)] h0 (fun v h => v = some (.int 16) ∧ h = h0) := by
 refine Ctr.of (Jvm.Free.JP.mathPlain rfl (by decide +kernel)) hn0 ?_
 intro p e s m below meth c T0 C hnm hret hlk X0
 rw [ef20 m (16 : Int32) (34 : Int32)]
 refine G.b 1 C X0 d20_0 rfl rfl <| G.b 2 C X0 d20_1 rfl rfl <| G.t 5 C X0 d20_2 rfl (flt (by decide : ¬ (34 : Int32) < 16)).2.2.1 <| G.b 6 C X0 d20_5 rfl rfl <| G.r 10 C X0 d20_6 (by decide) (by decide) ?_
 exact G.z C X0 d20_10 hret hlk (⟨rfl, rfl⟩) (by decide) (by decide)
theorem ef61 (m : MethodId) (x0 : Addr) (x1 : Int32) : entryFrame m #[(.ref x0), (.int x1)] 3 = mkF m 0 #[.val (.ref x0), .val (.int x1), .unset] [] := by first | (simp [entryFrame, mkF, argsToLocals, Value.category]; done) | rfl
theorem ctCoA {l : Launch} {Z : State} {a0 : Array Value} (hw : HW a0 Z) {n0 : Nat} {h0 : Heap} (hn0 : n0 ≤ h0.size) (tb : Addr) (kt : ClassId) (W : List Int32) (Vt : Arv Z h0 tb kt .byte (16 : Int32) (tx W) (.int 0)) (hW : W.length ≤ 16) :
 Ctr l Z (⟨zq10, "copyOf", "([BI)[B"⟩ : MethodName) jdk_65_method_121_code 3 (some (.array .byte)) (rQ 1 1 34 30) n0 #[(.ref tb), (.int 34)] h0 (fun v h => ∃ (t : Addr) (k : ClassId), v = some (.ref t) ∧ Keep h0 h [] ∧ h0.size ≤ t ∧ Exa Z h t "[B" ∧ Arv Z h t k .byte (34 : Int32) (tx W) (.int 0)) := by
 refine Ctr.of (plainFor_of_name pn1) hn0 ?_
 intro p e s m below meth c T0 C hnm hret hlk X0
 rw [ef61 m tb (34 : Int32)]
 refine G.b 1 C X0 d61_0 rfl rfl <| G.a 2 C X0 d61_1 rfl rfl rfl <| G.J 3 C X0 Vt d61_2 rfl <| G.q 14 C X0 d61_3 (feq (by decide : ¬ (34 : Int32) = 16)).2 (by decide) (by decide) <| G.b 15 C X0 d61_14 rfl rfl <| G.aD 17 (cap := 34) (d0 := (.int 0)) (cells' := 1) (slots' := 34) C X0 (wd45 hw) rfl (ad := "[B") (by decide) d61_15 rfl (by decide) (by decide) (by decide) rfl rfl rfl (by decide) (by decide) (fun T1 h1 a1 k1 X1 g1 q1 E1 V1 A1 => ?_)
 have sz3 : h0.size ≤ a1 := Nat.le_trans (Keep.refl h0 []).1 (Nat.le_of_eq g1.symm)
 have K4 := (Keep.refl h0 []).ext E1
 replace V1 : Arv Z h1 a1 k1 .byte (34 : Int32) [(.int 0), (.int 0), (.int 0), (.int 0), (.int 0), (.int 0), (.int 0), (.int 0), (.int 0), (.int 0), (.int 0), (.int 0), (.int 0), (.int 0), (.int 0), (.int 0), (.int 0), (.int 0), (.int 0), (.int 0), (.int 0), (.int 0), (.int 0), (.int 0), (.int 0), (.int 0), (.int 0), (.int 0), (.int 0), (.int 0), (.int 0), (.int 0), (.int 0), (.int 0)] (.int 0) := V1.pad (pad_rep [] (.int 0) 34)
 refine G.ac 18 C X1 d61_17 rfl rfl (l' := #[vR tb, vI 34, vR a1]) rfl <| G.a 19 C X1 d61_18 rfl rfl rfl <| G.f 20 (z := 0) C X1 d61_19 rfl (by decide) <| G.a 21 C X1 d61_20 rfl rfl rfl <| G.f 22 (z := 0) C X1 d61_21 rfl (by decide) <| G.a 23 C X1 d61_22 rfl rfl rfl ?_
 have f5 := (Vt.ext E1)
 refine G.J 24 C X1 f5 d61_23 rfl <| G.b 25 C X1 d61_24 rfl rfl <| G.i 28 (cells' := 1) (slots' := 34) (argsL := [(.int 16), (.int 34)]) (St := [(.int 0), (.ref a1), (.int 0), (.ref tb)]) C X1 (wd117 hw) (wd118 hw) (by decide) (wd120 hw) (wd119 hw) (ctMn1A hw X1.2.1) (lenOf pd2 rfl) rfl d61_25 rfl rfl (by decide) (nQ rfl) rfl rfl (by decide) (by decide) (fun v6 T6 h6 Q6 X6 z6 => ?_)
 obtain ⟨hv6, hh6⟩ := Q6
 subst hv6; rw [hh6] at X6
 refine G.ay 31 (us := ((List.range 16).map fun i => (tx W).getD (0 + i) (.int 0))) (vr := (((List.range 16).map fun i => (tx W).getD (0 + i) (.int 0)) ++ [.int (0 : Int32), .int (0 : Int32), .int (0 : Int32), .int (0 : Int32), .int (0 : Int32), .int (0 : Int32), .int (0 : Int32), .int (0 : Int32), .int (0 : Int32), .int (0 : Int32), .int (0 : Int32), .int (0 : Int32), .int (0 : Int32), .int (0 : Int32), .int (0 : Int32), .int (0 : Int32), .int (0 : Int32), .int (0 : Int32)])) C X6 (wd121 hw) (wd124 hw) (wd122 hw) (wd123 hw) f5 V1 rfl (by decide) (by decide) (by decide) (by decide) (by decide) rfl (nQ rfl) rfl q1 d61_28 rfl rfl (by decide) (nQ rfl) (fun T7 h7 X7 K7 V7 => ?_)
 replace V7 : Arv Z h7 a1 k1 .byte (34 : Int32) (tx W) (.int 0) := V7.pad (own_cpy _ _ 16 18 (by rw [tx_len]; exact hW))
 have K8 := K4.trans K7 (allS (Or.inr sz3) all0)
 refine G.a 32 C X7 d61_31 rfl rfl rfl ?_
 have f9 := (A1.keep K7)
 exact G.B C X7 d61_32 hret rfl rfl hlk (⟨a1, k1, rfl, K8, sz3, f9, V7⟩) (by decide) (by decide)
theorem ctEcGA {l : Launch} {Z : State} {a0 : Array Value} (hw : HW a0 Z) {n0 : Nat} {h0 : Heap} (hn0 : n0 ≤ h0.size) (sb tb : Addr) (kt : ClassId) (W : List Int32) (jj : Int32) (nn : Int32) (Es : Exa Z h0 sb zq4) (Fv : Fld Z h0 sb zq1 "value" "[B" (.ref tb)) (Fc : Fld Z h0 sb zq1 "coder" "B" (.int 0)) (Vt : Arv Z h0 tb kt .byte (16 : Int32) (tx W) (.int 0)) (Fn : Fld Z h0 sb zq1 "count" "I" (.int nn)) (gs : n0 ≤ sb) (hj1 : (0 : Int32) < jj - 16) (hj2 : jj - 16 < 18) (hW : W.length ≤ 16) :
 Ctr l Z (⟨zq1, zq47, "(I)V"⟩ : MethodName) jdk_68_method_9_code 3 none (rQ 3 1 34 64) n0 #[(.ref sb), (.int jj)] h0 (fun v h => ∃ (t : Addr) (k : ClassId), v = none ∧ Keep h0 h [sb] ∧ h0.size ≤ t ∧ Exa Z h sb zq4 ∧ Fld Z h sb zq1 "value" "[B" (.ref t) ∧ Fld Z h sb zq1 "coder" "B" (.int 0) ∧ Fld Z h sb zq1 "count" "I" (.int nn) ∧ Exa Z h t "[B" ∧ Arv Z h t k .byte (34 : Int32) (tx W) (.int 0)) := by
 refine Ctr.of (by decide +kernel) hn0 ?_
 intro p e s m below meth c T0 C hnm hret hlk X0
 rw [ef42 m sb jj]
 refine G.a 1 C X0 d42_0 rfl rfl rfl <| G.u 4 C X0 (hQ (wd46 hw)) Via.refl Fv d42_1 rfl fun T1 X1 => G.J 5 C X1 Vt d42_4 rfl <| G.a 6 C X1 d42_5 rfl rfl rfl <| G.u 9 C X1 (hQ (wd48 hw)) Via.refl Fc d42_6 rfl fun T2 X2 => G.an 10 (z := (16 : Int32)) C X2 d42_9 rfl (by decide) <| G.D 11 C X2 d42_10 rfl (l' := #[vR sb, vI jj, vI 16]) rfl <| G.b 12 C X2 d42_11 rfl rfl <| G.b 13 C X2 d42_12 rfl rfl <| G.ak 14 (z := (jj - (16 : Int32))) C X2 d42_13 rfl rfl <| G.k 17 C X2 d42_14 rfl (tlt hj1).2.2.2 <| G.a 18 C X2 d42_17 rfl rfl rfl <| G.a 19 C X2 d42_18 rfl rfl rfl <| G.u 22 C X2 (hQ (wd46 hw)) Via.refl Fv d42_19 rfl fun T3 X3 => G.a 23 C X3 d42_22 rfl rfl rfl ?_
 refine G.b 24 C X3 d42_23 rfl rfl <| G.aj 27 (cells' := 0) (slots' := 0) (argsL := [(.int jj)]) (St := [(.ref tb), (.ref sb)]) C X3 (wd312 hw) (wd313 hw) (wd314 hw) (wd87 hw) rfl (by decide) Es (wd316 hw) (wd40 hw) (ctNcA hw X3.2.1 sb tb kt W jj Es Fv Fc Vt hj2) (lenOf pd4 rfl) rfl d42_24 rfl rfl (by decide) (nQ rfl) rfl rfl (by decide) (by decide) (fun v4 T4 h4 Q4 X4 z4 => ?_)
 obtain ⟨hv4, hh4⟩ := Q4
 subst hv4; rw [hh4] at X4
 refine G.a 28 C X4 d42_27 rfl rfl rfl <| G.u 31 C X4 (hQ (wd48 hw)) Via.refl Fc d42_28 rfl fun T5 X5 => G.as 32 (z := (34 : Int32)) C X5 d42_31 rfl (by decide) <| G.i 35 (cells' := 1) (slots' := 34) (argsL := [(.ref tb), (.int 34)]) (St := [(.ref sb)]) C X5 (wd324 hw) (wd325 hw) (by decide) (wd326 hw) (wd109 hw) (ctCoA hw X5.2.1 tb kt W Vt hW) (lenOf pd5 rfl) rfl d42_32 rfl rfl (by decide) (nQ rfl) rfl rfl (by decide) (by decide) (fun v6 T6 h6 Q6 X6 z6 => ?_)
 obtain ⟨t6, k6, hv6, K6, hz6, Et6, Vt6⟩ := Q6
 subst hv6
 have K7 := (Keep.refl h0 [sb]).trans K6 all0
 have ns6 : sb ≠ t6 := Nat.ne_of_lt (Nat.lt_of_lt_of_le Es.lt hz6)
 have f8 := (Fv.keep K6 nin0)
 have f9 := (Es.keep K6)
 refine G.O 38 C X6 (hQ (wd46 hw)) Via.refl f8 f9 gs (Or.inl (wd47 hw)) (wd31 hw) (ty := (.array .byte)) (by decide) rfl rfl d42_35 rfl (fun T10 h10 X10 W10 F10 => ?_)
 have K11 := K7.wr W10 (mQ 0 rfl)
 have f12 := (f9.wr W10)
 have f13 := ((Fc.keep K6 nin0).other W10 (Or.inr (sQ0 hw)))
 have f14 := ((Fn.keep K6 nin0).other W10 (Or.inr (sQ2 hw)))
 have f15 := (Et6.wr W10)
 have f16 := (Vt6.other W10 (Ne.symm ns6))
 exact G.E C X10 d42_38 hret hlk (⟨t6, k6, rfl, K11, hz6, f12, F10, f13, f14, f15, f16⟩) (by decide) (by decide)
theorem ef50 (m : MethodId) (x0 : Addr) (x1 : Addr) : entryFrame m #[(.ref x0), (.ref x1)] 2 = mkF m 0 #[.val (.ref x0), .val (.ref x1)] [] := by first | (simp [entryFrame, mkF, argsToLocals, Value.category]; done) | rfl
theorem ctIfA {l : Launch} {Z : State} {a0 : Array Value} (hw : HW a0 Z) {n0 : Nat} {h0 : Heap} (hn0 : n0 ≤ h0.size) (sb sr : Addr) (cz : Int32) (Fc : Fld Z h0 sb zq1 "coder" "B" (.int 0)) (Er : Exa Z h0 sr zq0) (Rc : Fld Z h0 sr zq0 "coder" "B" (.int 0)) (OD : Old Z n0 h0) (S2 : Sta Z Z.heap zq0 zq5 "Z" (.int cz)) (hcz : ¬ cz = 0) :
 Ctr l Z (⟨zq1, zq51, zq39⟩ : MethodName) jdk_68_method_71_code 2 none (rQ 1 0 0 16) n0 #[(.ref sb), (.ref sr)] h0 (fun v h => v = none ∧ h = h0) := by
 refine Ctr.of (by decide +kernel) hn0 ?_
 intro p e s m below meth c T0 C hnm hret hlk X0
 rw [ef50 m sb sr]
 refine G.Y 3 C X0 (hQ (wd43 hw)) Via.refl (S2.ext OD.2) d50_0 rfl fun T1 X1 => G.k 6 C X1 d50_3 rfl (feq hcz).1 <| G.a 7 C X1 d50_6 rfl rfl rfl <| G.u 10 C X1 (hQ (wd48 hw)) Via.refl Fc d50_7 rfl fun T2 X2 => G.a 11 C X2 d50_10 rfl rfl rfl <| G.o 14 (cells' := 0) (slots' := 0) (argsL := []) (St := [(.int 0)]) C X2 (wd272 hw) (wd134 hw) (wd136 hw) (wd135 hw) (by decide) Er (wd137 hw) (wd44 hw) (ctCoderA hw X2.2.1 sr cz Rc OD S2 hcz) (lenOf pd0 rfl) rfl d50_11 rfl rfl (by decide) (nQ rfl) rfl rfl (by decide) (by decide) (fun v3 T3 h3 Q3 X3 z3 => ?_)
 obtain ⟨hv3, hh3⟩ := Q3
 subst hv3; rw [hh3] at X3
 refine G.q 21 C X3 d50_14 (teq (by decide : (0 : Int32) = 0)).1 (by decide) (by decide) ?_
 exact G.E C X3 d50_21 hret hlk (⟨rfl, rfl⟩) (by decide) (by decide)
theorem ef51 (m : MethodId) (x0 : Addr) (x1 : Addr) (x2 : Int32) (x3 : Int32) : entryFrame m #[(.ref x0), (.ref x1), (.int x2), (.int x3)] 4 = mkF m 0 #[.val (.ref x0), .val (.ref x1), .val (.int x2), .val (.int x3)] [] := by first | (simp [entryFrame, mkF, argsToLocals, Value.category]; done) | rfl
theorem ctGbA {l : Launch} {Z : State} {a0 : Array Value} (hw : HW a0 Z) {n0 : Nat} {h0 : Heap} (hn0 : n0 ≤ h0.size) (sr ru tb : Addr) (kr kt : ClassId) (M W : List Int32) (cp cz : Int32) (Er : Exa Z h0 sr zq0) (Rv : Fld Z h0 sr zq0 "value" "[B" (.ref ru)) (Rc : Fld Z h0 sr zq0 "coder" "B" (.int 0)) (Vr : Arv Z h0 ru kr .byte (own_n (M).length) (tx M) (.int 0)) (Vt : Arv Z h0 tb kt .byte cp (tx W) (.int 0)) (gt : n0 ≤ tb) (nrt : ru ≠ tb) (hb : W.length + M.length < 1000) (hfit : W.length + M.length ≤ cp.toNatClampNeg) (OD : Old Z n0 h0) (S2 : Sta Z Z.heap zq0 zq5 "Z" (.int cz)) (hcz : ¬ cz = 0) :
 Ctr l Z (⟨zq0, "getBytes", "([BIB)V"⟩ : MethodName) jdk_42_method_147_code 4 none (rQ 1 0 0 24) n0 #[(.ref sr), (.ref tb), (.int (own_n (W).length)), (.int 0)] h0 (fun v h => v = none ∧ Keep h0 h [tb] ∧ Arv Z h tb kt .byte cp (tx (W ++ M)) (.int 0)) := by
 refine Ctr.of (by decide +kernel) hn0 ?_
 intro p e s m below meth c T0 C hnm hret hlk X0
 rw [ef51 m sr tb (own_n (W).length) (0 : Int32)]
 refine G.a 1 C X0 d51_0 rfl rfl rfl <| G.o 4 (cells' := 0) (slots' := 0) (argsL := []) (St := []) C X0 (wd133 hw) (wd134 hw) (wd136 hw) (wd135 hw) (by decide) Er (wd137 hw) (wd44 hw) (ctCoderA hw X0.2.1 sr cz Rc OD S2 hcz) (lenOf pd0 rfl) rfl d51_1 rfl rfl (by decide) (nQ rfl) rfl rfl (by decide) (by decide) (fun v1 T1 h1 Q1 X1 z1 => ?_)
 obtain ⟨hv1, hh1⟩ := Q1
 subst hv1; rw [hh1] at X1
 refine G.b 5 C X1 d51_4 rfl rfl <| G.t 8 C X1 d51_5 rfl (teq (by decide : (0 : Int32) = 0)).2 <| G.a 9 C X1 d51_8 rfl rfl rfl <| G.u 12 C X1 (hQ (wd125 hw)) Via.refl Rv d51_9 rfl fun T2 X2 => G.f 13 (z := 0) C X2 d51_12 rfl (by decide) <| G.a 14 C X2 d51_13 rfl rfl rfl <| G.b 15 C X2 d51_14 rfl rfl <| G.b 16 C X2 d51_15 rfl rfl <| G.as 17 (z := (own_n (W).length)) C X2 d51_16 rfl (own_shl0 _) <| G.a 18 C X2 d51_17 rfl rfl rfl <| G.u 21 C X2 (hQ (wd125 hw)) Via.refl Rv d51_18 rfl fun T3 X3 => G.J 22 C X3 Vr d51_21 rfl <| G.ay 25 (us := (tx M)) (vr := (tx (W ++ M))) C X3 (wd278 hw) (wd124 hw) (wd122 hw) (wd123 hw) Vr (Vt.pad (pad_rep (tx W) (.int 0) M.length)) rfl (by decide) (own_n_ge (by omega)) (own_n_ge (by omega)) (own_c0 _) (own_wh hb hfit) (own_us M _ (by omega)) (own_wl hb) (own_vr W M _ hb) gt d51_22 rfl rfl (by decide) (nQ rfl) (fun T4 h4 X4 K4 V4 => ?_)
 have K5 := (Keep.refl h0 [tb]).trans K4 (allS (mQ 0 rfl) all0)
 refine G.r 43 C X4 d51_25 (by decide) (by decide) ?_
 exact G.E C X4 d51_43 hret hlk (⟨rfl, K5, V4⟩) (by decide) (by decide)
theorem ef49 (m : MethodId) (x0 : Addr) (x1 : Int32) (x2 : Addr) : entryFrame m #[(.ref x0), (.int x1), (.ref x2)] 3 = mkF m 0 #[.val (.ref x0), .val (.int x1), .val (.ref x2)] [] := by first | (simp [entryFrame, mkF, argsToLocals, Value.category]; done) | rfl
theorem ctPutA {l : Launch} {Z : State} {a0 : Array Value} (hw : HW a0 Z) {n0 : Nat} {h0 : Heap} (hn0 : n0 ≤ h0.size) (sb : Addr) (sr ru tb : Addr) (kr kt : ClassId) (M W : List Int32) (cp cz : Int32) (Es : Exa Z h0 sb zq4) (Fv : Fld Z h0 sb zq1 "value" "[B" (.ref tb)) (Fc : Fld Z h0 sb zq1 "coder" "B" (.int 0)) (nst : sb ≠ tb) (Er : Exa Z h0 sr zq0) (Rv : Fld Z h0 sr zq0 "value" "[B" (.ref ru)) (Rc : Fld Z h0 sr zq0 "coder" "B" (.int 0)) (Vr : Arv Z h0 ru kr .byte (own_n (M).length) (tx M) (.int 0)) (Vt : Arv Z h0 tb kt .byte cp (tx W) (.int 0)) (gt : n0 ≤ tb) (nrt : ru ≠ tb) (hb : W.length + M.length < 1000) (hfit : W.length + M.length ≤ cp.toNatClampNeg) (OD : Old Z n0 h0) (S2 : Sta Z Z.heap zq0 zq5 "Z" (.int cz)) (hcz : ¬ cz = 0) :
 Ctr l Z (⟨zq1, "putStringAt", zq40⟩ : MethodName) jdk_68_method_73_code 3 none (rQ 2 0 0 44) n0 #[(.ref sb), (.int (own_n (W).length)), (.ref sr)] h0 (fun v h => v = none ∧ Keep h0 h [tb] ∧ Arv Z h tb kt .byte cp (tx (W ++ M)) (.int 0)) := by
 refine Ctr.of (by decide +kernel) hn0 ?_
 intro p e s m below meth c T0 C hnm hret hlk X0
 rw [ef49 m sb (own_n (W).length) sr]
 refine G.a 1 C X0 d49_0 rfl rfl rfl <| G.a 2 C X0 d49_1 rfl rfl rfl <| G.aj 5 (cells' := 0) (slots' := 0) (argsL := [(.ref sr)]) (St := []) C X0 (wd267 hw) (wd268 hw) (wd269 hw) (wd87 hw) rfl (by decide) Es (wd271 hw) (wd40 hw) (ctIfA hw X0.2.1 sb sr cz Fc Er Rc OD S2 hcz) (lenOf pd6 rfl) rfl d49_2 rfl rfl (by decide) (nQ rfl) rfl rfl (by decide) (by decide) (fun v1 T1 h1 Q1 X1 z1 => ?_)
 obtain ⟨hv1, hh1⟩ := Q1
 subst hv1; rw [hh1] at X1
 refine G.a 6 C X1 d49_5 rfl rfl rfl <| G.a 7 C X1 d49_6 rfl rfl rfl <| G.u 10 C X1 (hQ (wd46 hw)) Via.refl Fv d49_7 rfl fun T2 X2 => G.b 11 C X2 d49_10 rfl rfl <| G.a 12 C X2 d49_11 rfl rfl rfl <| G.u 15 C X2 (hQ (wd48 hw)) Via.refl Fc d49_12 rfl fun T3 X3 => G.o 18 (cells' := 0) (slots' := 0) (argsL := [(.ref tb), (.int (own_n (W).length)), (.int 0)]) (St := []) C X3 (wd273 hw) (wd274 hw) (wd276 hw) (wd275 hw) (by decide) Er (wd277 hw) (wd44 hw) (ctGbA hw X3.2.1 sr ru tb kr kt M W cp cz Er Rv Rc Vr Vt gt nrt hb hfit OD S2 hcz) (lenOf pd7 rfl) rfl d49_15 rfl rfl (by decide) (nQ rfl) rfl rfl (by decide) (by decide) (fun v4 T4 h4 Q4 X4 z4 => ?_)
 obtain ⟨hv4, K4, Vt4⟩ := Q4
 subst hv4
 have K5 := (Keep.refl h0 [tb]).trans K4 (allS (mQ 0 rfl) all0)
 exact G.E C X4 d49_18 hret hlk (⟨rfl, K5, Vt4⟩) (by decide) (by decide)
theorem ef48 (m : MethodId) (x0 : Addr) (x1 : Addr) : entryFrame m #[(.ref x0), (.ref x1)] 3 = mkF m 0 #[.val (.ref x0), .val (.ref x1), .unset] [] := by first | (simp [entryFrame, mkF, argsToLocals, Value.category]; done) | rfl
theorem ctAapFA {l : Launch} {Z : State} {a0 : Array Value} (hw : HW a0 Z) {n0 : Nat} {h0 : Heap} (hn0 : n0 ≤ h0.size) (sb tb : Addr) (kt : ClassId) (W : List Int32) (cp : Int32) (sr ru : Addr) (kr : ClassId) (M : List Int32) (cz : Int32) (Es : Exa Z h0 sb zq4) (Fv : Fld Z h0 sb zq1 "value" "[B" (.ref tb)) (Fc : Fld Z h0 sb zq1 "coder" "B" (.int 0)) (Fn : Fld Z h0 sb zq1 "count" "I" (.int (own_n (W).length))) (Et : Exa Z h0 tb "[B") (Vt : Arv Z h0 tb kt .byte cp (tx W) (.int 0)) (gs : n0 ≤ sb) (gt : n0 ≤ tb) (nst : sb ≠ tb) (Er : Exa Z h0 sr zq0) (Rv : Fld Z h0 sr zq0 "value" "[B" (.ref ru)) (Rc : Fld Z h0 sr zq0 "coder" "B" (.int 0)) (Vr : Arv Z h0 ru kr .byte (own_n (M).length) (tx M) (.int 0)) (nrt : ru ≠ tb) (nsr : sr ≠ sb) (nsq : sr ≠ tb) (hb : W.length + M.length < 1000) (hcp : cp = 16 ∨ cp = 34) (hfit : W.length + M.length ≤ cp.toNatClampNeg) (hj : ¬ (0 : Int32) < (own_n ((W ++ M)).length) - cp) (OD : Old Z n0 h0) (S2 : Sta Z Z.heap zq0 zq5 "Z" (.int cz)) (hcz : ¬ cz = 0) :
 Ctr l Z (⟨zq1, "append", zq22⟩ : MethodName) jdk_68_method_22_code 3 (some (.object zq1)) (rQ 4 1 34 100) n0 #[(.ref sb), (.ref sr)] h0 (fun v h => ∃ (t : Addr) (k : ClassId) (cq : Int32), v = some (.ref sb) ∧ Keep h0 h [sb, tb] ∧ (t = tb ∨ h0.size ≤ t) ∧ (cq = 16 ∨ cq = 34) ∧ (W ++ M).length ≤ cq.toNatClampNeg ∧ sb ≠ t ∧ Exa Z h sb zq4 ∧ Fld Z h sb zq1 "value" "[B" (.ref t) ∧ Fld Z h sb zq1 "coder" "B" (.int 0) ∧ Fld Z h sb zq1 "count" "I" (.int (own_n ((W ++ M)).length)) ∧ Exa Z h t "[B" ∧ Arv Z h t k .byte cq (tx (W ++ M)) (.int 0)) := by
 refine Ctr.of (by decide +kernel) hn0 ?_
 intro p e s m below meth c T0 C hnm hret hlk X0
 rw [ef48 m sb sr]
 refine G.a 1 C X0 d48_0 rfl rfl rfl <| G.aB 9 C X0 d48_1 (by decide) (by decide) <| G.a 10 C X0 d48_9 rfl rfl rfl <| G.o 13 (cells' := 0) (slots' := 0) (argsL := []) (St := []) C X0 (wd261 hw) (wd129 hw) (wd131 hw) (wd130 hw) (by decide) Er (wd132 hw) (wd44 hw) (ctLenA hw X0.2.1 sr ru kr M cz Er Rv Rc Vr OD S2 hcz) (lenOf pd8 rfl) rfl d48_10 rfl rfl (by decide) (nQ rfl) rfl rfl (by decide) (by decide) (fun v1 T1 h1 Q1 X1 z1 => ?_)
 obtain ⟨hv1, hh1⟩ := Q1
 subst hv1; rw [hh1] at X1
 refine G.D 14 C X1 d48_13 rfl (l' := #[vR sb, vR sr, vI (own_n (M).length)]) rfl <| G.a 15 C X1 d48_14 rfl rfl rfl <| G.a 16 C X1 d48_15 rfl rfl rfl <| G.u 19 C X1 (hQ (wd98 hw)) Via.refl Fn d48_16 rfl fun T2 X2 => G.b 20 C X2 d48_19 rfl rfl <| G.x 21 (z := (own_n ((W ++ M)).length)) C X2 d48_20 rfl (own_n_app W M) <| G.aj 24 (cells' := 0) (slots' := 0) (argsL := [(.int (own_n ((W ++ M)).length))]) (St := []) C X2 (wd223 hw) (wd224 hw) (wd225 hw) (wd87 hw) rfl (by decide) Es (wd227 hw) (wd40 hw) (ctEcFA hw X2.2.1 sb tb kt _ cp _ Es Fv Fc Vt hj) (lenOf pd1 rfl) rfl d48_21 rfl rfl (by decide) (nQ rfl) rfl rfl (by decide) (by decide) (fun v3 T3 h3 Q3 X3 z3 => ?_)
 obtain ⟨hv3, hh3⟩ := Q3
 subst hv3; rw [hh3] at X3
 refine G.a 25 C X3 d48_24 rfl rfl rfl <| G.a 26 C X3 d48_25 rfl rfl rfl <| G.u 29 C X3 (hQ (wd98 hw)) Via.refl Fn d48_26 rfl fun T4 X4 => G.a 30 C X4 d48_29 rfl rfl rfl <| G.aj 33 (cells' := 0) (slots' := 0) (argsL := [(.int (own_n (W).length)), (.ref sr)]) (St := []) C X4 (wd262 hw) (wd263 hw) (wd264 hw) (wd87 hw) rfl (by decide) Es (wd266 hw) (wd40 hw) (ctPutA hw X4.2.1 sb sr ru tb kr kt M W cp cz Es Fv Fc nst Er Rv Rc Vr Vt gt nrt hb hfit OD S2 hcz) (lenOf pd9 rfl) rfl d48_30 rfl rfl (by decide) (nQ rfl) rfl rfl (by decide) (by decide) (fun v5 T5 h5 Q5 X5 z5 => ?_)
 obtain ⟨hv5, K5, Vt5⟩ := Q5
 subst hv5
 have K6 := (Keep.refl h0 [sb, tb]).trans K5 (allS (mQ 1 rfl) all0)
 refine G.a 34 C X5 d48_33 rfl rfl rfl <| G.I 35 C X5 d48_34 rfl rfl ?_
 have f7 := (Fn.keep K5 (ninS nst nin0))
 refine G.u 38 C X5 (hQ (wd98 hw)) Via.refl f7 d48_35 rfl fun T8 X8 => G.b 39 C X8 d48_38 rfl rfl <| G.x 40 (z := (own_n ((W ++ M)).length)) C X8 d48_39 rfl (own_n_app W M) ?_
 have f9 := (Es.keep K5)
 refine G.O 43 C X8 (hQ (wd98 hw)) Via.refl f7 f9 gs (Or.inl (wd99 hw)) (wd31 hw) (ty := .int) (by decide) rfl rfl d48_40 rfl (fun T10 h10 X10 W10 F10 => ?_)
 have K11 := K6.wr W10 (mQ 0 rfl)
 refine G.a 44 C X10 d48_43 rfl rfl rfl ?_
 have f12 := (f9.wr W10)
 have f13 := ((Fv.keep K5 (ninS nst nin0)).other W10 (Or.inr (sQ4 hw)))
 have f14 := ((Fc.keep K5 (ninS nst nin0)).other W10 (Or.inr (sQ5 hw)))
 have f15 := ((Et.keep K5).wr W10)
 have f16 := (Vt5.other W10 (Ne.symm nst))
 exact G.B C X10 d48_44 hret rfl rfl hlk (⟨tb, kt, cp, rfl, K11, Or.inl rfl, hcp, (by rw [List.length_append]; exact hfit), nst, f12, f13, f14, F10, f15, f16⟩) (by decide) (by decide)
theorem ctAapGA {l : Launch} {Z : State} {a0 : Array Value} (hw : HW a0 Z) {n0 : Nat} {h0 : Heap} (hn0 : n0 ≤ h0.size) (sb tb : Addr) (kt : ClassId) (W : List Int32) (sr ru : Addr) (kr : ClassId) (M : List Int32) (cz : Int32) (Es : Exa Z h0 sb zq4) (Fv : Fld Z h0 sb zq1 "value" "[B" (.ref tb)) (Fc : Fld Z h0 sb zq1 "coder" "B" (.int 0)) (Fn : Fld Z h0 sb zq1 "count" "I" (.int (own_n (W).length))) (Et : Exa Z h0 tb "[B") (Vt : Arv Z h0 tb kt .byte (16 : Int32) (tx W) (.int 0)) (gs : n0 ≤ sb) (gt : n0 ≤ tb) (nst : sb ≠ tb) (Er : Exa Z h0 sr zq0) (Rv : Fld Z h0 sr zq0 "value" "[B" (.ref ru)) (Rc : Fld Z h0 sr zq0 "coder" "B" (.int 0)) (Vr : Arv Z h0 ru kr .byte (own_n (M).length) (tx M) (.int 0)) (nrt : ru ≠ tb) (nsr : sr ≠ sb) (nsq : sr ≠ tb) (hb : W.length + M.length < 1000) (hW : W.length ≤ 16) (hg : (0 : Int32) < (own_n ((W ++ M)).length) - 16 ∧ (own_n ((W ++ M)).length) - 16 < 18) (hl34 : W.length + M.length < 34) (OD : Old Z n0 h0) (S2 : Sta Z Z.heap zq0 zq5 "Z" (.int cz)) (hcz : ¬ cz = 0) :
 Ctr l Z (⟨zq1, "append", zq22⟩ : MethodName) jdk_68_method_22_code 3 (some (.object zq1)) (rQ 4 1 34 100) n0 #[(.ref sb), (.ref sr)] h0 (fun v h => ∃ (t : Addr) (k : ClassId) (cq : Int32), v = some (.ref sb) ∧ Keep h0 h [sb, tb] ∧ (t = tb ∨ h0.size ≤ t) ∧ (cq = 16 ∨ cq = 34) ∧ (W ++ M).length ≤ cq.toNatClampNeg ∧ sb ≠ t ∧ Exa Z h sb zq4 ∧ Fld Z h sb zq1 "value" "[B" (.ref t) ∧ Fld Z h sb zq1 "coder" "B" (.int 0) ∧ Fld Z h sb zq1 "count" "I" (.int (own_n ((W ++ M)).length)) ∧ Exa Z h t "[B" ∧ Arv Z h t k .byte cq (tx (W ++ M)) (.int 0)) := by
 refine Ctr.of (by decide +kernel) hn0 ?_
 intro p e s m below meth c T0 C hnm hret hlk X0
 rw [ef48 m sb sr]
 refine G.a 1 C X0 d48_0 rfl rfl rfl <| G.aB 9 C X0 d48_1 (by decide) (by decide) <| G.a 10 C X0 d48_9 rfl rfl rfl <| G.o 13 (cells' := 0) (slots' := 0) (argsL := []) (St := []) C X0 (wd261 hw) (wd129 hw) (wd131 hw) (wd130 hw) (by decide) Er (wd132 hw) (wd44 hw) (ctLenA hw X0.2.1 sr ru kr M cz Er Rv Rc Vr OD S2 hcz) (lenOf pd8 rfl) rfl d48_10 rfl rfl (by decide) (nQ rfl) rfl rfl (by decide) (by decide) (fun v1 T1 h1 Q1 X1 z1 => ?_)
 obtain ⟨hv1, hh1⟩ := Q1
 subst hv1; rw [hh1] at X1
 refine G.D 14 C X1 d48_13 rfl (l' := #[vR sb, vR sr, vI (own_n (M).length)]) rfl <| G.a 15 C X1 d48_14 rfl rfl rfl <| G.a 16 C X1 d48_15 rfl rfl rfl <| G.u 19 C X1 (hQ (wd98 hw)) Via.refl Fn d48_16 rfl fun T2 X2 => G.b 20 C X2 d48_19 rfl rfl <| G.x 21 (z := (own_n ((W ++ M)).length)) C X2 d48_20 rfl (own_n_app W M) <| G.aj 24 (cells' := 1) (slots' := 34) (argsL := [(.int (own_n ((W ++ M)).length))]) (St := []) C X2 (wd223 hw) (wd224 hw) (wd225 hw) (wd87 hw) rfl (by decide) Es (wd227 hw) (wd40 hw) (ctEcGA hw X2.2.1 sb tb kt W _ _ Es Fv Fc Vt Fn gs hg.1 hg.2 hW) (lenOf pd1 rfl) rfl d48_21 rfl rfl (by decide) (nQ rfl) rfl rfl (by decide) (by decide) (fun v3 T3 h3 Q3 X3 z3 => ?_)
 obtain ⟨t3, k3, hv3, K3, hz3, Es3, Fv3, Fc3, Fn3, Et3, Vt3⟩ := Q3
 subst hv3
 have K4 := (Keep.refl h0 [sb, tb]).trans K3 (allS (mQ 0 rfl) all0)
 have nb3_sb : sb ≠ t3 := Nat.ne_of_lt (Nat.lt_of_lt_of_le Es.lt hz3)
 have nb3_ru : ru ≠ t3 := Nat.ne_of_lt (Nat.lt_of_lt_of_le Vr.lt hz3)
 refine G.a 25 C X3 d48_24 rfl rfl rfl <| G.a 26 C X3 d48_25 rfl rfl rfl <| G.u 29 C X3 (hQ (wd98 hw)) Via.refl Fn3 d48_26 rfl fun T5 X5 => G.a 30 C X5 d48_29 rfl rfl rfl ?_
 have f6 := (Er.keep K3)
 have f7 := (Rv.keep K3 (ninS nsr nin0))
 have f8 := (Rc.keep K3 (ninS nsr nin0))
 have f9 := (Vr.keep K3 (ninS (Ne.symm (Exa.neArv Es Vr (wd31 hw))) nin0))
 have f10 := (OD.keep K3 (allS gs all0))
 refine G.aj 33 (cells' := 1) (slots' := 34) (argsL := [(.int (own_n (W).length)), (.ref sr)]) (St := []) C X5 (wd262 hw) (wd263 hw) (wd264 hw) (wd87 hw) rfl (by decide) Es3 (wd266 hw) (wd40 hw) (ctPutA hw X5.2.1 sb sr ru t3 kr k3 M W (34 : Int32) cz Es3 Fv3 Fc3 nb3_sb f6 f7 f8 f9 Vt3 (Nat.le_trans X2.2.1 hz3) nb3_ru hb (by rw [own_cp34]; omega) f10 S2 hcz) (lenOf pd9 rfl) rfl d48_30 rfl rfl (by decide) (nQ rfl) rfl rfl (by decide) (by decide) (fun v11 T11 h11 Q11 X11 z11 => ?_)
 obtain ⟨hv11, K11, Vt11⟩ := Q11
 subst hv11
 have K12 := K4.trans K11 (allS (Or.inr (Nat.le_trans (Keep.refl h0 [sb, tb]).1 hz3)) all0)
 refine G.a 34 C X11 d48_33 rfl rfl rfl <| G.I 35 C X11 d48_34 rfl rfl ?_
 have f13 := (Fn3.keep K11 (ninS nb3_sb nin0))
 refine G.u 38 C X11 (hQ (wd98 hw)) Via.refl f13 d48_35 rfl fun T14 X14 => G.b 39 C X14 d48_38 rfl rfl <| G.x 40 (z := (own_n ((W ++ M)).length)) C X14 d48_39 rfl (own_n_app W M) ?_
 have f15 := (Es3.keep K11)
 refine G.O 43 C X14 (hQ (wd98 hw)) Via.refl f13 f15 gs (Or.inl (wd99 hw)) (wd31 hw) (ty := .int) (by decide) rfl rfl d48_40 rfl (fun T16 h16 X16 W16 F16 => ?_)
 have K17 := K12.wr W16 (mQ 0 rfl)
 refine G.a 44 C X16 d48_43 rfl rfl rfl ?_
 have f18 := (f15.wr W16)
 have f19 := ((Fv3.keep K11 (ninS nb3_sb nin0)).other W16 (Or.inr (sQ4 hw)))
 have f20 := ((Fc3.keep K11 (ninS nb3_sb nin0)).other W16 (Or.inr (sQ5 hw)))
 have f21 := ((Et3.keep K11).wr W16)
 have f22 := (Vt11.other W16 (Ne.symm nb3_sb))
 exact G.B C X16 d48_44 hret rfl rfl hlk (⟨t3, k3, (34 : Int32), rfl, K17, Or.inr (Nat.le_trans (Keep.refl h0 [sb, tb]).1 hz3), Or.inr rfl, (by rw [own_cp34]; simp only [List.length_append, List.length_cons, List.length_nil]; omega), nb3_sb, f18, f19, f20, F16, f21, f22⟩) (by decide) (by decide)
theorem ctAapA {l : Launch} {Z : State} {a0 : Array Value} (hw : HW a0 Z) {n0 : Nat} {h0 : Heap} (hn0 : n0 ≤ h0.size) (sb tb : Addr) (kt : ClassId) (W : List Int32) (cp : Int32) (sr ru : Addr) (kr : ClassId) (M : List Int32) (cz : Int32) (Es : Exa Z h0 sb zq4) (Fv : Fld Z h0 sb zq1 "value" "[B" (.ref tb)) (Fc : Fld Z h0 sb zq1 "coder" "B" (.int 0)) (Fn : Fld Z h0 sb zq1 "count" "I" (.int (own_n (W).length))) (Et : Exa Z h0 tb "[B") (Vt : Arv Z h0 tb kt .byte cp (tx W) (.int 0)) (gs : n0 ≤ sb) (gt : n0 ≤ tb) (nst : sb ≠ tb) (Er : Exa Z h0 sr zq0) (Rv : Fld Z h0 sr zq0 "value" "[B" (.ref ru)) (Rc : Fld Z h0 sr zq0 "coder" "B" (.int 0)) (Vr : Arv Z h0 ru kr .byte (own_n (M).length) (tx M) (.int 0)) (nrt : ru ≠ tb) (nsr : sr ≠ sb) (nsq : sr ≠ tb) (hb : W.length + M.length < 1000) (hcp : cp = 16 ∨ cp = 34) (hwc : W.length ≤ cp.toNatClampNeg) (hl34 : W.length + M.length < 34) (OD : Old Z n0 h0) (S2 : Sta Z Z.heap zq0 zq5 "Z" (.int cz)) (hcz : ¬ cz = 0) :
    Ctr l Z (⟨zq1, "append", zq22⟩ : MethodName) jdk_68_method_22_code 3 (some (.object zq1)) (rQ 4 1 34 100) n0 #[(.ref sb), (.ref sr)] h0 (fun v h => ∃ (t : Addr) (k : ClassId) (cq : Int32), v = some (.ref sb) ∧ Keep h0 h [sb, tb] ∧ (t = tb ∨ h0.size ≤ t) ∧ (cq = 16 ∨ cq = 34) ∧ (W ++ M).length ≤ cq.toNatClampNeg ∧ sb ≠ t ∧ Exa Z h sb zq4 ∧ Fld Z h sb zq1 "value" "[B" (.ref t) ∧ Fld Z h sb zq1 "coder" "B" (.int 0) ∧ Fld Z h sb zq1 "count" "I" (.int (own_n ((W ++ M)).length)) ∧ Exa Z h t "[B" ∧ Arv Z h t k .byte cq (tx (W ++ M)) (.int 0)) := by
  have el : (W ++ M).length = W.length + M.length := List.length_append
  by_cases q : W.length + M.length ≤ cp.toNatClampNeg
  · exact ctAapFA hw hn0 sb tb kt W cp sr ru kr M cz Es Fv Fc Fn Et Vt gs gt nst Er Rv Rc Vr nrt nsr nsq hb hcp q (by rw [el]; exact own_fit hcp q) OD S2 hcz
  · rcases hcp with rfl | rfl
    · rw [own_cp16] at q hwc; exact ctAapGA hw hn0 sb tb kt W sr ru kr M cz Es Fv Fc Fn Et Vt gs gt nst Er Rv Rc Vr nrt nsr nsq hb hwc (by rw [el]; exact own_grow (by omega) hl34) hl34 OD S2 hcz
    · rw [own_cp34] at q; omega
theorem ef47 (m : MethodId) (x0 : Addr) (x1 : Addr) : entryFrame m #[(.ref x0), (.ref x1)] 2 = mkF m 0 #[.val (.ref x0), .val (.ref x1)] [] := by first | (simp [entryFrame, mkF, argsToLocals, Value.category]; done) | rfl
theorem ctAppA {l : Launch} {Z : State} {a0 : Array Value} (hw : HW a0 Z) {n0 : Nat} {h0 : Heap} (hn0 : n0 ≤ h0.size) (sb tb : Addr) (kt : ClassId) (W : List Int32) (cp : Int32) (sr ru : Addr) (kr : ClassId) (M : List Int32) (cz : Int32) (Es : Exa Z h0 sb zq4) (Fv : Fld Z h0 sb zq1 "value" "[B" (.ref tb)) (Fc : Fld Z h0 sb zq1 "coder" "B" (.int 0)) (Fn : Fld Z h0 sb zq1 "count" "I" (.int (own_n (W).length))) (Et : Exa Z h0 tb "[B") (Vt : Arv Z h0 tb kt .byte cp (tx W) (.int 0)) (gs : n0 ≤ sb) (gt : n0 ≤ tb) (nst : sb ≠ tb) (Er : Exa Z h0 sr zq0) (Rv : Fld Z h0 sr zq0 "value" "[B" (.ref ru)) (Rc : Fld Z h0 sr zq0 "coder" "B" (.int 0)) (Vr : Arv Z h0 ru kr .byte (own_n (M).length) (tx M) (.int 0)) (nrt : ru ≠ tb) (nsr : sr ≠ sb) (nsq : sr ≠ tb) (hb : W.length + M.length < 1000) (hcp : cp = 16 ∨ cp = 34) (hwc : W.length ≤ cp.toNatClampNeg) (hl34 : W.length + M.length < 34) (OD : Old Z n0 h0) (S2 : Sta Z Z.heap zq0 zq5 "Z" (.int cz)) (hcz : ¬ cz = 0) :
 Ctr l Z (⟨zq4, "append", zq34⟩ : MethodName) jdk_67_method_7_code 2 (some (.object zq4)) (rQ 5 1 34 130) n0 #[(.ref sb), (.ref sr)] h0 (fun v h => ∃ (t : Addr) (k : ClassId) (cq : Int32), v = some (.ref sb) ∧ Keep h0 h [sb, tb] ∧ (t = tb ∨ h0.size ≤ t) ∧ (cq = 16 ∨ cq = 34) ∧ (W ++ M).length ≤ cq.toNatClampNeg ∧ sb ≠ t ∧ Exa Z h sb zq4 ∧ Fld Z h sb zq1 "value" "[B" (.ref t) ∧ Fld Z h sb zq1 "coder" "B" (.int 0) ∧ Fld Z h sb zq1 "count" "I" (.int (own_n ((W ++ M)).length)) ∧ Exa Z h t "[B" ∧ Arv Z h t k .byte cq (tx (W ++ M)) (.int 0)) := by
 refine Ctr.of (by decide +kernel) hn0 ?_
 intro p e s m below meth c T0 C hnm hret hlk X0
 rw [ef47 m sb sr]
 refine G.a 1 C X0 d47_0 rfl rfl rfl <| G.a 2 C X0 d47_1 rfl rfl rfl <| G.ax 5 (cells' := 1) (slots' := 34) (argsL := [(.ref sr)]) (St := []) C X0 (wd257 hw) (wd258 hw) (wd87 hw) rfl (wd96 hw) (by decide) (by decide) (Ins.self Es) (wd260 hw) (wd40 hw) (ctAapA hw X0.2.1 sb tb kt W cp sr ru kr M cz Es Fv Fc Fn Et Vt gs gt nst Er Rv Rc Vr nrt nsr nsq hb hcp hwc hl34 OD S2 hcz) (lenOf pd10 rfl) rfl d47_2 rfl rfl (by decide) (nQ rfl) rfl rfl (by decide) (by decide) (fun v1 T1 h1 Q1 X1 z1 => ?_)
 obtain ⟨t1, k1, cq1, hv1, K1, hf1, hq1, hwl1, ns1, Es1, Fv1, Fc1, Fn1, Et1, Vt1⟩ := Q1
 subst hv1
 have K2 := (Keep.refl h0 [sb, tb]).trans K1 (allS (mQ 0 rfl) (allS (mQ 1 rfl) all0))
 have ga1 : n0 ≤ t1 := own_frg hf1 gt X0.2.1
 have iw1 : t1 ∈ [sb, tb] ∨ h0.size ≤ t1 := own_frw hf1 (mQ 1 rfl) (Keep.refl h0 [sb, tb]).1
 refine G.v 6 C X1 d47_5 rfl rfl <| G.a 7 C X1 d47_6 rfl rfl rfl ?_
 exact G.B C X1 d47_7 hret rfl rfl hlk (⟨t1, k1, cq1, rfl, K2, hf1, hq1, hwl1, ns1, Es1, Fv1, Fc1, Fn1, Et1, Vt1⟩) (by decide) (by decide)
theorem ef25 (m : MethodId) (x0 : Int32) : entryFrame m #[(.int x0)] 1 = mkF m 0 #[.val (.int x0)] [] := by first | (simp [entryFrame, mkF, argsToLocals, Value.category]; done) | rfl
theorem ctCeA {l : Launch} {Z : State} {a0 : Array Value} (hw : HW a0 Z) {n0 : Nat} {h0 : Heap} (hn0 : n0 ≤ h0.size) (ch : Int32) (hch : own_lat ch) :
 Ctr l Z (⟨zq18, "canEncode", "(C)Z"⟩ : MethodName) jdk_43_method_3_code 1 (some .boolean) (rQ 0 0 0 0) n0 #[(.int ch)] h0 (fun v h => v = some (.int 1) ∧ h = h0) := by
 refine Ctr.of (by decide +kernel) hn0 ?_
 intro p e s m below meth c T0 C hnm hret hlk X0
 rw [ef25 m ch]
 refine G.b 1 C X0 d25_0 rfl rfl <| G.aa 4 (z := 255) C X0 d25_1 rfl (by decide) <| G.t 7 C X0 d25_4 rfl (flt hch.2).2.2.1 <| G.f 8 (z := 1) C X0 d25_7 rfl (by decide) <| G.r 12 C X0 d25_8 (by decide) (by decide) ?_
 exact G.M C X0 d25_12 hret (by simp) (z' := (1 : Int32)) (by decide) hlk (⟨rfl, rfl⟩) (by decide) (by decide)
theorem ef41 (m : MethodId) (x0 : Addr) (x1 : Int32) : entryFrame m #[(.ref x0), (.int x1)] 2 = mkF m 0 #[.val (.ref x0), .val (.int x1)] [] := by first | (simp [entryFrame, mkF, argsToLocals, Value.category]; done) | rfl
theorem ctAchFA {l : Launch} {Z : State} {a0 : Array Value} (hw : HW a0 Z) {n0 : Nat} {h0 : Heap} (hn0 : n0 ≤ h0.size) (sb tb : Addr) (kt : ClassId) (W : List Int32) (cp : Int32) (ch : Int32) (cz : Int32) (Es : Exa Z h0 sb zq4) (Fv : Fld Z h0 sb zq1 "value" "[B" (.ref tb)) (Fc : Fld Z h0 sb zq1 "coder" "B" (.int 0)) (Fn : Fld Z h0 sb zq1 "count" "I" (.int (own_n (W).length))) (Et : Exa Z h0 tb "[B") (Vt : Arv Z h0 tb kt .byte cp (tx W) (.int 0)) (gs : n0 ≤ sb) (gt : n0 ≤ tb) (nst : sb ≠ tb) (hch : own_lat ch) (hb : W.length < 999) (hcp : cp = 16 ∨ cp = 34) (hfit : W.length < cp.toNatClampNeg) (hj : ¬ (0 : Int32) < (own_n ((W ++ [ch])).length) - cp) (OD : Old Z n0 h0) (S2 : Sta Z Z.heap zq0 zq5 "Z" (.int cz)) (hcz : ¬ cz = 0) :
 Ctr l Z (⟨zq1, "append", zq23⟩ : MethodName) jdk_68_method_31_code 2 (some (.object zq1)) (rQ 4 1 34 100) n0 #[(.ref sb), (.int ch)] h0 (fun v h => ∃ (t : Addr) (k : ClassId) (cq : Int32), v = some (.ref sb) ∧ Keep h0 h [sb, tb] ∧ (t = tb ∨ h0.size ≤ t) ∧ (cq = 16 ∨ cq = 34) ∧ (W ++ [ch]).length ≤ cq.toNatClampNeg ∧ sb ≠ t ∧ Exa Z h sb zq4 ∧ Fld Z h sb zq1 "value" "[B" (.ref t) ∧ Fld Z h sb zq1 "coder" "B" (.int 0) ∧ Fld Z h sb zq1 "count" "I" (.int (own_n ((W ++ [ch])).length)) ∧ Exa Z h t "[B" ∧ Arv Z h t k .byte cq (tx (W ++ [ch])) (.int 0)) := by
 refine Ctr.of (by decide +kernel) hn0 ?_
 intro p e s m below meth c T0 C hnm hret hlk X0
 rw [ef41 m sb ch]
 refine G.a 1 C X0 d41_0 rfl rfl rfl <| G.a 2 C X0 d41_1 rfl rfl rfl <| G.u 5 C X0 (hQ (wd98 hw)) Via.refl Fn d41_2 rfl fun T1 X1 => G.f 6 (z := 1) C X1 d41_5 rfl (by decide) <| G.x 7 (z := (own_n ((W ++ [ch])).length)) C X1 d41_6 rfl (own_n_app1 W ch) <| G.aj 10 (cells' := 0) (slots' := 0) (argsL := [(.int (own_n ((W ++ [ch])).length))]) (St := []) C X1 (wd223 hw) (wd224 hw) (wd225 hw) (wd87 hw) rfl (by decide) Es (wd227 hw) (wd40 hw) (ctEcFA hw X1.2.1 sb tb kt _ cp _ Es Fv Fc Vt hj) (lenOf pd1 rfl) rfl d41_7 rfl rfl (by decide) (nQ rfl) rfl rfl (by decide) (by decide) (fun v2 T2 h2 Q2 X2 z2 => ?_)
 obtain ⟨hv2, hh2⟩ := Q2
 subst hv2; rw [hh2] at X2
 refine G.a 11 C X2 d41_10 rfl rfl rfl <| G.o 14 (cells' := 0) (slots' := 0) (argsL := []) (St := []) C X2 (wd228 hw) (wd101 hw) (wd103 hw) (wd102 hw) (by decide) Es (wd104 hw) (wd40 hw) (ctIlA hw X2.2.1 sb cz Fc OD S2 hcz) (lenOf pd11 rfl) rfl d41_11 rfl rfl (by decide) (nQ rfl) rfl rfl (by decide) (by decide) (fun v3 T3 h3 Q3 X3 z3 => ?_)
 obtain ⟨hv3, hh3⟩ := Q3
 subst hv3; rw [hh3] at X3
 refine G.k 17 C X3 d41_14 rfl (feq (by decide : ¬ (1 : Int32) = 0)).1 <| G.b 18 C X3 d41_17 rfl rfl <| G.i 21 (cells' := 0) (slots' := 0) (argsL := [(.int ch)]) (St := []) C X3 (wd229 hw) (wd147 hw) (by decide) (wd149 hw) (wd148 hw) (ctCeA hw X3.2.1 ch hch) (lenOf pd12 rfl) rfl d41_18 rfl rfl (by decide) (nQ rfl) rfl rfl (by decide) (by decide) (fun v4 T4 h4 Q4 X4 z4 => ?_)
 obtain ⟨hv4, hh4⟩ := Q4
 subst hv4; rw [hh4] at X4
 refine G.k 24 C X4 d41_21 rfl (feq (by decide : ¬ (1 : Int32) = 0)).1 <| G.a 25 C X4 d41_24 rfl rfl rfl <| G.u 28 C X4 (hQ (wd46 hw)) Via.refl Fv d41_25 rfl fun T5 X5 => G.a 29 C X5 d41_28 rfl rfl rfl <| G.I 30 C X5 d41_29 rfl rfl <| G.u 33 C X5 (hQ (wd98 hw)) Via.refl Fn d41_30 rfl fun T6 X6 => G.aw 34 C X6 d41_33 rfl rfl rfl <| G.f 35 (z := 1) C X6 d41_34 rfl (by decide) <| G.x 36 (z := (own_n ((W ++ [ch])).length)) C X6 d41_35 rfl (own_n_app1 W ch) <| G.O 39 C X6 (hQ (wd98 hw)) Via.refl Fn Es gs (Or.inl (wd99 hw)) (wd31 hw) (ty := .int) (by decide) rfl rfl d41_36 rfl (fun T7 h7 X7 W7 F7 => ?_)
 have K8 := (Keep.refl h0 [sb, tb]).wr W7 (mQ 0 rfl)
 refine G.b 40 C X7 d41_39 rfl rfl <| G.ah 41 (z := (ch.toInt8.toInt32)) C X7 d41_40 rfl rfl ?_
 have f10 := (Vt.other W7 (Ne.symm nst))
 have Vp9 := f10.pad (pad_rep (tx W) (.int 0) 1)
 refine G.ao 42 C X7 Vp9 gt (i := W.length) d41_41 rfl (own_ix (own_cpp hcp) (by omega) hfit) (own_n_cl (by omega)) (by simp [tx_len]) (fun T11 h11 X11 W11 V11 => ?_)
 replace V11 : Arv Z h11 tb kt .byte cp (tx (W ++ [ch])) (.int 0) := by have q := own_st1 W ch (.int 0); unfold own_b at q; rw [q] at V11; exact V11
 have K12 := K8.wr W11 (mQ 1 rfl)
 refine G.r 75 C X11 d41_42 (by decide) (by decide) <| G.a 76 C X11 d41_75 rfl rfl rfl ?_
 have f13 := ((Es.wr W7).wr W11)
 have f14 := ((Fv.other W7 (Or.inr (sQ4 hw))).other W11 (Or.inl nst))
 have f15 := ((Fc.other W7 (Or.inr (sQ5 hw))).other W11 (Or.inl nst))
 have f16 := (F7.other W11 (Or.inl nst))
 have f17 := ((Et.wr W7).wr W11)
 exact G.B C X11 d41_76 hret rfl rfl hlk (⟨tb, kt, cp, rfl, K12, Or.inl rfl, hcp, (by rw [List.length_append]; exact hfit), nst, f13, f14, f15, f16, f17, V11⟩) (by decide) (by decide)
theorem ctAchGA {l : Launch} {Z : State} {a0 : Array Value} (hw : HW a0 Z) {n0 : Nat} {h0 : Heap} (hn0 : n0 ≤ h0.size) (sb tb : Addr) (kt : ClassId) (W : List Int32) (ch : Int32) (cz : Int32) (Es : Exa Z h0 sb zq4) (Fv : Fld Z h0 sb zq1 "value" "[B" (.ref tb)) (Fc : Fld Z h0 sb zq1 "coder" "B" (.int 0)) (Fn : Fld Z h0 sb zq1 "count" "I" (.int (own_n (W).length))) (Et : Exa Z h0 tb "[B") (Vt : Arv Z h0 tb kt .byte (16 : Int32) (tx W) (.int 0)) (gs : n0 ≤ sb) (gt : n0 ≤ tb) (nst : sb ≠ tb) (hch : own_lat ch) (hb : W.length < 999) (hW : W.length ≤ 16) (hg : (0 : Int32) < (own_n ((W ++ [ch])).length) - 16 ∧ (own_n ((W ++ [ch])).length) - 16 < 18) (hl34 : W.length + 1 < 34) (OD : Old Z n0 h0) (S2 : Sta Z Z.heap zq0 zq5 "Z" (.int cz)) (hcz : ¬ cz = 0) :
 Ctr l Z (⟨zq1, "append", zq23⟩ : MethodName) jdk_68_method_31_code 2 (some (.object zq1)) (rQ 4 1 34 100) n0 #[(.ref sb), (.int ch)] h0 (fun v h => ∃ (t : Addr) (k : ClassId) (cq : Int32), v = some (.ref sb) ∧ Keep h0 h [sb, tb] ∧ (t = tb ∨ h0.size ≤ t) ∧ (cq = 16 ∨ cq = 34) ∧ (W ++ [ch]).length ≤ cq.toNatClampNeg ∧ sb ≠ t ∧ Exa Z h sb zq4 ∧ Fld Z h sb zq1 "value" "[B" (.ref t) ∧ Fld Z h sb zq1 "coder" "B" (.int 0) ∧ Fld Z h sb zq1 "count" "I" (.int (own_n ((W ++ [ch])).length)) ∧ Exa Z h t "[B" ∧ Arv Z h t k .byte cq (tx (W ++ [ch])) (.int 0)) := by
 refine Ctr.of (by decide +kernel) hn0 ?_
 intro p e s m below meth c T0 C hnm hret hlk X0
 rw [ef41 m sb ch]
 refine G.a 1 C X0 d41_0 rfl rfl rfl <| G.a 2 C X0 d41_1 rfl rfl rfl <| G.u 5 C X0 (hQ (wd98 hw)) Via.refl Fn d41_2 rfl fun T1 X1 => G.f 6 (z := 1) C X1 d41_5 rfl (by decide) <| G.x 7 (z := (own_n ((W ++ [ch])).length)) C X1 d41_6 rfl (own_n_app1 W ch) <| G.aj 10 (cells' := 1) (slots' := 34) (argsL := [(.int (own_n ((W ++ [ch])).length))]) (St := []) C X1 (wd223 hw) (wd224 hw) (wd225 hw) (wd87 hw) rfl (by decide) Es (wd227 hw) (wd40 hw) (ctEcGA hw X1.2.1 sb tb kt W _ _ Es Fv Fc Vt Fn gs hg.1 hg.2 hW) (lenOf pd1 rfl) rfl d41_7 rfl rfl (by decide) (nQ rfl) rfl rfl (by decide) (by decide) (fun v2 T2 h2 Q2 X2 z2 => ?_)
 obtain ⟨t2, k2, hv2, K2, hz2, Es2, Fv2, Fc2, Fn2, Et2, Vt2⟩ := Q2
 subst hv2
 have K3 := (Keep.refl h0 [sb, tb]).trans K2 (allS (mQ 0 rfl) all0)
 have nb2_sb : sb ≠ t2 := Nat.ne_of_lt (Nat.lt_of_lt_of_le Es.lt hz2)
 refine G.a 11 C X2 d41_10 rfl rfl rfl ?_
 have f4 := (OD.keep K2 (allS gs all0))
 refine G.o 14 (cells' := 1) (slots' := 34) (argsL := []) (St := []) C X2 (wd228 hw) (wd101 hw) (wd103 hw) (wd102 hw) (by decide) Es2 (wd104 hw) (wd40 hw) (ctIlA hw X2.2.1 sb cz Fc2 f4 S2 hcz) (lenOf pd11 rfl) rfl d41_11 rfl rfl (by decide) (nQ rfl) rfl rfl (by decide) (by decide) (fun v5 T5 h5 Q5 X5 z5 => ?_)
 obtain ⟨hv5, hh5⟩ := Q5
 subst hv5; rw [hh5] at X5
 refine G.k 17 C X5 d41_14 rfl (feq (by decide : ¬ (1 : Int32) = 0)).1 <| G.b 18 C X5 d41_17 rfl rfl <| G.i 21 (cells' := 1) (slots' := 34) (argsL := [(.int ch)]) (St := []) C X5 (wd229 hw) (wd147 hw) (by decide) (wd149 hw) (wd148 hw) (ctCeA hw X5.2.1 ch hch) (lenOf pd12 rfl) rfl d41_18 rfl rfl (by decide) (nQ rfl) rfl rfl (by decide) (by decide) (fun v6 T6 h6 Q6 X6 z6 => ?_)
 obtain ⟨hv6, hh6⟩ := Q6
 subst hv6; rw [hh6] at X6
 refine G.k 24 C X6 d41_21 rfl (feq (by decide : ¬ (1 : Int32) = 0)).1 <| G.a 25 C X6 d41_24 rfl rfl rfl <| G.u 28 C X6 (hQ (wd46 hw)) Via.refl Fv2 d41_25 rfl fun T7 X7 => G.a 29 C X7 d41_28 rfl rfl rfl <| G.I 30 C X7 d41_29 rfl rfl <| G.u 33 C X7 (hQ (wd98 hw)) Via.refl Fn2 d41_30 rfl fun T8 X8 => G.aw 34 C X8 d41_33 rfl rfl rfl <| G.f 35 (z := 1) C X8 d41_34 rfl (by decide) <| G.x 36 (z := (own_n ((W ++ [ch])).length)) C X8 d41_35 rfl (own_n_app1 W ch) <| G.O 39 C X8 (hQ (wd98 hw)) Via.refl Fn2 Es2 gs (Or.inl (wd99 hw)) (wd31 hw) (ty := .int) (by decide) rfl rfl d41_36 rfl (fun T9 h9 X9 W9 F9 => ?_)
 have K10 := K3.wr W9 (mQ 0 rfl)
 refine G.b 40 C X9 d41_39 rfl rfl <| G.ah 41 (z := (ch.toInt8.toInt32)) C X9 d41_40 rfl rfl ?_
 have f12 := (Vt2.other W9 (Ne.symm nb2_sb))
 have Vp11 := f12.pad (pad_rep (tx W) (.int 0) 1)
 refine G.ao 42 C X9 Vp11 (Nat.le_trans X1.2.1 hz2) (i := W.length) d41_41 rfl (own_ix (by decide) (by omega) (by rw [own_cp34]; omega)) (own_n_cl (by omega)) (by simp [tx_len]) (fun T13 h13 X13 W13 V13 => ?_)
 replace V13 : Arv Z h13 t2 k2 .byte (34 : Int32) (tx (W ++ [ch])) (.int 0) := by have q := own_st1 W ch (.int 0); unfold own_b at q; rw [q] at V13; exact V13
 have K14 := K10.wr W13 (Or.inr (Nat.le_trans (Keep.refl h0 [sb, tb]).1 hz2))
 refine G.r 75 C X13 d41_42 (by decide) (by decide) <| G.a 76 C X13 d41_75 rfl rfl rfl ?_
 have f15 := ((Es2.wr W9).wr W13)
 have f16 := ((Fv2.other W9 (Or.inr (sQ4 hw))).other W13 (Or.inl nb2_sb))
 have f17 := ((Fc2.other W9 (Or.inr (sQ5 hw))).other W13 (Or.inl nb2_sb))
 have f18 := (F9.other W13 (Or.inl nb2_sb))
 have f19 := ((Et2.wr W9).wr W13)
 exact G.B C X13 d41_76 hret rfl rfl hlk (⟨t2, k2, (34 : Int32), rfl, K14, Or.inr (Nat.le_trans (Keep.refl h0 [sb, tb]).1 hz2), Or.inr rfl, (by rw [own_cp34]; simp only [List.length_append, List.length_cons, List.length_nil]; omega), nb2_sb, f15, f16, f17, f18, f19, V13⟩) (by decide) (by decide)
theorem ctAchA {l : Launch} {Z : State} {a0 : Array Value} (hw : HW a0 Z) {n0 : Nat} {h0 : Heap} (hn0 : n0 ≤ h0.size) (sb tb : Addr) (kt : ClassId) (W : List Int32) (cp : Int32) (ch : Int32) (cz : Int32) (Es : Exa Z h0 sb zq4) (Fv : Fld Z h0 sb zq1 "value" "[B" (.ref tb)) (Fc : Fld Z h0 sb zq1 "coder" "B" (.int 0)) (Fn : Fld Z h0 sb zq1 "count" "I" (.int (own_n (W).length))) (Et : Exa Z h0 tb "[B") (Vt : Arv Z h0 tb kt .byte cp (tx W) (.int 0)) (gs : n0 ≤ sb) (gt : n0 ≤ tb) (nst : sb ≠ tb) (hch : own_lat ch) (hb : W.length < 999) (hcp : cp = 16 ∨ cp = 34) (hwc : W.length ≤ cp.toNatClampNeg) (hl34 : W.length + 1 < 34) (OD : Old Z n0 h0) (S2 : Sta Z Z.heap zq0 zq5 "Z" (.int cz)) (hcz : ¬ cz = 0) :
    Ctr l Z (⟨zq1, "append", zq23⟩ : MethodName) jdk_68_method_31_code 2 (some (.object zq1)) (rQ 4 1 34 100) n0 #[(.ref sb), (.int ch)] h0 (fun v h => ∃ (t : Addr) (k : ClassId) (cq : Int32), v = some (.ref sb) ∧ Keep h0 h [sb, tb] ∧ (t = tb ∨ h0.size ≤ t) ∧ (cq = 16 ∨ cq = 34) ∧ (W ++ [ch]).length ≤ cq.toNatClampNeg ∧ sb ≠ t ∧ Exa Z h sb zq4 ∧ Fld Z h sb zq1 "value" "[B" (.ref t) ∧ Fld Z h sb zq1 "coder" "B" (.int 0) ∧ Fld Z h sb zq1 "count" "I" (.int (own_n ((W ++ [ch])).length)) ∧ Exa Z h t "[B" ∧ Arv Z h t k .byte cq (tx (W ++ [ch])) (.int 0)) := by
  have el : (W ++ [ch]).length = W.length + 1 := List.length_append
  by_cases q : W.length + 1 ≤ cp.toNatClampNeg
  · exact ctAchFA hw hn0 sb tb kt W cp ch cz Es Fv Fc Fn Et Vt gs gt nst hch hb hcp q (by rw [el]; exact own_fit hcp q) OD S2 hcz
  · rcases hcp with rfl | rfl
    · rw [own_cp16] at q hwc; exact ctAchGA hw hn0 sb tb kt W ch cz Es Fv Fc Fn Et Vt gs gt nst hch hb hwc (by rw [el]; exact own_grow (by omega) hl34) hl34 OD S2 hcz
    · rw [own_cp34] at q; omega
theorem ef40 (m : MethodId) (x0 : Addr) (x1 : Int32) : entryFrame m #[(.ref x0), (.int x1)] 2 = mkF m 0 #[.val (.ref x0), .val (.int x1)] [] := by first | (simp [entryFrame, mkF, argsToLocals, Value.category]; done) | rfl
theorem ctApcA {l : Launch} {Z : State} {a0 : Array Value} (hw : HW a0 Z) {n0 : Nat} {h0 : Heap} (hn0 : n0 ≤ h0.size) (sb tb : Addr) (kt : ClassId) (W : List Int32) (cp : Int32) (ch : Int32) (cz : Int32) (Es : Exa Z h0 sb zq4) (Fv : Fld Z h0 sb zq1 "value" "[B" (.ref tb)) (Fc : Fld Z h0 sb zq1 "coder" "B" (.int 0)) (Fn : Fld Z h0 sb zq1 "count" "I" (.int (own_n (W).length))) (Et : Exa Z h0 tb "[B") (Vt : Arv Z h0 tb kt .byte cp (tx W) (.int 0)) (gs : n0 ≤ sb) (gt : n0 ≤ tb) (nst : sb ≠ tb) (hch : own_lat ch) (hb : W.length < 999) (hcp : cp = 16 ∨ cp = 34) (hwc : W.length ≤ cp.toNatClampNeg) (hl34 : W.length + 1 < 34) (OD : Old Z n0 h0) (S2 : Sta Z Z.heap zq0 zq5 "Z" (.int cz)) (hcz : ¬ cz = 0) :
 Ctr l Z (⟨zq4, "append", zq35⟩ : MethodName) jdk_67_method_14_code 2 (some (.object zq4)) (rQ 5 1 34 130) n0 #[(.ref sb), (.int ch)] h0 (fun v h => ∃ (t : Addr) (k : ClassId) (cq : Int32), v = some (.ref sb) ∧ Keep h0 h [sb, tb] ∧ (t = tb ∨ h0.size ≤ t) ∧ (cq = 16 ∨ cq = 34) ∧ (W ++ [ch]).length ≤ cq.toNatClampNeg ∧ sb ≠ t ∧ Exa Z h sb zq4 ∧ Fld Z h sb zq1 "value" "[B" (.ref t) ∧ Fld Z h sb zq1 "coder" "B" (.int 0) ∧ Fld Z h sb zq1 "count" "I" (.int (own_n ((W ++ [ch])).length)) ∧ Exa Z h t "[B" ∧ Arv Z h t k .byte cq (tx (W ++ [ch])) (.int 0)) := by
 refine Ctr.of (by decide +kernel) hn0 ?_
 intro p e s m below meth c T0 C hnm hret hlk X0
 rw [ef40 m sb ch]
 refine G.a 1 C X0 d40_0 rfl rfl rfl <| G.b 2 C X0 d40_1 rfl rfl <| G.ax 5 (cells' := 1) (slots' := 34) (argsL := [(.int ch)]) (St := []) C X0 (wd219 hw) (wd220 hw) (wd87 hw) rfl (wd96 hw) (by decide) (by decide) (Ins.self Es) (wd222 hw) (wd40 hw) (ctAchA hw X0.2.1 sb tb kt W cp ch cz Es Fv Fc Fn Et Vt gs gt nst hch hb hcp hwc hl34 OD S2 hcz) (lenOf pd13 rfl) rfl d40_2 rfl rfl (by decide) (nQ rfl) rfl rfl (by decide) (by decide) (fun v1 T1 h1 Q1 X1 z1 => ?_)
 obtain ⟨t1, k1, cq1, hv1, K1, hf1, hq1, hwl1, ns1, Es1, Fv1, Fc1, Fn1, Et1, Vt1⟩ := Q1
 subst hv1
 have K2 := (Keep.refl h0 [sb, tb]).trans K1 (allS (mQ 0 rfl) (allS (mQ 1 rfl) all0))
 have ga1 : n0 ≤ t1 := own_frg hf1 gt X0.2.1
 have iw1 : t1 ∈ [sb, tb] ∨ h0.size ≤ t1 := own_frw hf1 (mQ 1 rfl) (Keep.refl h0 [sb, tb]).1
 refine G.v 6 C X1 d40_5 rfl rfl <| G.a 7 C X1 d40_6 rfl rfl rfl ?_
 exact G.B C X1 d40_7 hret rfl rfl hlk (⟨t1, k1, cq1, rfl, K2, hf1, hq1, hwl1, ns1, Es1, Fv1, Fc1, Fn1, Et1, Vt1⟩) (by decide) (by decide)
theorem ef15 (m : MethodId) (x0 : Addr) : entryFrame m #[(.ref x0)] 1 = mkF m 0 #[.val (.ref x0)] [] := by first | (simp [entryFrame, mkF, argsToLocals, Value.category]; done) | rfl
theorem ctAlnA {l : Launch} {Z : State} {a0 : Array Value} (hw : HW a0 Z) {n0 : Nat} {h0 : Heap} (hn0 : n0 ≤ h0.size) (sb : Addr) (nn : Int32) (Es : Exa Z h0 sb zq4) (Fn : Fld Z h0 sb zq1 "count" "I" (.int nn)) :
 Ctr l Z (⟨zq1, "length", "()I"⟩ : MethodName) jdk_68_method_6_code 1 (some .int) (rQ 0 0 0 0) n0 #[(.ref sb)] h0 (fun v h => v = some (.int nn) ∧ h = h0) := by
 refine Ctr.of (by decide +kernel) hn0 ?_
 intro p e s m below meth c T0 C hnm hret hlk X0
 rw [ef15 m sb]
 refine G.a 1 C X0 d15_0 rfl rfl rfl <| G.u 4 C X0 (hQ (wd98 hw)) Via.refl Fn d15_1 rfl (fun T1 X1 => ?_)
 exact G.z C X1 d15_4 hret hlk (⟨rfl, rfl⟩) (by decide) (by decide)
theorem ef14 (m : MethodId) (x0 : Addr) : entryFrame m #[(.ref x0)] 1 = mkF m 0 #[.val (.ref x0)] [] := by first | (simp [entryFrame, mkF, argsToLocals, Value.category]; done) | rfl
theorem ctSlnA {l : Launch} {Z : State} {a0 : Array Value} (hw : HW a0 Z) {n0 : Nat} {h0 : Heap} (hn0 : n0 ≤ h0.size) (sb : Addr) (nn : Int32) (Es : Exa Z h0 sb zq4) (Fn : Fld Z h0 sb zq1 "count" "I" (.int nn)) :
 Ctr l Z (⟨zq4, "length", "()I"⟩ : MethodName) jdk_67_method_93_code 1 (some .int) (rQ 1 0 0 14) n0 #[(.ref sb)] h0 (fun v h => v = some (.int nn) ∧ h = h0) := by
 refine Ctr.of (by decide +kernel) hn0 ?_
 intro p e s m below meth c T0 C hnm hret hlk X0
 rw [ef14 m sb]
 refine G.a 1 C X0 d14_0 rfl rfl rfl <| G.ax 4 (cells' := 0) (slots' := 0) (argsL := []) (St := []) C X0 (wd95 hw) (wd91 hw) (wd87 hw) rfl (wd96 hw) (by decide) (by decide) (Ins.self Es) (wd97 hw) (wd40 hw) (ctAlnA hw X0.2.1 sb _ Es Fn) (lenOf pd8 rfl) rfl d14_1 rfl rfl (by decide) (nQ rfl) rfl rfl (by decide) (by decide) (fun v1 T1 h1 Q1 X1 z1 => ?_)
 obtain ⟨hv1, hh1⟩ := Q1
 subst hv1; rw [hh1] at X1
 exact G.z C X1 d14_4 hret hlk (⟨rfl, rfl⟩) (by decide) (by decide)
theorem ef13 (m : MethodId) (x0 : Addr) : entryFrame m #[(.ref x0)] 1 = mkF m 0 #[.val (.ref x0)] [] := by first | (simp [entryFrame, mkF, argsToLocals, Value.category]; done) | rfl
theorem ctGvA {l : Launch} {Z : State} {a0 : Array Value} (hw : HW a0 Z) {n0 : Nat} {h0 : Heap} (hn0 : n0 ≤ h0.size) (sb tb : Addr) (Fv : Fld Z h0 sb zq1 "value" "[B" (.ref tb)) :
 Ctr l Z (⟨zq1, "getValue", "()[B"⟩ : MethodName) jdk_68_method_64_code 1 (some (.array .byte)) (rQ 0 0 0 0) n0 #[(.ref sb)] h0 (fun v h => v = some (.ref tb) ∧ h = h0) := by
 refine Ctr.of (by decide +kernel) hn0 ?_
 intro p e s m below meth c T0 C hnm hret hlk X0
 rw [ef13 m sb]
 refine G.a 1 C X0 d13_0 rfl rfl rfl <| G.u 4 C X0 (hQ (wd46 hw)) Via.refl Fv d13_1 rfl (fun T1 X1 => ?_)
 exact G.B C X1 d13_4 hret rfl rfl hlk (⟨rfl, rfl⟩) (by decide) (by decide)
theorem ef19 (m : MethodId) (x0 : Int32) (x1 : Int32) : entryFrame m #[(.int x0), (.int x1)] 2 = mkF m 0 #[.val (.int x0), .val (.int x1)] [] := by first | (simp [entryFrame, mkF, argsToLocals, Value.category]; done) | rfl
theorem ctCkA {l : Launch} {Z : State} {a0 : Array Value} (hw : HW a0 Z) {n0 : Nat} {h0 : Heap} (hn0 : n0 ≤ h0.size) (nn : Int32) (hn : ¬ nn < 0) :
 Ctr l Z (⟨zq10, "checkLength", "(II)V"⟩ : MethodName) jdk_65_method_131_code 2 none (rQ 0 0 0 0) n0 #[(.int 0), (.int nn)] h0 (fun v h => v = none ∧ h = h0) := by
 refine Ctr.of (plainFor_of_name pn1) hn0 ?_
 intro p e s m below meth c T0 C hnm hret hlk X0
 rw [ef19 m (0 : Int32) nn]
 refine G.b 1 C X0 d19_0 rfl rfl <| G.b 2 C X0 d19_1 rfl rfl <| G.q 37 C X0 d19_2 (flt hn).2.1 (by decide) (by decide) ?_
 exact G.E C X0 d19_37 hret hlk (⟨rfl, rfl⟩) (by decide) (by decide)
theorem ctMnA {l : Launch} {Z : State} {a0 : Array Value} (hw : HW a0 Z) {n0 : Nat} {h0 : Heap} (hn0 : n0 ≤ h0.size) (xx yy : Int32) (hxy : yy < xx) :
 Ctr l Z (⟨zq17, "min", "(II)I"⟩ : MethodName) jdk_29_method_69_code 2 (some .int) (rQ 0 0 0 0) n0 #[(.int xx), (.int yy)] h0 (fun v h => v = some (.int yy) ∧ h = h0) := by
 refine Ctr.of (Jvm.Free.JP.mathPlain rfl (by decide +kernel)) hn0 ?_
 intro p e s m below meth c T0 C hnm hret hlk X0
 rw [ef20 m xx yy]
 refine G.b 1 C X0 d20_0 rfl rfl <| G.b 2 C X0 d20_1 rfl rfl <| G.q 9 C X0 d20_2 (tlt hxy).2.2.1 (by decide) (by decide) <| G.b 10 C X0 d20_9 rfl rfl ?_
 exact G.z C X0 d20_10 hret hlk (⟨rfl, rfl⟩) (by decide) (by decide)
theorem ef18 (m : MethodId) (x0 : Addr) (x1 : Int32) (x2 : Int32) : entryFrame m #[(.ref x0), (.int x1), (.int x2)] 5 = mkF m 0 #[.val (.ref x0), .val (.int x1), .val (.int x2), .unset, .unset] [] := by first | (simp [entryFrame, mkF, argsToLocals, Value.category]; done) | rfl
theorem ctCbA {l : Launch} {Z : State} {a0 : Array Value} (hw : HW a0 Z) {n0 : Nat} {h0 : Heap} (hn0 : n0 ≤ h0.size) (tb : Addr) (kt : ClassId) (W : List Int32) (cp : Int32) (Et : Exa Z h0 tb "[B") (Vt : Arv Z h0 tb kt .byte cp (tx W) (.int 0)) (hcp : cp = 16 ∨ cp = 34) (hb : W.length < 1000) (hlt : W.length < cp.toNatClampNeg) :
 Ctr l Z (⟨zq10, zq52, "([BII)[B"⟩ : MethodName) jdk_65_method_133_code 5 (some (.array .byte)) (rQ 1 1 34 30) n0 #[(.ref tb), (.int 0), (.int (own_n (W).length))] h0 (fun v h => ∃ (t : Addr) (k : ClassId), v = some (.ref t) ∧ Keep h0 h [] ∧ h0.size ≤ t ∧ Arv Z h t k .byte (own_n (W).length) (tx W) (.int 0)) := by
 refine Ctr.of (plainFor_of_name pn1) hn0 ?_
 intro p e s m below meth c T0 C hnm hret hlk X0
 rw [ef18 m tb (0 : Int32) (own_n (W).length)]
 refine G.b 1 C X0 d18_0 rfl rfl <| G.b 2 C X0 d18_1 rfl rfl <| G.i 5 (cells' := 0) (slots' := 0) (argsL := [(.int 0), (.int (own_n (W).length))]) (St := []) C X0 (wd114 hw) (wd115 hw) (by decide) (wd116 hw) (wd109 hw) (ctCkA hw X0.2.1 _ (own_n_ge hb)) (lenOf pd14 rfl) rfl d18_2 rfl rfl (by decide) (nQ rfl) rfl rfl (by decide) (by decide) (fun v1 T1 h1 Q1 X1 z1 => ?_)
 obtain ⟨hv1, hh1⟩ := Q1
 subst hv1; rw [hh1] at X1
 refine G.b 6 C X1 d18_5 rfl rfl <| G.b 7 C X1 d18_6 rfl rfl <| G.ak 8 (z := (own_n (W).length)) C X1 d18_7 rfl (own_sub0 _) <| G.D 9 C X1 d18_8 rfl (l' := #[vR tb, vI 0, vI (own_n (W).length), vI (own_n (W).length), .unset]) rfl <| G.b 10 C X1 d18_9 rfl rfl <| G.af 12 (cap := 34) (d0 := (.int 0)) (cells' := 1) (slots' := 34) C X1 (wd45 hw) rfl d18_10 rfl (own_n_ge hb) (by rw [own_n_cl hb]; have := own_cpc hcp; omega) (by decide) rfl rfl rfl (by decide) (by decide) (fun T2 h2 a2 k2 X2 g2 q2 E2 V2 => ?_)
 have sz4 : h0.size ≤ a2 := Nat.le_trans (Keep.refl h0 []).1 (Nat.le_of_eq g2.symm)
 have K5 := (Keep.refl h0 []).ext E2
 refine G.P 14 C X2 d18_12 rfl rfl (l' := #[vR tb, vI 0, vI (own_n (W).length), vI (own_n (W).length), vR a2]) rfl <| G.a 15 C X2 d18_14 rfl rfl rfl <| G.b 16 C X2 d18_15 rfl rfl <| G.d 18 C X2 d18_16 rfl rfl rfl <| G.f 19 (z := 0) C X2 d18_18 rfl (by decide) <| G.a 20 C X2 d18_19 rfl rfl rfl ?_
 have f6 := (Vt.ext E2)
 refine G.J 21 C X2 f6 d18_20 rfl <| G.b 22 C X2 d18_21 rfl rfl <| G.ak 23 (z := cp) C X2 d18_22 rfl (own_sub0 _) <| G.b 24 C X2 d18_23 rfl rfl <| G.i 27 (cells' := 1) (slots' := 34) (argsL := [(.int cp), (.int (own_n (W).length))]) (St := [(.int 0), (.ref a2), (.int 0), (.ref tb)]) C X2 (wd117 hw) (wd118 hw) (by decide) (wd120 hw) (wd119 hw) (ctMnA hw X2.2.1 _ _ (own_mlt (own_cpp hcp) hb hlt)) (lenOf pd2 rfl) rfl d18_24 rfl rfl (by decide) (nQ rfl) rfl rfl (by decide) (by decide) (fun v7 T7 h7 Q7 X7 z7 => ?_)
 obtain ⟨hv7, hh7⟩ := Q7
 subst hv7; rw [hh7] at X7
 have Vp8 := V2.pad (pad_rep [] (.int 0) W.length)
 refine G.ay 30 (us := (tx W)) (vr := (tx W)) C X7 (wd121 hw) (wd124 hw) (wd122 hw) (wd123 hw) f6 Vp8 rfl (by decide) (by decide) (own_n_ge hb) (by rw [own_n_cl hb, show (0 : Int32).toNatClampNeg = 0 from by decide]; omega) (own_c0 _) (own_us W _ hb) (by rw [own_n_cl hb, show (0 : Int32).toNatClampNeg = 0 from by decide]; simp) (own_vr0 W _ hb) q2 d18_27 rfl rfl (by decide) (nQ rfl) (fun T9 h9 X9 K9 V9 => ?_)
 have K10 := K5.trans K9 (allS (Or.inr sz4) all0)
 refine G.d 32 C X9 d18_30 rfl rfl rfl ?_
 exact G.B C X9 d18_32 hret rfl rfl hlk (⟨a2, k2, rfl, K10, sz4, V9⟩) (by decide) (by decide)
theorem ef17 (m : MethodId) (x0 : Addr) (x1 : Int32) (x2 : Int32) : entryFrame m #[(.ref x0), (.int x1), (.int x2)] 3 = mkF m 0 #[.val (.ref x0), .val (.int x1), .val (.int x2)] [] := by first | (simp [entryFrame, mkF, argsToLocals, Value.category]; done) | rfl
theorem ctCrNA {l : Launch} {Z : State} {a0 : Array Value} (hw : HW a0 Z) {n0 : Nat} {h0 : Heap} (hn0 : n0 ≤ h0.size) (tb : Addr) (kt : ClassId) (W : List Int32) (cp : Int32) (Et : Exa Z h0 tb "[B") (Vt : Arv Z h0 tb kt .byte cp (tx W) (.int 0)) (hcp : cp = 16 ∨ cp = 34) (hb : W.length < 1000) (hlt : W.length < cp.toNatClampNeg) :
 Ctr l Z (⟨zq10, zq28, "([BII)[B"⟩ : MethodName) jdk_65_method_132_code 3 (some (.array .byte)) (rQ 2 1 34 48) n0 #[(.ref tb), (.int 0), (.int (own_n (W).length))] h0 (fun v h => ∃ (t : Addr) (k : ClassId), v = some (.ref t) ∧ Keep h0 h [] ∧ h0.size ≤ t ∧ Arv Z h t k .byte (own_n (W).length) (tx W) (.int 0)) := by
 refine Ctr.of (plainFor_of_name pn1) hn0 ?_
 intro p e s m below meth c T0 C hnm hret hlk X0
 rw [ef17 m tb (0 : Int32) (own_n (W).length)]
 refine G.b 1 C X0 d17_0 rfl rfl <| G.k 4 C X0 d17_1 rfl (teq (by decide : (0 : Int32) = 0)).2 <| G.b 5 C X0 d17_4 rfl rfl <| G.a 6 C X0 d17_5 rfl rfl rfl <| G.J 7 C X0 Vt d17_6 rfl <| G.t 10 C X0 d17_7 rfl (feq (own_ne hb hlt)).1 <| G.a 11 C X0 d17_10 rfl rfl rfl <| G.b 12 C X0 d17_11 rfl rfl <| G.b 13 C X0 d17_12 rfl rfl <| G.i 16 (cells' := 1) (slots' := 34) (argsL := [(.ref tb), (.int 0), (.int (own_n (W).length))]) (St := []) C X0 (wd111 hw) (wd112 hw) (by decide) (wd113 hw) (wd109 hw) (ctCbA hw X0.2.1 tb kt W cp Et Vt hcp hb hlt) (lenOf pd15 rfl) rfl d17_13 rfl rfl (by decide) (nQ rfl) rfl rfl (by decide) (by decide) (fun v1 T1 h1 Q1 X1 z1 => ?_)
 obtain ⟨b1, k1, hv1, K1, hz1, Vc1⟩ := Q1
 subst hv1
 have K2 := (Keep.refl h0 []).trans K1 all0
 exact G.B C X1 d17_16 hret rfl rfl hlk (⟨b1, k1, rfl, K2, hz1, Vc1⟩) (by decide) (by decide)
theorem ctCrCA {l : Launch} {Z : State} {a0 : Array Value} (hw : HW a0 Z) {n0 : Nat} {h0 : Heap} (hn0 : n0 ≤ h0.size) (tb : Addr) (kt : ClassId) (W : List Int32) (cp : Int32) (Et : Exa Z h0 tb "[B") (Vt : Arv Z h0 tb kt .byte cp (tx W) (.int 0)) (hcp : cp = 16 ∨ cp = 34) (hb : W.length < 1000) (hq : (own_n (W).length) = cp) :
 Ctr l Z (⟨zq10, zq28, "([BII)[B"⟩ : MethodName) jdk_65_method_132_code 3 (some (.array .byte)) (rQ 2 1 34 48) n0 #[(.ref tb), (.int 0), (.int (own_n (W).length))] h0 (fun v h => ∃ (t : Addr) (k : ClassId), v = some (.ref t) ∧ Keep h0 h [] ∧ h0.size ≤ t ∧ Arv Z h t k .byte (own_n (W).length) (tx W) (.int 0)) := by
 refine Ctr.of (plainFor_of_name pn1) hn0 ?_
 intro p e s m below meth c T0 C hnm hret hlk X0
 rw [ef17 m tb (0 : Int32) (own_n (W).length)]
 refine G.b 1 C X0 d17_0 rfl rfl <| G.k 4 C X0 d17_1 rfl (teq (by decide : (0 : Int32) = 0)).2 <| G.b 5 C X0 d17_4 rfl rfl <| G.a 6 C X0 d17_5 rfl rfl rfl <| G.J 7 C X0 Vt d17_6 rfl <| G.q 17 C X0 d17_7 (teq hq).1 (by decide) (by decide) <| G.a 18 C X0 d17_17 rfl rfl rfl <| G.aI 21 (cap := 34) (cells' := 1) (slots' := 34) C X0 (wd327 hw) (wd328 hw) (wd332 hw) (wd330 hw) (wd331 hw) (wd333 hw) Vt Et d17_18 rfl rfl (by decide) (nQ rfl) (own_cpc hcp) rfl rfl (by decide) (by decide) (fun T1 h1 b1 X1 g1 q1 E1 V1 A1 => ?_)
 have sz3 : h0.size ≤ b1 := Nat.le_trans (Keep.refl h0 []).1 (Nat.le_of_eq g1.symm)
 have K4 := (Keep.refl h0 []).ext E1
 refine G.al 24 C X1 (wd334 hw) (Ins.of_exa A1 (wd335 hw)) d17_21 rfl (fun T5 X5 => ?_)
 exact G.B C X5 d17_24 hret rfl rfl hlk (⟨b1, kt, rfl, K4, sz3, (by rw [hq]; exact V1)⟩) (by decide) (by decide)
theorem ctCrA {l : Launch} {Z : State} {a0 : Array Value} (hw : HW a0 Z) {n0 : Nat} {h0 : Heap} (hn0 : n0 ≤ h0.size) (tb : Addr) (kt : ClassId) (W : List Int32) (cp : Int32) (Et : Exa Z h0 tb "[B") (Vt : Arv Z h0 tb kt .byte cp (tx W) (.int 0)) (hcp : cp = 16 ∨ cp = 34) (hb : W.length < 1000) (hwc : W.length ≤ cp.toNatClampNeg) :
    Ctr l Z (⟨zq10, zq28, "([BII)[B"⟩ : MethodName) jdk_65_method_132_code 3 (some (.array .byte)) (rQ 2 1 34 48) n0 #[(.ref tb), (.int 0), (.int (own_n (W).length))] h0 (fun v h => ∃ (t : Addr) (k : ClassId), v = some (.ref t) ∧ Keep h0 h [] ∧ h0.size ≤ t ∧ Arv Z h t k .byte (own_n (W).length) (tx W) (.int 0)) := by
  by_cases q : W.length < cp.toNatClampNeg
  · exact ctCrNA hw hn0 tb kt W cp Et Vt hcp hb q
  · exact ctCrCA hw hn0 tb kt W cp Et Vt hcp hb (own_eq (own_cpp hcp) hb (by omega))
theorem ef12 (m : MethodId) (x0 : Addr) (x1 : Addr) : entryFrame m #[(.ref x0), (.ref x1), .null] 5 = mkF m 0 #[.val (.ref x0), .val (.ref x1), .val .null, .unset, .unset] [] := by first | (simp [entryFrame, mkF, argsToLocals, Value.category]; done) | rfl
theorem ctSi4A {l : Launch} {Z : State} {a0 : Array Value} (hw : HW a0 Z) {n0 : Nat} {h0 : Heap} (hn0 : n0 ≤ h0.size) (sx : Addr) (sb tb : Addr) (kt : ClassId) (W : List Int32) (cp : Int32) (cz : Int32) (Ex : Exa Z h0 sx zq0) (Xv : Fld Z h0 sx zq0 "value" "[B" .null) (Xc : Fld Z h0 sx zq0 "coder" "B" (.int 0)) (gx : n0 ≤ sx) (Es : Exa Z h0 sb zq4) (Fv : Fld Z h0 sb zq1 "value" "[B" (.ref tb)) (Fc : Fld Z h0 sb zq1 "coder" "B" (.int 0)) (Fn : Fld Z h0 sb zq1 "count" "I" (.int (own_n (W).length))) (Et : Exa Z h0 tb "[B") (Vt : Arv Z h0 tb kt .byte cp (tx W) (.int 0)) (hcp : cp = 16 ∨ cp = 34) (hb : W.length < 1000) (hwc : W.length ≤ cp.toNatClampNeg) (OD : Old Z n0 h0) (S2 : Sta Z Z.heap zq0 zq5 "Z" (.int cz)) (hcz : ¬ cz = 0) :
 Ctr l Z (⟨zq0, "<init>", zq41⟩ : MethodName) jdk_42_method_150_code 5 none (rQ 3 1 34 70) n0 #[(.ref sx), (.ref sb), .null] h0 (fun v h => ∃ (t : Addr) (k : ClassId), v = none ∧ Keep h0 h [sx] ∧ h0.size ≤ t ∧ Exa Z h sx zq0 ∧ Fld Z h sx zq0 "coder" "B" (.int 0) ∧ Fld Z h sx zq0 "value" "[B" (.ref t) ∧ Arv Z h t k .byte (own_n (W).length) (tx W) (.int 0)) := by
 refine Ctr.of (by decide +kernel) hn0 ?_
 intro p e s m below meth c T0 C hnm hret hlk X0
 rw [ef12 m sx sb]
 refine G.a 1 C X0 d12_0 rfl rfl rfl <| G.ap 4 C X0 (wd83 hw) (wd19 hw) (wd20 hw) d12_1 rfl rfl (by decide) (nQ rfl) fun T1 X1 => G.a 5 C X1 d12_4 rfl rfl rfl <| G.o 8 (cells' := 0) (slots' := 0) (argsL := []) (St := []) C X1 (wd84 hw) (wd85 hw) (wd87 hw) (wd86 hw) (by decide) Es (wd88 hw) (wd40 hw) (ctGvA hw X1.2.1 sb tb Fv) (lenOf pd16 rfl) rfl d12_5 rfl rfl (by decide) (nQ rfl) rfl rfl (by decide) (by decide) (fun v2 T2 h2 Q2 X2 z2 => ?_)
 obtain ⟨hv2, hh2⟩ := Q2
 subst hv2; rw [hh2] at X2
 refine G.ac 9 C X2 d12_8 rfl rfl (l' := #[vR sx, vR sb, .val .null, vR tb, .unset]) rfl <| G.a 10 C X2 d12_9 rfl rfl rfl <| G.aH 13 (cells' := 0) (slots' := 0) (argsL := []) (St := []) C X2 (wd89 hw) (wd90 hw) (notface_of C.2.1 (wd87 hw) rfl) (wd92 hw) (wd93 hw) (by decide) rfl Es (wd94 hw) (wd32 hw) (ctSlnA hw X2.2.1 sb _ Es Fn) (lenOf pd8 rfl) rfl d12_10 rfl rfl (by decide) (nQ rfl) rfl rfl (by decide) (by decide) (fun v3 T3 h3 Q3 X3 z3 => ?_)
 obtain ⟨hv3, hh3⟩ := Q3
 subst hv3; rw [hh3] at X3
 refine G.w 15 C X3 d12_13 rfl (l' := #[vR sx, vR sb, .val .null, vR tb, vI (own_n (W).length)]) rfl <| G.a 16 C X3 d12_15 rfl rfl rfl <| G.o 19 (cells' := 0) (slots' := 0) (argsL := []) (St := []) C X3 (wd100 hw) (wd101 hw) (wd103 hw) (wd102 hw) (by decide) Es (wd104 hw) (wd40 hw) (ctIlA hw X3.2.1 sb cz Fc OD S2 hcz) (lenOf pd11 rfl) rfl d12_16 rfl rfl (by decide) (nQ rfl) rfl rfl (by decide) (by decide) (fun v4 T4 h4 Q4 X4 z4 => ?_)
 obtain ⟨hv4, hh4⟩ := Q4
 subst hv4; rw [hh4] at X4
 refine G.k 22 C X4 d12_19 rfl (feq (by decide : ¬ (1 : Int32) = 0)).1 <| G.a 23 C X4 d12_22 rfl rfl rfl <| G.f 24 (z := 0) C X4 d12_23 rfl (by decide) <| G.ar 27 C X4 (wd105 hw) Via.refl Xc Ex gx (Or.inr ⟨(wd106 hw), rfl, hnm⟩) (wd75 hw) (ty := .byte) (by decide) (v' := .int (0 : Int32)) rfl (by decide) d12_24 rfl (fun T5 h5 X5 W5 F5 => ?_)
 have K6 := (Keep.refl h0 [sx]).wr W5 (mQ 0 rfl)
 refine G.a 28 C X5 d12_27 rfl rfl rfl <| G.a 29 C X5 d12_28 rfl rfl rfl <| G.f 30 (z := 0) C X5 d12_29 rfl (by decide) <| G.g 32 C X5 d12_30 rfl rfl ?_
 have f7 := (Ex.wr W5)
 have f8 := (Et.wr W5)
 have f9 := (Vt.other W5 (Ne.symm (Exa.neArv Ex Vt (wd75 hw))))
 refine G.i 35 (cells' := 1) (slots' := 34) (argsL := [(.ref tb), (.int 0), (.int (own_n (W).length))]) (St := [(.ref sx)]) C X5 (wd107 hw) (wd108 hw) (by decide) (wd110 hw) (wd109 hw) (ctCrA hw X5.2.1 tb kt W cp f8 f9 hcp hb hwc) (lenOf pd15 rfl) rfl d12_32 rfl rfl (by decide) (nQ rfl) rfl rfl (by decide) (by decide) (fun v10 T10 h10 Q10 X10 z10 => ?_)
 obtain ⟨b10, k10, hv10, K10, hz10, Vc10⟩ := Q10
 subst hv10
 have K11 := K6.trans K10 all0
 have nx10 : sx ≠ b10 := Nat.ne_of_lt (Nat.lt_of_lt_of_le f7.lt hz10)
 have f12 := ((Xv.other W5 (Or.inr (sQ6 hw))).keep K10 nin0)
 have f13 := (f7.keep K10)
 refine G.O 38 C X10 (hQ (wd125 hw)) Via.refl f12 f13 gx (Or.inr ⟨(wd126 hw), rfl, hnm⟩) (wd75 hw) (ty := (.array .byte)) (by decide) rfl rfl d12_35 rfl (fun T14 h14 X14 W14 F14 => ?_)
 have K15 := K11.wr W14 (mQ 0 rfl)
 refine G.r 97 C X14 d12_38 (by decide) (by decide) ?_
 have f16 := (f13.wr W14)
 have f17 := ((F5.keep K10 nin0).other W14 (Or.inr (sQ7 hw)))
 have f18 := (Vc10.other W14 (Ne.symm nx10))
 exact G.E C X14 d12_97 hret hlk (⟨b10, k10, rfl, K15, (Nat.le_trans K6.1 hz10), f16, f17, F14, f18⟩) (by decide) (by decide)
theorem ef11 (m : MethodId) (x0 : Addr) (x1 : Addr) : entryFrame m #[(.ref x0), (.ref x1)] 2 = mkF m 0 #[.val (.ref x0), .val (.ref x1)] [] := by first | (simp [entryFrame, mkF, argsToLocals, Value.category]; done) | rfl
theorem ctSiA {l : Launch} {Z : State} {a0 : Array Value} (hw : HW a0 Z) {n0 : Nat} {h0 : Heap} (hn0 : n0 ≤ h0.size) (sx : Addr) (sb tb : Addr) (kt : ClassId) (W : List Int32) (cp : Int32) (cz : Int32) (Ex : Exa Z h0 sx zq0) (Xv : Fld Z h0 sx zq0 "value" "[B" .null) (Xc : Fld Z h0 sx zq0 "coder" "B" (.int 0)) (gx : n0 ≤ sx) (Es : Exa Z h0 sb zq4) (Fv : Fld Z h0 sb zq1 "value" "[B" (.ref tb)) (Fc : Fld Z h0 sb zq1 "coder" "B" (.int 0)) (Fn : Fld Z h0 sb zq1 "count" "I" (.int (own_n (W).length))) (Et : Exa Z h0 tb "[B") (Vt : Arv Z h0 tb kt .byte cp (tx W) (.int 0)) (hcp : cp = 16 ∨ cp = 34) (hb : W.length < 1000) (hwc : W.length ≤ cp.toNatClampNeg) (OD : Old Z n0 h0) (S2 : Sta Z Z.heap zq0 zq5 "Z" (.int cz)) (hcz : ¬ cz = 0) :
 Ctr l Z (⟨zq0, "<init>", zq31⟩ : MethodName) jdk_42_method_53_code 2 none (rQ 4 1 34 92) n0 #[(.ref sx), (.ref sb)] h0 (fun v h => ∃ (t : Addr) (k : ClassId), v = none ∧ Keep h0 h [sx] ∧ h0.size ≤ t ∧ Exa Z h sx zq0 ∧ Fld Z h sx zq0 "coder" "B" (.int 0) ∧ Fld Z h sx zq0 "value" "[B" (.ref t) ∧ Arv Z h t k .byte (own_n (W).length) (tx W) (.int 0)) := by
 refine Ctr.of (by decide +kernel) hn0 ?_
 intro p e s m below meth c T0 C hnm hret hlk X0
 rw [ef11 m sx sb]
 refine G.a 1 C X0 d11_0 rfl rfl rfl <| G.a 2 C X0 d11_1 rfl rfl rfl <| G.am 3 C X0 d11_2 rfl <| G.N 6 (cells' := 1) (slots' := 34) (argsL := [(.ref sb), .null]) (St := []) C X0 rfl rfl (wd80 hw) (wd81 hw) (by decide) (wd82 hw) (wd44 hw) (ctSi4A hw X0.2.1 sx sb tb kt W cp cz Ex Xv Xc gx Es Fv Fc Fn Et Vt hcp hb hwc OD S2 hcz) (lenOf pd17 rfl) rfl d11_3 rfl rfl (by decide) (nQ rfl) rfl rfl (by decide) (by decide) (fun v1 T1 h1 Q1 X1 z1 => ?_)
 obtain ⟨t1, k1, hv1, K1, hz1, E1, F1c, F1v, V1⟩ := Q1
 subst hv1
 have K2 := (Keep.refl h0 [sx]).trans K1 (allS (mQ 0 rfl) all0)
 exact G.E C X1 d11_6 hret hlk (⟨t1, k1, rfl, K2, (Nat.le_trans (Keep.refl h0 [sx]).1 hz1), E1, F1c, F1v, V1⟩) (by decide) (by decide)
theorem ef10 (m : MethodId) (x0 : Addr) : entryFrame m #[(.ref x0)] 1 = mkF m 0 #[.val (.ref x0)] [] := by first | (simp [entryFrame, mkF, argsToLocals, Value.category]; done) | rfl
theorem ctToSA {l : Launch} {Z : State} {a0 : Array Value} (hw : HW a0 Z) {n0 : Nat} {h0 : Heap} (hn0 : n0 ≤ h0.size) (sb tb : Addr) (kt : ClassId) (W : List Int32) (cp : Int32) (cz : Int32) (Es : Exa Z h0 sb zq4) (Fv : Fld Z h0 sb zq1 "value" "[B" (.ref tb)) (Fc : Fld Z h0 sb zq1 "coder" "B" (.int 0)) (Fn : Fld Z h0 sb zq1 "count" "I" (.int (own_n (W).length))) (Et : Exa Z h0 tb "[B") (Vt : Arv Z h0 tb kt .byte cp (tx W) (.int 0)) (hcp : cp = 16 ∨ cp = 34) (hb : W.length < 1000) (hwc : W.length ≤ cp.toNatClampNeg) (OD : Old Z n0 h0) (S2 : Sta Z Z.heap zq0 zq5 "Z" (.int cz)) (hcz : ¬ cz = 0) :
 Ctr l Z (⟨zq4, "toString", zq44⟩ : MethodName) jdk_67_method_42_code 1 (some (.object zq0)) (rQ 5 2 38 120) n0 #[(.ref sb)] h0 (fun v h => ∃ (b t : Addr) (k : ClassId), v = some (.ref b) ∧ Keep h0 h [] ∧ h0.size ≤ b ∧ h0.size ≤ t ∧ Exa Z h b zq0 ∧ Fld Z h b zq0 "coder" "B" (.int 0) ∧ Fld Z h b zq0 "value" "[B" (.ref t) ∧ Arv Z h t k .byte (own_n (W).length) (tx W) (.int 0)) := by
 refine Ctr.of (by decide +kernel) hn0 ?_
 intro p e s m below meth c T0 C hnm hret hlk X0
 rw [ef10 m sb]
 refine G.U 3 (cells' := 1) (slots' := 4) C X0 (wd74 hw) (wd75 hw) (wd44 hw) d10_0 rfl rfl rfl (by decide) (by decide) (fun T1 h1 a1 X1 g1 q1 E1 A1 D1 U1 => ?_)
 have sz4 : h0.size ≤ a1 := Nat.le_trans (Keep.refl h0 []).1 (Nat.le_of_eq g1.symm)
 have K5 := (Keep.refl h0 []).ext E1
 have F1_coder : Fld Z h1 a1 zq0 "coder" "B" (.int 0) := D1 (Or.inr (wd106 hw)) (ty := .byte) (by decide)
 have F1_value : Fld Z h1 a1 zq0 "value" "[B" .null := D1 (Or.inr (wd126 hw)) (ty := (.array .byte)) (by decide)
 refine G.I 4 C X1 d10_3 rfl rfl <| G.a 5 C X1 d10_4 rfl rfl rfl ?_
 have f6 := (Es.ext E1)
 have f7 := (Fv.ext E1)
 have f8 := (Fc.ext E1)
 have f9 := (Fn.ext E1)
 have f10 := (Et.ext E1)
 have f11 := (Vt.ext E1)
 have f12 := (OD.ext E1)
 refine G.N 8 (cells' := 2) (slots' := 38) (argsL := [(.ref sb)]) (St := [(.ref a1)]) C X1 rfl rfl (wd76 hw) (wd77 hw) (by decide) (wd79 hw) (wd44 hw) (ctSiA hw X1.2.1 a1 sb tb kt W cp cz A1 F1_value F1_coder q1 f6 f7 f8 f9 f10 f11 hcp hb hwc f12 S2 hcz) (lenOf pd18 rfl) rfl d10_5 rfl rfl (by decide) (nQ rfl) rfl rfl (by decide) (by decide) (fun v13 T13 h13 Q13 X13 z13 => ?_)
 obtain ⟨t13, k13, hv13, K13, hz13, E13, F13c, F13v, V13⟩ := Q13
 subst hv13
 have K14 := K5.trans K13 (allS (Or.inr sz4) all0)
 exact G.B C X13 d10_8 hret rfl rfl hlk (⟨a1, t13, k13, rfl, K14, sz4, (Nat.le_trans K5.1 hz13), E13, F13c, F13v, V13⟩) (by decide) (by decide)
theorem ef45 (m : MethodId) (x0 : Int32) (x1 : Int32) : entryFrame m #[(.int x0), (.int x1), .null] 3 = mkF m 0 #[.val (.int x0), .val (.int x1), .val .null] [] := by first | (simp [entryFrame, mkF, argsToLocals, Value.category]; done) | rfl
theorem ctPcNA {l : Launch} {Z : State} {a0 : Array Value} (hw : HW a0 Z) {n0 : Nat} {h0 : Heap} (hn0 : n0 ≤ h0.size) (ii nn : Int32) (hi0 : ¬ ii < 0) (hi1 : ii < nn) :
 Ctr l Z (⟨zq9, "checkIndex", zq19⟩ : MethodName) jdk_41_method_11_code 3 (some .int) (rQ 0 0 0 0) n0 #[(.int ii), (.int nn), .null] h0 (fun v h => v = some (.int ii) ∧ h = h0) := by
 refine Ctr.of (plainFor_of_name pn2) hn0 ?_
 intro p e s m below meth c T0 C hnm hret hlk X0
 rw [ef45 m ii nn]
 refine G.b 1 C X0 d45_0 rfl rfl <| G.k 4 C X0 d45_1 rfl (flt hi0).1 <| G.b 5 C X0 d45_4 rfl rfl <| G.b 6 C X0 d45_5 rfl rfl <| G.q 16 C X0 d45_6 (tlt hi1).1 (by decide) (by decide) <| G.b 17 C X0 d45_16 rfl rfl ?_
 exact G.z C X0 d45_17 hret hlk (⟨rfl, rfl⟩) (by decide) (by decide)
theorem ef56 (m : MethodId) (x0 : Int32) (x1 : Int32) : entryFrame m #[(.int x0), (.int x1)] 2 = mkF m 0 #[.val (.int x0), .val (.int x1)] [] := by first | (simp [entryFrame, mkF, argsToLocals, Value.category]; done) | rfl
theorem ctScNA {l : Launch} {Z : State} {a0 : Array Value} (hw : HW a0 Z) {n0 : Nat} {h0 : Heap} (hn0 : n0 ≤ h0.size) (ii nn : Int32) (hi0 : ¬ ii < 0) (hi1 : ii < nn) (OD : Old Z n0 h0) (Sf : Sta Z Z.heap zq9 zq12 zq14 .null) :
 Ctr l Z (⟨zq0, "checkIndex", "(II)V"⟩ : MethodName) jdk_42_method_155_code 2 none (rQ 1 0 0 16) n0 #[(.int ii), (.int nn)] h0 (fun v h => v = none ∧ h = h0) := by
 refine Ctr.of (by decide +kernel) hn0 ?_
 intro p e s m below meth c T0 C hnm hret hlk X0
 rw [ef56 m ii nn]
 refine G.b 1 C X0 d56_0 rfl rfl <| G.b 2 C X0 d56_1 rfl rfl <| G.Y 5 C X0 (hQ (wd300 hw)) Via.refl (Sf.ext OD.2) d56_2 rfl fun T1 X1 => G.i 8 (cells' := 0) (slots' := 0) (argsL := [(.int ii), (.int nn), .null]) (St := []) C X1 (wd301 hw) (wd243 hw) (by decide) (wd245 hw) (wd244 hw) (ctPcNA hw X1.2.1 ii nn hi0 hi1) (lenOf pd19 rfl) rfl d56_5 rfl rfl (by decide) (nQ rfl) rfl rfl (by decide) (by decide) (fun v2 T2 h2 Q2 X2 z2 => ?_)
 obtain ⟨hv2, hh2⟩ := Q2
 subst hv2; rw [hh2] at X2
 refine G.v 9 C X2 d56_8 rfl rfl ?_
 exact G.E C X2 d56_9 hret hlk (⟨rfl, rfl⟩) (by decide) (by decide)
theorem ef45_IIR (m : MethodId) (x0 : Int32) (x1 : Int32) (x2 : Addr) : entryFrame m #[(.int x0), (.int x1), (.ref x2)] 3 = mkF m 0 #[.val (.int x0), .val (.int x1), .val (.ref x2)] [] := by first | (simp [entryFrame, mkF, argsToLocals, Value.category]; done) | rfl
theorem ctPcRA {l : Launch} {Z : State} {a0 : Array Value} (hw : HW a0 Z) {n0 : Nat} {h0 : Heap} (hn0 : n0 ≤ h0.size) (fr : Addr) (ii nn : Int32) (hi0 : ¬ ii < 0) (hi1 : ii < nn) :
 Ctr l Z (⟨zq9, "checkIndex", zq19⟩ : MethodName) jdk_41_method_11_code 3 (some .int) (rQ 0 0 0 0) n0 #[(.int ii), (.int nn), (.ref fr)] h0 (fun v h => v = some (.int ii) ∧ h = h0) := by
 refine Ctr.of (plainFor_of_name pn2) hn0 ?_
 intro p e s m below meth c T0 C hnm hret hlk X0
 rw [ef45_IIR m ii nn fr]
 refine G.b 1 C X0 d45_0 rfl rfl <| G.k 4 C X0 d45_1 rfl (flt hi0).1 <| G.b 5 C X0 d45_4 rfl rfl <| G.b 6 C X0 d45_5 rfl rfl <| G.q 16 C X0 d45_6 (tlt hi1).1 (by decide) (by decide) <| G.b 17 C X0 d45_16 rfl rfl ?_
 exact G.z C X0 d45_17 hret hlk (⟨rfl, rfl⟩) (by decide) (by decide)
theorem ctScRA {l : Launch} {Z : State} {a0 : Array Value} (hw : HW a0 Z) {n0 : Nat} {h0 : Heap} (hn0 : n0 ≤ h0.size) (fr : Addr) (ii nn : Int32) (hi0 : ¬ ii < 0) (hi1 : ii < nn) (OD : Old Z n0 h0) (Sf : Sta Z Z.heap zq9 zq12 zq14 (.ref fr)) :
 Ctr l Z (⟨zq0, "checkIndex", "(II)V"⟩ : MethodName) jdk_42_method_155_code 2 none (rQ 1 0 0 16) n0 #[(.int ii), (.int nn)] h0 (fun v h => v = none ∧ h = h0) := by
 refine Ctr.of (by decide +kernel) hn0 ?_
 intro p e s m below meth c T0 C hnm hret hlk X0
 rw [ef56 m ii nn]
 refine G.b 1 C X0 d56_0 rfl rfl <| G.b 2 C X0 d56_1 rfl rfl <| G.Y 5 C X0 (hQ (wd300 hw)) Via.refl (Sf.ext OD.2) d56_2 rfl fun T1 X1 => G.i 8 (cells' := 0) (slots' := 0) (argsL := [(.int ii), (.int nn), (.ref fr)]) (St := []) C X1 (wd301 hw) (wd243 hw) (by decide) (wd245 hw) (wd244 hw) (ctPcRA hw X1.2.1 fr ii nn hi0 hi1) (lenOf pd19 rfl) rfl d56_5 rfl rfl (by decide) (nQ rfl) rfl rfl (by decide) (by decide) (fun v2 T2 h2 Q2 X2 z2 => ?_)
 obtain ⟨hv2, hh2⟩ := Q2
 subst hv2; rw [hh2] at X2
 refine G.v 9 C X2 d56_8 rfl rfl ?_
 exact G.E C X2 d56_9 hret hlk (⟨rfl, rfl⟩) (by decide) (by decide)
theorem ctScA {l : Launch} {Z : State} {a0 : Array Value} (hw : HW a0 Z) {n0 : Nat} {h0 : Heap} (hn0 : n0 ≤ h0.size) (fmt : Value) (ii nn : Int32) (hi0 : ¬ ii < 0) (hi1 : ii < nn) (OD : Old Z n0 h0) (Sf : Sta Z Z.heap zq9 zq12 zq14 fmt) (hfm : fmt.isRef = true) :
    Ctr l Z (⟨zq0, "checkIndex", "(II)V"⟩ : MethodName) jdk_42_method_155_code 2 none (rQ 1 0 0 16) n0 #[(.int ii), (.int nn)] h0 (fun v h => v = none ∧ h = h0) := by
  rcases ref_cases hfm with rfl | ⟨fr, rfl⟩
  · exact ctScNA hw hn0 ii nn hi0 hi1 OD Sf
  · exact ctScRA hw hn0 fr ii nn hi0 hi1 OD Sf
theorem ef55 (m : MethodId) (x0 : Addr) (x1 : Int32) : entryFrame m #[(.ref x0), (.int x1)] 2 = mkF m 0 #[.val (.ref x0), .val (.int x1)] [] := by first | (simp [entryFrame, mkF, argsToLocals, Value.category]; done) | rfl
theorem ctLcA {l : Launch} {Z : State} {a0 : Array Value} (hw : HW a0 Z) {n0 : Nat} {h0 : Heap} (hn0 : n0 ≤ h0.size) (tb : Addr) (kt : ClassId) (W : List Int32) (ii : Int32) (fmt : Value) (Vt : Arv Z h0 tb kt .byte (own_n (W).length) (tx W) (.int 0)) (hi0 : ¬ ii < 0) (hi1 : ii < (own_n (W).length)) (hi2 : ii.toNatClampNeg < W.length) (hla : ∀ c ∈ W, own_lat c) (OD : Old Z n0 h0) (Sf : Sta Z Z.heap zq9 zq12 zq14 fmt) (hfm : fmt.isRef = true) :
 Ctr l Z (⟨zq18, "charAt", "([BI)C"⟩ : MethodName) jdk_43_method_2_code 2 (some .char) (rQ 2 0 0 32) n0 #[(.ref tb), (.int ii)] h0 (fun v h => v = some (.int (W.getD ii.toNatClampNeg 0)) ∧ h = h0) := by
 refine Ctr.of (by decide +kernel) hn0 ?_
 intro p e s m below meth c T0 C hnm hret hlk X0
 rw [ef55 m tb ii]
 refine G.b 1 C X0 d55_0 rfl rfl <| G.a 2 C X0 d55_1 rfl rfl rfl <| G.J 3 C X0 Vt d55_2 rfl <| G.i 6 (cells' := 0) (slots' := 0) (argsL := [(.int ii), (.int (own_n (W).length))]) (St := []) C X0 (wd297 hw) (wd298 hw) (by decide) (wd299 hw) (wd44 hw) (ctScA hw X0.2.1 fmt ii _ hi0 hi1 OD Sf hfm) (lenOf pd14 rfl) rfl d55_3 rfl rfl (by decide) (nQ rfl) rfl rfl (by decide) (by decide) (fun v1 T1 h1 Q1 X1 z1 => ?_)
 obtain ⟨hv1, hh1⟩ := Q1
 subst hv1; rw [hh1] at X1
 refine G.a 7 C X1 d55_6 rfl rfl rfl <| G.b 8 C X1 d55_7 rfl rfl <| G.aG 9 C X1 Vt d55_8 rfl ⟨hi0, hi1⟩ (v := (own_b (W.getD ii.toNatClampNeg 0))) (own_tx_at _ hi2) <| G.aa 12 (z := 255) C X1 d55_9 rfl (by decide) <| G.ab 13 (z := ((own_b (W.getD ii.toNatClampNeg 0)) &&& (255 : Int32))) C X1 d55_12 rfl rfl <| G.ai 14 (z := (W.getD ii.toNatClampNeg 0)) C X1 d55_13 rfl (own_b_back (own_lat_at hla hi2)) ?_
 exact G.M C X1 d55_14 hret (by simp) (z' := (W.getD ii.toNatClampNeg 0)) (own_nar_lat (own_lat_at hla hi2)) hlk (⟨rfl, rfl⟩) (by decide) (by decide)
theorem ef54 (m : MethodId) (x0 : Addr) : entryFrame m #[(.ref x0)] 1 = mkF m 0 #[.val (.ref x0)] [] := by first | (simp [entryFrame, mkF, argsToLocals, Value.category]; done) | rfl
theorem ctSilA {l : Launch} {Z : State} {a0 : Array Value} (hw : HW a0 Z) {n0 : Nat} {h0 : Heap} (hn0 : n0 ≤ h0.size) (sx : Addr) (cz : Int32) (Fc : Fld Z h0 sx zq0 "coder" "B" (.int 0)) (OD : Old Z n0 h0) (S2 : Sta Z Z.heap zq0 zq5 "Z" (.int cz)) (hcz : ¬ cz = 0) :
 Ctr l Z (⟨zq0, "isLatin1", "()Z"⟩ : MethodName) jdk_42_method_154_code 1 (some .boolean) (rQ 0 0 0 0) n0 #[(.ref sx)] h0 (fun v h => v = some (.int 1) ∧ h = h0) := by
 refine Ctr.of (by decide +kernel) hn0 ?_
 intro p e s m below meth c T0 C hnm hret hlk X0
 rw [ef54 m sx]
 refine G.Y 3 C X0 (hQ (wd138 hw)) Via.refl (S2.ext OD.2) d54_0 rfl fun T1 X1 => G.k 6 C X1 d54_3 rfl (feq hcz).1 <| G.a 7 C X1 d54_6 rfl rfl rfl <| G.u 10 C X1 (hQ (wd105 hw)) Via.refl Fc d54_7 rfl fun T2 X2 => G.k 13 C X2 d54_10 rfl (teq (by decide : (0 : Int32) = 0)).2 <| G.f 14 (z := 1) C X2 d54_13 rfl (by decide) <| G.r 18 C X2 d54_14 (by decide) (by decide) ?_
 exact G.M C X2 d54_18 hret (by simp) (z' := (1 : Int32)) (by decide) hlk (⟨rfl, rfl⟩) (by decide) (by decide)
theorem ef53 (m : MethodId) (x0 : Addr) (x1 : Int32) : entryFrame m #[(.ref x0), (.int x1)] 2 = mkF m 0 #[.val (.ref x0), .val (.int x1)] [] := by first | (simp [entryFrame, mkF, argsToLocals, Value.category]; done) | rfl
theorem ctCaA {l : Launch} {Z : State} {a0 : Array Value} (hw : HW a0 Z) {n0 : Nat} {h0 : Heap} (hn0 : n0 ≤ h0.size) (sr ru : Addr) (kr : ClassId) (M : List Int32) (ii : Int32) (fmt : Value) (cz : Int32) (Er : Exa Z h0 sr zq0) (Rv : Fld Z h0 sr zq0 "value" "[B" (.ref ru)) (Rc : Fld Z h0 sr zq0 "coder" "B" (.int 0)) (Vr : Arv Z h0 ru kr .byte (own_n (M).length) (tx M) (.int 0)) (hi0 : ¬ ii < 0) (hi1 : ii < (own_n (M).length)) (hi2 : ii.toNatClampNeg < M.length) (hla : ∀ c ∈ M, own_lat c) (OD : Old Z n0 h0) (Sf : Sta Z Z.heap zq9 zq12 zq14 fmt) (hfm : fmt.isRef = true) (S2 : Sta Z Z.heap zq0 zq5 "Z" (.int cz)) (hcz : ¬ cz = 0) :
 Ctr l Z (⟨zq0, "charAt", "(I)C"⟩ : MethodName) jdk_42_method_56_code 2 (some .char) (rQ 3 0 0 48) n0 #[(.ref sr), (.int ii)] h0 (fun v h => v = some (.int (M.getD ii.toNatClampNeg 0)) ∧ h = h0) := by
 refine Ctr.of (by decide +kernel) hn0 ?_
 intro p e s m below meth c T0 C hnm hret hlk X0
 rw [ef53 m sr ii]
 refine G.a 1 C X0 d53_0 rfl rfl rfl <| G.o 4 (cells' := 0) (slots' := 0) (argsL := []) (St := []) C X0 (wd289 hw) (wd290 hw) (wd292 hw) (wd291 hw) (by decide) Er (wd293 hw) (wd44 hw) (ctSilA hw X0.2.1 sr cz Rc OD S2 hcz) (lenOf pd11 rfl) rfl d53_1 rfl rfl (by decide) (nQ rfl) rfl rfl (by decide) (by decide) (fun v1 T1 h1 Q1 X1 z1 => ?_)
 obtain ⟨hv1, hh1⟩ := Q1
 subst hv1; rw [hh1] at X1
 refine G.k 7 C X1 d53_4 rfl (feq (by decide : ¬ (1 : Int32) = 0)).1 <| G.a 8 C X1 d53_7 rfl rfl rfl <| G.u 11 C X1 (hQ (wd125 hw)) Via.refl Rv d53_8 rfl fun T2 X2 => G.b 12 C X2 d53_11 rfl rfl <| G.i 15 (cells' := 0) (slots' := 0) (argsL := [(.ref ru), (.int ii)]) (St := []) C X2 (wd294 hw) (wd295 hw) (by decide) (wd296 hw) (wd148 hw) (ctLcA hw X2.2.1 ru kr M ii fmt Vr hi0 hi1 hi2 hla OD Sf hfm) (lenOf pd20 rfl) rfl d53_12 rfl rfl (by decide) (nQ rfl) rfl rfl (by decide) (by decide) (fun v3 T3 h3 Q3 X3 z3 => ?_)
 obtain ⟨hv3, hh3⟩ := Q3
 subst hv3; rw [hh3] at X3
 exact G.M C X3 d53_15 hret (by simp) (z' := (M.getD ii.toNatClampNeg 0)) (own_nar_lat (own_lat_at hla hi2)) hlk (⟨rfl, rfl⟩) (by decide) (by decide)
theorem ef38 (m : MethodId) (x0 : Addr) (x1 : Int32) (x2 : Addr) (x3 : Int32) (x4 : Int32) : entryFrame m #[(.ref x0), (.int x1), (.ref x2), (.int x3), (.int x4)] 7 = mkF m 0 #[.val (.ref x0), .val (.int x1), .val (.ref x2), .val (.int x3), .val (.int x4), .unset, .unset] [] := by first | (simp [entryFrame, mkF, argsToLocals, Value.category]; done) | rfl
theorem ctCmp1 {l : Launch} {Z : State} {a0 : Array Value} (hw : HW a0 Z) {n0 : Nat} {h0 : Heap} (hn0 : n0 ≤ h0.size) (ar ds : Addr) (kr kd : ClassId) (c0 : Int32) (Vr : Arv Z h0 ar kr .char (1 : Int32) [(.int c0)] (.int 0)) (Vd : Arv Z h0 ds kd .byte (1 : Int32) [(.int 0)] (.int 0)) (ga : n0 ≤ ds) (hne : ar ≠ ds) (l_c0 : own_lat c0) :
 Ctr l Z (⟨zq16, "compress", "([CI[BII)I"⟩ : MethodName) jdk_52_method_21_code 7 (some .int) (rQ 0 0 0 0) n0 #[(.ref ar), (.int 0), (.ref ds), (.int 0), (.int 1)] h0 (fun v h => v = some (.int 1) ∧ Keep h0 h [ds] ∧ Arv Z h ds kd .byte (1 : Int32) [(.int (nar .byte (c0.toInt8.toInt32)))] (.int 0)) := by
 refine Ctr.of (by decide +kernel) hn0 ?_
 intro p e s m below meth c T0 C hnm hret hlk X0
 rw [ef38 m ar (0 : Int32) ds (0 : Int32) (1 : Int32)]
 refine G.f 1 (z := 0) C X0 d38_0 rfl (by decide) <| G.w 3 C X0 d38_1 rfl (l' := #[vR ar, vI 0, vR ds, vI 0, vI 1, vI 0, .unset]) rfl <| G.g 5 C X0 d38_3 rfl rfl <| G.g 7 C X0 d38_5 rfl rfl <| G.t 10 C X0 d38_7 rfl (tlt (by decide : (0 : Int32) < 1)).2.1 <| G.a 11 C X0 d38_10 rfl rfl rfl <| G.b 12 C X0 d38_11 rfl rfl <| G.at 13 C X0 Vr d38_12 rfl ⟨by decide, by decide⟩ (v := c0) rfl <| G.w 15 C X0 d38_13 rfl (l' := #[vR ar, vI 0, vR ds, vI 0, vI 1, vI 0, vI c0]) rfl <| G.g 17 C X0 d38_15 rfl rfl <| G.aa 20 (z := 255) C X0 d38_17 rfl (by decide) <| G.q 26 C X0 d38_20 (flt l_c0.2).2.2.2 (by decide) (by decide) <| G.a 27 C X0 d38_26 rfl rfl rfl <| G.b 28 C X0 d38_27 rfl rfl <| G.g 30 C X0 d38_28 rfl rfl ?_
 refine G.ah 31 (z := (c0.toInt8.toInt32)) C X0 d38_30 rfl rfl <| G.ao 32 C X0 Vd ga (i := 0) d38_31 rfl ⟨by decide, by decide⟩ (by decide) (nQ rfl) (fun T1 h1 X1 W1 V1 => ?_)
 replace V1 : Arv Z h1 ds kd .byte (1 : Int32) [(.int (nar .byte (c0.toInt8.toInt32)))] (.int 0) := V1
 have K2 := (Keep.refl h0 [ds]).wr W1 (mQ 0 rfl)
 refine G.y 35 C X1 d38_32 rfl rfl (z := (1 : Int32)) (by decide) (l' := #[vR ar, vI 1, vR ds, vI 0, vI 1, vI 0, vI c0]) rfl <| G.y 38 C X1 d38_35 rfl rfl (z := (1 : Int32)) (by decide) (l' := #[vR ar, vI 1, vR ds, vI 1, vI 1, vI 0, vI c0]) rfl <| G.y 41 C X1 d38_38 rfl rfl (z := (1 : Int32)) (by decide) (l' := #[vR ar, vI 1, vR ds, vI 1, vI 1, vI 1, vI c0]) rfl <| G.r 3 C X1 d38_41 (by decide) (by decide) <| G.g 5 C X1 d38_3 rfl rfl <| G.g 7 C X1 d38_5 rfl rfl <| G.q 44 C X1 d38_7 (flt (by decide : ¬ (1 : Int32) < 1)).2.1 (by decide) (by decide) <| G.g 46 C X1 d38_44 rfl rfl ?_
 exact G.z C X1 d38_46 hret hlk (⟨rfl, K2, V1⟩) (by decide) (by decide)
theorem ef37 (m : MethodId) (x0 : Addr) (x1 : Int32) (x2 : Int32) : entryFrame m #[(.ref x0), (.int x1), (.int x2)] 6 = mkF m 0 #[.val (.ref x0), .val (.int x1), .val (.int x2), .unset, .unset, .unset] [] := by first | (simp [entryFrame, mkF, argsToLocals, Value.category]; done) | rfl
theorem ctCom1 {l : Launch} {Z : State} {a0 : Array Value} (hw : HW a0 Z) {n0 : Nat} {h0 : Heap} (hn0 : n0 ≤ h0.size) (ar : Addr) (kr : ClassId) (c0 : Int32) (Vr : Arv Z h0 ar kr .char (1 : Int32) [(.int c0)] (.int 0)) (l_c0 : own_lat c0) :
 Ctr l Z (⟨zq16, "compress", "([CII)[B"⟩ : MethodName) jdk_52_method_16_code 6 (some (.array .byte)) (rQ 1 1 1 20) n0 #[(.ref ar), (.int 0), (.int 1)] h0 (fun v h => ∃ (b : Addr) (kb : ClassId), v = some (.ref b) ∧ Keep h0 h [] ∧ Arv Z h b kb .byte (1 : Int32) [(.int (nar .byte (c0.toInt8.toInt32)))] (.int 0)) := by
 refine Ctr.of (by decide +kernel) hn0 ?_
 intro p e s m below meth c T0 C hnm hret hlk X0
 rw [ef37 m ar (0 : Int32) (1 : Int32)]
 refine G.b 1 C X0 d37_0 rfl rfl <| G.af 3 (cap := 1) (d0 := (.int 0)) (cells' := 1) (slots' := 1) C X0 (wd45 hw) rfl d37_1 rfl (by decide) (by decide) (by decide) rfl rfl rfl (by decide) (by decide) (fun T1 h1 a1 k1 X1 g1 q1 E1 V1 => ?_)
 have ne2 : ar ≠ a1 := Nat.ne_of_lt (Nat.lt_of_lt_of_eq Vr.lt g1.symm)
 have sz3 : h0.size ≤ a1 := Nat.le_trans (Keep.refl h0 []).1 (Nat.le_of_eq g1.symm)
 have K4 := (Keep.refl h0 []).ext E1
 replace V1 : Arv Z h1 a1 k1 .byte (1 : Int32) [(.int 0)] (.int 0) := V1.pad (pad_rep [] (.int 0) 1)
 refine G.ac 4 C X1 d37_3 rfl rfl (l' := #[vR ar, vI 0, vI 1, vR a1, .unset, .unset]) rfl <| G.a 5 C X1 d37_4 rfl rfl rfl <| G.b 6 C X1 d37_5 rfl rfl <| G.a 7 C X1 d37_6 rfl rfl rfl <| G.f 8 (z := 0) C X1 d37_7 rfl (by decide) <| G.b 9 C X1 d37_8 rfl rfl ?_
 have f5 := (Vr.ext E1)
 refine G.i 12 (cells' := 1) (slots' := 1) (argsL := [(.ref ar), (.int 0), (.ref a1), (.int 0), (.int 1)]) (St := []) C X1 (wd205 hw) (wd206 hw) (by decide) (wd207 hw) (wd203 hw) (ctCmp1 hw X1.2.1 ar a1 kr k1 c0 f5 V1 q1 ne2 l_c0) (lenOf pd21 rfl) rfl d37_9 rfl rfl (by decide) (nQ rfl) rfl rfl (by decide) (by decide) (fun v6 T6 h6 Q6 X6 z6 => ?_)
 obtain ⟨hv6, K6, V6b⟩ := Q6
 subst hv6
 have K7 := K4.trans K6 (allS (Or.inr sz3) all0)
 refine G.w 14 C X6 d37_12 rfl (l' := #[vR ar, vI 0, vI 1, vR a1, vI 1, .unset]) rfl <| G.g 16 C X6 d37_14 rfl rfl <| G.b 17 C X6 d37_16 rfl rfl <| G.q 57 C X6 d37_17 (teq (by decide : (1 : Int32) = 1)).1 (by decide) (by decide) <| G.a 58 C X6 d37_57 rfl rfl rfl ?_
 exact G.B C X6 d37_58 hret rfl rfl hlk (⟨a1, k1, rfl, K7, V6b⟩) (by decide) (by decide)
theorem ef39 (m : MethodId) (x0 : Addr) (x1 : Int32) : entryFrame m #[(.ref x0), (.int x1)] 2 = mkF m 0 #[.val (.ref x0), .val (.int x1)] [] := by first | (simp [entryFrame, mkF, argsToLocals, Value.category]; done) | rfl
theorem ctCod1 {l : Launch} {Z : State} {a0 : Array Value} (hw : HW a0 Z) {n0 : Nat} {h0 : Heap} (hn0 : n0 ≤ h0.size) (b : Addr) (kb : ClassId) (vs : List Value) (Vr : Arv Z h0 b kb .byte (1 : Int32) vs (.int 0)) :
 Ctr l Z (⟨zq16, zq38, "([BI)B"⟩ : MethodName) jdk_52_method_15_code 2 (some .byte) (rQ 0 0 0 0) n0 #[(.ref b), (.int 1)] h0 (fun v h => v = some (.int 0) ∧ h = h0) := by
 refine Ctr.of (by decide +kernel) hn0 ?_
 intro p e s m below meth c T0 C hnm hret hlk X0
 rw [ef39 m b (1 : Int32)]
 refine G.b 1 C X0 d39_0 rfl rfl <| G.a 2 C X0 d39_1 rfl rfl rfl <| G.J 3 C X0 Vr d39_2 rfl <| G.ak 4 (z := (0 : Int32)) C X0 d39_3 rfl (by decide) <| G.j 6 (z := 31) C X0 d39_4 rfl (by decide) <| G.ae 7 (z := (0 : Int32)) C X0 d39_6 rfl (by decide) <| G.ah 8 (z := (0 : Int32)) C X0 d39_7 rfl (by decide) ?_
 exact G.M C X0 d39_8 hret (by simp) (z' := (0 : Int32)) (by decide) hlk (⟨rfl, rfl⟩) (by decide) (by decide)
theorem ef36 (m : MethodId) (x0 : Addr) (x1 : Addr) (x2 : Int32) (x3 : Int32) : entryFrame m #[(.ref x0), (.ref x1), (.int x2), (.int x3), .null] 6 = mkF m 0 #[.val (.ref x0), .val (.ref x1), .val (.int x2), .val (.int x3), .val .null, .unset] [] := by first | (simp [entryFrame, mkF, argsToLocals, Value.category]; done) | rfl
theorem ctI4_1 {l : Launch} {Z : State} {a0 : Array Value} (hw : HW a0 Z) {n0 : Nat} {h0 : Heap} (hn0 : n0 ≤ h0.size) (sx ar : Addr) (kr : ClassId) (c0 : Int32) (cz : Int32) (Ex : Exa Z h0 sx zq0) (Fv : Fld Z h0 sx zq0 "value" "[B" .null) (Fc : Fld Z h0 sx zq0 "coder" "B" (.int 0)) (gx : n0 ≤ sx) (Vr : Arv Z h0 ar kr .char (1 : Int32) [(.int c0)] (.int 0)) (l_c0 : own_lat c0) (OD : Old Z n0 h0) (S2 : Sta Z Z.heap zq0 zq5 "Z" (.int cz)) (hcz : ¬ cz = 0) :
 Ctr l Z (⟨zq0, "<init>", zq32⟩ : MethodName) jdk_42_method_149_code 6 none (rQ 2 1 1 40) n0 #[(.ref sx), (.ref ar), (.int 0), (.int 1), .null] h0 (fun v h => ∃ (t : Addr) (kb : ClassId), v = none ∧ Keep h0 h [sx] ∧ Exa Z h sx zq0 ∧ Fld Z h sx zq0 "coder" "B" (.int 0) ∧ Fld Z h sx zq0 "value" "[B" (.ref t) ∧ Arv Z h t kb .byte (1 : Int32) [(.int (nar .byte (c0.toInt8.toInt32)))] (.int 0)) := by
 refine Ctr.of (by decide +kernel) hn0 ?_
 intro p e s m below meth c T0 C hnm hret hlk X0
 rw [ef36 m sx ar (0 : Int32) (1 : Int32)]
 refine G.a 1 C X0 d36_0 rfl rfl rfl <| G.ap 4 C X0 (wd83 hw) (wd19 hw) (wd20 hw) d36_1 rfl rfl (by decide) (nQ rfl) fun T1 X1 => G.b 5 C X1 d36_4 rfl rfl <| G.ad 27 C X1 d36_5 (feq (by decide : ¬ (1 : Int32) = 0)).2 (by decide) (by decide) <| G.Y 30 C X1 (hQ (wd138 hw)) Via.refl (S2.ext OD.2) d36_27 rfl fun T2 X2 => G.k 33 C X2 d36_30 rfl (feq hcz).1 <| G.a 34 C X2 d36_33 rfl rfl rfl <| G.b 35 C X2 d36_34 rfl rfl <| G.b 36 C X2 d36_35 rfl rfl <| G.i 39 (cells' := 1) (slots' := 1) (argsL := [(.ref ar), (.int 0), (.int 1)]) (St := []) C X2 (wd201 hw) (wd202 hw) (by decide) (wd204 hw) (wd203 hw) (ctCom1 hw X2.2.1 ar kr c0 Vr l_c0) (lenOf pd22 rfl) rfl d36_36 rfl rfl (by decide) (nQ rfl) rfl rfl (by decide) (by decide) (fun v3 T3 h3 Q3 X3 z3 => ?_)
 obtain ⟨b3, k3, hv3, K3, V3⟩ := Q3
 subst hv3
 have K4 := (Keep.refl h0 [sx]).trans K3 all0
 have f5 := (Ex.keep K3)
 have nx3 : sx ≠ b3 := Exa.neArv f5 V3 (wd75 hw)
 refine G.P 41 C X3 d36_39 rfl rfl (l' := #[vR sx, vR ar, vI 0, vI 1, .val .null, vR b3]) rfl <| G.a 42 C X3 d36_41 rfl rfl rfl <| G.d 44 C X3 d36_42 rfl rfl rfl <| G.b 45 C X3 d36_44 rfl rfl <| G.i 48 (cells' := 1) (slots' := 1) (argsL := [(.ref b3), (.int 1)]) (St := [(.ref sx)]) C X3 (wd208 hw) (wd209 hw) (by decide) (wd210 hw) (wd203 hw) (ctCod1 hw X3.2.1 b3 k3 _ V3) (lenOf pd23 rfl) rfl d36_45 rfl rfl (by decide) (nQ rfl) rfl rfl (by decide) (by decide) (fun v6 T6 h6 Q6 X6 z6 => ?_)
 obtain ⟨hv6, hh6⟩ := Q6
 subst hv6; rw [hh6] at X6
 have f7 := (Fc.keep K3 nin0)
 refine G.ar 51 C X6 (wd105 hw) Via.refl f7 f5 gx (Or.inr ⟨(wd106 hw), rfl, hnm⟩) (wd75 hw) (ty := .byte) (by decide) (v' := .int (0 : Int32)) rfl (by decide) d36_48 rfl (fun T8 h8 X8 W8 F8 => ?_)
 have K9 := K4.wr W8 (mQ 0 rfl)
 refine G.a 52 C X8 d36_51 rfl rfl rfl <| G.d 54 C X8 d36_52 rfl rfl rfl ?_
 have f10 := ((Fv.keep K3 nin0).other W8 (Or.inr (sQ6 hw)))
 have f11 := (f5.wr W8)
 refine G.O 57 C X8 (hQ (wd125 hw)) Via.refl f10 f11 gx (Or.inr ⟨(wd126 hw), rfl, hnm⟩) (wd75 hw) (ty := (.array .byte)) (by decide) rfl rfl d36_54 rfl (fun T12 h12 X12 W12 F12 => ?_)
 have K13 := K9.wr W12 (mQ 0 rfl)
 have f14 := (f11.wr W12)
 have f15 := (F8.other W12 (Or.inr (sQ7 hw)))
 have f16 := ((V3.other W8 (Ne.symm nx3)).other W12 (Ne.symm nx3))
 exact G.E C X12 d36_57 hret hlk (⟨b3, k3, rfl, K13, f14, f15, F12, f16⟩) (by decide) (by decide)
theorem ef35 (m : MethodId) (x0 : Addr) (x1 : Addr) : entryFrame m #[(.ref x0), (.ref x1)] 2 = mkF m 0 #[.val (.ref x0), .val (.ref x1)] [] := by first | (simp [entryFrame, mkF, argsToLocals, Value.category]; done) | rfl
theorem ctNew1 {l : Launch} {Z : State} {a0 : Array Value} (hw : HW a0 Z) {n0 : Nat} {h0 : Heap} (hn0 : n0 ≤ h0.size) (sx ar : Addr) (kr : ClassId) (c0 : Int32) (cz : Int32) (Ex : Exa Z h0 sx zq0) (Fv : Fld Z h0 sx zq0 "value" "[B" .null) (Fc : Fld Z h0 sx zq0 "coder" "B" (.int 0)) (gx : n0 ≤ sx) (Vr : Arv Z h0 ar kr .char (1 : Int32) [(.int c0)] (.int 0)) (l_c0 : own_lat c0) (OD : Old Z n0 h0) (S2 : Sta Z Z.heap zq0 zq5 "Z" (.int cz)) (hcz : ¬ cz = 0) :
 Ctr l Z (⟨zq0, "<init>", "([C)V"⟩ : MethodName) jdk_42_method_3_code 2 none (rQ 3 1 1 60) n0 #[(.ref sx), (.ref ar)] h0 (fun v h => ∃ (t : Addr) (kb : ClassId), v = none ∧ Keep h0 h [sx] ∧ Exa Z h sx zq0 ∧ Fld Z h sx zq0 "coder" "B" (.int 0) ∧ Fld Z h sx zq0 "value" "[B" (.ref t) ∧ Arv Z h t kb .byte (1 : Int32) [(.int (nar .byte (c0.toInt8.toInt32)))] (.int 0)) := by
 refine Ctr.of (by decide +kernel) hn0 ?_
 intro p e s m below meth c T0 C hnm hret hlk X0
 rw [ef35 m sx ar]
 refine G.a 1 C X0 d35_0 rfl rfl rfl <| G.a 2 C X0 d35_1 rfl rfl rfl <| G.f 3 (z := 0) C X0 d35_2 rfl (by decide) <| G.a 4 C X0 d35_3 rfl rfl rfl <| G.J 5 C X0 Vr d35_4 rfl <| G.am 6 C X0 d35_5 rfl <| G.N 9 (cells' := 1) (slots' := 1) (argsL := [(.ref ar), (.int 0), (.int 1), .null]) (St := []) C X0 rfl rfl (wd198 hw) (wd199 hw) (by decide) (wd200 hw) (wd44 hw) (ctI4_1 hw X0.2.1 sx ar kr c0 cz Ex Fv Fc gx Vr l_c0 OD S2 hcz) (lenOf pd24 rfl) rfl d35_6 rfl rfl (by decide) (nQ rfl) rfl rfl (by decide) (by decide) (fun v1 T1 h1 Q1 X1 z1 => ?_)
 obtain ⟨t1, k1, hv1, K1, E1, F1c, F1v, V1⟩ := Q1
 subst hv1
 have K2 := (Keep.refl h0 [sx]).trans K1 (allS (mQ 0 rfl) all0)
 exact G.E C X1 d35_9 hret hlk (⟨t1, k1, rfl, K2, E1, F1c, F1v, V1⟩) (by decide) (by decide)
theorem ctCmp2 {l : Launch} {Z : State} {a0 : Array Value} (hw : HW a0 Z) {n0 : Nat} {h0 : Heap} (hn0 : n0 ≤ h0.size) (ar ds : Addr) (kr kd : ClassId) (c0 c1 : Int32) (Vr : Arv Z h0 ar kr .char (2 : Int32) [(.int c0), (.int c1)] (.int 0)) (Vd : Arv Z h0 ds kd .byte (2 : Int32) [(.int 0), (.int 0)] (.int 0)) (ga : n0 ≤ ds) (hne : ar ≠ ds) (l_c0 : own_lat c0) (l_c1 : own_lat c1) :
 Ctr l Z (⟨zq16, "compress", "([CI[BII)I"⟩ : MethodName) jdk_52_method_21_code 7 (some .int) (rQ 0 0 0 0) n0 #[(.ref ar), (.int 0), (.ref ds), (.int 0), (.int 2)] h0 (fun v h => v = some (.int 2) ∧ Keep h0 h [ds] ∧ Arv Z h ds kd .byte (2 : Int32) [(.int (nar .byte (c0.toInt8.toInt32))), (.int (nar .byte (c1.toInt8.toInt32)))] (.int 0)) := by
 refine Ctr.of (by decide +kernel) hn0 ?_
 intro p e s m below meth c T0 C hnm hret hlk X0
 rw [ef38 m ar (0 : Int32) ds (0 : Int32) (2 : Int32)]
 refine G.f 1 (z := 0) C X0 d38_0 rfl (by decide) <| G.w 3 C X0 d38_1 rfl (l' := #[vR ar, vI 0, vR ds, vI 0, vI 2, vI 0, .unset]) rfl <| G.g 5 C X0 d38_3 rfl rfl <| G.g 7 C X0 d38_5 rfl rfl <| G.t 10 C X0 d38_7 rfl (tlt (by decide : (0 : Int32) < 2)).2.1 <| G.a 11 C X0 d38_10 rfl rfl rfl <| G.b 12 C X0 d38_11 rfl rfl <| G.at 13 C X0 Vr d38_12 rfl ⟨by decide, by decide⟩ (v := c0) rfl <| G.w 15 C X0 d38_13 rfl (l' := #[vR ar, vI 0, vR ds, vI 0, vI 2, vI 0, vI c0]) rfl <| G.g 17 C X0 d38_15 rfl rfl <| G.aa 20 (z := 255) C X0 d38_17 rfl (by decide) <| G.q 26 C X0 d38_20 (flt l_c0.2).2.2.2 (by decide) (by decide) <| G.a 27 C X0 d38_26 rfl rfl rfl <| G.b 28 C X0 d38_27 rfl rfl <| G.g 30 C X0 d38_28 rfl rfl ?_
 refine G.ah 31 (z := (c0.toInt8.toInt32)) C X0 d38_30 rfl rfl <| G.ao 32 C X0 Vd ga (i := 0) d38_31 rfl ⟨by decide, by decide⟩ (by decide) (nQ rfl) (fun T1 h1 X1 W1 V1 => ?_)
 replace V1 : Arv Z h1 ds kd .byte (2 : Int32) [(.int (nar .byte (c0.toInt8.toInt32))), (.int 0)] (.int 0) := V1
 have K2 := (Keep.refl h0 [ds]).wr W1 (mQ 0 rfl)
 refine G.y 35 C X1 d38_32 rfl rfl (z := (1 : Int32)) (by decide) (l' := #[vR ar, vI 1, vR ds, vI 0, vI 2, vI 0, vI c0]) rfl <| G.y 38 C X1 d38_35 rfl rfl (z := (1 : Int32)) (by decide) (l' := #[vR ar, vI 1, vR ds, vI 1, vI 2, vI 0, vI c0]) rfl <| G.y 41 C X1 d38_38 rfl rfl (z := (1 : Int32)) (by decide) (l' := #[vR ar, vI 1, vR ds, vI 1, vI 2, vI 1, vI c0]) rfl <| G.r 3 C X1 d38_41 (by decide) (by decide) <| G.g 5 C X1 d38_3 rfl rfl <| G.g 7 C X1 d38_5 rfl rfl <| G.t 10 C X1 d38_7 rfl (tlt (by decide : (1 : Int32) < 2)).2.1 <| G.a 11 C X1 d38_10 rfl rfl rfl <| G.b 12 C X1 d38_11 rfl rfl ?_
 have f3 := (Vr.other W1 hne)
 refine G.at 13 C X1 f3 d38_12 rfl ⟨by decide, by decide⟩ (v := c1) rfl <| G.w 15 C X1 d38_13 rfl (l' := #[vR ar, vI 1, vR ds, vI 1, vI 2, vI 1, vI c1]) rfl <| G.g 17 C X1 d38_15 rfl rfl <| G.aa 20 (z := 255) C X1 d38_17 rfl (by decide) <| G.q 26 C X1 d38_20 (flt l_c1.2).2.2.2 (by decide) (by decide) <| G.a 27 C X1 d38_26 rfl rfl rfl <| G.b 28 C X1 d38_27 rfl rfl <| G.g 30 C X1 d38_28 rfl rfl <| G.ah 31 (z := (c1.toInt8.toInt32)) C X1 d38_30 rfl rfl <| G.ao 32 C X1 V1 ga (i := 1) d38_31 rfl ⟨by decide, by decide⟩ (by decide) (nQ rfl) (fun T4 h4 X4 W4 V4 => ?_)
 replace V4 : Arv Z h4 ds kd .byte (2 : Int32) [(.int (nar .byte (c0.toInt8.toInt32))), (.int (nar .byte (c1.toInt8.toInt32)))] (.int 0) := V4
 have K5 := K2.wr W4 (mQ 0 rfl)
 refine G.y 35 C X4 d38_32 rfl rfl (z := (2 : Int32)) (by decide) (l' := #[vR ar, vI 2, vR ds, vI 1, vI 2, vI 1, vI c1]) rfl <| G.y 38 C X4 d38_35 rfl rfl (z := (2 : Int32)) (by decide) (l' := #[vR ar, vI 2, vR ds, vI 2, vI 2, vI 1, vI c1]) rfl <| G.y 41 C X4 d38_38 rfl rfl (z := (2 : Int32)) (by decide) (l' := #[vR ar, vI 2, vR ds, vI 2, vI 2, vI 2, vI c1]) rfl <| G.r 3 C X4 d38_41 (by decide) (by decide) <| G.g 5 C X4 d38_3 rfl rfl <| G.g 7 C X4 d38_5 rfl rfl <| G.q 44 C X4 d38_7 (flt (by decide : ¬ (2 : Int32) < 2)).2.1 (by decide) (by decide) <| G.g 46 C X4 d38_44 rfl rfl ?_
 exact G.z C X4 d38_46 hret hlk (⟨rfl, K5, V4⟩) (by decide) (by decide)
theorem ctCom2 {l : Launch} {Z : State} {a0 : Array Value} (hw : HW a0 Z) {n0 : Nat} {h0 : Heap} (hn0 : n0 ≤ h0.size) (ar : Addr) (kr : ClassId) (c0 c1 : Int32) (Vr : Arv Z h0 ar kr .char (2 : Int32) [(.int c0), (.int c1)] (.int 0)) (l_c0 : own_lat c0) (l_c1 : own_lat c1) :
 Ctr l Z (⟨zq16, "compress", "([CII)[B"⟩ : MethodName) jdk_52_method_16_code 6 (some (.array .byte)) (rQ 1 1 2 20) n0 #[(.ref ar), (.int 0), (.int 2)] h0 (fun v h => ∃ (b : Addr) (kb : ClassId), v = some (.ref b) ∧ Keep h0 h [] ∧ Arv Z h b kb .byte (2 : Int32) [(.int (nar .byte (c0.toInt8.toInt32))), (.int (nar .byte (c1.toInt8.toInt32)))] (.int 0)) := by
 refine Ctr.of (by decide +kernel) hn0 ?_
 intro p e s m below meth c T0 C hnm hret hlk X0
 rw [ef37 m ar (0 : Int32) (2 : Int32)]
 refine G.b 1 C X0 d37_0 rfl rfl <| G.af 3 (cap := 2) (d0 := (.int 0)) (cells' := 1) (slots' := 2) C X0 (wd45 hw) rfl d37_1 rfl (by decide) (by decide) (by decide) rfl rfl rfl (by decide) (by decide) (fun T1 h1 a1 k1 X1 g1 q1 E1 V1 => ?_)
 have ne2 : ar ≠ a1 := Nat.ne_of_lt (Nat.lt_of_lt_of_eq Vr.lt g1.symm)
 have sz3 : h0.size ≤ a1 := Nat.le_trans (Keep.refl h0 []).1 (Nat.le_of_eq g1.symm)
 have K4 := (Keep.refl h0 []).ext E1
 replace V1 : Arv Z h1 a1 k1 .byte (2 : Int32) [(.int 0), (.int 0)] (.int 0) := V1.pad (pad_rep [] (.int 0) 2)
 refine G.ac 4 C X1 d37_3 rfl rfl (l' := #[vR ar, vI 0, vI 2, vR a1, .unset, .unset]) rfl <| G.a 5 C X1 d37_4 rfl rfl rfl <| G.b 6 C X1 d37_5 rfl rfl <| G.a 7 C X1 d37_6 rfl rfl rfl <| G.f 8 (z := 0) C X1 d37_7 rfl (by decide) <| G.b 9 C X1 d37_8 rfl rfl ?_
 have f5 := (Vr.ext E1)
 refine G.i 12 (cells' := 1) (slots' := 2) (argsL := [(.ref ar), (.int 0), (.ref a1), (.int 0), (.int 2)]) (St := []) C X1 (wd205 hw) (wd206 hw) (by decide) (wd207 hw) (wd203 hw) (ctCmp2 hw X1.2.1 ar a1 kr k1 c0 c1 f5 V1 q1 ne2 l_c0 l_c1) (lenOf pd21 rfl) rfl d37_9 rfl rfl (by decide) (nQ rfl) rfl rfl (by decide) (by decide) (fun v6 T6 h6 Q6 X6 z6 => ?_)
 obtain ⟨hv6, K6, V6b⟩ := Q6
 subst hv6
 have K7 := K4.trans K6 (allS (Or.inr sz3) all0)
 refine G.w 14 C X6 d37_12 rfl (l' := #[vR ar, vI 0, vI 2, vR a1, vI 2, .unset]) rfl <| G.g 16 C X6 d37_14 rfl rfl <| G.b 17 C X6 d37_16 rfl rfl <| G.q 57 C X6 d37_17 (teq (by decide : (2 : Int32) = 2)).1 (by decide) (by decide) <| G.a 58 C X6 d37_57 rfl rfl rfl ?_
 exact G.B C X6 d37_58 hret rfl rfl hlk (⟨a1, k1, rfl, K7, V6b⟩) (by decide) (by decide)
theorem ctCod2 {l : Launch} {Z : State} {a0 : Array Value} (hw : HW a0 Z) {n0 : Nat} {h0 : Heap} (hn0 : n0 ≤ h0.size) (b : Addr) (kb : ClassId) (vs : List Value) (Vr : Arv Z h0 b kb .byte (2 : Int32) vs (.int 0)) :
 Ctr l Z (⟨zq16, zq38, "([BI)B"⟩ : MethodName) jdk_52_method_15_code 2 (some .byte) (rQ 0 0 0 0) n0 #[(.ref b), (.int 2)] h0 (fun v h => v = some (.int 0) ∧ h = h0) := by
 refine Ctr.of (by decide +kernel) hn0 ?_
 intro p e s m below meth c T0 C hnm hret hlk X0
 rw [ef39 m b (2 : Int32)]
 refine G.b 1 C X0 d39_0 rfl rfl <| G.a 2 C X0 d39_1 rfl rfl rfl <| G.J 3 C X0 Vr d39_2 rfl <| G.ak 4 (z := (0 : Int32)) C X0 d39_3 rfl (by decide) <| G.j 6 (z := 31) C X0 d39_4 rfl (by decide) <| G.ae 7 (z := (0 : Int32)) C X0 d39_6 rfl (by decide) <| G.ah 8 (z := (0 : Int32)) C X0 d39_7 rfl (by decide) ?_
 exact G.M C X0 d39_8 hret (by simp) (z' := (0 : Int32)) (by decide) hlk (⟨rfl, rfl⟩) (by decide) (by decide)
theorem ctI4_2 {l : Launch} {Z : State} {a0 : Array Value} (hw : HW a0 Z) {n0 : Nat} {h0 : Heap} (hn0 : n0 ≤ h0.size) (sx ar : Addr) (kr : ClassId) (c0 c1 : Int32) (cz : Int32) (Ex : Exa Z h0 sx zq0) (Fv : Fld Z h0 sx zq0 "value" "[B" .null) (Fc : Fld Z h0 sx zq0 "coder" "B" (.int 0)) (gx : n0 ≤ sx) (Vr : Arv Z h0 ar kr .char (2 : Int32) [(.int c0), (.int c1)] (.int 0)) (l_c0 : own_lat c0) (l_c1 : own_lat c1) (OD : Old Z n0 h0) (S2 : Sta Z Z.heap zq0 zq5 "Z" (.int cz)) (hcz : ¬ cz = 0) :
 Ctr l Z (⟨zq0, "<init>", zq32⟩ : MethodName) jdk_42_method_149_code 6 none (rQ 2 1 2 40) n0 #[(.ref sx), (.ref ar), (.int 0), (.int 2), .null] h0 (fun v h => ∃ (t : Addr) (kb : ClassId), v = none ∧ Keep h0 h [sx] ∧ Exa Z h sx zq0 ∧ Fld Z h sx zq0 "coder" "B" (.int 0) ∧ Fld Z h sx zq0 "value" "[B" (.ref t) ∧ Arv Z h t kb .byte (2 : Int32) [(.int (nar .byte (c0.toInt8.toInt32))), (.int (nar .byte (c1.toInt8.toInt32)))] (.int 0)) := by
 refine Ctr.of (by decide +kernel) hn0 ?_
 intro p e s m below meth c T0 C hnm hret hlk X0
 rw [ef36 m sx ar (0 : Int32) (2 : Int32)]
 refine G.a 1 C X0 d36_0 rfl rfl rfl <| G.ap 4 C X0 (wd83 hw) (wd19 hw) (wd20 hw) d36_1 rfl rfl (by decide) (nQ rfl) fun T1 X1 => G.b 5 C X1 d36_4 rfl rfl <| G.ad 27 C X1 d36_5 (feq (by decide : ¬ (2 : Int32) = 0)).2 (by decide) (by decide) <| G.Y 30 C X1 (hQ (wd138 hw)) Via.refl (S2.ext OD.2) d36_27 rfl fun T2 X2 => G.k 33 C X2 d36_30 rfl (feq hcz).1 <| G.a 34 C X2 d36_33 rfl rfl rfl <| G.b 35 C X2 d36_34 rfl rfl <| G.b 36 C X2 d36_35 rfl rfl <| G.i 39 (cells' := 1) (slots' := 2) (argsL := [(.ref ar), (.int 0), (.int 2)]) (St := []) C X2 (wd201 hw) (wd202 hw) (by decide) (wd204 hw) (wd203 hw) (ctCom2 hw X2.2.1 ar kr c0 c1 Vr l_c0 l_c1) (lenOf pd22 rfl) rfl d36_36 rfl rfl (by decide) (nQ rfl) rfl rfl (by decide) (by decide) (fun v3 T3 h3 Q3 X3 z3 => ?_)
 obtain ⟨b3, k3, hv3, K3, V3⟩ := Q3
 subst hv3
 have K4 := (Keep.refl h0 [sx]).trans K3 all0
 have f5 := (Ex.keep K3)
 have nx3 : sx ≠ b3 := Exa.neArv f5 V3 (wd75 hw)
 refine G.P 41 C X3 d36_39 rfl rfl (l' := #[vR sx, vR ar, vI 0, vI 2, .val .null, vR b3]) rfl <| G.a 42 C X3 d36_41 rfl rfl rfl <| G.d 44 C X3 d36_42 rfl rfl rfl <| G.b 45 C X3 d36_44 rfl rfl <| G.i 48 (cells' := 1) (slots' := 2) (argsL := [(.ref b3), (.int 2)]) (St := [(.ref sx)]) C X3 (wd208 hw) (wd209 hw) (by decide) (wd210 hw) (wd203 hw) (ctCod2 hw X3.2.1 b3 k3 _ V3) (lenOf pd23 rfl) rfl d36_45 rfl rfl (by decide) (nQ rfl) rfl rfl (by decide) (by decide) (fun v6 T6 h6 Q6 X6 z6 => ?_)
 obtain ⟨hv6, hh6⟩ := Q6
 subst hv6; rw [hh6] at X6
 have f7 := (Fc.keep K3 nin0)
 refine G.ar 51 C X6 (wd105 hw) Via.refl f7 f5 gx (Or.inr ⟨(wd106 hw), rfl, hnm⟩) (wd75 hw) (ty := .byte) (by decide) (v' := .int (0 : Int32)) rfl (by decide) d36_48 rfl (fun T8 h8 X8 W8 F8 => ?_)
 have K9 := K4.wr W8 (mQ 0 rfl)
 refine G.a 52 C X8 d36_51 rfl rfl rfl <| G.d 54 C X8 d36_52 rfl rfl rfl ?_
 have f10 := ((Fv.keep K3 nin0).other W8 (Or.inr (sQ6 hw)))
 have f11 := (f5.wr W8)
 refine G.O 57 C X8 (hQ (wd125 hw)) Via.refl f10 f11 gx (Or.inr ⟨(wd126 hw), rfl, hnm⟩) (wd75 hw) (ty := (.array .byte)) (by decide) rfl rfl d36_54 rfl (fun T12 h12 X12 W12 F12 => ?_)
 have K13 := K9.wr W12 (mQ 0 rfl)
 have f14 := (f11.wr W12)
 have f15 := (F8.other W12 (Or.inr (sQ7 hw)))
 have f16 := ((V3.other W8 (Ne.symm nx3)).other W12 (Ne.symm nx3))
 exact G.E C X12 d36_57 hret hlk (⟨b3, k3, rfl, K13, f14, f15, F12, f16⟩) (by decide) (by decide)
theorem ctNew2 {l : Launch} {Z : State} {a0 : Array Value} (hw : HW a0 Z) {n0 : Nat} {h0 : Heap} (hn0 : n0 ≤ h0.size) (sx ar : Addr) (kr : ClassId) (c0 c1 : Int32) (cz : Int32) (Ex : Exa Z h0 sx zq0) (Fv : Fld Z h0 sx zq0 "value" "[B" .null) (Fc : Fld Z h0 sx zq0 "coder" "B" (.int 0)) (gx : n0 ≤ sx) (Vr : Arv Z h0 ar kr .char (2 : Int32) [(.int c0), (.int c1)] (.int 0)) (l_c0 : own_lat c0) (l_c1 : own_lat c1) (OD : Old Z n0 h0) (S2 : Sta Z Z.heap zq0 zq5 "Z" (.int cz)) (hcz : ¬ cz = 0) :
 Ctr l Z (⟨zq0, "<init>", "([C)V"⟩ : MethodName) jdk_42_method_3_code 2 none (rQ 3 1 2 60) n0 #[(.ref sx), (.ref ar)] h0 (fun v h => ∃ (t : Addr) (kb : ClassId), v = none ∧ Keep h0 h [sx] ∧ Exa Z h sx zq0 ∧ Fld Z h sx zq0 "coder" "B" (.int 0) ∧ Fld Z h sx zq0 "value" "[B" (.ref t) ∧ Arv Z h t kb .byte (2 : Int32) [(.int (nar .byte (c0.toInt8.toInt32))), (.int (nar .byte (c1.toInt8.toInt32)))] (.int 0)) := by
 refine Ctr.of (by decide +kernel) hn0 ?_
 intro p e s m below meth c T0 C hnm hret hlk X0
 rw [ef35 m sx ar]
 refine G.a 1 C X0 d35_0 rfl rfl rfl <| G.a 2 C X0 d35_1 rfl rfl rfl <| G.f 3 (z := 0) C X0 d35_2 rfl (by decide) <| G.a 4 C X0 d35_3 rfl rfl rfl <| G.J 5 C X0 Vr d35_4 rfl <| G.am 6 C X0 d35_5 rfl <| G.N 9 (cells' := 1) (slots' := 2) (argsL := [(.ref ar), (.int 0), (.int 2), .null]) (St := []) C X0 rfl rfl (wd198 hw) (wd199 hw) (by decide) (wd200 hw) (wd44 hw) (ctI4_2 hw X0.2.1 sx ar kr c0 c1 cz Ex Fv Fc gx Vr l_c0 l_c1 OD S2 hcz) (lenOf pd24 rfl) rfl d35_6 rfl rfl (by decide) (nQ rfl) rfl rfl (by decide) (by decide) (fun v1 T1 h1 Q1 X1 z1 => ?_)
 obtain ⟨t1, k1, hv1, K1, E1, F1c, F1v, V1⟩ := Q1
 subst hv1
 have K2 := (Keep.refl h0 [sx]).trans K1 (allS (mQ 0 rfl) all0)
 exact G.E C X1 d35_9 hret hlk (⟨t1, k1, rfl, K2, E1, F1c, F1v, V1⟩) (by decide) (by decide)
theorem ctCoder {l : Launch} {Z : State} {a0 : Array Value} (hw : HW a0 Z) {n0 : Nat} {h0 : Heap} (hn0 : n0 ≤ h0.size) (sx : Addr) (cz : Int32) (Fc : Fld Z h0 sx zq0 "coder" "B" (.int 0)) (OD : Old Z n0 h0) (S2 : Sta Z Z.heap zq0 zq5 "Z" (.int cz)) (hcz : ¬ cz = 0) :
 Ctr l Z (⟨zq0, "coder", "()B"⟩ : MethodName) jdk_42_method_152_code 1 (some .byte) (rQ 0 0 0 0) n0 #[(.ref sx)] h0 (fun v h => v = some (.int 0) ∧ h = h0) := by
 refine Ctr.of (by decide +kernel) hn0 ?_
 intro p e s m below meth c T0 C hnm hret hlk X0
 rw [ef22 m sx]
 refine G.Y 3 C X0 (hQ (wd138 hw)) Via.refl (S2.ext OD.2) d22_0 rfl fun T1 X1 => G.k 6 C X1 d22_3 rfl (feq hcz).1 <| G.a 7 C X1 d22_6 rfl rfl rfl <| G.u 10 C X1 (hQ (wd105 hw)) Via.refl Fc d22_7 rfl fun T2 X2 => G.r 14 C X2 d22_10 (by decide) (by decide) ?_
 exact G.M C X2 d22_14 hret (by simp) (z' := (0 : Int32)) (by decide) hlk (⟨rfl, rfl⟩) (by decide) (by decide)
theorem ctLen1 {l : Launch} {Z : State} {a0 : Array Value} (hw : HW a0 Z) {n0 : Nat} {h0 : Heap} (hn0 : n0 ≤ h0.size) (sx t : Addr) (kb : ClassId) (vs : List Value) (cz : Int32) (Ex : Exa Z h0 sx zq0) (Fv : Fld Z h0 sx zq0 "value" "[B" (.ref t)) (Fc : Fld Z h0 sx zq0 "coder" "B" (.int 0)) (Vr : Arv Z h0 t kb .byte (1 : Int32) vs (.int 0)) (OD : Old Z n0 h0) (S2 : Sta Z Z.heap zq0 zq5 "Z" (.int cz)) (hcz : ¬ cz = 0) :
 Ctr l Z (⟨zq0, "length", "()I"⟩ : MethodName) jdk_42_method_54_code 1 (some .int) (rQ 1 0 0 20) n0 #[(.ref sx)] h0 (fun v h => v = some (.int 1) ∧ h = h0) := by
 refine Ctr.of (by decide +kernel) hn0 ?_
 intro p e s m below meth c T0 C hnm hret hlk X0
 rw [ef21 m sx]
 refine G.a 1 C X0 d21_0 rfl rfl rfl <| G.u 4 C X0 (hQ (wd125 hw)) Via.refl Fv d21_1 rfl fun T1 X1 => G.J 5 C X1 Vr d21_4 rfl <| G.a 6 C X1 d21_5 rfl rfl rfl <| G.o 9 (cells' := 0) (slots' := 0) (argsL := []) (St := [(.int 1)]) C X1 (wd133 hw) (wd134 hw) (wd136 hw) (wd135 hw) (by decide) Ex (wd137 hw) (wd44 hw) (ctCoder hw X1.2.1 sx cz Fc OD S2 hcz) (lenOf pd0 rfl) rfl d21_6 rfl rfl (by decide) (nQ rfl) rfl rfl (by decide) (by decide) (fun v2 T2 h2 Q2 X2 z2 => ?_)
 obtain ⟨hv2, hh2⟩ := Q2
 subst hv2; rw [hh2] at X2
 refine G.an 10 (z := (1 : Int32)) C X2 d21_9 rfl (by decide) ?_
 exact G.z C X2 d21_10 hret hlk (⟨rfl, rfl⟩) (by decide) (by decide)
theorem ctLen2 {l : Launch} {Z : State} {a0 : Array Value} (hw : HW a0 Z) {n0 : Nat} {h0 : Heap} (hn0 : n0 ≤ h0.size) (sx t : Addr) (kb : ClassId) (vs : List Value) (cz : Int32) (Ex : Exa Z h0 sx zq0) (Fv : Fld Z h0 sx zq0 "value" "[B" (.ref t)) (Fc : Fld Z h0 sx zq0 "coder" "B" (.int 0)) (Vr : Arv Z h0 t kb .byte (2 : Int32) vs (.int 0)) (OD : Old Z n0 h0) (S2 : Sta Z Z.heap zq0 zq5 "Z" (.int cz)) (hcz : ¬ cz = 0) :
 Ctr l Z (⟨zq0, "length", "()I"⟩ : MethodName) jdk_42_method_54_code 1 (some .int) (rQ 1 0 0 20) n0 #[(.ref sx)] h0 (fun v h => v = some (.int 2) ∧ h = h0) := by
 refine Ctr.of (by decide +kernel) hn0 ?_
 intro p e s m below meth c T0 C hnm hret hlk X0
 rw [ef21 m sx]
 refine G.a 1 C X0 d21_0 rfl rfl rfl <| G.u 4 C X0 (hQ (wd125 hw)) Via.refl Fv d21_1 rfl fun T1 X1 => G.J 5 C X1 Vr d21_4 rfl <| G.a 6 C X1 d21_5 rfl rfl rfl <| G.o 9 (cells' := 0) (slots' := 0) (argsL := []) (St := [(.int 2)]) C X1 (wd133 hw) (wd134 hw) (wd136 hw) (wd135 hw) (by decide) Ex (wd137 hw) (wd44 hw) (ctCoder hw X1.2.1 sx cz Fc OD S2 hcz) (lenOf pd0 rfl) rfl d21_6 rfl rfl (by decide) (nQ rfl) rfl rfl (by decide) (by decide) (fun v2 T2 h2 Q2 X2 z2 => ?_)
 obtain ⟨hv2, hh2⟩ := Q2
 subst hv2; rw [hh2] at X2
 refine G.an 10 (z := (2 : Int32)) C X2 d21_9 rfl (by decide) ?_
 exact G.z C X2 d21_10 hret hlk (⟨rfl, rfl⟩) (by decide) (by decide)
theorem ef34 (m : MethodId) (x0 : Int32) : entryFrame m #[(.int x0)] 2 = mkF m 0 #[.val (.int x0), .unset] [] := by first | (simp [entryFrame, mkF, argsToLocals, Value.category]; done) | rfl
theorem ctPick {l : Launch} {Z : State} {a0 : Array Value} (hw : HW a0 Z) {n0 : Nat} {h0 : Heap} (hn0 : n0 ≤ h0.size) (x pv : Int32) (hpv : own_pick x = pv) :
    Ctr l Z (⟨zq11, "pick", "(I)C"⟩ : MethodName) method_3_code 2 (some .char) (rQ 0 0 0 0) n0 #[(.int x)] h0 (fun v h => v = some (.int pv) ∧ h = h0) := by
  refine Ctr.of (plainFor_of_name pn3) hn0 ?_
  intro p e s m below meth c T0 C hnm hret hlk X0
  rw [ef34 m x]
  refine G.b 1 C X0 d34_0 rfl rfl <| G.f 2 (z := 3) C X0 d34_1 rfl (by decide) ?_
  obtain ⟨kd, h_kd⟩ : ∃ z : Int32, x &&& (3 : Int32) = z := ⟨_, rfl⟩
  refine G.ab 3 (z := kd) C X0 d34_2 rfl h_kd <| G.D 4 C X0 d34_3 rfl (l' := #[vI x, vI kd]) rfl <| G.b 5 C X0 d34_4 rfl rfl ?_
  by_cases q0 : kd = (0 : Int32)
  · refine G.k 8 C X0 d34_5 rfl (teq q0).2 <| G.j 10 (z := 92) C X0 d34_8 rfl (by decide) ?_
    exact G.M C X0 d34_10 hret (by simp) (z' := pv) (own_pk0 hpv h_kd q0) hlk (⟨rfl, rfl⟩) (by decide) (by decide)
  · refine G.ad 11 C X0 d34_5 (feq q0).2 (by decide) (by decide) <| G.b 12 C X0 d34_11 rfl rfl <| G.f 13 (z := 1) C X0 d34_12 rfl (by decide) ?_
    by_cases q1 : kd = (1 : Int32)
    · refine G.t 16 C X0 d34_13 rfl (teq q1).2 <| G.j 18 (z := 10) C X0 d34_16 rfl (by decide) ?_
      exact G.M C X0 d34_18 hret (by simp) (z' := pv) (own_pk1 hpv h_kd q0 q1) hlk (⟨rfl, rfl⟩) (by decide) (by decide)
    · refine G.q 19 C X0 d34_13 (feq q1).2 (by decide) (by decide) <| G.b 20 C X0 d34_19 rfl rfl <| G.f 21 (z := 2) C X0 d34_20 rfl (by decide) ?_
      by_cases q2 : kd = (2 : Int32)
      · refine G.t 24 C X0 d34_21 rfl (teq q2).2 <| G.j 26 (z := 34) C X0 d34_24 rfl (by decide) ?_
        exact G.M C X0 d34_26 hret (by simp) (z' := pv) (own_pk2 hpv h_kd q0 q1 q2) hlk (⟨rfl, rfl⟩) (by decide) (by decide)
      · refine G.q 27 C X0 d34_21 (feq q2).2 (by decide) (by decide) <| G.b 28 C X0 d34_27 rfl rfl <| G.f 29 (z := 2) C X0 d34_28 rfl (by decide) <| G.ae 30 (z := ((x.toUInt32 >>> ((2 : Int32) &&& 31).toUInt32).toInt32)) C X0 d34_29 rfl rfl <| G.aa 33 (z := 255) C X0 d34_30 rfl (by decide) <| G.ab 34 (z := (((x.toUInt32 >>> ((2 : Int32) &&& 31).toUInt32).toInt32) &&& (255 : Int32))) C X0 d34_33 rfl rfl <| G.ai 35 (z := ((((x.toUInt32 >>> ((2 : Int32) &&& 31).toUInt32).toInt32) &&& (255 : Int32)).toUInt32.toUInt16.toUInt32.toInt32)) C X0 d34_34 rfl rfl ?_
        exact G.M C X0 d34_35 hret (by simp) (z' := pv) (own_pk3 hpv h_kd q0 q1 q2) hlk (⟨rfl, rfl⟩) (by decide) (by decide)
theorem ef33 (m : MethodId) (x0 : Int32) : entryFrame m #[(.int x0)] 3 = mkF m 0 #[.val (.int x0), .unset, .unset] [] := by first | (simp [entryFrame, mkF, argsToLocals, Value.category]; done) | rfl
theorem ctValue {l : Launch} {Z : State} {a0 : Array Value} (hw : HW a0 Z) {n0 : Nat} {h0 : Heap} (hn0 : n0 ≤ h0.size) (vv cz : Int32) (OD : Old Z n0 h0) (S2 : Sta Z Z.heap zq0 zq5 "Z" (.int cz)) (hcz : ¬ cz = 0) :
    CtrW l Z consts_1 [] (⟨zq11, "value", zq46⟩ : MethodName) method_4_code 3 (some (.object zq0)) (rQ 4 4 24 90) n0 #[(.int vv)] h0 (fun v h sfe => ∃ (b t : Addr) (k : ClassId), v = some (.ref b) ∧ Keep h0 h [] ∧ Exa Z h b zq0 ∧ Fld Z h b zq0 "coder" "B" (.int 0) ∧ Fld Z h b zq0 "value" "[B" (.ref t) ∧ Arv Z h t k .byte (own_n ((own_val vv)).length) (tx (own_val vv)) (.int 0)) := by
  refine CtrW.of (plainFor_of_name pn3) hn0 ?_
  intro p e s m below meth c T0 C hnm hret hlk X0 H0 hSf
  rw [ef33 m vv]
  refine G.b 1 C X0 d33_0 rfl rfl <| G.f 2 (z := 3) C X0 d33_1 rfl (by decide) <| G.ab 3 (z := (vv &&& (3 : Int32))) C X0 d33_2 rfl rfl <| G.f 4 (z := 3) C X0 d33_3 rfl (by decide) ?_
  obtain ⟨ln, h_ln⟩ : ∃ z : Int32, (vv &&& (3 : Int32)) % (3 : Int32) = z := ⟨_, rfl⟩
  refine G.av 5 (z := ln) C X0 d33_4 rfl (by decide) h_ln ?_
  have h3_ln := own_k3 h_ln
  rcases h3_ln with rfl | rfl | rfl
  · refine G.D 6 C X0 d33_5 rfl (l' := #[vI vv, vI 0, .unset]) rfl <| G.b 7 C X0 d33_6 rfl rfl <| G.k 10 C X0 d33_7 rfl (teq (by decide : (0 : Int32) = 0)).2 <| G.F 12 (n := 0) (cells' := 2) (slots' := 4) (z := (0 : Int32)) (vs := []) C X0 (ew hw) H0 (wd211 hw) (wS hw) (List.mem_of_getElem? (i := 4) rfl) ⟨by decide +kernel, by first | rfl | decide +kernel⟩ (by decide) rfl d33_10 rfl (by decide +kernel) (by decide) rfl rfl (by decide) (by decide) (fun vm1 T1 h1 a1 b1 k1 C1 X1 Hd1 E1 R1 A1 F1a F1b V1 sf1 => ?_)
    have K2 := (Keep.refl h0 []).ext E1
    have Vx3 : Arv Z h1 b1 k1 .byte (own_n (([] : List Int32)).length) (tx ([] : List Int32)) (.int 0) := V1
    exact G.aq C1 X1 (ew hw) Hd1 d33_12 hret rfl rfl hlk (fun _ _ => ⟨a1, b1, k1, rfl, K2, A1, F1a, F1b, (by rw [own_v0 h_ln]; exact Vx3)⟩) (by decide) (by decide)
  · refine G.D 6 C X0 d33_5 rfl (l' := #[vI vv, vI 1, .unset]) rfl <| G.b 7 C X0 d33_6 rfl rfl <| G.ad 13 C X0 d33_7 (feq (by decide : ¬ (1 : Int32) = 0)).2 (by decide) (by decide) <| G.b 14 C X0 d33_13 rfl rfl <| G.f 15 (z := 1) C X0 d33_14 rfl (by decide) <| G.t 18 C X0 d33_15 rfl (teq (by decide : (1 : Int32) = 1)).2 <| G.f 19 (z := 1) C X0 d33_18 rfl (by decide) <| G.af 21 (cap := 1) (d0 := (.int 0)) (cells' := 1) (slots' := 1) C X0 (wd127 hw) rfl d33_19 rfl (by decide) (by decide) (by decide) rfl rfl rfl (by decide) (by decide) (fun T4 h4 a4 k4 X4 g4 q4 E4 V4 => ?_)
    have sz5 : h0.size ≤ a4 := Nat.le_trans (Keep.refl h0 []).1 (Nat.le_of_eq g4.symm)
    have Hd6 := H0.ext E4
    have K7 := (Keep.refl h0 []).ext E4
    replace V4 : Arv Z h4 a4 k4 .char (1 : Int32) [(.int 0)] (.int 0) := V4.pad (pad_rep [] (.int 0) 1)
    refine G.ac 22 C X4 d33_21 rfl rfl (l' := #[vI vv, vI 1, vR a4]) rfl <| G.a 23 C X4 d33_22 rfl rfl rfl <| G.f 24 (z := 0) C X4 d33_23 rfl (by decide) <| G.b 25 C X4 d33_24 rfl rfl <| G.f 26 (z := 2) C X4 d33_25 rfl (by decide) <| G.ae 27 (z := ((vv.toUInt32 >>> ((2 : Int32) &&& 31).toUInt32).toInt32)) C X4 d33_26 rfl rfl ?_
    obtain ⟨pa, h_pa⟩ : ∃ z : Int32, own_pick (own_ush vv 2) = z := ⟨_, rfl⟩
    have l_pa : own_lat pa := h_pa ▸ own_pick_lat _
    refine G.i 30 (cells' := 1) (slots' := 1) (argsL := [(.int ((vv.toUInt32 >>> ((2 : Int32) &&& 31).toUInt32).toInt32))]) (St := [(.int 0), (.ref a4)]) C X4 (wd191 hw) (wd192 hw) (by decide) (wd193 hw) (wd141 hw) (ctPick hw X4.2.1 ((vv.toUInt32 >>> ((2 : Int32) &&& 31).toUInt32).toInt32) pa h_pa) (lenOf pd25 rfl) rfl d33_27 rfl rfl (by decide) (nQ rfl) rfl rfl (by decide) (by decide) (fun v8 T8 h8 Q8 X8 z8 => ?_)
    obtain ⟨hv8, hh8⟩ := Q8
    subst hv8; rw [hh8] at X8
    refine G.A 31 C X8 V4 q4 (i := 0) d33_30 rfl ⟨by decide, by decide⟩ (by decide) (nQ rfl) (fun T9 h9 X9 W9 V9 => ?_)
    replace V9 : Arv Z h9 a4 k4 .char (1 : Int32) [(.int pa)] (.int 0) := by rw [own_nar_lat l_pa] at V9; exact V9
    have Hd10 := Hd6.wr W9 (safe_arv (EL := consts_1) C.2.1.alike V4 (by decide))
    have K11 := K7.wr W9 (Or.inr sz5)
    refine G.U 34 (cells' := 2) (slots' := 5) C X9 (wd194 hw) (wd75 hw) (wd44 hw) d33_31 rfl rfl rfl (by decide) (by decide) (fun T12 h12 a12 X12 g12 q12 E12 A12 D12 U12 => ?_)
    have sz14 : h0.size ≤ a12 := Nat.le_trans K11.1 (Nat.le_of_eq g12.symm)
    have Hd15 := Hd10.ext E12
    have K16 := K11.ext E12
    have F12_coder : Fld Z h12 a12 zq0 "coder" "B" (.int 0) := D12 (Or.inr (wd106 hw)) (ty := .byte) (by decide)
    have F12_value : Fld Z h12 a12 zq0 "value" "[B" .null := D12 (Or.inr (wd126 hw)) (ty := (.array .byte)) (by decide)
    refine G.I 35 C X12 d33_34 rfl rfl <| G.a 36 C X12 d33_35 rfl rfl rfl ?_
    have f17 := (V9.ext E12)
    have f18 := (((OD.ext E4).wr W9 q4).ext E12)
    refine G.N 39 (cells' := 3) (slots' := 6) (argsL := [(.ref a4)]) (St := [(.ref a12)]) C X12 rfl rfl (wd195 hw) (wd196 hw) (by decide) (wd197 hw) (wd44 hw) (ctNew1 hw X12.2.1 a12 a4 k4 pa cz A12 F12_value F12_coder q12 f17 l_pa f18 S2 hcz) (lenOf pd26 rfl) rfl d33_36 rfl rfl (by decide) (nQ rfl) rfl rfl (by decide) (by decide) (fun v19 T19 h19 Q19 X19 z19 => ?_)
    obtain ⟨t19, k19, hv19, K19, E19, F19c, F19v, V19⟩ := Q19
    subst hv19
    have Hd20 := Hd15.keep K19 (allS (Safe.ext E12 Hd10.cv (Safe.new (Nat.le_of_eq g12.symm))) all0)
    have K21 := K16.trans K19 (allS (Or.inr sz14) all0)
    have Vx22 : Arv Z h19 t19 k19 .byte (own_n ([pa]).length) (tx [pa]) (.int 0) := V19
    exact G.aq C X19 (ew hw) Hd20 d33_39 hret rfl rfl hlk (fun _ _ => ⟨a12, t19, k19, rfl, K21, E19, F19c, F19v, (by rw [own_v1 h_ln h_pa]; exact Vx22)⟩) (by decide) (by decide)
  · refine G.D 6 C X0 d33_5 rfl (l' := #[vI vv, vI 2, .unset]) rfl <| G.b 7 C X0 d33_6 rfl rfl <| G.ad 13 C X0 d33_7 (feq (by decide : ¬ (2 : Int32) = 0)).2 (by decide) (by decide) <| G.b 14 C X0 d33_13 rfl rfl <| G.f 15 (z := 1) C X0 d33_14 rfl (by decide) <| G.q 40 C X0 d33_15 (feq (by decide : ¬ (2 : Int32) = 1)).2 (by decide) (by decide) <| G.f 41 (z := 2) C X0 d33_40 rfl (by decide) <| G.af 43 (cap := 2) (d0 := (.int 0)) (cells' := 1) (slots' := 2) C X0 (wd127 hw) rfl d33_41 rfl (by decide) (by decide) (by decide) rfl rfl rfl (by decide) (by decide) (fun T23 h23 a23 k23 X23 g23 q23 E23 V23 => ?_)
    have sz24 : h0.size ≤ a23 := Nat.le_trans (Keep.refl h0 []).1 (Nat.le_of_eq g23.symm)
    have Hd25 := H0.ext E23
    have K26 := (Keep.refl h0 []).ext E23
    replace V23 : Arv Z h23 a23 k23 .char (2 : Int32) [(.int 0), (.int 0)] (.int 0) := V23.pad (pad_rep [] (.int 0) 2)
    refine G.ac 44 C X23 d33_43 rfl rfl (l' := #[vI vv, vI 2, vR a23]) rfl <| G.a 45 C X23 d33_44 rfl rfl rfl <| G.f 46 (z := 0) C X23 d33_45 rfl (by decide) <| G.b 47 C X23 d33_46 rfl rfl <| G.f 48 (z := 2) C X23 d33_47 rfl (by decide) <| G.ae 49 (z := ((vv.toUInt32 >>> ((2 : Int32) &&& 31).toUInt32).toInt32)) C X23 d33_48 rfl rfl ?_
    obtain ⟨pa, h_pa⟩ : ∃ z : Int32, own_pick (own_ush vv 2) = z := ⟨_, rfl⟩
    have l_pa : own_lat pa := h_pa ▸ own_pick_lat _
    refine G.i 52 (cells' := 1) (slots' := 2) (argsL := [(.int ((vv.toUInt32 >>> ((2 : Int32) &&& 31).toUInt32).toInt32))]) (St := [(.int 0), (.ref a23)]) C X23 (wd191 hw) (wd192 hw) (by decide) (wd193 hw) (wd141 hw) (ctPick hw X23.2.1 ((vv.toUInt32 >>> ((2 : Int32) &&& 31).toUInt32).toInt32) pa h_pa) (lenOf pd25 rfl) rfl d33_49 rfl rfl (by decide) (nQ rfl) rfl rfl (by decide) (by decide) (fun v27 T27 h27 Q27 X27 z27 => ?_)
    obtain ⟨hv27, hh27⟩ := Q27
    subst hv27; rw [hh27] at X27
    refine G.A 53 C X27 V23 q23 (i := 0) d33_52 rfl ⟨by decide, by decide⟩ (by decide) (nQ rfl) (fun T28 h28 X28 W28 V28 => ?_)
    replace V28 : Arv Z h28 a23 k23 .char (2 : Int32) [(.int pa), (.int 0)] (.int 0) := by rw [own_nar_lat l_pa] at V28; exact V28
    have Hd29 := Hd25.wr W28 (safe_arv (EL := consts_1) C.2.1.alike V23 (by decide))
    have K30 := K26.wr W28 (Or.inr sz24)
    refine G.a 54 C X28 d33_53 rfl rfl rfl <| G.f 55 (z := 1) C X28 d33_54 rfl (by decide) <| G.b 56 C X28 d33_55 rfl rfl <| G.j 58 (z := 12) C X28 d33_56 rfl (by decide) <| G.ae 59 (z := ((vv.toUInt32 >>> ((12 : Int32) &&& 31).toUInt32).toInt32)) C X28 d33_58 rfl rfl ?_
    obtain ⟨pb, h_pb⟩ : ∃ z : Int32, own_pick (own_ush vv 12) = z := ⟨_, rfl⟩
    have l_pb : own_lat pb := h_pb ▸ own_pick_lat _
    refine G.i 62 (cells' := 1) (slots' := 2) (argsL := [(.int ((vv.toUInt32 >>> ((12 : Int32) &&& 31).toUInt32).toInt32))]) (St := [(.int 1), (.ref a23)]) C X28 (wd191 hw) (wd192 hw) (by decide) (wd193 hw) (wd141 hw) (ctPick hw X28.2.1 ((vv.toUInt32 >>> ((12 : Int32) &&& 31).toUInt32).toInt32) pb h_pb) (lenOf pd25 rfl) rfl d33_59 rfl rfl (by decide) (nQ rfl) rfl rfl (by decide) (by decide) (fun v31 T31 h31 Q31 X31 z31 => ?_)
    obtain ⟨hv31, hh31⟩ := Q31
    subst hv31; rw [hh31] at X31
    refine G.A 63 C X31 V28 q23 (i := 1) d33_62 rfl ⟨by decide, by decide⟩ (by decide) (nQ rfl) (fun T32 h32 X32 W32 V32 => ?_)
    replace V32 : Arv Z h32 a23 k23 .char (2 : Int32) [(.int pa), (.int pb)] (.int 0) := by rw [own_nar_lat l_pb] at V32; exact V32
    have Hd33 := Hd29.wr W32 (safe_arv (EL := consts_1) C.2.1.alike V28 (by decide))
    have K34 := K30.wr W32 (Or.inr sz24)
    refine G.U 66 (cells' := 2) (slots' := 6) C X32 (wd194 hw) (wd75 hw) (wd44 hw) d33_63 rfl rfl rfl (by decide) (by decide) (fun T35 h35 a35 X35 g35 q35 E35 A35 D35 U35 => ?_)
    have sz37 : h0.size ≤ a35 := Nat.le_trans K34.1 (Nat.le_of_eq g35.symm)
    have Hd38 := Hd33.ext E35
    have K39 := K34.ext E35
    have F35_coder : Fld Z h35 a35 zq0 "coder" "B" (.int 0) := D35 (Or.inr (wd106 hw)) (ty := .byte) (by decide)
    have F35_value : Fld Z h35 a35 zq0 "value" "[B" .null := D35 (Or.inr (wd126 hw)) (ty := (.array .byte)) (by decide)
    refine G.I 67 C X35 d33_66 rfl rfl <| G.a 68 C X35 d33_67 rfl rfl rfl ?_
    have f40 := (V32.ext E35)
    have f41 := ((((OD.ext E23).wr W28 q23).wr W32 q23).ext E35)
    refine G.N 71 (cells' := 3) (slots' := 8) (argsL := [(.ref a23)]) (St := [(.ref a35)]) C X35 rfl rfl (wd195 hw) (wd196 hw) (by decide) (wd197 hw) (wd44 hw) (ctNew2 hw X35.2.1 a35 a23 k23 pa pb cz A35 F35_value F35_coder q35 f40 l_pa l_pb f41 S2 hcz) (lenOf pd26 rfl) rfl d33_68 rfl rfl (by decide) (nQ rfl) rfl rfl (by decide) (by decide) (fun v42 T42 h42 Q42 X42 z42 => ?_)
    obtain ⟨t42, k42, hv42, K42, E42, F42c, F42v, V42⟩ := Q42
    subst hv42
    have Hd43 := Hd38.keep K42 (allS (Safe.ext E35 Hd33.cv (Safe.new (Nat.le_of_eq g35.symm))) all0)
    have K44 := K39.trans K42 (allS (Or.inr sz37) all0)
    have Vx45 : Arv Z h42 t42 k42 .byte (own_n ([pa, pb]).length) (tx [pa, pb]) (.int 0) := V42
    exact G.aq C X42 (ew hw) Hd43 d33_71 hret rfl rfl hlk (fun _ _ => ⟨a35, t42, k42, rfl, K44, E42, F42c, F42v, (by rw [own_v2 h_ln h_pa h_pb]; exact Vx45)⟩) (by decide) (by decide)
theorem ef26 (m : MethodId) (x0 : Int32) : entryFrame m #[(.int x0)] 1 = mkF m 0 #[.val (.int x0)] [] := by first | (simp [entryFrame, mkF, argsToLocals, Value.category]; done) | rfl
theorem ctTb {l : Launch} {Z : State} {a0 : Array Value} (hw : HW a0 Z) {n0 : Nat} {h0 : Heap} (hn0 : n0 ≤ h0.size) (ch : Int32)  :
 Ctr l Z (⟨zq18, "toBytes", "(C)[B"⟩ : MethodName) jdk_43_method_46_code 1 (some (.array .byte)) (rQ 0 1 1 0) n0 #[(.int ch)] h0 (fun v h => ∃ (t : Addr) (k : ClassId), v = some (.ref t) ∧ Keep h0 h [] ∧ h0.size ≤ t ∧ Arv Z h t k .byte (own_n ([ch]).length) (tx [ch]) (.int 0)) := by
 refine Ctr.of (by decide +kernel) hn0 ?_
 intro p e s m below meth c T0 C hnm hret hlk X0
 rw [ef26 m ch]
 refine G.f 1 (z := 1) C X0 d26_0 rfl (by decide) <| G.af 3 (cap := 1) (d0 := (.int 0)) (cells' := 1) (slots' := 1) C X0 (wd45 hw) rfl d26_1 rfl (by decide) (by decide) (by decide) rfl rfl rfl (by decide) (by decide) (fun T1 h1 a1 k1 X1 g1 q1 E1 V1 => ?_)
 have sz2 : h0.size ≤ a1 := Nat.le_trans (Keep.refl h0 []).1 (Nat.le_of_eq g1.symm)
 have K3 := (Keep.refl h0 []).ext E1
 replace V1 : Arv Z h1 a1 k1 .byte (1 : Int32) [(.int 0)] (.int 0) := V1.pad (pad_rep [] (.int 0) 1)
 refine G.I 4 C X1 d26_3 rfl rfl <| G.f 5 (z := 0) C X1 d26_4 rfl (by decide) <| G.b 6 C X1 d26_5 rfl rfl <| G.ah 7 (z := (ch.toInt8.toInt32)) C X1 d26_6 rfl rfl <| G.ao 8 C X1 V1 q1 (i := 0) d26_7 rfl ⟨by decide, by decide⟩ (by decide) (nQ rfl) (fun T4 h4 X4 W4 V4 => ?_)
 replace V4 : Arv Z h4 a1 k1 .byte (1 : Int32) [(.int (nar .byte (ch.toInt8.toInt32)))] (.int 0) := V4
 have K5 := K3.wr W4 (Or.inr sz2)
 exact G.B C X4 d26_8 hret rfl rfl hlk (⟨a1, k1, rfl, K5, sz2, V4⟩) (by decide) (by decide)
theorem ef27 (m : MethodId) (x0 : Addr) (x1 : Addr) (x2 : Int32) : entryFrame m #[(.ref x0), (.ref x1), (.int x2)] 3 = mkF m 0 #[.val (.ref x0), .val (.ref x1), .val (.int x2)] [] := by first | (simp [entryFrame, mkF, argsToLocals, Value.category]; done) | rfl
theorem ctSbb {l : Launch} {Z : State} {a0 : Array Value} (hw : HW a0 Z) {n0 : Nat} {h0 : Heap} (hn0 : n0 ≤ h0.size) (sx tb : Addr) (Ex : Exa Z h0 sx zq0) (Xv : Fld Z h0 sx zq0 "value" "[B" .null) (Xc : Fld Z h0 sx zq0 "coder" "B" (.int 0)) (gx : n0 ≤ sx) :
 Ctr l Z (⟨zq0, "<init>", "([BB)V"⟩ : MethodName) jdk_42_method_151_code 3 none (rQ 1 0 0 12) n0 #[(.ref sx), (.ref tb), (.int 0)] h0 (fun v h => v = none ∧ Keep h0 h [sx] ∧ Exa Z h sx zq0 ∧ Fld Z h sx zq0 "coder" "B" (.int 0) ∧ Fld Z h sx zq0 "value" "[B" (.ref tb)) := by
 refine Ctr.of (by decide +kernel) hn0 ?_
 intro p e s m below meth c T0 C hnm hret hlk X0
 rw [ef27 m sx tb (0 : Int32)]
 refine G.a 1 C X0 d27_0 rfl rfl rfl <| G.ap 4 C X0 (wd83 hw) (wd19 hw) (wd20 hw) d27_1 rfl rfl (by decide) (nQ rfl) fun T1 X1 => G.a 5 C X1 d27_4 rfl rfl rfl <| G.a 6 C X1 d27_5 rfl rfl rfl <| G.O 9 C X1 (hQ (wd125 hw)) Via.refl Xv Ex gx (Or.inr ⟨(wd126 hw), rfl, hnm⟩) (wd75 hw) (ty := (.array .byte)) (by decide) rfl rfl d27_6 rfl (fun T2 h2 X2 W2 F2 => ?_)
 have K3 := (Keep.refl h0 [sx]).wr W2 (mQ 0 rfl)
 refine G.a 10 C X2 d27_9 rfl rfl rfl <| G.b 11 C X2 d27_10 rfl rfl ?_
 have f4 := (Xc.other W2 (Or.inr (sQ7 hw)))
 have f5 := (Ex.wr W2)
 refine G.ar 14 C X2 (wd105 hw) Via.refl f4 f5 gx (Or.inr ⟨(wd106 hw), rfl, hnm⟩) (wd75 hw) (ty := .byte) (by decide) (v' := .int (0 : Int32)) rfl (by decide) d27_11 rfl (fun T6 h6 X6 W6 F6 => ?_)
 have K7 := K3.wr W6 (mQ 0 rfl)
 have f8 := (f5.wr W6)
 have f9 := (F2.other W6 (Or.inr (sQ6 hw)))
 exact G.E C X6 d27_14 hret hlk (⟨rfl, K7, f8, F6, f9⟩) (by decide) (by decide)
theorem ef24 (m : MethodId) (x0 : Int32) : entryFrame m #[(.int x0)] 1 = mkF m 0 #[.val (.int x0)] [] := by first | (simp [entryFrame, mkF, argsToLocals, Value.category]; done) | rfl
theorem ctVof {l : Launch} {Z : State} {a0 : Array Value} (hw : HW a0 Z) {n0 : Nat} {h0 : Heap} (hn0 : n0 ≤ h0.size) (ch cz : Int32) (hch : own_lat ch) (OD : Old Z n0 h0) (S2 : Sta Z Z.heap zq0 zq5 "Z" (.int cz)) (hcz : ¬ cz = 0) :
 Ctr l Z (⟨zq0, "valueOf", zq36⟩ : MethodName) jdk_42_method_139_code 1 (some (.object zq0)) (rQ 2 2 5 34) n0 #[(.int ch)] h0 (fun v h => ∃ (b t : Addr) (k : ClassId), v = some (.ref b) ∧ Keep h0 h [] ∧ Exa Z h b zq0 ∧ Fld Z h b zq0 "coder" "B" (.int 0) ∧ Fld Z h b zq0 "value" "[B" (.ref t) ∧ Arv Z h t k .byte (own_n ([ch]).length) (tx [ch]) (.int 0)) := by
 refine Ctr.of (by decide +kernel) hn0 ?_
 intro p e s m below meth c T0 C hnm hret hlk X0
 rw [ef24 m ch]
 refine G.Y 3 C X0 (hQ (wd138 hw)) Via.refl (S2.ext OD.2) d24_0 rfl fun T1 X1 => G.k 6 C X1 d24_3 rfl (feq hcz).1 <| G.b 7 C X1 d24_6 rfl rfl <| G.i 10 (cells' := 0) (slots' := 0) (argsL := [(.int ch)]) (St := []) C X1 (wd146 hw) (wd147 hw) (by decide) (wd149 hw) (wd148 hw) (ctCeA hw X1.2.1 ch hch) (lenOf pd12 rfl) rfl d24_7 rfl rfl (by decide) (nQ rfl) rfl rfl (by decide) (by decide) (fun v2 T2 h2 Q2 X2 z2 => ?_)
 obtain ⟨hv2, hh2⟩ := Q2
 subst hv2; rw [hh2] at X2
 refine G.k 13 C X2 d24_10 rfl (feq (by decide : ¬ (1 : Int32) = 0)).1 <| G.U 16 (cells' := 1) (slots' := 4) C X2 (wd150 hw) (wd75 hw) (wd44 hw) d24_13 rfl rfl rfl (by decide) (by decide) (fun T3 h3 a3 X3 g3 q3 E3 A3 D3 U3 => ?_)
 have sz4 : h0.size ≤ a3 := Nat.le_trans (Keep.refl h0 []).1 (Nat.le_of_eq g3.symm)
 have K5 := (Keep.refl h0 []).ext E3
 have F3_coder : Fld Z h3 a3 zq0 "coder" "B" (.int 0) := D3 (Or.inr (wd106 hw)) (ty := .byte) (by decide)
 have F3_value : Fld Z h3 a3 zq0 "value" "[B" .null := D3 (Or.inr (wd126 hw)) (ty := (.array .byte)) (by decide)
 refine G.I 17 C X3 d24_16 rfl rfl <| G.b 18 C X3 d24_17 rfl rfl <| G.i 21 (cells' := 2) (slots' := 5) (argsL := [(.int ch)]) (St := [(.ref a3), (.ref a3)]) C X3 (wd151 hw) (wd152 hw) (by decide) (wd153 hw) (wd148 hw) (ctTb hw X3.2.1 ch) (lenOf pd27 rfl) rfl d24_18 rfl rfl (by decide) (nQ rfl) rfl rfl (by decide) (by decide) (fun v6 T6 h6 Q6 X6 z6 => ?_)
 obtain ⟨b6, k6, hv6, K6, hz6, Vb6⟩ := Q6
 subst hv6
 have K7 := K5.trans K6 all0
 have nb6_a3 : a3 ≠ b6 := Nat.ne_of_lt (Nat.lt_of_lt_of_le A3.lt hz6)
 refine G.f 22 (z := 0) C X6 d24_21 rfl (by decide) ?_
 have f8 := (A3.keep K6)
 have f9 := (F3_value.keep K6 nin0)
 have f10 := (F3_coder.keep K6 nin0)
 refine G.N 25 (cells' := 2) (slots' := 5) (argsL := [(.ref b6), (.int 0)]) (St := [(.ref a3)]) C X6 rfl rfl (wd154 hw) (wd155 hw) (by decide) (wd156 hw) (wd44 hw) (ctSbb hw X6.2.1 a3 b6 f8 f9 f10 q3) (lenOf pd28 rfl) rfl d24_22 rfl rfl (by decide) (nQ rfl) rfl rfl (by decide) (by decide) (fun v11 T11 h11 Q11 X11 z11 => ?_)
 obtain ⟨hv11, K11, E11, F11c, F11v⟩ := Q11
 subst hv11
 have K12 := K7.trans K11 (allS (Or.inr sz4) all0)
 have f13 := (Vb6.keep K11 (ninS (Ne.symm nb6_a3) nin0))
 exact G.B C X11 d24_25 hret rfl rfl hlk (⟨a3, b6, k6, rfl, K12, E11, F11c, F11v, f13⟩) (by decide) (by decide)
theorem ef3 (m : MethodId) (x0 : Addr) : entryFrame m #[(.ref x0)] 1 = mkF m 0 #[.val (.ref x0)] [] := by first | (simp [entryFrame, mkF, argsToLocals, Value.category]; done) | rfl
theorem ctAc {l : Launch} {Z : State} {a0 : Array Value} (hw : HW a0 Z) {n0 : Nat} {h0 : Heap} (hn0 : n0 ≤ h0.size) (al : Addr)  :
 Ctr l Z (⟨zq48, "<init>", "()V"⟩ : MethodName) jdk_22_method_1_code 1 none (rQ 1 0 0 12) n0 #[(.ref al)] h0 (fun v h => v = none ∧ h = h0) := by
 refine Ctr.of (by decide +kernel) hn0 ?_
 intro p e s m below meth c T0 C hnm hret hlk X0
 rw [ef3 m al]
 refine G.a 1 C X0 d3_0 rfl rfl rfl <| G.ap 4 C X0 (wd18 hw) (wd19 hw) (wd20 hw) d3_1 rfl rfl (by decide) (nQ rfl) (fun T1 X1 => ?_)
 exact G.E C X1 d3_4 hret hlk (⟨rfl, rfl⟩) (by decide) (by decide)
theorem ef2 (m : MethodId) (x0 : Addr) : entryFrame m #[(.ref x0)] 1 = mkF m 0 #[.val (.ref x0)] [] := by first | (simp [entryFrame, mkF, argsToLocals, Value.category]; done) | rfl
theorem ctAb {l : Launch} {Z : State} {a0 : Array Value} (hw : HW a0 Z) {n0 : Nat} {h0 : Heap} (hn0 : n0 ≤ h0.size) (al : Addr) (Ea : Exa Z h0 al zq2) (Fa0 : Fld Z h0 al zq8 "modCount" "I" (.int 0)) (Fa1 : Fld Z h0 al zq2 zq7 zq6 .null) (Fa2 : Fld Z h0 al zq2 "size" "I" (.int 0)) (ga : n0 ≤ al) :
 Ctr l Z (⟨zq8, "<init>", "()V"⟩ : MethodName) jdk_39_method_1_code 1 none (rQ 2 0 0 24) n0 #[(.ref al)] h0 (fun v h => v = none ∧ Keep h0 h [al] ∧ Exa Z h al zq2 ∧ Fld Z h al zq8 "modCount" "I" (.int 0) ∧ Fld Z h al zq2 zq7 zq6 .null ∧ Fld Z h al zq2 "size" "I" (.int 0)) := by
 refine Ctr.of (by decide +kernel) hn0 ?_
 intro p e s m below meth c T0 C hnm hret hlk X0
 rw [ef2 m al]
 refine G.a 1 C X0 d2_0 rfl rfl rfl <| G.N 4 (cells' := 0) (slots' := 0) (argsL := []) (St := []) C X0 rfl rfl (wd12 hw) (wd13 hw) (by decide) (wd17 hw) (wd16 hw) (ctAc hw X0.2.1 al) (lenOf pd29 rfl) rfl d2_1 rfl rfl (by decide) (nQ rfl) rfl rfl (by decide) (by decide) (fun v1 T1 h1 Q1 X1 z1 => ?_)
 obtain ⟨hv1, hh1⟩ := Q1
 subst hv1; rw [hh1] at X1
 refine G.a 5 C X1 d2_4 rfl rfl rfl <| G.f 6 (z := 0) C X1 d2_5 rfl (by decide) <| G.O 9 C X1 (hQ (wd21 hw)) Via.refl Fa0 Ea ga (Or.inl (wd22 hw)) (wd1 hw) (ty := .int) (by decide) rfl rfl d2_6 rfl (fun T2 h2 X2 W2 F2 => ?_)
 have K3 := (Keep.refl h0 [al]).wr W2 (mQ 0 rfl)
 have f4 := (Ea.wr W2)
 have f5 := (Fa1.other W2 (Or.inr (sQ8 hw)))
 have f6 := (Fa2.other W2 (Or.inr (sQ9 hw)))
 exact G.E C X2 d2_9 hret hlk (⟨rfl, K3, f4, F2, f5, f6⟩) (by decide) (by decide)
theorem ef1 (m : MethodId) (x0 : Addr) : entryFrame m #[(.ref x0)] 1 = mkF m 0 #[.val (.ref x0)] [] := by first | (simp [entryFrame, mkF, argsToLocals, Value.category]; done) | rfl
theorem ctAlI {l : Launch} {Z : State} {a0 : Array Value} (hw : HW a0 Z) {n0 : Nat} {h0 : Heap} (hn0 : n0 ≤ h0.size) (al de : Addr) (Ea : Exa Z h0 al zq2) (Fa0 : Fld Z h0 al zq8 "modCount" "I" (.int 0)) (Fa1 : Fld Z h0 al zq2 zq7 zq6 .null) (Fa2 : Fld Z h0 al zq2 "size" "I" (.int 0)) (ga : n0 ≤ al) (OD : Old Z n0 h0) (Sde : Sta Z Z.heap zq2 zq26 zq6 (.ref de)) :
 Ctr l Z (⟨zq2, "<init>", "()V"⟩ : MethodName) jdk_38_method_2_code 1 none (rQ 3 0 0 36) n0 #[(.ref al)] h0 (fun v h => v = none ∧ Keep h0 h [al] ∧ Exa Z h al zq2 ∧ Fld Z h al zq8 "modCount" "I" (.int 0) ∧ Fld Z h al zq2 zq7 zq6 (.ref de) ∧ Fld Z h al zq2 "size" "I" (.int 0)) := by
 refine Ctr.of (by decide +kernel) hn0 ?_
 intro p e s m below meth c T0 C hnm hret hlk X0
 rw [ef1 m al]
 refine G.a 1 C X0 d1_0 rfl rfl rfl <| G.N 4 (cells' := 0) (slots' := 0) (argsL := []) (St := []) C X0 rfl rfl (wd6 hw) (wd7 hw) (by decide) (wd11 hw) (wd10 hw) (ctAb hw X0.2.1 al Ea Fa0 Fa1 Fa2 ga) (lenOf pd29 rfl) rfl d1_1 rfl rfl (by decide) (nQ rfl) rfl rfl (by decide) (by decide) (fun v1 T1 h1 Q1 X1 z1 => ?_)
 obtain ⟨hv1, K1, Ea1, Fa0_1, Fa1_1, Fa2_1⟩ := Q1
 subst hv1
 have K2 := (Keep.refl h0 [al]).trans K1 (allS (mQ 0 rfl) all0)
 refine G.a 5 C X1 d1_4 rfl rfl rfl ?_
 have f3 := (OD.keep K1 (allS ga all0))
 refine G.Y 8 C X1 (hQ (wd23 hw)) Via.refl (Sde.ext f3.2) d1_5 rfl fun T4 X4 => G.O 11 C X4 (hQ (wd24 hw)) Via.refl Fa1_1 Ea1 ga (Or.inl (wd25 hw)) (wd1 hw) (ty := (.array (.object zq3))) (by decide) rfl rfl d1_8 rfl (fun T5 h5 X5 W5 F5 => ?_)
 have K6 := K2.wr W5 (mQ 0 rfl)
 have f7 := (Ea1.wr W5)
 have f8 := (Fa0_1.other W5 (Or.inr (sQ10 hw)))
 have f9 := (Fa2_1.other W5 (Or.inr (sQ11 hw)))
 exact G.E C X5 d1_11 hret hlk (⟨rfl, K6, f7, f8, F5, f9⟩) (by decide) (by decide)
theorem ctMx10 {l : Launch} {Z : State} {a0 : Array Value} (hw : HW a0 Z) {n0 : Nat} {h0 : Heap} (hn0 : n0 ≤ h0.size)   :
 Ctr l Z (⟨zq17, "max", "(II)I"⟩ : MethodName) jdk_29_method_65_code 2 (some .int) (rQ 0 0 0 0) n0 #[(.int 10), (.int 1)] h0 (fun v h => v = some (.int 10) ∧ h = h0) := by
 refine Ctr.of (Jvm.Free.JP.mathPlain rfl (by decide +kernel)) hn0 ?_
 intro p e s m below meth c T0 C hnm hret hlk X0
 rw [ef32 m (10 : Int32) (1 : Int32)]
 refine G.b 1 C X0 d32_0 rfl rfl <| G.b 2 C X0 d32_1 rfl rfl <| G.t 5 C X0 d32_2 rfl (flt (by decide : ¬ (10 : Int32) < 1)).1 <| G.b 6 C X0 d32_5 rfl rfl <| G.r 10 C X0 d32_6 (by decide) (by decide) ?_
 exact G.z C X0 d32_10 hret hlk (⟨rfl, rfl⟩) (by decide) (by decide)
theorem ef31 (m : MethodId) (x0 : Addr) (x1 : Int32) : entryFrame m #[(.ref x0), (.int x1)] 4 = mkF m 0 #[.val (.ref x0), .val (.int x1), .unset, .unset] [] := by first | (simp [entryFrame, mkF, argsToLocals, Value.category]; done) | rfl
theorem ctGr1 {l : Launch} {Z : State} {a0 : Array Value} (hw : HW a0 Z) {n0 : Nat} {h0 : Heap} (hn0 : n0 ≤ h0.size) (al de : Addr) (kd : ClassId) (Ea : Exa Z h0 al zq2) (Fa0 : Fld Z h0 al zq8 "modCount" "I" (.int 1)) (Fa1 : Fld Z h0 al zq2 zq7 zq6 (.ref de)) (Fa2 : Fld Z h0 al zq2 "size" "I" (.int 0)) (ga : n0 ≤ al) (OD : Old Z n0 h0) (Sde : Sta Z Z.heap zq2 zq26 zq6 (.ref de)) (Vd : Arv Z Z.heap de kd (.object zq3) (0 : Int32) [] .null) :
 Ctr l Z (⟨zq2, "grow", zq42⟩ : MethodName) jdk_38_method_6_code 4 (some (.array (.object zq3))) (rQ 1 1 10 20) n0 #[(.ref al), (.int 1)] h0 (fun v h => ∃ (ea : Addr) (ke : ClassId), v = some (.ref ea) ∧ Keep h0 h [al] ∧ h0.size ≤ ea ∧ Exa Z h al zq2 ∧ Fld Z h al zq8 "modCount" "I" (.int 1) ∧ Fld Z h al zq2 zq7 zq6 (.ref ea) ∧ Fld Z h al zq2 "size" "I" (.int 0) ∧ Arv Z h ea ke (.object zq3) (10 : Int32) [.null, .null, .null, .null, .null, .null, .null, .null, .null, .null] .null ∧ Ovr Z ke zq3) := by
 refine Ctr.of (by decide +kernel) hn0 ?_
 intro p e s m below meth c T0 C hnm hret hlk X0
 rw [ef31 m al (1 : Int32)]
 refine G.a 1 C X0 d31_0 rfl rfl rfl <| G.u 4 C X0 (hQ (wd24 hw)) Via.refl Fa1 d31_1 rfl fun T1 X1 => G.J 5 C X1 (Vd.ext OD.2) d31_4 rfl <| G.D 6 C X1 d31_5 rfl (l' := #[vR al, vI 1, vI 0, .unset]) rfl <| G.b 7 C X1 d31_6 rfl rfl <| G.k 10 C X1 d31_7 rfl (flt (by decide : ¬ (0 : Int32) < 0)).2.2.1 <| G.a 11 C X1 d31_10 rfl rfl rfl <| G.u 14 C X1 (hQ (wd24 hw)) Via.refl Fa1 d31_11 rfl fun T2 X2 => G.Y 17 C X2 (hQ (wd23 hw)) Via.refl (Sde.ext OD.2) d31_14 rfl fun T3 X3 => G.aF 45 (same := true) C X3 rfl rfl d31_17 (own_same de) (by decide) rfl <| G.a 46 C X3 d31_45 rfl rfl rfl <| G.j 48 (z := 10) C X3 d31_46 rfl (by decide) <| G.b 49 C X3 d31_48 rfl rfl <| G.i 52 (cells' := 0) (slots' := 0) (argsL := [(.int 10), (.int 1)]) (St := [(.ref al)]) C X3 (wd182 hw) (wd183 hw) (by decide) (wd184 hw) (wd119 hw) (ctMx10 hw X3.2.1) (lenOf pd2 rfl) rfl d31_49 rfl rfl (by decide) (nQ rfl) rfl rfl (by decide) (by decide) (fun v4 T4 h4 Q4 X4 z4 => ?_)
 obtain ⟨hv4, hh4⟩ := Q4
 subst hv4; rw [hh4] at X4
 refine G.aJ 55 (cap := 10) (cells' := 1) (slots' := 10) C X4 (wd185 hw) (wd186 hw) d31_52 rfl (by decide) (by decide) (by decide) rfl rfl (by decide) (by decide) (fun T5 h5 a5 k5 X5 g5 q5 E5 V5 O5 => ?_)
 have ne6 : al ≠ a5 := Nat.ne_of_lt (Nat.lt_of_lt_of_eq Ea.lt g5.symm)
 have sz7 : h0.size ≤ a5 := Nat.le_trans (Keep.refl h0 [al]).1 (Nat.le_of_eq g5.symm)
 have K8 := (Keep.refl h0 [al]).ext E5
 replace V5 : Arv Z h5 a5 k5 (.object zq3) (10 : Int32) [.null, .null, .null, .null, .null, .null, .null, .null, .null, .null] .null := V5.pad (pad_rep [] .null 10)
 refine G.aw 56 C X5 d31_55 rfl rfl rfl ?_
 have f9 := (Fa1.ext E5)
 have f10 := (Ea.ext E5)
 refine G.O 59 C X5 (hQ (wd24 hw)) Via.refl f9 f10 ga (Or.inl (wd25 hw)) (wd1 hw) (ty := (.array (.object zq3))) (by decide) rfl rfl d31_56 rfl (fun T11 h11 X11 W11 F11 => ?_)
 have K12 := K8.wr W11 (mQ 0 rfl)
 have f13 := (f10.wr W11)
 have f14 := ((Fa0.ext E5).other W11 (Or.inr (sQ10 hw)))
 have f15 := ((Fa2.ext E5).other W11 (Or.inr (sQ11 hw)))
 have f16 := (V5.other W11 (Ne.symm ne6))
 exact G.B C X11 d31_59 hret rfl rfl hlk (⟨a5, k5, rfl, K12, sz7, f13, f14, F11, f15, f16, O5⟩) (by decide) (by decide)
theorem ef30 (m : MethodId) (x0 : Addr) : entryFrame m #[(.ref x0)] 1 = mkF m 0 #[.val (.ref x0)] [] := by first | (simp [entryFrame, mkF, argsToLocals, Value.category]; done) | rfl
theorem ctGr0 {l : Launch} {Z : State} {a0 : Array Value} (hw : HW a0 Z) {n0 : Nat} {h0 : Heap} (hn0 : n0 ≤ h0.size) (al de : Addr) (kd : ClassId) (Ea : Exa Z h0 al zq2) (Fa0 : Fld Z h0 al zq8 "modCount" "I" (.int 1)) (Fa1 : Fld Z h0 al zq2 zq7 zq6 (.ref de)) (Fa2 : Fld Z h0 al zq2 "size" "I" (.int 0)) (ga : n0 ≤ al) (OD : Old Z n0 h0) (Sde : Sta Z Z.heap zq2 zq26 zq6 (.ref de)) (Vd : Arv Z Z.heap de kd (.object zq3) (0 : Int32) [] .null) :
 Ctr l Z (⟨zq2, "grow", zq43⟩ : MethodName) jdk_38_method_7_code 1 (some (.array (.object zq3))) (rQ 2 1 10 36) n0 #[(.ref al)] h0 (fun v h => ∃ (ea : Addr) (ke : ClassId), v = some (.ref ea) ∧ Keep h0 h [al] ∧ h0.size ≤ ea ∧ Exa Z h al zq2 ∧ Fld Z h al zq8 "modCount" "I" (.int 1) ∧ Fld Z h al zq2 zq7 zq6 (.ref ea) ∧ Fld Z h al zq2 "size" "I" (.int 0) ∧ Arv Z h ea ke (.object zq3) (10 : Int32) [.null, .null, .null, .null, .null, .null, .null, .null, .null, .null] .null ∧ Ovr Z ke zq3) := by
 refine Ctr.of (by decide +kernel) hn0 ?_
 intro p e s m below meth c T0 C hnm hret hlk X0
 rw [ef30 m al]
 refine G.a 1 C X0 d30_0 rfl rfl rfl <| G.a 2 C X0 d30_1 rfl rfl rfl <| G.u 5 C X0 (hQ (wd59 hw)) Via.refl Fa2 d30_2 rfl fun T1 X1 => G.f 6 (z := 1) C X1 d30_5 rfl (by decide) <| G.x 7 (z := (1 : Int32)) C X1 d30_6 rfl (by decide) <| G.au 10 (cells' := 1) (slots' := 10) (argsL := [(.int 1)]) (St := []) C X1 (wd177 hw) (wd178 hw) (wd179 hw) (wd1 hw) (by decide) Ea (wd181 hw) (wd2 hw) (ctGr1 hw X1.2.1 al de kd Ea Fa0 Fa1 Fa2 ga OD Sde Vd) (lenOf pd30 rfl) rfl d30_7 rfl rfl (by decide) (nQ rfl) rfl rfl (by decide) (by decide) (fun v2 T2 h2 Q2 X2 z2 => ?_)
 obtain ⟨ea2, ke2, hv2, K2, hz2, Ea2, Fa0_2, Fa1_2, Fa2_2, Ve2, Oe2⟩ := Q2
 subst hv2
 have K3 := (Keep.refl h0 [al]).trans K2 (allS (mQ 0 rfl) all0)
 exact G.B C X2 d30_10 hret rfl rfl hlk (⟨ea2, ke2, rfl, K3, (Nat.le_trans (Keep.refl h0 [al]).1 hz2), Ea2, Fa0_2, Fa1_2, Fa2_2, Ve2, Oe2⟩) (by decide) (by decide)
theorem ef29 (m : MethodId) (x0 : Addr) (x1 : Addr) (x2 : Addr) (x3 : Int32) : entryFrame m #[(.ref x0), (.ref x1), (.ref x2), (.int x3)] 4 = mkF m 0 #[.val (.ref x0), .val (.ref x1), .val (.ref x2), .val (.int x3)] [] := by first | (simp [entryFrame, mkF, argsToLocals, Value.category]; done) | rfl
theorem ctA30 {l : Launch} {Z : State} {a0 : Array Value} (hw : HW a0 Z) {n0 : Nat} {h0 : Heap} (hn0 : n0 ≤ h0.size) (so : Addr) (al de : Addr) (kd : ClassId) (Eo : Exa Z h0 so zq0) (Ea : Exa Z h0 al zq2) (Fa0 : Fld Z h0 al zq8 "modCount" "I" (.int 1)) (Fa1 : Fld Z h0 al zq2 zq7 zq6 (.ref de)) (Fa2 : Fld Z h0 al zq2 "size" "I" (.int 0)) (ga : n0 ≤ al) (OD : Old Z n0 h0) (Sde : Sta Z Z.heap zq2 zq26 zq6 (.ref de)) (Vd : Arv Z Z.heap de kd (.object zq3) (0 : Int32) [] .null) :
 Ctr l Z (⟨zq2, "add", zq33⟩ : MethodName) jdk_38_method_24_code 4 none (rQ 3 1 10 50) n0 #[(.ref al), (.ref so), (.ref de), (.int 0)] h0 (fun v h => ∃ (ea : Addr) (ke : ClassId), v = none ∧ Keep h0 h [al] ∧ h0.size ≤ ea ∧ Exa Z h al zq2 ∧ Fld Z h al zq8 "modCount" "I" (.int 1) ∧ Fld Z h al zq2 zq7 zq6 (.ref ea) ∧ Fld Z h al zq2 "size" "I" (.int 1) ∧ Arv Z h ea ke (.object zq3) (10 : Int32) [(.ref so), .null, .null, .null, .null, .null, .null, .null, .null, .null] .null ∧ Ovr Z ke zq3) := by
 refine Ctr.of (by decide +kernel) hn0 ?_
 intro p e s m below meth c T0 C hnm hret hlk X0
 rw [ef29 m al so de (0 : Int32)]
 refine G.b 1 C X0 d29_0 rfl rfl <| G.a 2 C X0 d29_1 rfl rfl rfl <| G.J 3 C X0 (Vd.ext OD.2) d29_2 rfl <| G.t 6 C X0 d29_3 rfl (teq (by decide : (0 : Int32) = 0)).2 <| G.a 7 C X0 d29_6 rfl rfl rfl <| G.au 10 (cells' := 1) (slots' := 10) (argsL := []) (St := []) C X0 (wd172 hw) (wd173 hw) (wd174 hw) (wd1 hw) (by decide) Ea (wd176 hw) (wd2 hw) (ctGr0 hw X0.2.1 al de kd Ea Fa0 Fa1 Fa2 ga OD Sde Vd) (lenOf pd31 rfl) rfl d29_7 rfl rfl (by decide) (nQ rfl) rfl rfl (by decide) (by decide) (fun v1 T1 h1 Q1 X1 z1 => ?_)
 obtain ⟨ea1, ke1, hv1, K1, hz1, Ea1, Fa0_1, Fa1_1, Fa2_1, Ve1, Oe1⟩ := Q1
 subst hv1
 have K2 := (Keep.refl h0 [al]).trans K1 (allS (mQ 0 rfl) all0)
 have nb1_al : al ≠ ea1 := Nat.ne_of_lt (Nat.lt_of_lt_of_le Ea.lt hz1)
 refine G.ac 11 C X1 d29_10 rfl rfl (l' := #[vR al, vR so, vR ea1, vI 0]) rfl <| G.a 12 C X1 d29_11 rfl rfl rfl <| G.b 13 C X1 d29_12 rfl rfl <| G.a 14 C X1 d29_13 rfl rfl rfl ?_
 have f4 := (Eo.keep K1)
 refine G.aE 15 C X1 Ve1 Oe1 (Ins.of_exa f4 (wd187 hw)) (Nat.le_trans X0.2.1 hz1) (i := 0) d29_14 rfl ⟨by decide, by decide⟩ (by decide) (nQ rfl) (fun T3 h3 X3 W3 V3 => ?_)
 replace V3 : Arv Z h3 ea1 ke1 (.object zq3) (10 : Int32) [(.ref so), .null, .null, .null, .null, .null, .null, .null, .null, .null] .null := V3
 have K5 := K2.wr W3 (Or.inr (Nat.le_trans (Keep.refl h0 [al]).1 hz1))
 refine G.a 16 C X3 d29_15 rfl rfl rfl <| G.b 17 C X3 d29_16 rfl rfl <| G.f 18 (z := 1) C X3 d29_17 rfl (by decide) <| G.x 19 (z := (1 : Int32)) C X3 d29_18 rfl (by decide) ?_
 have f6 := (Fa2_1.other W3 (Or.inl nb1_al))
 have f7 := (Ea1.wr W3)
 refine G.O 22 C X3 (hQ (wd59 hw)) Via.refl f6 f7 ga (Or.inl (wd60 hw)) (wd1 hw) (ty := .int) (by decide) rfl rfl d29_19 rfl (fun T8 h8 X8 W8 F8 => ?_)
 have K9 := K5.wr W8 (mQ 0 rfl)
 have f10 := (f7.wr W8)
 have f11 := ((Fa0_1.other W3 (Or.inl nb1_al)).other W8 (Or.inr (sQ12 hw)))
 have f12 := ((Fa1_1.other W3 (Or.inl nb1_al)).other W8 (Or.inr (sQ13 hw)))
 have f13 := (V3.other W8 (Ne.symm nb1_al))
 exact G.E C X8 d29_22 hret hlk (⟨ea1, ke1, rfl, K9, (Nat.le_trans (Keep.refl h0 [al]).1 hz1), f10, f11, f12, F8, f13, Oe1⟩) (by decide) (by decide)
theorem ef28 (m : MethodId) (x0 : Addr) (x1 : Addr) : entryFrame m #[(.ref x0), (.ref x1)] 2 = mkF m 0 #[.val (.ref x0), .val (.ref x1)] [] := by first | (simp [entryFrame, mkF, argsToLocals, Value.category]; done) | rfl
theorem ctAdd0 {l : Launch} {Z : State} {a0 : Array Value} (hw : HW a0 Z) {n0 : Nat} {h0 : Heap} (hn0 : n0 ≤ h0.size) (so : Addr) (al de : Addr) (kd : ClassId) (Eo : Exa Z h0 so zq0) (Ea : Exa Z h0 al zq2) (Fa0 : Fld Z h0 al zq8 "modCount" "I" (.int 0)) (Fa1 : Fld Z h0 al zq2 zq7 zq6 (.ref de)) (Fa2 : Fld Z h0 al zq2 "size" "I" (.int 0)) (ga : n0 ≤ al) (OD : Old Z n0 h0) (Sde : Sta Z Z.heap zq2 zq26 zq6 (.ref de)) (Vd : Arv Z Z.heap de kd (.object zq3) (0 : Int32) [] .null) :
 Ctr l Z (⟨zq2, "add", zq21⟩ : MethodName) jdk_38_method_25_code 2 (some .boolean) (rQ 4 1 10 70) n0 #[(.ref al), (.ref so)] h0 (fun v h => ∃ (ea : Addr) (ke : ClassId), v = some (.int 1) ∧ Keep h0 h [al] ∧ h0.size ≤ ea ∧ Exa Z h al zq2 ∧ Fld Z h al zq8 "modCount" "I" (.int 1) ∧ Fld Z h al zq2 zq7 zq6 (.ref ea) ∧ Fld Z h al zq2 "size" "I" (.int 1) ∧ Arv Z h ea ke (.object zq3) (10 : Int32) [(.ref so), .null, .null, .null, .null, .null, .null, .null, .null, .null] .null ∧ Ovr Z ke zq3) := by
 refine Ctr.of (by decide +kernel) hn0 ?_
 intro p e s m below meth c T0 C hnm hret hlk X0
 rw [ef28 m al so]
 refine G.a 1 C X0 d28_0 rfl rfl rfl <| G.I 2 C X0 d28_1 rfl rfl <| G.u 5 C X0 (hQ (wd165 hw)) (Via.of (wd166 hw)) Fa0 d28_2 rfl fun T1 X1 => G.f 6 (z := 1) C X1 d28_5 rfl (by decide) <| G.x 7 (z := (1 : Int32)) C X1 d28_6 rfl (by decide) <| G.O 10 C X1 (hQ (wd165 hw)) (Via.of (wd166 hw)) Fa0 Ea ga (Or.inl (wd22 hw)) (wd1 hw) (ty := .int) (by decide) rfl rfl d28_7 rfl (fun T2 h2 X2 W2 F2 => ?_)
 have K3 := (Keep.refl h0 [al]).wr W2 (mQ 0 rfl)
 refine G.a 11 C X2 d28_10 rfl rfl rfl <| G.a 12 C X2 d28_11 rfl rfl rfl <| G.a 13 C X2 d28_12 rfl rfl rfl ?_
 have f4 := (Fa1.other W2 (Or.inr (sQ8 hw)))
 refine G.u 16 C X2 (hQ (wd24 hw)) Via.refl f4 d28_13 rfl fun T5 X5 => G.a 17 C X5 d28_16 rfl rfl rfl ?_
 have f6 := (Fa2.other W2 (Or.inr (sQ9 hw)))
 refine G.u 20 C X5 (hQ (wd59 hw)) Via.refl f6 d28_17 rfl (fun T7 X7 => ?_)
 have f8 := (Ea.wr W2)
 have f9 := (Eo.wr W2)
 have f10 := (OD.wr W2 ga)
 refine G.au 23 (cells' := 1) (slots' := 10) (argsL := [(.ref so), (.ref de), (.int 0)]) (St := []) C X7 (wd167 hw) (wd168 hw) (wd169 hw) (wd1 hw) (by decide) f8 (wd171 hw) (wd2 hw) (ctA30 hw X7.2.1 so al de kd f9 f8 F2 f4 f6 ga f10 Sde Vd) (lenOf pd32 rfl) rfl d28_20 rfl rfl (by decide) (nQ rfl) rfl rfl (by decide) (by decide) (fun v11 T11 h11 Q11 X11 z11 => ?_)
 obtain ⟨ea11, ke11, hv11, K11, hz11, Ea11, Fa0_11, Fa1_11, Fa2_11, Ve11, Oe11⟩ := Q11
 subst hv11
 have K12 := K3.trans K11 (allS (mQ 0 rfl) all0)
 refine G.f 24 (z := 1) C X11 d28_23 rfl (by decide) ?_
 exact G.M C X11 d28_24 hret (by simp) (z' := (1 : Int32)) (by decide) hlk (⟨ea11, ke11, rfl, K12, (Nat.le_trans K3.1 hz11), Ea11, Fa0_11, Fa1_11, Fa2_11, Ve11, Oe11⟩) (by decide) (by decide)
theorem ctA31 {l : Launch} {Z : State} {a0 : Array Value} (hw : HW a0 Z) {n0 : Nat} {h0 : Heap} (hn0 : n0 ≤ h0.size) (al ea s0 so : Addr) (ke : ClassId) (Eo : Exa Z h0 so zq0) (Ea : Exa Z h0 al zq2) (Fa0 : Fld Z h0 al zq8 "modCount" "I" (.int 2)) (Fa1 : Fld Z h0 al zq2 zq7 zq6 (.ref ea)) (Fa2 : Fld Z h0 al zq2 "size" "I" (.int 1)) (ga : n0 ≤ al) (Ve : Arv Z h0 ea ke (.object zq3) (10 : Int32) [(.ref s0), .null, .null, .null, .null, .null, .null, .null, .null, .null] .null) (Oe : Ovr Z ke zq3) (ge : n0 ≤ ea) (nae : al ≠ ea) :
 Ctr l Z (⟨zq2, "add", zq33⟩ : MethodName) jdk_38_method_24_code 4 none (rQ 0 0 0 0) n0 #[(.ref al), (.ref so), (.ref ea), (.int 1)] h0 (fun v h => v = none ∧ Keep h0 h [al, ea] ∧ Exa Z h al zq2 ∧ Fld Z h al zq8 "modCount" "I" (.int 2) ∧ Fld Z h al zq2 zq7 zq6 (.ref ea) ∧ Fld Z h al zq2 "size" "I" (.int 2) ∧ Arv Z h ea ke (.object zq3) (10 : Int32) [(.ref s0), (.ref so), .null, .null, .null, .null, .null, .null, .null, .null] .null) := by
 refine Ctr.of (by decide +kernel) hn0 ?_
 intro p e s m below meth c T0 C hnm hret hlk X0
 rw [ef29 m al so ea (1 : Int32)]
 refine G.b 1 C X0 d29_0 rfl rfl <| G.a 2 C X0 d29_1 rfl rfl rfl <| G.J 3 C X0 Ve d29_2 rfl <| G.q 11 C X0 d29_3 (feq (by decide : ¬ (1 : Int32) = 10)).2 (by decide) (by decide) <| G.a 12 C X0 d29_11 rfl rfl rfl <| G.b 13 C X0 d29_12 rfl rfl <| G.a 14 C X0 d29_13 rfl rfl rfl <| G.aE 15 C X0 Ve Oe (Ins.of_exa Eo (wd187 hw)) ge (i := 1) d29_14 rfl ⟨by decide, by decide⟩ (by decide) (nQ rfl) (fun T1 h1 X1 W1 V1 => ?_)
 replace V1 : Arv Z h1 ea ke (.object zq3) (10 : Int32) [(.ref s0), (.ref so), .null, .null, .null, .null, .null, .null, .null, .null] .null := V1
 have K2 := (Keep.refl h0 [al, ea]).wr W1 (mQ 1 rfl)
 refine G.a 16 C X1 d29_15 rfl rfl rfl <| G.b 17 C X1 d29_16 rfl rfl <| G.f 18 (z := 1) C X1 d29_17 rfl (by decide) <| G.x 19 (z := (2 : Int32)) C X1 d29_18 rfl (by decide) ?_
 have f3 := (Fa2.other W1 (Or.inl nae))
 have f4 := (Ea.wr W1)
 refine G.O 22 C X1 (hQ (wd59 hw)) Via.refl f3 f4 ga (Or.inl (wd60 hw)) (wd1 hw) (ty := .int) (by decide) rfl rfl d29_19 rfl (fun T5 h5 X5 W5 F5 => ?_)
 have K6 := K2.wr W5 (mQ 0 rfl)
 have f7 := (f4.wr W5)
 have f8 := ((Fa0.other W1 (Or.inl nae)).other W5 (Or.inr (sQ12 hw)))
 have f9 := ((Fa1.other W1 (Or.inl nae)).other W5 (Or.inr (sQ13 hw)))
 have f10 := (V1.other W5 (Ne.symm nae))
 exact G.E C X5 d29_22 hret hlk (⟨rfl, K6, f7, f8, f9, F5, f10⟩) (by decide) (by decide)
theorem ctAdd1 {l : Launch} {Z : State} {a0 : Array Value} (hw : HW a0 Z) {n0 : Nat} {h0 : Heap} (hn0 : n0 ≤ h0.size) (al ea s0 so : Addr) (ke : ClassId) (Eo : Exa Z h0 so zq0) (Ea : Exa Z h0 al zq2) (Fa0 : Fld Z h0 al zq8 "modCount" "I" (.int 1)) (Fa1 : Fld Z h0 al zq2 zq7 zq6 (.ref ea)) (Fa2 : Fld Z h0 al zq2 "size" "I" (.int 1)) (ga : n0 ≤ al) (Ve : Arv Z h0 ea ke (.object zq3) (10 : Int32) [(.ref s0), .null, .null, .null, .null, .null, .null, .null, .null, .null] .null) (Oe : Ovr Z ke zq3) (ge : n0 ≤ ea) (nae : al ≠ ea) :
 Ctr l Z (⟨zq2, "add", zq21⟩ : MethodName) jdk_38_method_25_code 2 (some .boolean) (rQ 1 0 0 24) n0 #[(.ref al), (.ref so)] h0 (fun v h => v = some (.int 1) ∧ Keep h0 h [al, ea] ∧ Exa Z h al zq2 ∧ Fld Z h al zq8 "modCount" "I" (.int 2) ∧ Fld Z h al zq2 zq7 zq6 (.ref ea) ∧ Fld Z h al zq2 "size" "I" (.int 2) ∧ Arv Z h ea ke (.object zq3) (10 : Int32) [(.ref s0), (.ref so), .null, .null, .null, .null, .null, .null, .null, .null] .null) := by
 refine Ctr.of (by decide +kernel) hn0 ?_
 intro p e s m below meth c T0 C hnm hret hlk X0
 rw [ef28 m al so]
 refine G.a 1 C X0 d28_0 rfl rfl rfl <| G.I 2 C X0 d28_1 rfl rfl <| G.u 5 C X0 (hQ (wd165 hw)) (Via.of (wd166 hw)) Fa0 d28_2 rfl fun T1 X1 => G.f 6 (z := 1) C X1 d28_5 rfl (by decide) <| G.x 7 (z := (2 : Int32)) C X1 d28_6 rfl (by decide) <| G.O 10 C X1 (hQ (wd165 hw)) (Via.of (wd166 hw)) Fa0 Ea ga (Or.inl (wd22 hw)) (wd1 hw) (ty := .int) (by decide) rfl rfl d28_7 rfl (fun T2 h2 X2 W2 F2 => ?_)
 have K3 := (Keep.refl h0 [al, ea]).wr W2 (mQ 0 rfl)
 refine G.a 11 C X2 d28_10 rfl rfl rfl <| G.a 12 C X2 d28_11 rfl rfl rfl <| G.a 13 C X2 d28_12 rfl rfl rfl ?_
 have f4 := (Fa1.other W2 (Or.inr (sQ8 hw)))
 refine G.u 16 C X2 (hQ (wd24 hw)) Via.refl f4 d28_13 rfl fun T5 X5 => G.a 17 C X5 d28_16 rfl rfl rfl ?_
 have f6 := (Fa2.other W2 (Or.inr (sQ9 hw)))
 refine G.u 20 C X5 (hQ (wd59 hw)) Via.refl f6 d28_17 rfl (fun T7 X7 => ?_)
 have f8 := (Eo.wr W2)
 have f9 := (Ea.wr W2)
 have f10 := (Ve.other W2 (Ne.symm nae))
 refine G.au 23 (cells' := 0) (slots' := 0) (argsL := [(.ref so), (.ref ea), (.int 1)]) (St := []) C X7 (wd167 hw) (wd168 hw) (wd169 hw) (wd1 hw) (by decide) f9 (wd171 hw) (wd2 hw) (ctA31 hw X7.2.1 al ea s0 so ke f8 f9 F2 f4 f6 ga f10 Oe ge nae) (lenOf pd32 rfl) rfl d28_20 rfl rfl (by decide) (nQ rfl) rfl rfl (by decide) (by decide) (fun v11 T11 h11 Q11 X11 z11 => ?_)
 obtain ⟨hv11, K11, Ea11, Fa0_11, Fa1_11, Fa2_11, Ve11⟩ := Q11
 subst hv11
 have K12 := K3.trans K11 (allS (mQ 0 rfl) (allS (mQ 1 rfl) all0))
 refine G.f 24 (z := 1) C X11 d28_23 rfl (by decide) ?_
 exact G.M C X11 d28_24 hret (by simp) (z' := (1 : Int32)) (by decide) hlk (⟨rfl, K12, Ea11, Fa0_11, Fa1_11, Fa2_11, Ve11⟩) (by decide) (by decide)
theorem ef8 (m : MethodId) (x0 : Addr) : entryFrame m #[(.ref x0)] 1 = mkF m 0 #[.val (.ref x0)] [] := by first | (simp [entryFrame, mkF, argsToLocals, Value.category]; done) | rfl
theorem ctSz0 {l : Launch} {Z : State} {a0 : Array Value} (hw : HW a0 Z) {n0 : Nat} {h0 : Heap} (hn0 : n0 ≤ h0.size) (al : Addr) (Fs : Fld Z h0 al zq2 "size" "I" (.int 0)) :
 Ctr l Z (⟨zq2, "size", "()I"⟩ : MethodName) jdk_38_method_8_code 1 (some .int) (rQ 0 0 0 0) n0 #[(.ref al)] h0 (fun v h => v = some (.int 0) ∧ h = h0) := by
 refine Ctr.of (by decide +kernel) hn0 ?_
 intro p e s m below meth c T0 C hnm hret hlk X0
 rw [ef8 m al]
 refine G.a 1 C X0 d8_0 rfl rfl rfl <| G.u 4 C X0 (hQ (wd59 hw)) Via.refl Fs d8_1 rfl (fun T1 X1 => ?_)
 exact G.z C X1 d8_4 hret hlk (⟨rfl, rfl⟩) (by decide) (by decide)
theorem ef9 (m : MethodId) (x0 : Addr) : entryFrame m #[(.ref x0)] 1 = mkF m 0 #[.val (.ref x0)] [] := by first | (simp [entryFrame, mkF, argsToLocals, Value.category]; done) | rfl
theorem ctIe0 {l : Launch} {Z : State} {a0 : Array Value} (hw : HW a0 Z) {n0 : Nat} {h0 : Heap} (hn0 : n0 ≤ h0.size) (al : Addr) (Fs : Fld Z h0 al zq2 "size" "I" (.int 0)) :
 Ctr l Z (⟨zq2, "isEmpty", "()Z"⟩ : MethodName) jdk_38_method_9_code 1 (some .boolean) (rQ 0 0 0 0) n0 #[(.ref al)] h0 (fun v h => v = some (.int 1) ∧ h = h0) := by
 refine Ctr.of (by decide +kernel) hn0 ?_
 intro p e s m below meth c T0 C hnm hret hlk X0
 rw [ef9 m al]
 refine G.a 1 C X0 d9_0 rfl rfl rfl <| G.u 4 C X0 (hQ (wd59 hw)) Via.refl Fs d9_1 rfl fun T1 X1 => G.k 7 C X1 d9_4 rfl (teq (by decide : (0 : Int32) = 0)).2 <| G.f 8 (z := 1) C X1 d9_7 rfl (by decide) <| G.r 12 C X1 d9_8 (by decide) (by decide) ?_
 exact G.M C X1 d9_12 hret (by simp) (z' := (1 : Int32)) (by decide) hlk (⟨rfl, rfl⟩) (by decide) (by decide)
theorem ctSz1 {l : Launch} {Z : State} {a0 : Array Value} (hw : HW a0 Z) {n0 : Nat} {h0 : Heap} (hn0 : n0 ≤ h0.size) (al : Addr) (Fs : Fld Z h0 al zq2 "size" "I" (.int 1)) :
 Ctr l Z (⟨zq2, "size", "()I"⟩ : MethodName) jdk_38_method_8_code 1 (some .int) (rQ 0 0 0 0) n0 #[(.ref al)] h0 (fun v h => v = some (.int 1) ∧ h = h0) := by
 refine Ctr.of (by decide +kernel) hn0 ?_
 intro p e s m below meth c T0 C hnm hret hlk X0
 rw [ef8 m al]
 refine G.a 1 C X0 d8_0 rfl rfl rfl <| G.u 4 C X0 (hQ (wd59 hw)) Via.refl Fs d8_1 rfl (fun T1 X1 => ?_)
 exact G.z C X1 d8_4 hret hlk (⟨rfl, rfl⟩) (by decide) (by decide)
theorem ctIe1 {l : Launch} {Z : State} {a0 : Array Value} (hw : HW a0 Z) {n0 : Nat} {h0 : Heap} (hn0 : n0 ≤ h0.size) (al : Addr) (Fs : Fld Z h0 al zq2 "size" "I" (.int 1)) :
 Ctr l Z (⟨zq2, "isEmpty", "()Z"⟩ : MethodName) jdk_38_method_9_code 1 (some .boolean) (rQ 0 0 0 0) n0 #[(.ref al)] h0 (fun v h => v = some (.int 0) ∧ h = h0) := by
 refine Ctr.of (by decide +kernel) hn0 ?_
 intro p e s m below meth c T0 C hnm hret hlk X0
 rw [ef9 m al]
 refine G.a 1 C X0 d9_0 rfl rfl rfl <| G.u 4 C X0 (hQ (wd59 hw)) Via.refl Fs d9_1 rfl fun T1 X1 => G.ad 11 C X1 d9_4 (feq (by decide : ¬ (1 : Int32) = 0)).2 (by decide) (by decide) <| G.f 12 (z := 0) C X1 d9_11 rfl (by decide) ?_
 exact G.M C X1 d9_12 hret (by simp) (z' := (0 : Int32)) (by decide) hlk (⟨rfl, rfl⟩) (by decide) (by decide)
theorem ctPx10 {l : Launch} {Z : State} {a0 : Array Value} (hw : HW a0 Z) {n0 : Nat} {h0 : Heap} (hn0 : n0 ≤ h0.size)   :
 Ctr l Z (⟨zq9, "checkIndex", zq19⟩ : MethodName) jdk_41_method_11_code 3 (some .int) (rQ 0 0 0 0) n0 #[(.int 0), (.int 1), .null] h0 (fun v h => v = some (.int 0) ∧ h = h0) := by
 refine Ctr.of (plainFor_of_name pn2) hn0 ?_
 intro p e s m below meth c T0 C hnm hret hlk X0
 rw [ef45 m (0 : Int32) (1 : Int32)]
 refine G.b 1 C X0 d45_0 rfl rfl <| G.k 4 C X0 d45_1 rfl (flt (by decide : ¬ (0 : Int32) < 0)).1 <| G.b 5 C X0 d45_4 rfl rfl <| G.b 6 C X0 d45_5 rfl rfl <| G.q 16 C X0 d45_6 (tlt (by decide : (0 : Int32) < 1)).1 (by decide) (by decide) <| G.b 17 C X0 d45_16 rfl rfl ?_
 exact G.z C X0 d45_17 hret hlk (⟨rfl, rfl⟩) (by decide) (by decide)
theorem ef44 (m : MethodId) (x0 : Int32) (x1 : Int32) : entryFrame m #[(.int x0), (.int x1)] 2 = mkF m 0 #[.val (.int x0), .val (.int x1)] [] := by first | (simp [entryFrame, mkF, argsToLocals, Value.category]; done) | rfl
theorem ctOx10 {l : Launch} {Z : State} {a0 : Array Value} (hw : HW a0 Z) {n0 : Nat} {h0 : Heap} (hn0 : n0 ≤ h0.size)   :
 Ctr l Z (⟨zq29, "checkIndex", "(II)I"⟩ : MethodName) jdk_31_method_17_code 2 (some .int) (rQ 1 0 0 16) n0 #[(.int 0), (.int 1)] h0 (fun v h => v = some (.int 0) ∧ h = h0) := by
 refine Ctr.of (by decide +kernel) hn0 ?_
 intro p e s m below meth c T0 C hnm hret hlk X0
 rw [ef44 m (0 : Int32) (1 : Int32)]
 refine G.b 1 C X0 d44_0 rfl rfl <| G.b 2 C X0 d44_1 rfl rfl <| G.am 3 C X0 d44_2 rfl <| G.i 6 (cells' := 0) (slots' := 0) (argsL := [(.int 0), (.int 1), .null]) (St := []) C X0 (wd242 hw) (wd243 hw) (by decide) (wd245 hw) (wd244 hw) (ctPx10 hw X0.2.1) (lenOf pd19 rfl) rfl d44_3 rfl rfl (by decide) (nQ rfl) rfl rfl (by decide) (by decide) (fun v1 T1 h1 Q1 X1 z1 => ?_)
 obtain ⟨hv1, hh1⟩ := Q1
 subst hv1; rw [hh1] at X1
 exact G.z C X1 d44_6 hret hlk (⟨rfl, rfl⟩) (by decide) (by decide)
theorem ef46 (m : MethodId) (x0 : Addr) (x1 : Int32) : entryFrame m #[(.ref x0), (.int x1)] 2 = mkF m 0 #[.val (.ref x0), .val (.int x1)] [] := by first | (simp [entryFrame, mkF, argsToLocals, Value.category]; done) | rfl
theorem ctEd10 {l : Launch} {Z : State} {a0 : Array Value} (hw : HW a0 Z) {n0 : Nat} {h0 : Heap} (hn0 : n0 ≤ h0.size) (al ea s0 : Addr) (ke : ClassId) (Ea : Exa Z h0 al zq2) (Fe : Fld Z h0 al zq2 zq7 zq6 (.ref ea)) (Fs : Fld Z h0 al zq2 "size" "I" (.int 1)) (Ve : Arv Z h0 ea ke (.object zq3) (10 : Int32) [(.ref s0), .null, .null, .null, .null, .null, .null, .null, .null, .null] .null) :
 Ctr l Z (⟨zq2, zq7, zq13⟩ : MethodName) jdk_38_method_18_code 2 (some (.object zq3)) (rQ 0 0 0 0) n0 #[(.ref al), (.int 0)] h0 (fun v h => v = some (.ref s0) ∧ h = h0) := by
 refine Ctr.of (by decide +kernel) hn0 ?_
 intro p e s m below meth c T0 C hnm hret hlk X0
 rw [ef46 m al (0 : Int32)]
 refine G.a 1 C X0 d46_0 rfl rfl rfl <| G.u 4 C X0 (hQ (wd24 hw)) Via.refl Fe d46_1 rfl fun T1 X1 => G.b 5 C X1 d46_4 rfl rfl <| G.az 6 C X1 Ve rfl d46_5 rfl ⟨by decide, by decide⟩ (v := (.ref s0)) rfl ?_
 exact G.B C X1 d46_6 hret rfl rfl hlk (⟨rfl, rfl⟩) (by decide) (by decide)
theorem ef43 (m : MethodId) (x0 : Addr) (x1 : Int32) : entryFrame m #[(.ref x0), (.int x1)] 2 = mkF m 0 #[.val (.ref x0), .val (.int x1)] [] := by first | (simp [entryFrame, mkF, argsToLocals, Value.category]; done) | rfl
theorem ctGet10 {l : Launch} {Z : State} {a0 : Array Value} (hw : HW a0 Z) {n0 : Nat} {h0 : Heap} (hn0 : n0 ≤ h0.size) (al ea s0 : Addr) (ke : ClassId) (Ea : Exa Z h0 al zq2) (Fe : Fld Z h0 al zq2 zq7 zq6 (.ref ea)) (Fs : Fld Z h0 al zq2 "size" "I" (.int 1)) (Ve : Arv Z h0 ea ke (.object zq3) (10 : Int32) [(.ref s0), .null, .null, .null, .null, .null, .null, .null, .null, .null] .null) :
 Ctr l Z (⟨zq2, "get", zq13⟩ : MethodName) jdk_38_method_20_code 2 (some (.object zq3)) (rQ 2 0 0 32) n0 #[(.ref al), (.int 0)] h0 (fun v h => v = some (.ref s0) ∧ h = h0) := by
 refine Ctr.of (by decide +kernel) hn0 ?_
 intro p e s m below meth c T0 C hnm hret hlk X0
 rw [ef43 m al (0 : Int32)]
 refine G.b 1 C X0 d43_0 rfl rfl <| G.a 2 C X0 d43_1 rfl rfl rfl <| G.u 5 C X0 (hQ (wd59 hw)) Via.refl Fs d43_2 rfl fun T1 X1 => G.i 8 (cells' := 0) (slots' := 0) (argsL := [(.int 0), (.int 1)]) (St := []) C X1 (wd238 hw) (wd239 hw) (by decide) (wd241 hw) (wd240 hw) (ctOx10 hw X1.2.1) (lenOf pd2 rfl) rfl d43_5 rfl rfl (by decide) (nQ rfl) rfl rfl (by decide) (by decide) (fun v2 T2 h2 Q2 X2 z2 => ?_)
 obtain ⟨hv2, hh2⟩ := Q2
 subst hv2; rw [hh2] at X2
 refine G.v 9 C X2 d43_8 rfl rfl <| G.a 10 C X2 d43_9 rfl rfl rfl <| G.b 11 C X2 d43_10 rfl rfl <| G.o 14 (cells' := 0) (slots' := 0) (argsL := [(.int 0)]) (St := []) C X2 (wd246 hw) (wd247 hw) (wd249 hw) (wd248 hw) (by decide) Ea (wd250 hw) (wd2 hw) (ctEd10 hw X2.2.1 al ea s0 ke Ea Fe Fs Ve) (lenOf pd33 rfl) rfl d43_11 rfl rfl (by decide) (nQ rfl) rfl rfl (by decide) (by decide) (fun v3 T3 h3 Q3 X3 z3 => ?_)
 obtain ⟨hv3, hh3⟩ := Q3
 subst hv3; rw [hh3] at X3
 exact G.B C X3 d43_14 hret rfl rfl hlk (⟨rfl, rfl⟩) (by decide) (by decide)
theorem ctSz2 {l : Launch} {Z : State} {a0 : Array Value} (hw : HW a0 Z) {n0 : Nat} {h0 : Heap} (hn0 : n0 ≤ h0.size) (al : Addr) (Fs : Fld Z h0 al zq2 "size" "I" (.int 2)) :
 Ctr l Z (⟨zq2, "size", "()I"⟩ : MethodName) jdk_38_method_8_code 1 (some .int) (rQ 0 0 0 0) n0 #[(.ref al)] h0 (fun v h => v = some (.int 2) ∧ h = h0) := by
 refine Ctr.of (by decide +kernel) hn0 ?_
 intro p e s m below meth c T0 C hnm hret hlk X0
 rw [ef8 m al]
 refine G.a 1 C X0 d8_0 rfl rfl rfl <| G.u 4 C X0 (hQ (wd59 hw)) Via.refl Fs d8_1 rfl (fun T1 X1 => ?_)
 exact G.z C X1 d8_4 hret hlk (⟨rfl, rfl⟩) (by decide) (by decide)
theorem ctIe2 {l : Launch} {Z : State} {a0 : Array Value} (hw : HW a0 Z) {n0 : Nat} {h0 : Heap} (hn0 : n0 ≤ h0.size) (al : Addr) (Fs : Fld Z h0 al zq2 "size" "I" (.int 2)) :
 Ctr l Z (⟨zq2, "isEmpty", "()Z"⟩ : MethodName) jdk_38_method_9_code 1 (some .boolean) (rQ 0 0 0 0) n0 #[(.ref al)] h0 (fun v h => v = some (.int 0) ∧ h = h0) := by
 refine Ctr.of (by decide +kernel) hn0 ?_
 intro p e s m below meth c T0 C hnm hret hlk X0
 rw [ef9 m al]
 refine G.a 1 C X0 d9_0 rfl rfl rfl <| G.u 4 C X0 (hQ (wd59 hw)) Via.refl Fs d9_1 rfl fun T1 X1 => G.ad 11 C X1 d9_4 (feq (by decide : ¬ (2 : Int32) = 0)).2 (by decide) (by decide) <| G.f 12 (z := 0) C X1 d9_11 rfl (by decide) ?_
 exact G.M C X1 d9_12 hret (by simp) (z' := (0 : Int32)) (by decide) hlk (⟨rfl, rfl⟩) (by decide) (by decide)
theorem ctPx20 {l : Launch} {Z : State} {a0 : Array Value} (hw : HW a0 Z) {n0 : Nat} {h0 : Heap} (hn0 : n0 ≤ h0.size)   :
 Ctr l Z (⟨zq9, "checkIndex", zq19⟩ : MethodName) jdk_41_method_11_code 3 (some .int) (rQ 0 0 0 0) n0 #[(.int 0), (.int 2), .null] h0 (fun v h => v = some (.int 0) ∧ h = h0) := by
 refine Ctr.of (plainFor_of_name pn2) hn0 ?_
 intro p e s m below meth c T0 C hnm hret hlk X0
 rw [ef45 m (0 : Int32) (2 : Int32)]
 refine G.b 1 C X0 d45_0 rfl rfl <| G.k 4 C X0 d45_1 rfl (flt (by decide : ¬ (0 : Int32) < 0)).1 <| G.b 5 C X0 d45_4 rfl rfl <| G.b 6 C X0 d45_5 rfl rfl <| G.q 16 C X0 d45_6 (tlt (by decide : (0 : Int32) < 2)).1 (by decide) (by decide) <| G.b 17 C X0 d45_16 rfl rfl ?_
 exact G.z C X0 d45_17 hret hlk (⟨rfl, rfl⟩) (by decide) (by decide)
theorem ctOx20 {l : Launch} {Z : State} {a0 : Array Value} (hw : HW a0 Z) {n0 : Nat} {h0 : Heap} (hn0 : n0 ≤ h0.size)   :
 Ctr l Z (⟨zq29, "checkIndex", "(II)I"⟩ : MethodName) jdk_31_method_17_code 2 (some .int) (rQ 1 0 0 16) n0 #[(.int 0), (.int 2)] h0 (fun v h => v = some (.int 0) ∧ h = h0) := by
 refine Ctr.of (by decide +kernel) hn0 ?_
 intro p e s m below meth c T0 C hnm hret hlk X0
 rw [ef44 m (0 : Int32) (2 : Int32)]
 refine G.b 1 C X0 d44_0 rfl rfl <| G.b 2 C X0 d44_1 rfl rfl <| G.am 3 C X0 d44_2 rfl <| G.i 6 (cells' := 0) (slots' := 0) (argsL := [(.int 0), (.int 2), .null]) (St := []) C X0 (wd242 hw) (wd243 hw) (by decide) (wd245 hw) (wd244 hw) (ctPx20 hw X0.2.1) (lenOf pd19 rfl) rfl d44_3 rfl rfl (by decide) (nQ rfl) rfl rfl (by decide) (by decide) (fun v1 T1 h1 Q1 X1 z1 => ?_)
 obtain ⟨hv1, hh1⟩ := Q1
 subst hv1; rw [hh1] at X1
 exact G.z C X1 d44_6 hret hlk (⟨rfl, rfl⟩) (by decide) (by decide)
theorem ctEd20 {l : Launch} {Z : State} {a0 : Array Value} (hw : HW a0 Z) {n0 : Nat} {h0 : Heap} (hn0 : n0 ≤ h0.size) (al ea s0 s1 : Addr) (ke : ClassId) (Ea : Exa Z h0 al zq2) (Fe : Fld Z h0 al zq2 zq7 zq6 (.ref ea)) (Fs : Fld Z h0 al zq2 "size" "I" (.int 2)) (Ve : Arv Z h0 ea ke (.object zq3) (10 : Int32) [(.ref s0), (.ref s1), .null, .null, .null, .null, .null, .null, .null, .null] .null) :
 Ctr l Z (⟨zq2, zq7, zq13⟩ : MethodName) jdk_38_method_18_code 2 (some (.object zq3)) (rQ 0 0 0 0) n0 #[(.ref al), (.int 0)] h0 (fun v h => v = some (.ref s0) ∧ h = h0) := by
 refine Ctr.of (by decide +kernel) hn0 ?_
 intro p e s m below meth c T0 C hnm hret hlk X0
 rw [ef46 m al (0 : Int32)]
 refine G.a 1 C X0 d46_0 rfl rfl rfl <| G.u 4 C X0 (hQ (wd24 hw)) Via.refl Fe d46_1 rfl fun T1 X1 => G.b 5 C X1 d46_4 rfl rfl <| G.az 6 C X1 Ve rfl d46_5 rfl ⟨by decide, by decide⟩ (v := (.ref s0)) rfl ?_
 exact G.B C X1 d46_6 hret rfl rfl hlk (⟨rfl, rfl⟩) (by decide) (by decide)
theorem ctGet20 {l : Launch} {Z : State} {a0 : Array Value} (hw : HW a0 Z) {n0 : Nat} {h0 : Heap} (hn0 : n0 ≤ h0.size) (al ea s0 s1 : Addr) (ke : ClassId) (Ea : Exa Z h0 al zq2) (Fe : Fld Z h0 al zq2 zq7 zq6 (.ref ea)) (Fs : Fld Z h0 al zq2 "size" "I" (.int 2)) (Ve : Arv Z h0 ea ke (.object zq3) (10 : Int32) [(.ref s0), (.ref s1), .null, .null, .null, .null, .null, .null, .null, .null] .null) :
 Ctr l Z (⟨zq2, "get", zq13⟩ : MethodName) jdk_38_method_20_code 2 (some (.object zq3)) (rQ 2 0 0 32) n0 #[(.ref al), (.int 0)] h0 (fun v h => v = some (.ref s0) ∧ h = h0) := by
 refine Ctr.of (by decide +kernel) hn0 ?_
 intro p e s m below meth c T0 C hnm hret hlk X0
 rw [ef43 m al (0 : Int32)]
 refine G.b 1 C X0 d43_0 rfl rfl <| G.a 2 C X0 d43_1 rfl rfl rfl <| G.u 5 C X0 (hQ (wd59 hw)) Via.refl Fs d43_2 rfl fun T1 X1 => G.i 8 (cells' := 0) (slots' := 0) (argsL := [(.int 0), (.int 2)]) (St := []) C X1 (wd238 hw) (wd239 hw) (by decide) (wd241 hw) (wd240 hw) (ctOx20 hw X1.2.1) (lenOf pd2 rfl) rfl d43_5 rfl rfl (by decide) (nQ rfl) rfl rfl (by decide) (by decide) (fun v2 T2 h2 Q2 X2 z2 => ?_)
 obtain ⟨hv2, hh2⟩ := Q2
 subst hv2; rw [hh2] at X2
 refine G.v 9 C X2 d43_8 rfl rfl <| G.a 10 C X2 d43_9 rfl rfl rfl <| G.b 11 C X2 d43_10 rfl rfl <| G.o 14 (cells' := 0) (slots' := 0) (argsL := [(.int 0)]) (St := []) C X2 (wd246 hw) (wd247 hw) (wd249 hw) (wd248 hw) (by decide) Ea (wd250 hw) (wd2 hw) (ctEd20 hw X2.2.1 al ea s0 s1 ke Ea Fe Fs Ve) (lenOf pd33 rfl) rfl d43_11 rfl rfl (by decide) (nQ rfl) rfl rfl (by decide) (by decide) (fun v3 T3 h3 Q3 X3 z3 => ?_)
 obtain ⟨hv3, hh3⟩ := Q3
 subst hv3; rw [hh3] at X3
 exact G.B C X3 d43_14 hret rfl rfl hlk (⟨rfl, rfl⟩) (by decide) (by decide)
theorem ctPx21 {l : Launch} {Z : State} {a0 : Array Value} (hw : HW a0 Z) {n0 : Nat} {h0 : Heap} (hn0 : n0 ≤ h0.size)   :
 Ctr l Z (⟨zq9, "checkIndex", zq19⟩ : MethodName) jdk_41_method_11_code 3 (some .int) (rQ 0 0 0 0) n0 #[(.int 1), (.int 2), .null] h0 (fun v h => v = some (.int 1) ∧ h = h0) := by
 refine Ctr.of (plainFor_of_name pn2) hn0 ?_
 intro p e s m below meth c T0 C hnm hret hlk X0
 rw [ef45 m (1 : Int32) (2 : Int32)]
 refine G.b 1 C X0 d45_0 rfl rfl <| G.k 4 C X0 d45_1 rfl (flt (by decide : ¬ (1 : Int32) < 0)).1 <| G.b 5 C X0 d45_4 rfl rfl <| G.b 6 C X0 d45_5 rfl rfl <| G.q 16 C X0 d45_6 (tlt (by decide : (1 : Int32) < 2)).1 (by decide) (by decide) <| G.b 17 C X0 d45_16 rfl rfl ?_
 exact G.z C X0 d45_17 hret hlk (⟨rfl, rfl⟩) (by decide) (by decide)
theorem ctOx21 {l : Launch} {Z : State} {a0 : Array Value} (hw : HW a0 Z) {n0 : Nat} {h0 : Heap} (hn0 : n0 ≤ h0.size)   :
 Ctr l Z (⟨zq29, "checkIndex", "(II)I"⟩ : MethodName) jdk_31_method_17_code 2 (some .int) (rQ 1 0 0 16) n0 #[(.int 1), (.int 2)] h0 (fun v h => v = some (.int 1) ∧ h = h0) := by
 refine Ctr.of (by decide +kernel) hn0 ?_
 intro p e s m below meth c T0 C hnm hret hlk X0
 rw [ef44 m (1 : Int32) (2 : Int32)]
 refine G.b 1 C X0 d44_0 rfl rfl <| G.b 2 C X0 d44_1 rfl rfl <| G.am 3 C X0 d44_2 rfl <| G.i 6 (cells' := 0) (slots' := 0) (argsL := [(.int 1), (.int 2), .null]) (St := []) C X0 (wd242 hw) (wd243 hw) (by decide) (wd245 hw) (wd244 hw) (ctPx21 hw X0.2.1) (lenOf pd19 rfl) rfl d44_3 rfl rfl (by decide) (nQ rfl) rfl rfl (by decide) (by decide) (fun v1 T1 h1 Q1 X1 z1 => ?_)
 obtain ⟨hv1, hh1⟩ := Q1
 subst hv1; rw [hh1] at X1
 exact G.z C X1 d44_6 hret hlk (⟨rfl, rfl⟩) (by decide) (by decide)
theorem ctEd21 {l : Launch} {Z : State} {a0 : Array Value} (hw : HW a0 Z) {n0 : Nat} {h0 : Heap} (hn0 : n0 ≤ h0.size) (al ea s0 s1 : Addr) (ke : ClassId) (Ea : Exa Z h0 al zq2) (Fe : Fld Z h0 al zq2 zq7 zq6 (.ref ea)) (Fs : Fld Z h0 al zq2 "size" "I" (.int 2)) (Ve : Arv Z h0 ea ke (.object zq3) (10 : Int32) [(.ref s0), (.ref s1), .null, .null, .null, .null, .null, .null, .null, .null] .null) :
 Ctr l Z (⟨zq2, zq7, zq13⟩ : MethodName) jdk_38_method_18_code 2 (some (.object zq3)) (rQ 0 0 0 0) n0 #[(.ref al), (.int 1)] h0 (fun v h => v = some (.ref s1) ∧ h = h0) := by
 refine Ctr.of (by decide +kernel) hn0 ?_
 intro p e s m below meth c T0 C hnm hret hlk X0
 rw [ef46 m al (1 : Int32)]
 refine G.a 1 C X0 d46_0 rfl rfl rfl <| G.u 4 C X0 (hQ (wd24 hw)) Via.refl Fe d46_1 rfl fun T1 X1 => G.b 5 C X1 d46_4 rfl rfl <| G.az 6 C X1 Ve rfl d46_5 rfl ⟨by decide, by decide⟩ (v := (.ref s1)) rfl ?_
 exact G.B C X1 d46_6 hret rfl rfl hlk (⟨rfl, rfl⟩) (by decide) (by decide)
theorem ctGet21 {l : Launch} {Z : State} {a0 : Array Value} (hw : HW a0 Z) {n0 : Nat} {h0 : Heap} (hn0 : n0 ≤ h0.size) (al ea s0 s1 : Addr) (ke : ClassId) (Ea : Exa Z h0 al zq2) (Fe : Fld Z h0 al zq2 zq7 zq6 (.ref ea)) (Fs : Fld Z h0 al zq2 "size" "I" (.int 2)) (Ve : Arv Z h0 ea ke (.object zq3) (10 : Int32) [(.ref s0), (.ref s1), .null, .null, .null, .null, .null, .null, .null, .null] .null) :
 Ctr l Z (⟨zq2, "get", zq13⟩ : MethodName) jdk_38_method_20_code 2 (some (.object zq3)) (rQ 2 0 0 32) n0 #[(.ref al), (.int 1)] h0 (fun v h => v = some (.ref s1) ∧ h = h0) := by
 refine Ctr.of (by decide +kernel) hn0 ?_
 intro p e s m below meth c T0 C hnm hret hlk X0
 rw [ef43 m al (1 : Int32)]
 refine G.b 1 C X0 d43_0 rfl rfl <| G.a 2 C X0 d43_1 rfl rfl rfl <| G.u 5 C X0 (hQ (wd59 hw)) Via.refl Fs d43_2 rfl fun T1 X1 => G.i 8 (cells' := 0) (slots' := 0) (argsL := [(.int 1), (.int 2)]) (St := []) C X1 (wd238 hw) (wd239 hw) (by decide) (wd241 hw) (wd240 hw) (ctOx21 hw X1.2.1) (lenOf pd2 rfl) rfl d43_5 rfl rfl (by decide) (nQ rfl) rfl rfl (by decide) (by decide) (fun v2 T2 h2 Q2 X2 z2 => ?_)
 obtain ⟨hv2, hh2⟩ := Q2
 subst hv2; rw [hh2] at X2
 refine G.v 9 C X2 d43_8 rfl rfl <| G.a 10 C X2 d43_9 rfl rfl rfl <| G.b 11 C X2 d43_10 rfl rfl <| G.o 14 (cells' := 0) (slots' := 0) (argsL := [(.int 1)]) (St := []) C X2 (wd246 hw) (wd247 hw) (wd249 hw) (wd248 hw) (by decide) Ea (wd250 hw) (wd2 hw) (ctEd21 hw X2.2.1 al ea s0 s1 ke Ea Fe Fs Ve) (lenOf pd33 rfl) rfl d43_11 rfl rfl (by decide) (nQ rfl) rfl rfl (by decide) (by decide) (fun v3 T3 h3 Q3 X3 z3 => ?_)
 obtain ⟨hv3, hh3⟩ := Q3
 subst hv3; rw [hh3] at X3
 exact G.B C X3 d43_14 hret rfl rfl hlk (⟨rfl, rfl⟩) (by decide) (by decide)
theorem ef52 (m : MethodId) (x0 : Addr) (x1 : Int32) (x2 : Addr) : entryFrame m #[(.ref x0), (.int x1), (.ref x2)] 5 = mkF m 0 #[.val (.ref x0), .val (.int x1), .val (.ref x2), .unset, .unset] [] := by first | (simp [entryFrame, mkF, argsToLocals, Value.category]; done) | rfl
theorem ctEsc0 {l : Launch} {Z : State} {a0 : Array Value} (hw : HW a0 Z) {n0 : Nat} {h0 : Heap} (hn0 : n0 ≤ h0.size) (sb tb : Addr) (kt : ClassId) (W : List Int32) (cp : Int32) (sr ru : Addr) (kr : ClassId) (cz : Int32) (fmt : Value) (Es : Exa Z h0 sb zq4) (Fv : Fld Z h0 sb zq1 "value" "[B" (.ref tb)) (Fc : Fld Z h0 sb zq1 "coder" "B" (.int 0)) (Fn : Fld Z h0 sb zq1 "count" "I" (.int (own_n (W).length))) (Et : Exa Z h0 tb "[B") (Vt : Arv Z h0 tb kt .byte cp (tx W) (.int 0)) (gs : n0 ≤ sb) (gt : n0 ≤ tb) (nst : sb ≠ tb) (Er : Exa Z h0 sr zq0) (Rv : Fld Z h0 sr zq0 "value" "[B" (.ref ru)) (Rc : Fld Z h0 sr zq0 "coder" "B" (.int 0)) (Vr : Arv Z h0 ru kr .byte (own_n (([] : List Int32)).length) (tx ([] : List Int32)) (.int 0)) (nrt : ru ≠ tb) (nsr : sr ≠ sb) (nsq : sr ≠ tb) (hcp : cp = 16 ∨ cp = 34) (hwc : W.length ≤ cp.toNatClampNeg) (hl : W.length + 4 < 34) (Sf : Sta Z Z.heap zq9 zq12 zq14 fmt) (hfm : fmt.isRef = true) (OD : Old Z n0 h0) (S2 : Sta Z Z.heap zq0 zq5 "Z" (.int cz)) (hcz : ¬ cz = 0) :
    CtrW l Z consts_1 [tb] (⟨zq15, "escaped", zq24⟩ : MethodName) prog_35_method_6_code 5 none (rQ 6 8 160 160) n0 #[(.ref sr), (.int 1), (.ref sb)] h0 (fun v h sfe => ∃ (t : Addr) (k : ClassId) (cq : Int32), v = none ∧ Keep h0 h [sb, tb] ∧ (t = tb ∨ h0.size ≤ t) ∧ (cq = 16 ∨ cq = 34) ∧ (W ++ (own_escL ([] : List Int32))).length ≤ cq.toNatClampNeg ∧ sb ≠ t ∧ Exa Z h sb zq4 ∧ Fld Z h sb zq1 "value" "[B" (.ref t) ∧ Fld Z h sb zq1 "coder" "B" (.int 0) ∧ Fld Z h sb zq1 "count" "I" (.int (own_n ((W ++ (own_escL ([] : List Int32)))).length)) ∧ Exa Z h t "[B" ∧ Arv Z h t k .byte cq (tx (W ++ (own_escL ([] : List Int32)))) (.int 0) ∧ sfe t) := by
  refine CtrW.of (plainFor_of_name pn4) hn0 ?_
  intro p e s m below meth c T0 C hnm hret hlk X0 H0 hSf
  rw [ef52 m sr (1 : Int32) sb]
  refine G.f 1 (z := 0) C X0 d52_0 rfl (by decide) <| G.D 2 C X0 d52_1 rfl (l' := #[vR sr, vI 1, vR sb, vI 0, .unset]) rfl <| G.b 3 C X0 d52_2 rfl rfl <| G.a 4 C X0 d52_3 rfl rfl rfl <| G.o 7 (cells' := 0) (slots' := 0) (argsL := []) (St := [(.int 0)]) C X0 (wd283 hw) (wd129 hw) (wd131 hw) (wd130 hw) (by decide) Er (wd132 hw) (wd44 hw) (ctLenA hw X0.2.1 sr ru kr ([] : List Int32) cz Er Rv Rc Vr OD S2 hcz) (lenOf pd8 rfl) rfl d52_4 rfl rfl (by decide) (nQ rfl) rfl rfl (by decide) (by decide) (fun v1 T1 h1 Q1 X1 z1 => ?_)
  obtain ⟨hv1, hh1⟩ := Q1
  subst hv1; rw [hh1] at X1
  refine G.q 85 C X1 d52_7 (flt (by decide : ¬ (0 : Int32) < 0)).2.1 (by decide) (by decide) ?_
  have he2 : W ++ (own_escL ([] : List Int32)) = W := by
    simp only [own_escL]
    first | done | rfl | simp only [List.append_assoc, List.cons_append, List.nil_append, List.append_nil]
  exact G.H C X1 (ew hw) H0 d52_85 hret hlk (fun S' hm => (by rw [he2]; exact ⟨tb, kt, cp, rfl, (Keep.refl h0 [sb, tb]), (Or.inl rfl), hcp, hwc, nst, Es, Fv, Fc, Fn, Et, Vt, hm _ Vt.lt (hSf _ (List.mem_of_getElem? (i := 0) rfl))⟩)) (by decide) (by decide)
theorem ctEsc1 {l : Launch} {Z : State} {a0 : Array Value} (hw : HW a0 Z) {n0 : Nat} {h0 : Heap} (hn0 : n0 ≤ h0.size) (sb tb : Addr) (kt : ClassId) (W : List Int32) (cp : Int32) (sr ru : Addr) (kr : ClassId) (ca : Int32) (cz : Int32) (fmt : Value) (Es : Exa Z h0 sb zq4) (Fv : Fld Z h0 sb zq1 "value" "[B" (.ref tb)) (Fc : Fld Z h0 sb zq1 "coder" "B" (.int 0)) (Fn : Fld Z h0 sb zq1 "count" "I" (.int (own_n (W).length))) (Et : Exa Z h0 tb "[B") (Vt : Arv Z h0 tb kt .byte cp (tx W) (.int 0)) (gs : n0 ≤ sb) (gt : n0 ≤ tb) (nst : sb ≠ tb) (Er : Exa Z h0 sr zq0) (Rv : Fld Z h0 sr zq0 "value" "[B" (.ref ru)) (Rc : Fld Z h0 sr zq0 "coder" "B" (.int 0)) (Vr : Arv Z h0 ru kr .byte (own_n (([ca] : List Int32)).length) (tx ([ca] : List Int32)) (.int 0)) (nrt : ru ≠ tb) (nsr : sr ≠ sb) (nsq : sr ≠ tb) (hcp : cp = 16 ∨ cp = 34) (hwc : W.length ≤ cp.toNatClampNeg) (hl : W.length + 4 < 34) (l_ca : own_lat ca) (Sf : Sta Z Z.heap zq9 zq12 zq14 fmt) (hfm : fmt.isRef = true) (OD : Old Z n0 h0) (S2 : Sta Z Z.heap zq0 zq5 "Z" (.int cz)) (hcz : ¬ cz = 0) :
    CtrW l Z consts_1 [tb] (⟨zq15, "escaped", zq24⟩ : MethodName) prog_35_method_6_code 5 none (rQ 6 8 160 160) n0 #[(.ref sr), (.int 1), (.ref sb)] h0 (fun v h sfe => ∃ (t : Addr) (k : ClassId) (cq : Int32), v = none ∧ Keep h0 h [sb, tb] ∧ (t = tb ∨ h0.size ≤ t) ∧ (cq = 16 ∨ cq = 34) ∧ (W ++ (own_escL ([ca] : List Int32))).length ≤ cq.toNatClampNeg ∧ sb ≠ t ∧ Exa Z h sb zq4 ∧ Fld Z h sb zq1 "value" "[B" (.ref t) ∧ Fld Z h sb zq1 "coder" "B" (.int 0) ∧ Fld Z h sb zq1 "count" "I" (.int (own_n ((W ++ (own_escL ([ca] : List Int32)))).length)) ∧ Exa Z h t "[B" ∧ Arv Z h t k .byte cq (tx (W ++ (own_escL ([ca] : List Int32)))) (.int 0) ∧ sfe t) := by
  refine CtrW.of (plainFor_of_name pn4) hn0 ?_
  intro p e s m below meth c T0 C hnm hret hlk X0 H0 hSf
  rw [ef52 m sr (1 : Int32) sb]
  have qn0 := Exa.neArv Es Vr (wd31 hw)
  refine G.f 1 (z := 0) C X0 d52_0 rfl (by decide) <| G.D 2 C X0 d52_1 rfl (l' := #[vR sr, vI 1, vR sb, vI 0, .unset]) rfl <| G.b 3 C X0 d52_2 rfl rfl <| G.a 4 C X0 d52_3 rfl rfl rfl <| G.o 7 (cells' := 0) (slots' := 0) (argsL := []) (St := [(.int 0)]) C X0 (wd283 hw) (wd129 hw) (wd131 hw) (wd130 hw) (by decide) Er (wd132 hw) (wd44 hw) (ctLenA hw X0.2.1 sr ru kr ([ca] : List Int32) cz Er Rv Rc Vr OD S2 hcz) (lenOf pd8 rfl) rfl d52_4 rfl rfl (by decide) (nQ rfl) rfl rfl (by decide) (by decide) (fun v1 T1 h1 Q1 X1 z1 => ?_)
  obtain ⟨hv1, hh1⟩ := Q1
  subst hv1; rw [hh1] at X1
  refine G.t 10 C X1 d52_7 rfl (tlt (by decide : (0 : Int32) < 1)).2.1 <| G.a 11 C X1 d52_10 rfl rfl rfl <| G.b 12 C X1 d52_11 rfl rfl <| G.o 15 (cells' := 0) (slots' := 0) (argsL := [(.int 0)]) (St := []) C X1 (wd284 hw) (wd285 hw) (wd287 hw) (wd286 hw) (by decide) Er (wd288 hw) (wd44 hw) (ctCaA hw X1.2.1 sr ru kr ([ca] : List Int32) (0 : Int32) fmt cz Er Rv Rc Vr (by decide) (show (0 : Int32) < (1 : Int32) from by decide) (show 0 < 1 from by decide) (own_alS l_ca own_al0) OD Sf hfm S2 hcz) (lenOf pd25 rfl) rfl d52_12 rfl rfl (by decide) (nQ rfl) rfl rfl (by decide) (by decide) (fun v2 T2 h2 Q2 X2 z2 => ?_)
  obtain ⟨hv2, hh2⟩ := Q2
  subst hv2; rw [hh2] at X2
  refine G.w 17 C X2 d52_15 rfl (l' := #[vR sr, vI 1, vR sb, vI 0, vI ca]) rfl <| G.g 19 C X2 d52_17 rfl rfl <| G.j 21 (z := 92) C X2 d52_19 rfl (by decide) ?_
  by_cases pa0 : ca = (92 : Int32)
  · refine G.t 24 C X2 d52_21 rfl (teq pa0).2 <| G.a 25 C X2 d52_24 rfl rfl rfl <| G.F 27 (n := 8) (cells' := 2) (slots' := 12) (z := (2 : Int32)) (vs := [(.int 92), (.int 92)]) C X2 (ew hw) H0 (wd302 hw) (wS hw) (List.mem_of_getElem? (i := 1) rfl) ⟨by decide +kernel, by first | rfl | decide +kernel⟩ (by decide) rfl d52_25 rfl (by decide +kernel) (by decide) rfl rfl (by decide) (by decide) (fun vm4 T4 h4 a4 b4 k4 C4 X4 Hd4 E4 R4 A4 F4a F4b V4 sf4 => ?_)
    have K5 := (Keep.refl h0 [sb, tb]).ext E4
    have f6 := (Es.ext E4)
    have sn7 := sf4 sb (Safe.exa (EL := consts_1) C4.2.1.alike f6 (by decide) (by decide))
    have sn8 := sf4 tb (CHr.safe R4 Et.lt (hSf _ (List.mem_of_getElem? (i := 0) rfl)))
    have Vx9 : Arv Z h4 b4 k4 .byte (own_n (([92, 92] : List Int32)).length) (tx ([92, 92] : List Int32)) (.int 0) := V4
    have f10 := (Fv.ext E4)
    have f11 := (Fc.ext E4)
    have f12 := (Fn.ext E4)
    have f13 := (Et.ext E4)
    have f14 := (Vt.ext E4)
    have f15 := (Er.ext E4)
    have f16 := (Vr.ext E4)
    have f17 := (OD.ext E4)
    refine G.o 30 (cells' := 3) (slots' := 46) (argsL := [(.ref a4)]) (St := []) C4 X4 (wd252 hw) (wd253 hw) (wd255 hw) (wd254 hw) (by decide) f6 (wd256 hw) (wd32 hw) (ctAppA hw X4.2.1 sb tb kt W cp a4 b4 k4 ([92, 92] : List Int32) cz f6 f10 f11 f12 f13 f14 gs gt nst A4 F4b F4a Vx9 (Ne.symm sn8.2) (Ne.symm sn7.1) (Ne.symm sn8.1) (by first | omega | (simp only [List.length_append, List.length_cons, List.length_nil]; omega)) hcp hwc (by first | omega | (simp only [List.length_append, List.length_cons, List.length_nil]; omega)) f17 S2 hcz) (lenOf pd34 rfl) rfl d52_27 rfl rfl (by decide) (nQ rfl) rfl rfl (by decide) (by decide) (fun v18 T18 h18 Q18 X18 z18 => ?_)
    obtain ⟨t18, k18, cq18, hv18, K18, hf18, hq18, hwl18, ns18, Es18, Fv18, Fc18, Fn18, Et18, Vt18⟩ := Q18
    subst hv18
    have Hd19 := Hd4.keep K18 (allS (Safe.exa (EL := consts_1) C4.2.1.alike f6 (by decide) (by decide)) (allS (CHr.safe R4 Et.lt (hSf _ (List.mem_of_getElem? (i := 0) rfl))) all0))
    have K20 := K5.trans K18 (allS (mQ 0 rfl) (allS (mQ 1 rfl) all0))
    have ga18 : n0 ≤ t18 := own_frg hf18 gt X4.2.1
    have iw18 : t18 ∈ [sb, tb] ∨ h0.size ≤ t18 := own_frw hf18 (mQ 1 rfl) K5.1
    have Sf18 : Safe Z consts_1 vm4 h18 t18 := by
      rcases hf18 with e | e
      · rw [e]; exact Safe.keep K18 (allS (Safe.exa (EL := consts_1) C4.2.1.alike f6 (by decide) (by decide)) (allS (CHr.safe R4 Et.lt (hSf _ (List.mem_of_getElem? (i := 0) rfl))) all0)) Hd4.cv (CHr.safe R4 Et.lt (hSf _ (List.mem_of_getElem? (i := 0) rfl)))
      · exact Safe.keep K18 (allS (Safe.exa (EL := consts_1) C4.2.1.alike f6 (by decide) (by decide)) (allS (CHr.safe R4 Et.lt (hSf _ (List.mem_of_getElem? (i := 0) rfl))) all0)) Hd4.cv (Safe.new e)
    have hg18 : t18 = tb ∨ h0.size ≤ t18 := own_frt hf18 (Or.inl rfl) K5.1
    refine G.v 31 C4 X18 d52_30 rfl rfl <| G.r 79 C4 X18 d52_31 (by decide) (by decide) <| G.y 82 C4 X18 d52_79 rfl rfl (z := (1 : Int32)) (by decide) (l' := #[vR sr, vI 1, vR sb, vI 1, vI ca]) rfl <| G.r 2 C4 X18 d52_82 (by decide) (by decide) <| G.b 3 C4 X18 d52_2 rfl rfl <| G.a 4 C4 X18 d52_3 rfl rfl rfl ?_
    have f21 := (f15.keep K18)
    have f22 := ((Rv.ext E4).keep K18 (ninS nsr (ninS nsq nin0)))
    have f23 := ((Rc.ext E4).keep K18 (ninS nsr (ninS nsq nin0)))
    have f24 := (f16.keep K18 (ninS (Ne.symm qn0) (ninS nrt nin0)))
    have f25 := (f17.keep K18 (allS gs (allS gt all0)))
    refine G.o 7 (cells' := 3) (slots' := 46) (argsL := []) (St := [(.int 1)]) C4 X18 (wd283 hw) (wd129 hw) (wd131 hw) (wd130 hw) (by decide) f21 (wd132 hw) (wd44 hw) (ctLenA hw X18.2.1 sr ru kr ([ca] : List Int32) cz f21 f22 f23 f24 f25 S2 hcz) (lenOf pd8 rfl) rfl d52_4 rfl rfl (by decide) (nQ rfl) rfl rfl (by decide) (by decide) (fun v26 T26 h26 Q26 X26 z26 => ?_)
    obtain ⟨hv26, hh26⟩ := Q26
    subst hv26; rw [hh26] at X26
    refine G.q 85 C4 X26 d52_7 (flt (by decide : ¬ (1 : Int32) < 1)).2.1 (by decide) (by decide) ?_
    have he27 : W ++ (own_escL ([ca] : List Int32)) = (W ++ ([92, 92] : List Int32)) := by
      simp only [own_escL]
      rw [own_ea pa0]
      first | done | rfl | simp only [List.append_assoc, List.cons_append, List.nil_append, List.append_nil]
    exact G.H C4 X26 (ew hw) Hd19 d52_85 hret hlk (fun S' hm => (by rw [he27]; exact ⟨t18, k18, cq18, rfl, K20, hg18, hq18, hwl18, ns18, Es18, Fv18, Fc18, Fn18, Et18, Vt18, hm _ Vt18.lt Sf18⟩)) (by decide) (by decide)
  · refine G.q 34 C X2 d52_21 (feq pa0).2 (by decide) (by decide) <| G.g 36 C X2 d52_34 rfl rfl <| G.j 38 (z := 10) C X2 d52_36 rfl (by decide) ?_
    by_cases pb0 : ca = (10 : Int32)
    · refine G.t 41 C X2 d52_38 rfl (teq pb0).2 <| G.a 42 C X2 d52_41 rfl rfl rfl <| G.F 44 (n := 8) (cells' := 2) (slots' := 12) (z := (2 : Int32)) (vs := [(.int 92), (.int 110)]) C X2 (ew hw) H0 (wd310 hw) (wS hw) (List.mem_of_getElem? (i := 2) rfl) ⟨by decide +kernel, by first | rfl | decide +kernel⟩ (by decide) rfl d52_42 rfl (by decide +kernel) (by decide) rfl rfl (by decide) (by decide) (fun vm29 T29 h29 a29 b29 k29 C29 X29 Hd29 E29 R29 A29 F29a F29b V29 sf29 => ?_)
      have K30 := (Keep.refl h0 [sb, tb]).ext E29
      have f31 := (Es.ext E29)
      have sn32 := sf29 sb (Safe.exa (EL := consts_1) C29.2.1.alike f31 (by decide) (by decide))
      have sn33 := sf29 tb (CHr.safe R29 Et.lt (hSf _ (List.mem_of_getElem? (i := 0) rfl)))
      have Vx34 : Arv Z h29 b29 k29 .byte (own_n (([92, 110] : List Int32)).length) (tx ([92, 110] : List Int32)) (.int 0) := V29
      have f35 := (Fv.ext E29)
      have f36 := (Fc.ext E29)
      have f37 := (Fn.ext E29)
      have f38 := (Et.ext E29)
      have f39 := (Vt.ext E29)
      have f40 := (Er.ext E29)
      have f41 := (Vr.ext E29)
      have f42 := (OD.ext E29)
      refine G.o 47 (cells' := 3) (slots' := 46) (argsL := [(.ref a29)]) (St := []) C29 X29 (wd252 hw) (wd253 hw) (wd255 hw) (wd254 hw) (by decide) f31 (wd256 hw) (wd32 hw) (ctAppA hw X29.2.1 sb tb kt W cp a29 b29 k29 ([92, 110] : List Int32) cz f31 f35 f36 f37 f38 f39 gs gt nst A29 F29b F29a Vx34 (Ne.symm sn33.2) (Ne.symm sn32.1) (Ne.symm sn33.1) (by first | omega | (simp only [List.length_append, List.length_cons, List.length_nil]; omega)) hcp hwc (by first | omega | (simp only [List.length_append, List.length_cons, List.length_nil]; omega)) f42 S2 hcz) (lenOf pd34 rfl) rfl d52_44 rfl rfl (by decide) (nQ rfl) rfl rfl (by decide) (by decide) (fun v43 T43 h43 Q43 X43 z43 => ?_)
      obtain ⟨t43, k43, cq43, hv43, K43, hf43, hq43, hwl43, ns43, Es43, Fv43, Fc43, Fn43, Et43, Vt43⟩ := Q43
      subst hv43
      have Hd44 := Hd29.keep K43 (allS (Safe.exa (EL := consts_1) C29.2.1.alike f31 (by decide) (by decide)) (allS (CHr.safe R29 Et.lt (hSf _ (List.mem_of_getElem? (i := 0) rfl))) all0))
      have K45 := K30.trans K43 (allS (mQ 0 rfl) (allS (mQ 1 rfl) all0))
      have ga43 : n0 ≤ t43 := own_frg hf43 gt X29.2.1
      have iw43 : t43 ∈ [sb, tb] ∨ h0.size ≤ t43 := own_frw hf43 (mQ 1 rfl) K30.1
      have Sf43 : Safe Z consts_1 vm29 h43 t43 := by
        rcases hf43 with e | e
        · rw [e]; exact Safe.keep K43 (allS (Safe.exa (EL := consts_1) C29.2.1.alike f31 (by decide) (by decide)) (allS (CHr.safe R29 Et.lt (hSf _ (List.mem_of_getElem? (i := 0) rfl))) all0)) Hd29.cv (CHr.safe R29 Et.lt (hSf _ (List.mem_of_getElem? (i := 0) rfl)))
        · exact Safe.keep K43 (allS (Safe.exa (EL := consts_1) C29.2.1.alike f31 (by decide) (by decide)) (allS (CHr.safe R29 Et.lt (hSf _ (List.mem_of_getElem? (i := 0) rfl))) all0)) Hd29.cv (Safe.new e)
      have hg43 : t43 = tb ∨ h0.size ≤ t43 := own_frt hf43 (Or.inl rfl) K30.1
      refine G.v 48 C29 X43 d52_47 rfl rfl <| G.r 79 C29 X43 d52_48 (by decide) (by decide) <| G.y 82 C29 X43 d52_79 rfl rfl (z := (1 : Int32)) (by decide) (l' := #[vR sr, vI 1, vR sb, vI 1, vI ca]) rfl <| G.r 2 C29 X43 d52_82 (by decide) (by decide) <| G.b 3 C29 X43 d52_2 rfl rfl <| G.a 4 C29 X43 d52_3 rfl rfl rfl ?_
      have f46 := (f40.keep K43)
      have f47 := ((Rv.ext E29).keep K43 (ninS nsr (ninS nsq nin0)))
      have f48 := ((Rc.ext E29).keep K43 (ninS nsr (ninS nsq nin0)))
      have f49 := (f41.keep K43 (ninS (Ne.symm qn0) (ninS nrt nin0)))
      have f50 := (f42.keep K43 (allS gs (allS gt all0)))
      refine G.o 7 (cells' := 3) (slots' := 46) (argsL := []) (St := [(.int 1)]) C29 X43 (wd283 hw) (wd129 hw) (wd131 hw) (wd130 hw) (by decide) f46 (wd132 hw) (wd44 hw) (ctLenA hw X43.2.1 sr ru kr ([ca] : List Int32) cz f46 f47 f48 f49 f50 S2 hcz) (lenOf pd8 rfl) rfl d52_4 rfl rfl (by decide) (nQ rfl) rfl rfl (by decide) (by decide) (fun v51 T51 h51 Q51 X51 z51 => ?_)
      obtain ⟨hv51, hh51⟩ := Q51
      subst hv51; rw [hh51] at X51
      refine G.q 85 C29 X51 d52_7 (flt (by decide : ¬ (1 : Int32) < 1)).2.1 (by decide) (by decide) ?_
      have he52 : W ++ (own_escL ([ca] : List Int32)) = (W ++ ([92, 110] : List Int32)) := by
        simp only [own_escL]
        rw [own_eb pa0 pb0]
        first | done | rfl | simp only [List.append_assoc, List.cons_append, List.nil_append, List.append_nil]
      exact G.H C29 X51 (ew hw) Hd44 d52_85 hret hlk (fun S' hm => (by rw [he52]; exact ⟨t43, k43, cq43, rfl, K45, hg43, hq43, hwl43, ns43, Es43, Fv43, Fc43, Fn43, Et43, Vt43, hm _ Vt43.lt Sf43⟩)) (by decide) (by decide)
    · refine G.q 51 C X2 d52_38 (feq pb0).2 (by decide) (by decide) <| G.g 53 C X2 d52_51 rfl rfl <| G.j 55 (z := 34) C X2 d52_53 rfl (by decide) ?_
      by_cases pc0 : ca = (34 : Int32)
      · refine G.t 58 C X2 d52_55 rfl (teq pc0).2 <| G.b 59 C X2 d52_58 rfl rfl <| G.k 62 C X2 d52_59 rfl (feq (by decide : ¬ (1 : Int32) = 0)).1 <| G.a 63 C X2 d52_62 rfl rfl rfl <| G.F 65 (n := 8) (cells' := 2) (slots' := 12) (z := (2 : Int32)) (vs := [(.int 92), (.int 34)]) C X2 (ew hw) H0 (wd311 hw) (wS hw) (List.mem_of_getElem? (i := 3) rfl) ⟨by decide +kernel, by first | rfl | decide +kernel⟩ (by decide) rfl d52_63 rfl (by decide +kernel) (by decide) rfl rfl (by decide) (by decide) (fun vm54 T54 h54 a54 b54 k54 C54 X54 Hd54 E54 R54 A54 F54a F54b V54 sf54 => ?_)
        have K55 := (Keep.refl h0 [sb, tb]).ext E54
        have f56 := (Es.ext E54)
        have sn57 := sf54 sb (Safe.exa (EL := consts_1) C54.2.1.alike f56 (by decide) (by decide))
        have sn58 := sf54 tb (CHr.safe R54 Et.lt (hSf _ (List.mem_of_getElem? (i := 0) rfl)))
        have Vx59 : Arv Z h54 b54 k54 .byte (own_n (([92, 34] : List Int32)).length) (tx ([92, 34] : List Int32)) (.int 0) := V54
        have f60 := (Fv.ext E54)
        have f61 := (Fc.ext E54)
        have f62 := (Fn.ext E54)
        have f63 := (Et.ext E54)
        have f64 := (Vt.ext E54)
        have f65 := (Er.ext E54)
        have f66 := (Vr.ext E54)
        have f67 := (OD.ext E54)
        refine G.o 68 (cells' := 3) (slots' := 46) (argsL := [(.ref a54)]) (St := []) C54 X54 (wd252 hw) (wd253 hw) (wd255 hw) (wd254 hw) (by decide) f56 (wd256 hw) (wd32 hw) (ctAppA hw X54.2.1 sb tb kt W cp a54 b54 k54 ([92, 34] : List Int32) cz f56 f60 f61 f62 f63 f64 gs gt nst A54 F54b F54a Vx59 (Ne.symm sn58.2) (Ne.symm sn57.1) (Ne.symm sn58.1) (by first | omega | (simp only [List.length_append, List.length_cons, List.length_nil]; omega)) hcp hwc (by first | omega | (simp only [List.length_append, List.length_cons, List.length_nil]; omega)) f67 S2 hcz) (lenOf pd34 rfl) rfl d52_65 rfl rfl (by decide) (nQ rfl) rfl rfl (by decide) (by decide) (fun v68 T68 h68 Q68 X68 z68 => ?_)
        obtain ⟨t68, k68, cq68, hv68, K68, hf68, hq68, hwl68, ns68, Es68, Fv68, Fc68, Fn68, Et68, Vt68⟩ := Q68
        subst hv68
        have Hd69 := Hd54.keep K68 (allS (Safe.exa (EL := consts_1) C54.2.1.alike f56 (by decide) (by decide)) (allS (CHr.safe R54 Et.lt (hSf _ (List.mem_of_getElem? (i := 0) rfl))) all0))
        have K70 := K55.trans K68 (allS (mQ 0 rfl) (allS (mQ 1 rfl) all0))
        have ga68 : n0 ≤ t68 := own_frg hf68 gt X54.2.1
        have iw68 : t68 ∈ [sb, tb] ∨ h0.size ≤ t68 := own_frw hf68 (mQ 1 rfl) K55.1
        have Sf68 : Safe Z consts_1 vm54 h68 t68 := by
          rcases hf68 with e | e
          · rw [e]; exact Safe.keep K68 (allS (Safe.exa (EL := consts_1) C54.2.1.alike f56 (by decide) (by decide)) (allS (CHr.safe R54 Et.lt (hSf _ (List.mem_of_getElem? (i := 0) rfl))) all0)) Hd54.cv (CHr.safe R54 Et.lt (hSf _ (List.mem_of_getElem? (i := 0) rfl)))
          · exact Safe.keep K68 (allS (Safe.exa (EL := consts_1) C54.2.1.alike f56 (by decide) (by decide)) (allS (CHr.safe R54 Et.lt (hSf _ (List.mem_of_getElem? (i := 0) rfl))) all0)) Hd54.cv (Safe.new e)
        have hg68 : t68 = tb ∨ h0.size ≤ t68 := own_frt hf68 (Or.inl rfl) K55.1
        refine G.v 69 C54 X68 d52_68 rfl rfl <| G.r 79 C54 X68 d52_69 (by decide) (by decide) <| G.y 82 C54 X68 d52_79 rfl rfl (z := (1 : Int32)) (by decide) (l' := #[vR sr, vI 1, vR sb, vI 1, vI ca]) rfl <| G.r 2 C54 X68 d52_82 (by decide) (by decide) <| G.b 3 C54 X68 d52_2 rfl rfl <| G.a 4 C54 X68 d52_3 rfl rfl rfl ?_
        have f71 := (f65.keep K68)
        have f72 := ((Rv.ext E54).keep K68 (ninS nsr (ninS nsq nin0)))
        have f73 := ((Rc.ext E54).keep K68 (ninS nsr (ninS nsq nin0)))
        have f74 := (f66.keep K68 (ninS (Ne.symm qn0) (ninS nrt nin0)))
        have f75 := (f67.keep K68 (allS gs (allS gt all0)))
        refine G.o 7 (cells' := 3) (slots' := 46) (argsL := []) (St := [(.int 1)]) C54 X68 (wd283 hw) (wd129 hw) (wd131 hw) (wd130 hw) (by decide) f71 (wd132 hw) (wd44 hw) (ctLenA hw X68.2.1 sr ru kr ([ca] : List Int32) cz f71 f72 f73 f74 f75 S2 hcz) (lenOf pd8 rfl) rfl d52_4 rfl rfl (by decide) (nQ rfl) rfl rfl (by decide) (by decide) (fun v76 T76 h76 Q76 X76 z76 => ?_)
        obtain ⟨hv76, hh76⟩ := Q76
        subst hv76; rw [hh76] at X76
        refine G.q 85 C54 X76 d52_7 (flt (by decide : ¬ (1 : Int32) < 1)).2.1 (by decide) (by decide) ?_
        have he77 : W ++ (own_escL ([ca] : List Int32)) = (W ++ ([92, 34] : List Int32)) := by
          simp only [own_escL]
          rw [own_ec pa0 pb0 pc0]
          first | done | rfl | simp only [List.append_assoc, List.cons_append, List.nil_append, List.append_nil]
        exact G.H C54 X76 (ew hw) Hd69 d52_85 hret hlk (fun S' hm => (by rw [he77]; exact ⟨t68, k68, cq68, rfl, K70, hg68, hq68, hwl68, ns68, Es68, Fv68, Fc68, Fn68, Et68, Vt68, hm _ Vt68.lt Sf68⟩)) (by decide) (by decide)
      · refine G.q 72 C X2 d52_55 (feq pc0).2 (by decide) (by decide) <| G.a 73 C X2 d52_72 rfl rfl rfl <| G.g 75 C X2 d52_73 rfl rfl <| G.o 78 (cells' := 1) (slots' := 34) (argsL := [(.int ca)]) (St := []) C X2 (wd214 hw) (wd215 hw) (wd217 hw) (wd216 hw) (by decide) Es (wd218 hw) (wd32 hw) (ctApcA hw X2.2.1 sb tb kt W cp ca cz Es Fv Fc Fn Et Vt gs gt nst l_ca (by first | omega | (simp only [List.length_append, List.length_cons, List.length_nil]; omega)) hcp hwc (by first | omega | (simp only [List.length_append, List.length_cons, List.length_nil]; omega)) OD S2 hcz) (lenOf pd35 rfl) rfl d52_75 rfl rfl (by decide) (nQ rfl) rfl rfl (by decide) (by decide) (fun v78 T78 h78 Q78 X78 z78 => ?_)
        obtain ⟨t78, k78, cq78, hv78, K78, hf78, hq78, hwl78, ns78, Es78, Fv78, Fc78, Fn78, Et78, Vt78⟩ := Q78
        subst hv78
        have Hd79 := H0.keep K78 (allS (Safe.exa (EL := consts_1) C.2.1.alike Es (by decide) (by decide)) (allS (hSf _ (List.mem_of_getElem? (i := 0) rfl)) all0))
        have K80 := (Keep.refl h0 [sb, tb]).trans K78 (allS (mQ 0 rfl) (allS (mQ 1 rfl) all0))
        have ga78 : n0 ≤ t78 := own_frg hf78 gt X2.2.1
        have iw78 : t78 ∈ [sb, tb] ∨ h0.size ≤ t78 := own_frw hf78 (mQ 1 rfl) (Keep.refl h0 [sb, tb]).1
        have Sf78 : Safe Z consts_1 s.vm h78 t78 := by
          rcases hf78 with e | e
          · rw [e]; exact Safe.keep K78 (allS (Safe.exa (EL := consts_1) C.2.1.alike Es (by decide) (by decide)) (allS (hSf _ (List.mem_of_getElem? (i := 0) rfl)) all0)) H0.cv (hSf _ (List.mem_of_getElem? (i := 0) rfl))
          · exact Safe.keep K78 (allS (Safe.exa (EL := consts_1) C.2.1.alike Es (by decide) (by decide)) (allS (hSf _ (List.mem_of_getElem? (i := 0) rfl)) all0)) H0.cv (Safe.new e)
        have hg78 : t78 = tb ∨ h0.size ≤ t78 := hf78
        refine G.v 79 C X78 d52_78 rfl rfl <| G.y 82 C X78 d52_79 rfl rfl (z := (1 : Int32)) (by decide) (l' := #[vR sr, vI 1, vR sb, vI 1, vI ca]) rfl <| G.r 2 C X78 d52_82 (by decide) (by decide) <| G.b 3 C X78 d52_2 rfl rfl <| G.a 4 C X78 d52_3 rfl rfl rfl ?_
        have f81 := (Er.keep K78)
        have f82 := (Rv.keep K78 (ninS nsr (ninS nsq nin0)))
        have f83 := (Rc.keep K78 (ninS nsr (ninS nsq nin0)))
        have f84 := (Vr.keep K78 (ninS (Ne.symm qn0) (ninS nrt nin0)))
        have f85 := (OD.keep K78 (allS gs (allS gt all0)))
        refine G.o 7 (cells' := 1) (slots' := 34) (argsL := []) (St := [(.int 1)]) C X78 (wd283 hw) (wd129 hw) (wd131 hw) (wd130 hw) (by decide) f81 (wd132 hw) (wd44 hw) (ctLenA hw X78.2.1 sr ru kr ([ca] : List Int32) cz f81 f82 f83 f84 f85 S2 hcz) (lenOf pd8 rfl) rfl d52_4 rfl rfl (by decide) (nQ rfl) rfl rfl (by decide) (by decide) (fun v86 T86 h86 Q86 X86 z86 => ?_)
        obtain ⟨hv86, hh86⟩ := Q86
        subst hv86; rw [hh86] at X86
        refine G.q 85 C X86 d52_7 (flt (by decide : ¬ (1 : Int32) < 1)).2.1 (by decide) (by decide) ?_
        have he87 : W ++ (own_escL ([ca] : List Int32)) = (W ++ [ca]) := by
          simp only [own_escL]
          rw [own_ed pa0 pb0 pc0]
          first | done | rfl | simp only [List.append_assoc, List.cons_append, List.nil_append, List.append_nil]
        exact G.H C X86 (ew hw) Hd79 d52_85 hret hlk (fun S' hm => (by rw [he87]; exact ⟨t78, k78, cq78, rfl, K80, hg78, hq78, hwl78, ns78, Es78, Fv78, Fc78, Fn78, Et78, Vt78, hm _ Vt78.lt Sf78⟩)) (by decide) (by decide)
theorem ctEsc2 {l : Launch} {Z : State} {a0 : Array Value} (hw : HW a0 Z) {n0 : Nat} {h0 : Heap} (hn0 : n0 ≤ h0.size) (sb tb : Addr) (kt : ClassId) (W : List Int32) (cp : Int32) (sr ru : Addr) (kr : ClassId) (ca cb : Int32) (cz : Int32) (fmt : Value) (Es : Exa Z h0 sb zq4) (Fv : Fld Z h0 sb zq1 "value" "[B" (.ref tb)) (Fc : Fld Z h0 sb zq1 "coder" "B" (.int 0)) (Fn : Fld Z h0 sb zq1 "count" "I" (.int (own_n (W).length))) (Et : Exa Z h0 tb "[B") (Vt : Arv Z h0 tb kt .byte cp (tx W) (.int 0)) (gs : n0 ≤ sb) (gt : n0 ≤ tb) (nst : sb ≠ tb) (Er : Exa Z h0 sr zq0) (Rv : Fld Z h0 sr zq0 "value" "[B" (.ref ru)) (Rc : Fld Z h0 sr zq0 "coder" "B" (.int 0)) (Vr : Arv Z h0 ru kr .byte (own_n (([ca, cb] : List Int32)).length) (tx ([ca, cb] : List Int32)) (.int 0)) (nrt : ru ≠ tb) (nsr : sr ≠ sb) (nsq : sr ≠ tb) (hcp : cp = 16 ∨ cp = 34) (hwc : W.length ≤ cp.toNatClampNeg) (hl : W.length + 4 < 34) (l_ca : own_lat ca) (l_cb : own_lat cb) (Sf : Sta Z Z.heap zq9 zq12 zq14 fmt) (hfm : fmt.isRef = true) (OD : Old Z n0 h0) (S2 : Sta Z Z.heap zq0 zq5 "Z" (.int cz)) (hcz : ¬ cz = 0) :
    CtrW l Z consts_1 [tb] (⟨zq15, "escaped", zq24⟩ : MethodName) prog_35_method_6_code 5 none (rQ 6 8 160 160) n0 #[(.ref sr), (.int 1), (.ref sb)] h0 (fun v h sfe => ∃ (t : Addr) (k : ClassId) (cq : Int32), v = none ∧ Keep h0 h [sb, tb] ∧ (t = tb ∨ h0.size ≤ t) ∧ (cq = 16 ∨ cq = 34) ∧ (W ++ (own_escL ([ca, cb] : List Int32))).length ≤ cq.toNatClampNeg ∧ sb ≠ t ∧ Exa Z h sb zq4 ∧ Fld Z h sb zq1 "value" "[B" (.ref t) ∧ Fld Z h sb zq1 "coder" "B" (.int 0) ∧ Fld Z h sb zq1 "count" "I" (.int (own_n ((W ++ (own_escL ([ca, cb] : List Int32)))).length)) ∧ Exa Z h t "[B" ∧ Arv Z h t k .byte cq (tx (W ++ (own_escL ([ca, cb] : List Int32)))) (.int 0) ∧ sfe t) := by
  refine CtrW.of (plainFor_of_name pn4) hn0 ?_
  intro p e s m below meth c T0 C hnm hret hlk X0 H0 hSf
  rw [ef52 m sr (1 : Int32) sb]
  have qn0 := Exa.neArv Es Vr (wd31 hw)
  refine G.f 1 (z := 0) C X0 d52_0 rfl (by decide) <| G.D 2 C X0 d52_1 rfl (l' := #[vR sr, vI 1, vR sb, vI 0, .unset]) rfl <| G.b 3 C X0 d52_2 rfl rfl <| G.a 4 C X0 d52_3 rfl rfl rfl <| G.o 7 (cells' := 0) (slots' := 0) (argsL := []) (St := [(.int 0)]) C X0 (wd283 hw) (wd129 hw) (wd131 hw) (wd130 hw) (by decide) Er (wd132 hw) (wd44 hw) (ctLenA hw X0.2.1 sr ru kr ([ca, cb] : List Int32) cz Er Rv Rc Vr OD S2 hcz) (lenOf pd8 rfl) rfl d52_4 rfl rfl (by decide) (nQ rfl) rfl rfl (by decide) (by decide) (fun v1 T1 h1 Q1 X1 z1 => ?_)
  obtain ⟨hv1, hh1⟩ := Q1
  subst hv1; rw [hh1] at X1
  refine G.t 10 C X1 d52_7 rfl (tlt (by decide : (0 : Int32) < 2)).2.1 <| G.a 11 C X1 d52_10 rfl rfl rfl <| G.b 12 C X1 d52_11 rfl rfl <| G.o 15 (cells' := 0) (slots' := 0) (argsL := [(.int 0)]) (St := []) C X1 (wd284 hw) (wd285 hw) (wd287 hw) (wd286 hw) (by decide) Er (wd288 hw) (wd44 hw) (ctCaA hw X1.2.1 sr ru kr ([ca, cb] : List Int32) (0 : Int32) fmt cz Er Rv Rc Vr (by decide) (show (0 : Int32) < (2 : Int32) from by decide) (show 0 < 2 from by decide) (own_alS l_ca (own_alS l_cb own_al0)) OD Sf hfm S2 hcz) (lenOf pd25 rfl) rfl d52_12 rfl rfl (by decide) (nQ rfl) rfl rfl (by decide) (by decide) (fun v2 T2 h2 Q2 X2 z2 => ?_)
  obtain ⟨hv2, hh2⟩ := Q2
  subst hv2; rw [hh2] at X2
  refine G.w 17 C X2 d52_15 rfl (l' := #[vR sr, vI 1, vR sb, vI 0, vI ca]) rfl <| G.g 19 C X2 d52_17 rfl rfl <| G.j 21 (z := 92) C X2 d52_19 rfl (by decide) ?_
  by_cases pa0 : ca = (92 : Int32)
  · refine G.t 24 C X2 d52_21 rfl (teq pa0).2 <| G.a 25 C X2 d52_24 rfl rfl rfl <| G.F 27 (n := 8) (cells' := 2) (slots' := 12) (z := (2 : Int32)) (vs := [(.int 92), (.int 92)]) C X2 (ew hw) H0 (wd302 hw) (wS hw) (List.mem_of_getElem? (i := 1) rfl) ⟨by decide +kernel, by first | rfl | decide +kernel⟩ (by decide) rfl d52_25 rfl (by decide +kernel) (by decide) rfl rfl (by decide) (by decide) (fun vm4 T4 h4 a4 b4 k4 C4 X4 Hd4 E4 R4 A4 F4a F4b V4 sf4 => ?_)
    have K5 := (Keep.refl h0 [sb, tb]).ext E4
    have f6 := (Es.ext E4)
    have sn7 := sf4 sb (Safe.exa (EL := consts_1) C4.2.1.alike f6 (by decide) (by decide))
    have sn8 := sf4 tb (CHr.safe R4 Et.lt (hSf _ (List.mem_of_getElem? (i := 0) rfl)))
    have Vx9 : Arv Z h4 b4 k4 .byte (own_n (([92, 92] : List Int32)).length) (tx ([92, 92] : List Int32)) (.int 0) := V4
    have f10 := (Fv.ext E4)
    have f11 := (Fc.ext E4)
    have f12 := (Fn.ext E4)
    have f13 := (Et.ext E4)
    have f14 := (Vt.ext E4)
    have f15 := (Er.ext E4)
    have f16 := (Vr.ext E4)
    have f17 := (OD.ext E4)
    refine G.o 30 (cells' := 3) (slots' := 46) (argsL := [(.ref a4)]) (St := []) C4 X4 (wd252 hw) (wd253 hw) (wd255 hw) (wd254 hw) (by decide) f6 (wd256 hw) (wd32 hw) (ctAppA hw X4.2.1 sb tb kt W cp a4 b4 k4 ([92, 92] : List Int32) cz f6 f10 f11 f12 f13 f14 gs gt nst A4 F4b F4a Vx9 (Ne.symm sn8.2) (Ne.symm sn7.1) (Ne.symm sn8.1) (by first | omega | (simp only [List.length_append, List.length_cons, List.length_nil]; omega)) hcp hwc (by first | omega | (simp only [List.length_append, List.length_cons, List.length_nil]; omega)) f17 S2 hcz) (lenOf pd34 rfl) rfl d52_27 rfl rfl (by decide) (nQ rfl) rfl rfl (by decide) (by decide) (fun v18 T18 h18 Q18 X18 z18 => ?_)
    obtain ⟨t18, k18, cq18, hv18, K18, hf18, hq18, hwl18, ns18, Es18, Fv18, Fc18, Fn18, Et18, Vt18⟩ := Q18
    subst hv18
    have Hd19 := Hd4.keep K18 (allS (Safe.exa (EL := consts_1) C4.2.1.alike f6 (by decide) (by decide)) (allS (CHr.safe R4 Et.lt (hSf _ (List.mem_of_getElem? (i := 0) rfl))) all0))
    have K20 := K5.trans K18 (allS (mQ 0 rfl) (allS (mQ 1 rfl) all0))
    have nb18_sr : sr ≠ t18 := own_frn hf18 nsq f15.lt
    have nb18_ru : ru ≠ t18 := own_frn hf18 nrt f16.lt
    have ga18 : n0 ≤ t18 := own_frg hf18 gt X4.2.1
    have iw18 : t18 ∈ [sb, tb] ∨ h0.size ≤ t18 := own_frw hf18 (mQ 1 rfl) K5.1
    have Sf18 : Safe Z consts_1 vm4 h18 t18 := by
      rcases hf18 with e | e
      · rw [e]; exact Safe.keep K18 (allS (Safe.exa (EL := consts_1) C4.2.1.alike f6 (by decide) (by decide)) (allS (CHr.safe R4 Et.lt (hSf _ (List.mem_of_getElem? (i := 0) rfl))) all0)) Hd4.cv (CHr.safe R4 Et.lt (hSf _ (List.mem_of_getElem? (i := 0) rfl)))
      · exact Safe.keep K18 (allS (Safe.exa (EL := consts_1) C4.2.1.alike f6 (by decide) (by decide)) (allS (CHr.safe R4 Et.lt (hSf _ (List.mem_of_getElem? (i := 0) rfl))) all0)) Hd4.cv (Safe.new e)
    have hg18 : t18 = tb ∨ h0.size ≤ t18 := own_frt hf18 (Or.inl rfl) K5.1
    refine G.v 31 C4 X18 d52_30 rfl rfl <| G.r 79 C4 X18 d52_31 (by decide) (by decide) <| G.y 82 C4 X18 d52_79 rfl rfl (z := (1 : Int32)) (by decide) (l' := #[vR sr, vI 1, vR sb, vI 1, vI ca]) rfl <| G.r 2 C4 X18 d52_82 (by decide) (by decide) <| G.b 3 C4 X18 d52_2 rfl rfl <| G.a 4 C4 X18 d52_3 rfl rfl rfl ?_
    have f21 := (f15.keep K18)
    have f22 := ((Rv.ext E4).keep K18 (ninS nsr (ninS nsq nin0)))
    have f23 := ((Rc.ext E4).keep K18 (ninS nsr (ninS nsq nin0)))
    have f24 := (f16.keep K18 (ninS (Ne.symm qn0) (ninS nrt nin0)))
    have f25 := (f17.keep K18 (allS gs (allS gt all0)))
    refine G.o 7 (cells' := 3) (slots' := 46) (argsL := []) (St := [(.int 1)]) C4 X18 (wd283 hw) (wd129 hw) (wd131 hw) (wd130 hw) (by decide) f21 (wd132 hw) (wd44 hw) (ctLenA hw X18.2.1 sr ru kr ([ca, cb] : List Int32) cz f21 f22 f23 f24 f25 S2 hcz) (lenOf pd8 rfl) rfl d52_4 rfl rfl (by decide) (nQ rfl) rfl rfl (by decide) (by decide) (fun v26 T26 h26 Q26 X26 z26 => ?_)
    obtain ⟨hv26, hh26⟩ := Q26
    subst hv26; rw [hh26] at X26
    refine G.t 10 C4 X26 d52_7 rfl (tlt (by decide : (1 : Int32) < 2)).2.1 <| G.a 11 C4 X26 d52_10 rfl rfl rfl <| G.b 12 C4 X26 d52_11 rfl rfl <| G.o 15 (cells' := 3) (slots' := 46) (argsL := [(.int 1)]) (St := []) C4 X26 (wd284 hw) (wd285 hw) (wd287 hw) (wd286 hw) (by decide) f21 (wd288 hw) (wd44 hw) (ctCaA hw X26.2.1 sr ru kr ([ca, cb] : List Int32) (1 : Int32) fmt cz f21 f22 f23 f24 (by decide) (show (1 : Int32) < (2 : Int32) from by decide) (show 1 < 2 from by decide) (own_alS l_ca (own_alS l_cb own_al0)) f25 Sf hfm S2 hcz) (lenOf pd25 rfl) rfl d52_12 rfl rfl (by decide) (nQ rfl) rfl rfl (by decide) (by decide) (fun v27 T27 h27 Q27 X27 z27 => ?_)
    obtain ⟨hv27, hh27⟩ := Q27
    subst hv27; rw [hh27] at X27
    refine G.w 17 C4 X27 d52_15 rfl (l' := #[vR sr, vI 1, vR sb, vI 1, vI cb]) rfl <| G.g 19 C4 X27 d52_17 rfl rfl <| G.j 21 (z := 92) C4 X27 d52_19 rfl (by decide) ?_
    by_cases pa1 : cb = (92 : Int32)
    · refine G.t 24 C4 X27 d52_21 rfl (teq pa1).2 <| G.a 25 C4 X27 d52_24 rfl rfl rfl <| G.F 27 (n := 8) (cells' := 5) (slots' := 58) (z := (2 : Int32)) (vs := [(.int 92), (.int 92)]) C4 X27 (ew hw) Hd19 (wd302 hw) (wS hw) (List.mem_of_getElem? (i := 1) rfl) ⟨by decide +kernel, by first | rfl | decide +kernel⟩ (by decide) rfl d52_25 rfl (by decide +kernel) (by decide) rfl rfl (by decide) (by decide) (fun vm29 T29 h29 a29 b29 k29 C29 X29 Hd29 E29 R29 A29 F29a F29b V29 sf29 => ?_)
      have K30 := K20.ext E29
      have f31 := (Es18.ext E29)
      have sn32 := sf29 sb (Safe.exa (EL := consts_1) C29.2.1.alike f31 (by decide) (by decide))
      have sn33 := sf29 t18 (CHr.safe R29 Et18.lt Sf18)
      have Vx34 : Arv Z h29 b29 k29 .byte (own_n (([92, 92] : List Int32)).length) (tx ([92, 92] : List Int32)) (.int 0) := V29
      have f35 := (Fv18.ext E29)
      have f36 := (Fc18.ext E29)
      have f37 := (Fn18.ext E29)
      have f38 := (Et18.ext E29)
      have f39 := (Vt18.ext E29)
      have f40 := (f21.ext E29)
      have f41 := (f24.ext E29)
      have f44 := (f25.ext E29)
      refine G.o 30 (cells' := 6) (slots' := 92) (argsL := [(.ref a29)]) (St := []) C29 X29 (wd252 hw) (wd253 hw) (wd255 hw) (wd254 hw) (by decide) f31 (wd256 hw) (wd32 hw) (ctAppA hw X29.2.1 sb t18 k18 (W ++ ([92, 92] : List Int32)) cq18 a29 b29 k29 ([92, 92] : List Int32) cz f31 f35 f36 f37 f38 f39 gs ga18 ns18 A29 F29b F29a Vx34 (Ne.symm sn33.2) (Ne.symm sn32.1) (Ne.symm sn33.1) (by first | omega | (simp only [List.length_append, List.length_cons, List.length_nil]; omega)) hq18 hwl18 (by first | omega | (simp only [List.length_append, List.length_cons, List.length_nil]; omega)) f44 S2 hcz) (lenOf pd34 rfl) rfl d52_27 rfl rfl (by decide) (nQ rfl) rfl rfl (by decide) (by decide) (fun v45 T45 h45 Q45 X45 z45 => ?_)
      obtain ⟨t45, k45, cq45, hv45, K45, hf45, hq45, hwl45, ns45, Es45, Fv45, Fc45, Fn45, Et45, Vt45⟩ := Q45
      subst hv45
      have Hd46 := Hd29.keep K45 (allS (Safe.exa (EL := consts_1) C29.2.1.alike f31 (by decide) (by decide)) (allS (CHr.safe R29 Et18.lt Sf18) all0))
      have K47 := K30.trans K45 (allS (mQ 0 rfl) (allS iw18 all0))
      have ga45 : n0 ≤ t45 := own_frg hf45 ga18 X29.2.1
      have iw45 : t45 ∈ [sb, tb] ∨ h0.size ≤ t45 := own_frw hf45 iw18 K30.1
      have Sf45 : Safe Z consts_1 vm29 h45 t45 := by
        rcases hf45 with e | e
        · rw [e]; exact Safe.keep K45 (allS (Safe.exa (EL := consts_1) C29.2.1.alike f31 (by decide) (by decide)) (allS (CHr.safe R29 Et18.lt Sf18) all0)) Hd29.cv (CHr.safe R29 Et18.lt Sf18)
        · exact Safe.keep K45 (allS (Safe.exa (EL := consts_1) C29.2.1.alike f31 (by decide) (by decide)) (allS (CHr.safe R29 Et18.lt Sf18) all0)) Hd29.cv (Safe.new e)
      have hg45 : t45 = tb ∨ h0.size ≤ t45 := own_frt hf45 hg18 K30.1
      refine G.v 31 C29 X45 d52_30 rfl rfl <| G.r 79 C29 X45 d52_31 (by decide) (by decide) <| G.y 82 C29 X45 d52_79 rfl rfl (z := (2 : Int32)) (by decide) (l' := #[vR sr, vI 1, vR sb, vI 2, vI cb]) rfl <| G.r 2 C29 X45 d52_82 (by decide) (by decide) <| G.b 3 C29 X45 d52_2 rfl rfl <| G.a 4 C29 X45 d52_3 rfl rfl rfl ?_
      have f48 := (f40.keep K45)
      have f49 := ((f22.ext E29).keep K45 (ninS nsr (ninS nb18_sr nin0)))
      have f50 := ((f23.ext E29).keep K45 (ninS nsr (ninS nb18_sr nin0)))
      have f51 := (f41.keep K45 (ninS (Ne.symm qn0) (ninS nb18_ru nin0)))
      have f52 := (f44.keep K45 (allS gs (allS ga18 all0)))
      refine G.o 7 (cells' := 6) (slots' := 92) (argsL := []) (St := [(.int 2)]) C29 X45 (wd283 hw) (wd129 hw) (wd131 hw) (wd130 hw) (by decide) f48 (wd132 hw) (wd44 hw) (ctLenA hw X45.2.1 sr ru kr ([ca, cb] : List Int32) cz f48 f49 f50 f51 f52 S2 hcz) (lenOf pd8 rfl) rfl d52_4 rfl rfl (by decide) (nQ rfl) rfl rfl (by decide) (by decide) (fun v53 T53 h53 Q53 X53 z53 => ?_)
      obtain ⟨hv53, hh53⟩ := Q53
      subst hv53; rw [hh53] at X53
      refine G.q 85 C29 X53 d52_7 (flt (by decide : ¬ (2 : Int32) < 2)).2.1 (by decide) (by decide) ?_
      have he54 : W ++ (own_escL ([ca, cb] : List Int32)) = ((W ++ ([92, 92] : List Int32)) ++ ([92, 92] : List Int32)) := by
        simp only [own_escL]
        rw [own_ea pa0, own_ea pa1]
        first | done | rfl | simp only [List.append_assoc, List.cons_append, List.nil_append, List.append_nil]
      exact G.H C29 X53 (ew hw) Hd46 d52_85 hret hlk (fun S' hm => (by rw [he54]; exact ⟨t45, k45, cq45, rfl, K47, hg45, hq45, hwl45, ns45, Es45, Fv45, Fc45, Fn45, Et45, Vt45, hm _ Vt45.lt Sf45⟩)) (by decide) (by decide)
    · refine G.q 34 C4 X27 d52_21 (feq pa1).2 (by decide) (by decide) <| G.g 36 C4 X27 d52_34 rfl rfl <| G.j 38 (z := 10) C4 X27 d52_36 rfl (by decide) ?_
      by_cases pb1 : cb = (10 : Int32)
      · refine G.t 41 C4 X27 d52_38 rfl (teq pb1).2 <| G.a 42 C4 X27 d52_41 rfl rfl rfl <| G.F 44 (n := 8) (cells' := 5) (slots' := 58) (z := (2 : Int32)) (vs := [(.int 92), (.int 110)]) C4 X27 (ew hw) Hd19 (wd310 hw) (wS hw) (List.mem_of_getElem? (i := 2) rfl) ⟨by decide +kernel, by first | rfl | decide +kernel⟩ (by decide) rfl d52_42 rfl (by decide +kernel) (by decide) rfl rfl (by decide) (by decide) (fun vm56 T56 h56 a56 b56 k56 C56 X56 Hd56 E56 R56 A56 F56a F56b V56 sf56 => ?_)
        have K57 := K20.ext E56
        have f58 := (Es18.ext E56)
        have sn59 := sf56 sb (Safe.exa (EL := consts_1) C56.2.1.alike f58 (by decide) (by decide))
        have sn60 := sf56 t18 (CHr.safe R56 Et18.lt Sf18)
        have Vx61 : Arv Z h56 b56 k56 .byte (own_n (([92, 110] : List Int32)).length) (tx ([92, 110] : List Int32)) (.int 0) := V56
        have f62 := (Fv18.ext E56)
        have f63 := (Fc18.ext E56)
        have f64 := (Fn18.ext E56)
        have f65 := (Et18.ext E56)
        have f66 := (Vt18.ext E56)
        have f67 := (f21.ext E56)
        have f68 := (f24.ext E56)
        have f71 := (f25.ext E56)
        refine G.o 47 (cells' := 6) (slots' := 92) (argsL := [(.ref a56)]) (St := []) C56 X56 (wd252 hw) (wd253 hw) (wd255 hw) (wd254 hw) (by decide) f58 (wd256 hw) (wd32 hw) (ctAppA hw X56.2.1 sb t18 k18 (W ++ ([92, 92] : List Int32)) cq18 a56 b56 k56 ([92, 110] : List Int32) cz f58 f62 f63 f64 f65 f66 gs ga18 ns18 A56 F56b F56a Vx61 (Ne.symm sn60.2) (Ne.symm sn59.1) (Ne.symm sn60.1) (by first | omega | (simp only [List.length_append, List.length_cons, List.length_nil]; omega)) hq18 hwl18 (by first | omega | (simp only [List.length_append, List.length_cons, List.length_nil]; omega)) f71 S2 hcz) (lenOf pd34 rfl) rfl d52_44 rfl rfl (by decide) (nQ rfl) rfl rfl (by decide) (by decide) (fun v72 T72 h72 Q72 X72 z72 => ?_)
        obtain ⟨t72, k72, cq72, hv72, K72, hf72, hq72, hwl72, ns72, Es72, Fv72, Fc72, Fn72, Et72, Vt72⟩ := Q72
        subst hv72
        have Hd73 := Hd56.keep K72 (allS (Safe.exa (EL := consts_1) C56.2.1.alike f58 (by decide) (by decide)) (allS (CHr.safe R56 Et18.lt Sf18) all0))
        have K74 := K57.trans K72 (allS (mQ 0 rfl) (allS iw18 all0))
        have ga72 : n0 ≤ t72 := own_frg hf72 ga18 X56.2.1
        have iw72 : t72 ∈ [sb, tb] ∨ h0.size ≤ t72 := own_frw hf72 iw18 K57.1
        have Sf72 : Safe Z consts_1 vm56 h72 t72 := by
          rcases hf72 with e | e
          · rw [e]; exact Safe.keep K72 (allS (Safe.exa (EL := consts_1) C56.2.1.alike f58 (by decide) (by decide)) (allS (CHr.safe R56 Et18.lt Sf18) all0)) Hd56.cv (CHr.safe R56 Et18.lt Sf18)
          · exact Safe.keep K72 (allS (Safe.exa (EL := consts_1) C56.2.1.alike f58 (by decide) (by decide)) (allS (CHr.safe R56 Et18.lt Sf18) all0)) Hd56.cv (Safe.new e)
        have hg72 : t72 = tb ∨ h0.size ≤ t72 := own_frt hf72 hg18 K57.1
        refine G.v 48 C56 X72 d52_47 rfl rfl <| G.r 79 C56 X72 d52_48 (by decide) (by decide) <| G.y 82 C56 X72 d52_79 rfl rfl (z := (2 : Int32)) (by decide) (l' := #[vR sr, vI 1, vR sb, vI 2, vI cb]) rfl <| G.r 2 C56 X72 d52_82 (by decide) (by decide) <| G.b 3 C56 X72 d52_2 rfl rfl <| G.a 4 C56 X72 d52_3 rfl rfl rfl ?_
        have f75 := (f67.keep K72)
        have f76 := ((f22.ext E56).keep K72 (ninS nsr (ninS nb18_sr nin0)))
        have f77 := ((f23.ext E56).keep K72 (ninS nsr (ninS nb18_sr nin0)))
        have f78 := (f68.keep K72 (ninS (Ne.symm qn0) (ninS nb18_ru nin0)))
        have f79 := (f71.keep K72 (allS gs (allS ga18 all0)))
        refine G.o 7 (cells' := 6) (slots' := 92) (argsL := []) (St := [(.int 2)]) C56 X72 (wd283 hw) (wd129 hw) (wd131 hw) (wd130 hw) (by decide) f75 (wd132 hw) (wd44 hw) (ctLenA hw X72.2.1 sr ru kr ([ca, cb] : List Int32) cz f75 f76 f77 f78 f79 S2 hcz) (lenOf pd8 rfl) rfl d52_4 rfl rfl (by decide) (nQ rfl) rfl rfl (by decide) (by decide) (fun v80 T80 h80 Q80 X80 z80 => ?_)
        obtain ⟨hv80, hh80⟩ := Q80
        subst hv80; rw [hh80] at X80
        refine G.q 85 C56 X80 d52_7 (flt (by decide : ¬ (2 : Int32) < 2)).2.1 (by decide) (by decide) ?_
        have he81 : W ++ (own_escL ([ca, cb] : List Int32)) = ((W ++ ([92, 92] : List Int32)) ++ ([92, 110] : List Int32)) := by
          simp only [own_escL]
          rw [own_ea pa0, own_eb pa1 pb1]
          first | done | rfl | simp only [List.append_assoc, List.cons_append, List.nil_append, List.append_nil]
        exact G.H C56 X80 (ew hw) Hd73 d52_85 hret hlk (fun S' hm => (by rw [he81]; exact ⟨t72, k72, cq72, rfl, K74, hg72, hq72, hwl72, ns72, Es72, Fv72, Fc72, Fn72, Et72, Vt72, hm _ Vt72.lt Sf72⟩)) (by decide) (by decide)
      · refine G.q 51 C4 X27 d52_38 (feq pb1).2 (by decide) (by decide) <| G.g 53 C4 X27 d52_51 rfl rfl <| G.j 55 (z := 34) C4 X27 d52_53 rfl (by decide) ?_
        by_cases pc1 : cb = (34 : Int32)
        · refine G.t 58 C4 X27 d52_55 rfl (teq pc1).2 <| G.b 59 C4 X27 d52_58 rfl rfl <| G.k 62 C4 X27 d52_59 rfl (feq (by decide : ¬ (1 : Int32) = 0)).1 <| G.a 63 C4 X27 d52_62 rfl rfl rfl <| G.F 65 (n := 8) (cells' := 5) (slots' := 58) (z := (2 : Int32)) (vs := [(.int 92), (.int 34)]) C4 X27 (ew hw) Hd19 (wd311 hw) (wS hw) (List.mem_of_getElem? (i := 3) rfl) ⟨by decide +kernel, by first | rfl | decide +kernel⟩ (by decide) rfl d52_63 rfl (by decide +kernel) (by decide) rfl rfl (by decide) (by decide) (fun vm83 T83 h83 a83 b83 k83 C83 X83 Hd83 E83 R83 A83 F83a F83b V83 sf83 => ?_)
          have K84 := K20.ext E83
          have f85 := (Es18.ext E83)
          have sn86 := sf83 sb (Safe.exa (EL := consts_1) C83.2.1.alike f85 (by decide) (by decide))
          have sn87 := sf83 t18 (CHr.safe R83 Et18.lt Sf18)
          have Vx88 : Arv Z h83 b83 k83 .byte (own_n (([92, 34] : List Int32)).length) (tx ([92, 34] : List Int32)) (.int 0) := V83
          have f89 := (Fv18.ext E83)
          have f90 := (Fc18.ext E83)
          have f91 := (Fn18.ext E83)
          have f92 := (Et18.ext E83)
          have f93 := (Vt18.ext E83)
          have f94 := (f21.ext E83)
          have f95 := (f24.ext E83)
          have f98 := (f25.ext E83)
          refine G.o 68 (cells' := 6) (slots' := 92) (argsL := [(.ref a83)]) (St := []) C83 X83 (wd252 hw) (wd253 hw) (wd255 hw) (wd254 hw) (by decide) f85 (wd256 hw) (wd32 hw) (ctAppA hw X83.2.1 sb t18 k18 (W ++ ([92, 92] : List Int32)) cq18 a83 b83 k83 ([92, 34] : List Int32) cz f85 f89 f90 f91 f92 f93 gs ga18 ns18 A83 F83b F83a Vx88 (Ne.symm sn87.2) (Ne.symm sn86.1) (Ne.symm sn87.1) (by first | omega | (simp only [List.length_append, List.length_cons, List.length_nil]; omega)) hq18 hwl18 (by first | omega | (simp only [List.length_append, List.length_cons, List.length_nil]; omega)) f98 S2 hcz) (lenOf pd34 rfl) rfl d52_65 rfl rfl (by decide) (nQ rfl) rfl rfl (by decide) (by decide) (fun v99 T99 h99 Q99 X99 z99 => ?_)
          obtain ⟨t99, k99, cq99, hv99, K99, hf99, hq99, hwl99, ns99, Es99, Fv99, Fc99, Fn99, Et99, Vt99⟩ := Q99
          subst hv99
          have Hd100 := Hd83.keep K99 (allS (Safe.exa (EL := consts_1) C83.2.1.alike f85 (by decide) (by decide)) (allS (CHr.safe R83 Et18.lt Sf18) all0))
          have K101 := K84.trans K99 (allS (mQ 0 rfl) (allS iw18 all0))
          have ga99 : n0 ≤ t99 := own_frg hf99 ga18 X83.2.1
          have iw99 : t99 ∈ [sb, tb] ∨ h0.size ≤ t99 := own_frw hf99 iw18 K84.1
          have Sf99 : Safe Z consts_1 vm83 h99 t99 := by
            rcases hf99 with e | e
            · rw [e]; exact Safe.keep K99 (allS (Safe.exa (EL := consts_1) C83.2.1.alike f85 (by decide) (by decide)) (allS (CHr.safe R83 Et18.lt Sf18) all0)) Hd83.cv (CHr.safe R83 Et18.lt Sf18)
            · exact Safe.keep K99 (allS (Safe.exa (EL := consts_1) C83.2.1.alike f85 (by decide) (by decide)) (allS (CHr.safe R83 Et18.lt Sf18) all0)) Hd83.cv (Safe.new e)
          have hg99 : t99 = tb ∨ h0.size ≤ t99 := own_frt hf99 hg18 K84.1
          refine G.v 69 C83 X99 d52_68 rfl rfl <| G.r 79 C83 X99 d52_69 (by decide) (by decide) <| G.y 82 C83 X99 d52_79 rfl rfl (z := (2 : Int32)) (by decide) (l' := #[vR sr, vI 1, vR sb, vI 2, vI cb]) rfl <| G.r 2 C83 X99 d52_82 (by decide) (by decide) <| G.b 3 C83 X99 d52_2 rfl rfl <| G.a 4 C83 X99 d52_3 rfl rfl rfl ?_
          have f102 := (f94.keep K99)
          have f103 := ((f22.ext E83).keep K99 (ninS nsr (ninS nb18_sr nin0)))
          have f104 := ((f23.ext E83).keep K99 (ninS nsr (ninS nb18_sr nin0)))
          have f105 := (f95.keep K99 (ninS (Ne.symm qn0) (ninS nb18_ru nin0)))
          have f106 := (f98.keep K99 (allS gs (allS ga18 all0)))
          refine G.o 7 (cells' := 6) (slots' := 92) (argsL := []) (St := [(.int 2)]) C83 X99 (wd283 hw) (wd129 hw) (wd131 hw) (wd130 hw) (by decide) f102 (wd132 hw) (wd44 hw) (ctLenA hw X99.2.1 sr ru kr ([ca, cb] : List Int32) cz f102 f103 f104 f105 f106 S2 hcz) (lenOf pd8 rfl) rfl d52_4 rfl rfl (by decide) (nQ rfl) rfl rfl (by decide) (by decide) (fun v107 T107 h107 Q107 X107 z107 => ?_)
          obtain ⟨hv107, hh107⟩ := Q107
          subst hv107; rw [hh107] at X107
          refine G.q 85 C83 X107 d52_7 (flt (by decide : ¬ (2 : Int32) < 2)).2.1 (by decide) (by decide) ?_
          have he108 : W ++ (own_escL ([ca, cb] : List Int32)) = ((W ++ ([92, 92] : List Int32)) ++ ([92, 34] : List Int32)) := by
            simp only [own_escL]
            rw [own_ea pa0, own_ec pa1 pb1 pc1]
            first | done | rfl | simp only [List.append_assoc, List.cons_append, List.nil_append, List.append_nil]
          exact G.H C83 X107 (ew hw) Hd100 d52_85 hret hlk (fun S' hm => (by rw [he108]; exact ⟨t99, k99, cq99, rfl, K101, hg99, hq99, hwl99, ns99, Es99, Fv99, Fc99, Fn99, Et99, Vt99, hm _ Vt99.lt Sf99⟩)) (by decide) (by decide)
        · refine G.q 72 C4 X27 d52_55 (feq pc1).2 (by decide) (by decide) <| G.a 73 C4 X27 d52_72 rfl rfl rfl <| G.g 75 C4 X27 d52_73 rfl rfl <| G.o 78 (cells' := 4) (slots' := 80) (argsL := [(.int cb)]) (St := []) C4 X27 (wd214 hw) (wd215 hw) (wd217 hw) (wd216 hw) (by decide) Es18 (wd218 hw) (wd32 hw) (ctApcA hw X27.2.1 sb t18 k18 (W ++ ([92, 92] : List Int32)) cq18 cb cz Es18 Fv18 Fc18 Fn18 Et18 Vt18 gs ga18 ns18 l_cb (by first | omega | (simp only [List.length_append, List.length_cons, List.length_nil]; omega)) hq18 hwl18 (by first | omega | (simp only [List.length_append, List.length_cons, List.length_nil]; omega)) f25 S2 hcz) (lenOf pd35 rfl) rfl d52_75 rfl rfl (by decide) (nQ rfl) rfl rfl (by decide) (by decide) (fun v111 T111 h111 Q111 X111 z111 => ?_)
          obtain ⟨t111, k111, cq111, hv111, K111, hf111, hq111, hwl111, ns111, Es111, Fv111, Fc111, Fn111, Et111, Vt111⟩ := Q111
          subst hv111
          have Hd112 := Hd19.keep K111 (allS (Safe.exa (EL := consts_1) C4.2.1.alike Es18 (by decide) (by decide)) (allS Sf18 all0))
          have K113 := K20.trans K111 (allS (mQ 0 rfl) (allS iw18 all0))
          have ga111 : n0 ≤ t111 := own_frg hf111 ga18 X27.2.1
          have iw111 : t111 ∈ [sb, tb] ∨ h0.size ≤ t111 := own_frw hf111 iw18 K20.1
          have Sf111 : Safe Z consts_1 vm4 h111 t111 := by
            rcases hf111 with e | e
            · rw [e]; exact Safe.keep K111 (allS (Safe.exa (EL := consts_1) C4.2.1.alike Es18 (by decide) (by decide)) (allS Sf18 all0)) Hd19.cv Sf18
            · exact Safe.keep K111 (allS (Safe.exa (EL := consts_1) C4.2.1.alike Es18 (by decide) (by decide)) (allS Sf18 all0)) Hd19.cv (Safe.new e)
          have hg111 : t111 = tb ∨ h0.size ≤ t111 := own_frt hf111 hg18 K20.1
          refine G.v 79 C4 X111 d52_78 rfl rfl <| G.y 82 C4 X111 d52_79 rfl rfl (z := (2 : Int32)) (by decide) (l' := #[vR sr, vI 1, vR sb, vI 2, vI cb]) rfl <| G.r 2 C4 X111 d52_82 (by decide) (by decide) <| G.b 3 C4 X111 d52_2 rfl rfl <| G.a 4 C4 X111 d52_3 rfl rfl rfl ?_
          have f114 := (f21.keep K111)
          have f115 := (f22.keep K111 (ninS nsr (ninS nb18_sr nin0)))
          have f116 := (f23.keep K111 (ninS nsr (ninS nb18_sr nin0)))
          have f117 := (f24.keep K111 (ninS (Ne.symm qn0) (ninS nb18_ru nin0)))
          have f118 := (f25.keep K111 (allS gs (allS ga18 all0)))
          refine G.o 7 (cells' := 4) (slots' := 80) (argsL := []) (St := [(.int 2)]) C4 X111 (wd283 hw) (wd129 hw) (wd131 hw) (wd130 hw) (by decide) f114 (wd132 hw) (wd44 hw) (ctLenA hw X111.2.1 sr ru kr ([ca, cb] : List Int32) cz f114 f115 f116 f117 f118 S2 hcz) (lenOf pd8 rfl) rfl d52_4 rfl rfl (by decide) (nQ rfl) rfl rfl (by decide) (by decide) (fun v119 T119 h119 Q119 X119 z119 => ?_)
          obtain ⟨hv119, hh119⟩ := Q119
          subst hv119; rw [hh119] at X119
          refine G.q 85 C4 X119 d52_7 (flt (by decide : ¬ (2 : Int32) < 2)).2.1 (by decide) (by decide) ?_
          have he120 : W ++ (own_escL ([ca, cb] : List Int32)) = ((W ++ ([92, 92] : List Int32)) ++ [cb]) := by
            simp only [own_escL]
            rw [own_ea pa0, own_ed pa1 pb1 pc1]
            first | done | rfl | simp only [List.append_assoc, List.cons_append, List.nil_append, List.append_nil]
          exact G.H C4 X119 (ew hw) Hd112 d52_85 hret hlk (fun S' hm => (by rw [he120]; exact ⟨t111, k111, cq111, rfl, K113, hg111, hq111, hwl111, ns111, Es111, Fv111, Fc111, Fn111, Et111, Vt111, hm _ Vt111.lt Sf111⟩)) (by decide) (by decide)
  · refine G.q 34 C X2 d52_21 (feq pa0).2 (by decide) (by decide) <| G.g 36 C X2 d52_34 rfl rfl <| G.j 38 (z := 10) C X2 d52_36 rfl (by decide) ?_
    by_cases pb0 : ca = (10 : Int32)
    · refine G.t 41 C X2 d52_38 rfl (teq pb0).2 <| G.a 42 C X2 d52_41 rfl rfl rfl <| G.F 44 (n := 8) (cells' := 2) (slots' := 12) (z := (2 : Int32)) (vs := [(.int 92), (.int 110)]) C X2 (ew hw) H0 (wd310 hw) (wS hw) (List.mem_of_getElem? (i := 2) rfl) ⟨by decide +kernel, by first | rfl | decide +kernel⟩ (by decide) rfl d52_42 rfl (by decide +kernel) (by decide) rfl rfl (by decide) (by decide) (fun vm122 T122 h122 a122 b122 k122 C122 X122 Hd122 E122 R122 A122 F122a F122b V122 sf122 => ?_)
      have K123 := (Keep.refl h0 [sb, tb]).ext E122
      have f124 := (Es.ext E122)
      have sn125 := sf122 sb (Safe.exa (EL := consts_1) C122.2.1.alike f124 (by decide) (by decide))
      have sn126 := sf122 tb (CHr.safe R122 Et.lt (hSf _ (List.mem_of_getElem? (i := 0) rfl)))
      have Vx127 : Arv Z h122 b122 k122 .byte (own_n (([92, 110] : List Int32)).length) (tx ([92, 110] : List Int32)) (.int 0) := V122
      have f128 := (Fv.ext E122)
      have f129 := (Fc.ext E122)
      have f130 := (Fn.ext E122)
      have f131 := (Et.ext E122)
      have f132 := (Vt.ext E122)
      have f133 := (Er.ext E122)
      have f134 := (Vr.ext E122)
      have f135 := (OD.ext E122)
      refine G.o 47 (cells' := 3) (slots' := 46) (argsL := [(.ref a122)]) (St := []) C122 X122 (wd252 hw) (wd253 hw) (wd255 hw) (wd254 hw) (by decide) f124 (wd256 hw) (wd32 hw) (ctAppA hw X122.2.1 sb tb kt W cp a122 b122 k122 ([92, 110] : List Int32) cz f124 f128 f129 f130 f131 f132 gs gt nst A122 F122b F122a Vx127 (Ne.symm sn126.2) (Ne.symm sn125.1) (Ne.symm sn126.1) (by first | omega | (simp only [List.length_append, List.length_cons, List.length_nil]; omega)) hcp hwc (by first | omega | (simp only [List.length_append, List.length_cons, List.length_nil]; omega)) f135 S2 hcz) (lenOf pd34 rfl) rfl d52_44 rfl rfl (by decide) (nQ rfl) rfl rfl (by decide) (by decide) (fun v136 T136 h136 Q136 X136 z136 => ?_)
      obtain ⟨t136, k136, cq136, hv136, K136, hf136, hq136, hwl136, ns136, Es136, Fv136, Fc136, Fn136, Et136, Vt136⟩ := Q136
      subst hv136
      have Hd137 := Hd122.keep K136 (allS (Safe.exa (EL := consts_1) C122.2.1.alike f124 (by decide) (by decide)) (allS (CHr.safe R122 Et.lt (hSf _ (List.mem_of_getElem? (i := 0) rfl))) all0))
      have K138 := K123.trans K136 (allS (mQ 0 rfl) (allS (mQ 1 rfl) all0))
      have nb136_sr : sr ≠ t136 := own_frn hf136 nsq f133.lt
      have nb136_ru : ru ≠ t136 := own_frn hf136 nrt f134.lt
      have ga136 : n0 ≤ t136 := own_frg hf136 gt X122.2.1
      have iw136 : t136 ∈ [sb, tb] ∨ h0.size ≤ t136 := own_frw hf136 (mQ 1 rfl) K123.1
      have Sf136 : Safe Z consts_1 vm122 h136 t136 := by
        rcases hf136 with e | e
        · rw [e]; exact Safe.keep K136 (allS (Safe.exa (EL := consts_1) C122.2.1.alike f124 (by decide) (by decide)) (allS (CHr.safe R122 Et.lt (hSf _ (List.mem_of_getElem? (i := 0) rfl))) all0)) Hd122.cv (CHr.safe R122 Et.lt (hSf _ (List.mem_of_getElem? (i := 0) rfl)))
        · exact Safe.keep K136 (allS (Safe.exa (EL := consts_1) C122.2.1.alike f124 (by decide) (by decide)) (allS (CHr.safe R122 Et.lt (hSf _ (List.mem_of_getElem? (i := 0) rfl))) all0)) Hd122.cv (Safe.new e)
      have hg136 : t136 = tb ∨ h0.size ≤ t136 := own_frt hf136 (Or.inl rfl) K123.1
      refine G.v 48 C122 X136 d52_47 rfl rfl <| G.r 79 C122 X136 d52_48 (by decide) (by decide) <| G.y 82 C122 X136 d52_79 rfl rfl (z := (1 : Int32)) (by decide) (l' := #[vR sr, vI 1, vR sb, vI 1, vI ca]) rfl <| G.r 2 C122 X136 d52_82 (by decide) (by decide) <| G.b 3 C122 X136 d52_2 rfl rfl <| G.a 4 C122 X136 d52_3 rfl rfl rfl ?_
      have f139 := (f133.keep K136)
      have f140 := ((Rv.ext E122).keep K136 (ninS nsr (ninS nsq nin0)))
      have f141 := ((Rc.ext E122).keep K136 (ninS nsr (ninS nsq nin0)))
      have f142 := (f134.keep K136 (ninS (Ne.symm qn0) (ninS nrt nin0)))
      have f143 := (f135.keep K136 (allS gs (allS gt all0)))
      refine G.o 7 (cells' := 3) (slots' := 46) (argsL := []) (St := [(.int 1)]) C122 X136 (wd283 hw) (wd129 hw) (wd131 hw) (wd130 hw) (by decide) f139 (wd132 hw) (wd44 hw) (ctLenA hw X136.2.1 sr ru kr ([ca, cb] : List Int32) cz f139 f140 f141 f142 f143 S2 hcz) (lenOf pd8 rfl) rfl d52_4 rfl rfl (by decide) (nQ rfl) rfl rfl (by decide) (by decide) (fun v144 T144 h144 Q144 X144 z144 => ?_)
      obtain ⟨hv144, hh144⟩ := Q144
      subst hv144; rw [hh144] at X144
      refine G.t 10 C122 X144 d52_7 rfl (tlt (by decide : (1 : Int32) < 2)).2.1 <| G.a 11 C122 X144 d52_10 rfl rfl rfl <| G.b 12 C122 X144 d52_11 rfl rfl <| G.o 15 (cells' := 3) (slots' := 46) (argsL := [(.int 1)]) (St := []) C122 X144 (wd284 hw) (wd285 hw) (wd287 hw) (wd286 hw) (by decide) f139 (wd288 hw) (wd44 hw) (ctCaA hw X144.2.1 sr ru kr ([ca, cb] : List Int32) (1 : Int32) fmt cz f139 f140 f141 f142 (by decide) (show (1 : Int32) < (2 : Int32) from by decide) (show 1 < 2 from by decide) (own_alS l_ca (own_alS l_cb own_al0)) f143 Sf hfm S2 hcz) (lenOf pd25 rfl) rfl d52_12 rfl rfl (by decide) (nQ rfl) rfl rfl (by decide) (by decide) (fun v145 T145 h145 Q145 X145 z145 => ?_)
      obtain ⟨hv145, hh145⟩ := Q145
      subst hv145; rw [hh145] at X145
      refine G.w 17 C122 X145 d52_15 rfl (l' := #[vR sr, vI 1, vR sb, vI 1, vI cb]) rfl <| G.g 19 C122 X145 d52_17 rfl rfl <| G.j 21 (z := 92) C122 X145 d52_19 rfl (by decide) ?_
      by_cases pa1 : cb = (92 : Int32)
      · refine G.t 24 C122 X145 d52_21 rfl (teq pa1).2 <| G.a 25 C122 X145 d52_24 rfl rfl rfl <| G.F 27 (n := 8) (cells' := 5) (slots' := 58) (z := (2 : Int32)) (vs := [(.int 92), (.int 92)]) C122 X145 (ew hw) Hd137 (wd302 hw) (wS hw) (List.mem_of_getElem? (i := 1) rfl) ⟨by decide +kernel, by first | rfl | decide +kernel⟩ (by decide) rfl d52_25 rfl (by decide +kernel) (by decide) rfl rfl (by decide) (by decide) (fun vm147 T147 h147 a147 b147 k147 C147 X147 Hd147 E147 R147 A147 F147a F147b V147 sf147 => ?_)
        have K148 := K138.ext E147
        have f149 := (Es136.ext E147)
        have sn150 := sf147 sb (Safe.exa (EL := consts_1) C147.2.1.alike f149 (by decide) (by decide))
        have sn151 := sf147 t136 (CHr.safe R147 Et136.lt Sf136)
        have Vx152 : Arv Z h147 b147 k147 .byte (own_n (([92, 92] : List Int32)).length) (tx ([92, 92] : List Int32)) (.int 0) := V147
        have f153 := (Fv136.ext E147)
        have f154 := (Fc136.ext E147)
        have f155 := (Fn136.ext E147)
        have f156 := (Et136.ext E147)
        have f157 := (Vt136.ext E147)
        have f158 := (f139.ext E147)
        have f159 := (f142.ext E147)
        have f162 := (f143.ext E147)
        refine G.o 30 (cells' := 6) (slots' := 92) (argsL := [(.ref a147)]) (St := []) C147 X147 (wd252 hw) (wd253 hw) (wd255 hw) (wd254 hw) (by decide) f149 (wd256 hw) (wd32 hw) (ctAppA hw X147.2.1 sb t136 k136 (W ++ ([92, 110] : List Int32)) cq136 a147 b147 k147 ([92, 92] : List Int32) cz f149 f153 f154 f155 f156 f157 gs ga136 ns136 A147 F147b F147a Vx152 (Ne.symm sn151.2) (Ne.symm sn150.1) (Ne.symm sn151.1) (by first | omega | (simp only [List.length_append, List.length_cons, List.length_nil]; omega)) hq136 hwl136 (by first | omega | (simp only [List.length_append, List.length_cons, List.length_nil]; omega)) f162 S2 hcz) (lenOf pd34 rfl) rfl d52_27 rfl rfl (by decide) (nQ rfl) rfl rfl (by decide) (by decide) (fun v163 T163 h163 Q163 X163 z163 => ?_)
        obtain ⟨t163, k163, cq163, hv163, K163, hf163, hq163, hwl163, ns163, Es163, Fv163, Fc163, Fn163, Et163, Vt163⟩ := Q163
        subst hv163
        have Hd164 := Hd147.keep K163 (allS (Safe.exa (EL := consts_1) C147.2.1.alike f149 (by decide) (by decide)) (allS (CHr.safe R147 Et136.lt Sf136) all0))
        have K165 := K148.trans K163 (allS (mQ 0 rfl) (allS iw136 all0))
        have ga163 : n0 ≤ t163 := own_frg hf163 ga136 X147.2.1
        have iw163 : t163 ∈ [sb, tb] ∨ h0.size ≤ t163 := own_frw hf163 iw136 K148.1
        have Sf163 : Safe Z consts_1 vm147 h163 t163 := by
          rcases hf163 with e | e
          · rw [e]; exact Safe.keep K163 (allS (Safe.exa (EL := consts_1) C147.2.1.alike f149 (by decide) (by decide)) (allS (CHr.safe R147 Et136.lt Sf136) all0)) Hd147.cv (CHr.safe R147 Et136.lt Sf136)
          · exact Safe.keep K163 (allS (Safe.exa (EL := consts_1) C147.2.1.alike f149 (by decide) (by decide)) (allS (CHr.safe R147 Et136.lt Sf136) all0)) Hd147.cv (Safe.new e)
        have hg163 : t163 = tb ∨ h0.size ≤ t163 := own_frt hf163 hg136 K148.1
        refine G.v 31 C147 X163 d52_30 rfl rfl <| G.r 79 C147 X163 d52_31 (by decide) (by decide) <| G.y 82 C147 X163 d52_79 rfl rfl (z := (2 : Int32)) (by decide) (l' := #[vR sr, vI 1, vR sb, vI 2, vI cb]) rfl <| G.r 2 C147 X163 d52_82 (by decide) (by decide) <| G.b 3 C147 X163 d52_2 rfl rfl <| G.a 4 C147 X163 d52_3 rfl rfl rfl ?_
        have f166 := (f158.keep K163)
        have f167 := ((f140.ext E147).keep K163 (ninS nsr (ninS nb136_sr nin0)))
        have f168 := ((f141.ext E147).keep K163 (ninS nsr (ninS nb136_sr nin0)))
        have f169 := (f159.keep K163 (ninS (Ne.symm qn0) (ninS nb136_ru nin0)))
        have f170 := (f162.keep K163 (allS gs (allS ga136 all0)))
        refine G.o 7 (cells' := 6) (slots' := 92) (argsL := []) (St := [(.int 2)]) C147 X163 (wd283 hw) (wd129 hw) (wd131 hw) (wd130 hw) (by decide) f166 (wd132 hw) (wd44 hw) (ctLenA hw X163.2.1 sr ru kr ([ca, cb] : List Int32) cz f166 f167 f168 f169 f170 S2 hcz) (lenOf pd8 rfl) rfl d52_4 rfl rfl (by decide) (nQ rfl) rfl rfl (by decide) (by decide) (fun v171 T171 h171 Q171 X171 z171 => ?_)
        obtain ⟨hv171, hh171⟩ := Q171
        subst hv171; rw [hh171] at X171
        refine G.q 85 C147 X171 d52_7 (flt (by decide : ¬ (2 : Int32) < 2)).2.1 (by decide) (by decide) ?_
        have he172 : W ++ (own_escL ([ca, cb] : List Int32)) = ((W ++ ([92, 110] : List Int32)) ++ ([92, 92] : List Int32)) := by
          simp only [own_escL]
          rw [own_eb pa0 pb0, own_ea pa1]
          first | done | rfl | simp only [List.append_assoc, List.cons_append, List.nil_append, List.append_nil]
        exact G.H C147 X171 (ew hw) Hd164 d52_85 hret hlk (fun S' hm => (by rw [he172]; exact ⟨t163, k163, cq163, rfl, K165, hg163, hq163, hwl163, ns163, Es163, Fv163, Fc163, Fn163, Et163, Vt163, hm _ Vt163.lt Sf163⟩)) (by decide) (by decide)
      · refine G.q 34 C122 X145 d52_21 (feq pa1).2 (by decide) (by decide) <| G.g 36 C122 X145 d52_34 rfl rfl <| G.j 38 (z := 10) C122 X145 d52_36 rfl (by decide) ?_
        by_cases pb1 : cb = (10 : Int32)
        · refine G.t 41 C122 X145 d52_38 rfl (teq pb1).2 <| G.a 42 C122 X145 d52_41 rfl rfl rfl <| G.F 44 (n := 8) (cells' := 5) (slots' := 58) (z := (2 : Int32)) (vs := [(.int 92), (.int 110)]) C122 X145 (ew hw) Hd137 (wd310 hw) (wS hw) (List.mem_of_getElem? (i := 2) rfl) ⟨by decide +kernel, by first | rfl | decide +kernel⟩ (by decide) rfl d52_42 rfl (by decide +kernel) (by decide) rfl rfl (by decide) (by decide) (fun vm174 T174 h174 a174 b174 k174 C174 X174 Hd174 E174 R174 A174 F174a F174b V174 sf174 => ?_)
          have K175 := K138.ext E174
          have f176 := (Es136.ext E174)
          have sn177 := sf174 sb (Safe.exa (EL := consts_1) C174.2.1.alike f176 (by decide) (by decide))
          have sn178 := sf174 t136 (CHr.safe R174 Et136.lt Sf136)
          have Vx179 : Arv Z h174 b174 k174 .byte (own_n (([92, 110] : List Int32)).length) (tx ([92, 110] : List Int32)) (.int 0) := V174
          have f180 := (Fv136.ext E174)
          have f181 := (Fc136.ext E174)
          have f182 := (Fn136.ext E174)
          have f183 := (Et136.ext E174)
          have f184 := (Vt136.ext E174)
          have f185 := (f139.ext E174)
          have f186 := (f142.ext E174)
          have f189 := (f143.ext E174)
          refine G.o 47 (cells' := 6) (slots' := 92) (argsL := [(.ref a174)]) (St := []) C174 X174 (wd252 hw) (wd253 hw) (wd255 hw) (wd254 hw) (by decide) f176 (wd256 hw) (wd32 hw) (ctAppA hw X174.2.1 sb t136 k136 (W ++ ([92, 110] : List Int32)) cq136 a174 b174 k174 ([92, 110] : List Int32) cz f176 f180 f181 f182 f183 f184 gs ga136 ns136 A174 F174b F174a Vx179 (Ne.symm sn178.2) (Ne.symm sn177.1) (Ne.symm sn178.1) (by first | omega | (simp only [List.length_append, List.length_cons, List.length_nil]; omega)) hq136 hwl136 (by first | omega | (simp only [List.length_append, List.length_cons, List.length_nil]; omega)) f189 S2 hcz) (lenOf pd34 rfl) rfl d52_44 rfl rfl (by decide) (nQ rfl) rfl rfl (by decide) (by decide) (fun v190 T190 h190 Q190 X190 z190 => ?_)
          obtain ⟨t190, k190, cq190, hv190, K190, hf190, hq190, hwl190, ns190, Es190, Fv190, Fc190, Fn190, Et190, Vt190⟩ := Q190
          subst hv190
          have Hd191 := Hd174.keep K190 (allS (Safe.exa (EL := consts_1) C174.2.1.alike f176 (by decide) (by decide)) (allS (CHr.safe R174 Et136.lt Sf136) all0))
          have K192 := K175.trans K190 (allS (mQ 0 rfl) (allS iw136 all0))
          have ga190 : n0 ≤ t190 := own_frg hf190 ga136 X174.2.1
          have iw190 : t190 ∈ [sb, tb] ∨ h0.size ≤ t190 := own_frw hf190 iw136 K175.1
          have Sf190 : Safe Z consts_1 vm174 h190 t190 := by
            rcases hf190 with e | e
            · rw [e]; exact Safe.keep K190 (allS (Safe.exa (EL := consts_1) C174.2.1.alike f176 (by decide) (by decide)) (allS (CHr.safe R174 Et136.lt Sf136) all0)) Hd174.cv (CHr.safe R174 Et136.lt Sf136)
            · exact Safe.keep K190 (allS (Safe.exa (EL := consts_1) C174.2.1.alike f176 (by decide) (by decide)) (allS (CHr.safe R174 Et136.lt Sf136) all0)) Hd174.cv (Safe.new e)
          have hg190 : t190 = tb ∨ h0.size ≤ t190 := own_frt hf190 hg136 K175.1
          refine G.v 48 C174 X190 d52_47 rfl rfl <| G.r 79 C174 X190 d52_48 (by decide) (by decide) <| G.y 82 C174 X190 d52_79 rfl rfl (z := (2 : Int32)) (by decide) (l' := #[vR sr, vI 1, vR sb, vI 2, vI cb]) rfl <| G.r 2 C174 X190 d52_82 (by decide) (by decide) <| G.b 3 C174 X190 d52_2 rfl rfl <| G.a 4 C174 X190 d52_3 rfl rfl rfl ?_
          have f193 := (f185.keep K190)
          have f194 := ((f140.ext E174).keep K190 (ninS nsr (ninS nb136_sr nin0)))
          have f195 := ((f141.ext E174).keep K190 (ninS nsr (ninS nb136_sr nin0)))
          have f196 := (f186.keep K190 (ninS (Ne.symm qn0) (ninS nb136_ru nin0)))
          have f197 := (f189.keep K190 (allS gs (allS ga136 all0)))
          refine G.o 7 (cells' := 6) (slots' := 92) (argsL := []) (St := [(.int 2)]) C174 X190 (wd283 hw) (wd129 hw) (wd131 hw) (wd130 hw) (by decide) f193 (wd132 hw) (wd44 hw) (ctLenA hw X190.2.1 sr ru kr ([ca, cb] : List Int32) cz f193 f194 f195 f196 f197 S2 hcz) (lenOf pd8 rfl) rfl d52_4 rfl rfl (by decide) (nQ rfl) rfl rfl (by decide) (by decide) (fun v198 T198 h198 Q198 X198 z198 => ?_)
          obtain ⟨hv198, hh198⟩ := Q198
          subst hv198; rw [hh198] at X198
          refine G.q 85 C174 X198 d52_7 (flt (by decide : ¬ (2 : Int32) < 2)).2.1 (by decide) (by decide) ?_
          have he199 : W ++ (own_escL ([ca, cb] : List Int32)) = ((W ++ ([92, 110] : List Int32)) ++ ([92, 110] : List Int32)) := by
            simp only [own_escL]
            rw [own_eb pa0 pb0, own_eb pa1 pb1]
            first | done | rfl | simp only [List.append_assoc, List.cons_append, List.nil_append, List.append_nil]
          exact G.H C174 X198 (ew hw) Hd191 d52_85 hret hlk (fun S' hm => (by rw [he199]; exact ⟨t190, k190, cq190, rfl, K192, hg190, hq190, hwl190, ns190, Es190, Fv190, Fc190, Fn190, Et190, Vt190, hm _ Vt190.lt Sf190⟩)) (by decide) (by decide)
        · refine G.q 51 C122 X145 d52_38 (feq pb1).2 (by decide) (by decide) <| G.g 53 C122 X145 d52_51 rfl rfl <| G.j 55 (z := 34) C122 X145 d52_53 rfl (by decide) ?_
          by_cases pc1 : cb = (34 : Int32)
          · refine G.t 58 C122 X145 d52_55 rfl (teq pc1).2 <| G.b 59 C122 X145 d52_58 rfl rfl <| G.k 62 C122 X145 d52_59 rfl (feq (by decide : ¬ (1 : Int32) = 0)).1 <| G.a 63 C122 X145 d52_62 rfl rfl rfl <| G.F 65 (n := 8) (cells' := 5) (slots' := 58) (z := (2 : Int32)) (vs := [(.int 92), (.int 34)]) C122 X145 (ew hw) Hd137 (wd311 hw) (wS hw) (List.mem_of_getElem? (i := 3) rfl) ⟨by decide +kernel, by first | rfl | decide +kernel⟩ (by decide) rfl d52_63 rfl (by decide +kernel) (by decide) rfl rfl (by decide) (by decide) (fun vm201 T201 h201 a201 b201 k201 C201 X201 Hd201 E201 R201 A201 F201a F201b V201 sf201 => ?_)
            have K202 := K138.ext E201
            have f203 := (Es136.ext E201)
            have sn204 := sf201 sb (Safe.exa (EL := consts_1) C201.2.1.alike f203 (by decide) (by decide))
            have sn205 := sf201 t136 (CHr.safe R201 Et136.lt Sf136)
            have Vx206 : Arv Z h201 b201 k201 .byte (own_n (([92, 34] : List Int32)).length) (tx ([92, 34] : List Int32)) (.int 0) := V201
            have f207 := (Fv136.ext E201)
            have f208 := (Fc136.ext E201)
            have f209 := (Fn136.ext E201)
            have f210 := (Et136.ext E201)
            have f211 := (Vt136.ext E201)
            have f212 := (f139.ext E201)
            have f213 := (f142.ext E201)
            have f216 := (f143.ext E201)
            refine G.o 68 (cells' := 6) (slots' := 92) (argsL := [(.ref a201)]) (St := []) C201 X201 (wd252 hw) (wd253 hw) (wd255 hw) (wd254 hw) (by decide) f203 (wd256 hw) (wd32 hw) (ctAppA hw X201.2.1 sb t136 k136 (W ++ ([92, 110] : List Int32)) cq136 a201 b201 k201 ([92, 34] : List Int32) cz f203 f207 f208 f209 f210 f211 gs ga136 ns136 A201 F201b F201a Vx206 (Ne.symm sn205.2) (Ne.symm sn204.1) (Ne.symm sn205.1) (by first | omega | (simp only [List.length_append, List.length_cons, List.length_nil]; omega)) hq136 hwl136 (by first | omega | (simp only [List.length_append, List.length_cons, List.length_nil]; omega)) f216 S2 hcz) (lenOf pd34 rfl) rfl d52_65 rfl rfl (by decide) (nQ rfl) rfl rfl (by decide) (by decide) (fun v217 T217 h217 Q217 X217 z217 => ?_)
            obtain ⟨t217, k217, cq217, hv217, K217, hf217, hq217, hwl217, ns217, Es217, Fv217, Fc217, Fn217, Et217, Vt217⟩ := Q217
            subst hv217
            have Hd218 := Hd201.keep K217 (allS (Safe.exa (EL := consts_1) C201.2.1.alike f203 (by decide) (by decide)) (allS (CHr.safe R201 Et136.lt Sf136) all0))
            have K219 := K202.trans K217 (allS (mQ 0 rfl) (allS iw136 all0))
            have ga217 : n0 ≤ t217 := own_frg hf217 ga136 X201.2.1
            have iw217 : t217 ∈ [sb, tb] ∨ h0.size ≤ t217 := own_frw hf217 iw136 K202.1
            have Sf217 : Safe Z consts_1 vm201 h217 t217 := by
              rcases hf217 with e | e
              · rw [e]; exact Safe.keep K217 (allS (Safe.exa (EL := consts_1) C201.2.1.alike f203 (by decide) (by decide)) (allS (CHr.safe R201 Et136.lt Sf136) all0)) Hd201.cv (CHr.safe R201 Et136.lt Sf136)
              · exact Safe.keep K217 (allS (Safe.exa (EL := consts_1) C201.2.1.alike f203 (by decide) (by decide)) (allS (CHr.safe R201 Et136.lt Sf136) all0)) Hd201.cv (Safe.new e)
            have hg217 : t217 = tb ∨ h0.size ≤ t217 := own_frt hf217 hg136 K202.1
            refine G.v 69 C201 X217 d52_68 rfl rfl <| G.r 79 C201 X217 d52_69 (by decide) (by decide) <| G.y 82 C201 X217 d52_79 rfl rfl (z := (2 : Int32)) (by decide) (l' := #[vR sr, vI 1, vR sb, vI 2, vI cb]) rfl <| G.r 2 C201 X217 d52_82 (by decide) (by decide) <| G.b 3 C201 X217 d52_2 rfl rfl <| G.a 4 C201 X217 d52_3 rfl rfl rfl ?_
            have f220 := (f212.keep K217)
            have f221 := ((f140.ext E201).keep K217 (ninS nsr (ninS nb136_sr nin0)))
            have f222 := ((f141.ext E201).keep K217 (ninS nsr (ninS nb136_sr nin0)))
            have f223 := (f213.keep K217 (ninS (Ne.symm qn0) (ninS nb136_ru nin0)))
            have f224 := (f216.keep K217 (allS gs (allS ga136 all0)))
            refine G.o 7 (cells' := 6) (slots' := 92) (argsL := []) (St := [(.int 2)]) C201 X217 (wd283 hw) (wd129 hw) (wd131 hw) (wd130 hw) (by decide) f220 (wd132 hw) (wd44 hw) (ctLenA hw X217.2.1 sr ru kr ([ca, cb] : List Int32) cz f220 f221 f222 f223 f224 S2 hcz) (lenOf pd8 rfl) rfl d52_4 rfl rfl (by decide) (nQ rfl) rfl rfl (by decide) (by decide) (fun v225 T225 h225 Q225 X225 z225 => ?_)
            obtain ⟨hv225, hh225⟩ := Q225
            subst hv225; rw [hh225] at X225
            refine G.q 85 C201 X225 d52_7 (flt (by decide : ¬ (2 : Int32) < 2)).2.1 (by decide) (by decide) ?_
            have he226 : W ++ (own_escL ([ca, cb] : List Int32)) = ((W ++ ([92, 110] : List Int32)) ++ ([92, 34] : List Int32)) := by
              simp only [own_escL]
              rw [own_eb pa0 pb0, own_ec pa1 pb1 pc1]
              first | done | rfl | simp only [List.append_assoc, List.cons_append, List.nil_append, List.append_nil]
            exact G.H C201 X225 (ew hw) Hd218 d52_85 hret hlk (fun S' hm => (by rw [he226]; exact ⟨t217, k217, cq217, rfl, K219, hg217, hq217, hwl217, ns217, Es217, Fv217, Fc217, Fn217, Et217, Vt217, hm _ Vt217.lt Sf217⟩)) (by decide) (by decide)
          · refine G.q 72 C122 X145 d52_55 (feq pc1).2 (by decide) (by decide) <| G.a 73 C122 X145 d52_72 rfl rfl rfl <| G.g 75 C122 X145 d52_73 rfl rfl <| G.o 78 (cells' := 4) (slots' := 80) (argsL := [(.int cb)]) (St := []) C122 X145 (wd214 hw) (wd215 hw) (wd217 hw) (wd216 hw) (by decide) Es136 (wd218 hw) (wd32 hw) (ctApcA hw X145.2.1 sb t136 k136 (W ++ ([92, 110] : List Int32)) cq136 cb cz Es136 Fv136 Fc136 Fn136 Et136 Vt136 gs ga136 ns136 l_cb (by first | omega | (simp only [List.length_append, List.length_cons, List.length_nil]; omega)) hq136 hwl136 (by first | omega | (simp only [List.length_append, List.length_cons, List.length_nil]; omega)) f143 S2 hcz) (lenOf pd35 rfl) rfl d52_75 rfl rfl (by decide) (nQ rfl) rfl rfl (by decide) (by decide) (fun v229 T229 h229 Q229 X229 z229 => ?_)
            obtain ⟨t229, k229, cq229, hv229, K229, hf229, hq229, hwl229, ns229, Es229, Fv229, Fc229, Fn229, Et229, Vt229⟩ := Q229
            subst hv229
            have Hd230 := Hd137.keep K229 (allS (Safe.exa (EL := consts_1) C122.2.1.alike Es136 (by decide) (by decide)) (allS Sf136 all0))
            have K231 := K138.trans K229 (allS (mQ 0 rfl) (allS iw136 all0))
            have ga229 : n0 ≤ t229 := own_frg hf229 ga136 X145.2.1
            have iw229 : t229 ∈ [sb, tb] ∨ h0.size ≤ t229 := own_frw hf229 iw136 K138.1
            have Sf229 : Safe Z consts_1 vm122 h229 t229 := by
              rcases hf229 with e | e
              · rw [e]; exact Safe.keep K229 (allS (Safe.exa (EL := consts_1) C122.2.1.alike Es136 (by decide) (by decide)) (allS Sf136 all0)) Hd137.cv Sf136
              · exact Safe.keep K229 (allS (Safe.exa (EL := consts_1) C122.2.1.alike Es136 (by decide) (by decide)) (allS Sf136 all0)) Hd137.cv (Safe.new e)
            have hg229 : t229 = tb ∨ h0.size ≤ t229 := own_frt hf229 hg136 K138.1
            refine G.v 79 C122 X229 d52_78 rfl rfl <| G.y 82 C122 X229 d52_79 rfl rfl (z := (2 : Int32)) (by decide) (l' := #[vR sr, vI 1, vR sb, vI 2, vI cb]) rfl <| G.r 2 C122 X229 d52_82 (by decide) (by decide) <| G.b 3 C122 X229 d52_2 rfl rfl <| G.a 4 C122 X229 d52_3 rfl rfl rfl ?_
            have f232 := (f139.keep K229)
            have f233 := (f140.keep K229 (ninS nsr (ninS nb136_sr nin0)))
            have f234 := (f141.keep K229 (ninS nsr (ninS nb136_sr nin0)))
            have f235 := (f142.keep K229 (ninS (Ne.symm qn0) (ninS nb136_ru nin0)))
            have f236 := (f143.keep K229 (allS gs (allS ga136 all0)))
            refine G.o 7 (cells' := 4) (slots' := 80) (argsL := []) (St := [(.int 2)]) C122 X229 (wd283 hw) (wd129 hw) (wd131 hw) (wd130 hw) (by decide) f232 (wd132 hw) (wd44 hw) (ctLenA hw X229.2.1 sr ru kr ([ca, cb] : List Int32) cz f232 f233 f234 f235 f236 S2 hcz) (lenOf pd8 rfl) rfl d52_4 rfl rfl (by decide) (nQ rfl) rfl rfl (by decide) (by decide) (fun v237 T237 h237 Q237 X237 z237 => ?_)
            obtain ⟨hv237, hh237⟩ := Q237
            subst hv237; rw [hh237] at X237
            refine G.q 85 C122 X237 d52_7 (flt (by decide : ¬ (2 : Int32) < 2)).2.1 (by decide) (by decide) ?_
            have he238 : W ++ (own_escL ([ca, cb] : List Int32)) = ((W ++ ([92, 110] : List Int32)) ++ [cb]) := by
              simp only [own_escL]
              rw [own_eb pa0 pb0, own_ed pa1 pb1 pc1]
              first | done | rfl | simp only [List.append_assoc, List.cons_append, List.nil_append, List.append_nil]
            exact G.H C122 X237 (ew hw) Hd230 d52_85 hret hlk (fun S' hm => (by rw [he238]; exact ⟨t229, k229, cq229, rfl, K231, hg229, hq229, hwl229, ns229, Es229, Fv229, Fc229, Fn229, Et229, Vt229, hm _ Vt229.lt Sf229⟩)) (by decide) (by decide)
    · refine G.q 51 C X2 d52_38 (feq pb0).2 (by decide) (by decide) <| G.g 53 C X2 d52_51 rfl rfl <| G.j 55 (z := 34) C X2 d52_53 rfl (by decide) ?_
      by_cases pc0 : ca = (34 : Int32)
      · refine G.t 58 C X2 d52_55 rfl (teq pc0).2 <| G.b 59 C X2 d52_58 rfl rfl <| G.k 62 C X2 d52_59 rfl (feq (by decide : ¬ (1 : Int32) = 0)).1 <| G.a 63 C X2 d52_62 rfl rfl rfl <| G.F 65 (n := 8) (cells' := 2) (slots' := 12) (z := (2 : Int32)) (vs := [(.int 92), (.int 34)]) C X2 (ew hw) H0 (wd311 hw) (wS hw) (List.mem_of_getElem? (i := 3) rfl) ⟨by decide +kernel, by first | rfl | decide +kernel⟩ (by decide) rfl d52_63 rfl (by decide +kernel) (by decide) rfl rfl (by decide) (by decide) (fun vm240 T240 h240 a240 b240 k240 C240 X240 Hd240 E240 R240 A240 F240a F240b V240 sf240 => ?_)
        have K241 := (Keep.refl h0 [sb, tb]).ext E240
        have f242 := (Es.ext E240)
        have sn243 := sf240 sb (Safe.exa (EL := consts_1) C240.2.1.alike f242 (by decide) (by decide))
        have sn244 := sf240 tb (CHr.safe R240 Et.lt (hSf _ (List.mem_of_getElem? (i := 0) rfl)))
        have Vx245 : Arv Z h240 b240 k240 .byte (own_n (([92, 34] : List Int32)).length) (tx ([92, 34] : List Int32)) (.int 0) := V240
        have f246 := (Fv.ext E240)
        have f247 := (Fc.ext E240)
        have f248 := (Fn.ext E240)
        have f249 := (Et.ext E240)
        have f250 := (Vt.ext E240)
        have f251 := (Er.ext E240)
        have f252 := (Vr.ext E240)
        have f253 := (OD.ext E240)
        refine G.o 68 (cells' := 3) (slots' := 46) (argsL := [(.ref a240)]) (St := []) C240 X240 (wd252 hw) (wd253 hw) (wd255 hw) (wd254 hw) (by decide) f242 (wd256 hw) (wd32 hw) (ctAppA hw X240.2.1 sb tb kt W cp a240 b240 k240 ([92, 34] : List Int32) cz f242 f246 f247 f248 f249 f250 gs gt nst A240 F240b F240a Vx245 (Ne.symm sn244.2) (Ne.symm sn243.1) (Ne.symm sn244.1) (by first | omega | (simp only [List.length_append, List.length_cons, List.length_nil]; omega)) hcp hwc (by first | omega | (simp only [List.length_append, List.length_cons, List.length_nil]; omega)) f253 S2 hcz) (lenOf pd34 rfl) rfl d52_65 rfl rfl (by decide) (nQ rfl) rfl rfl (by decide) (by decide) (fun v254 T254 h254 Q254 X254 z254 => ?_)
        obtain ⟨t254, k254, cq254, hv254, K254, hf254, hq254, hwl254, ns254, Es254, Fv254, Fc254, Fn254, Et254, Vt254⟩ := Q254
        subst hv254
        have Hd255 := Hd240.keep K254 (allS (Safe.exa (EL := consts_1) C240.2.1.alike f242 (by decide) (by decide)) (allS (CHr.safe R240 Et.lt (hSf _ (List.mem_of_getElem? (i := 0) rfl))) all0))
        have K256 := K241.trans K254 (allS (mQ 0 rfl) (allS (mQ 1 rfl) all0))
        have nb254_sr : sr ≠ t254 := own_frn hf254 nsq f251.lt
        have nb254_ru : ru ≠ t254 := own_frn hf254 nrt f252.lt
        have ga254 : n0 ≤ t254 := own_frg hf254 gt X240.2.1
        have iw254 : t254 ∈ [sb, tb] ∨ h0.size ≤ t254 := own_frw hf254 (mQ 1 rfl) K241.1
        have Sf254 : Safe Z consts_1 vm240 h254 t254 := by
          rcases hf254 with e | e
          · rw [e]; exact Safe.keep K254 (allS (Safe.exa (EL := consts_1) C240.2.1.alike f242 (by decide) (by decide)) (allS (CHr.safe R240 Et.lt (hSf _ (List.mem_of_getElem? (i := 0) rfl))) all0)) Hd240.cv (CHr.safe R240 Et.lt (hSf _ (List.mem_of_getElem? (i := 0) rfl)))
          · exact Safe.keep K254 (allS (Safe.exa (EL := consts_1) C240.2.1.alike f242 (by decide) (by decide)) (allS (CHr.safe R240 Et.lt (hSf _ (List.mem_of_getElem? (i := 0) rfl))) all0)) Hd240.cv (Safe.new e)
        have hg254 : t254 = tb ∨ h0.size ≤ t254 := own_frt hf254 (Or.inl rfl) K241.1
        refine G.v 69 C240 X254 d52_68 rfl rfl <| G.r 79 C240 X254 d52_69 (by decide) (by decide) <| G.y 82 C240 X254 d52_79 rfl rfl (z := (1 : Int32)) (by decide) (l' := #[vR sr, vI 1, vR sb, vI 1, vI ca]) rfl <| G.r 2 C240 X254 d52_82 (by decide) (by decide) <| G.b 3 C240 X254 d52_2 rfl rfl <| G.a 4 C240 X254 d52_3 rfl rfl rfl ?_
        have f257 := (f251.keep K254)
        have f258 := ((Rv.ext E240).keep K254 (ninS nsr (ninS nsq nin0)))
        have f259 := ((Rc.ext E240).keep K254 (ninS nsr (ninS nsq nin0)))
        have f260 := (f252.keep K254 (ninS (Ne.symm qn0) (ninS nrt nin0)))
        have f261 := (f253.keep K254 (allS gs (allS gt all0)))
        refine G.o 7 (cells' := 3) (slots' := 46) (argsL := []) (St := [(.int 1)]) C240 X254 (wd283 hw) (wd129 hw) (wd131 hw) (wd130 hw) (by decide) f257 (wd132 hw) (wd44 hw) (ctLenA hw X254.2.1 sr ru kr ([ca, cb] : List Int32) cz f257 f258 f259 f260 f261 S2 hcz) (lenOf pd8 rfl) rfl d52_4 rfl rfl (by decide) (nQ rfl) rfl rfl (by decide) (by decide) (fun v262 T262 h262 Q262 X262 z262 => ?_)
        obtain ⟨hv262, hh262⟩ := Q262
        subst hv262; rw [hh262] at X262
        refine G.t 10 C240 X262 d52_7 rfl (tlt (by decide : (1 : Int32) < 2)).2.1 <| G.a 11 C240 X262 d52_10 rfl rfl rfl <| G.b 12 C240 X262 d52_11 rfl rfl <| G.o 15 (cells' := 3) (slots' := 46) (argsL := [(.int 1)]) (St := []) C240 X262 (wd284 hw) (wd285 hw) (wd287 hw) (wd286 hw) (by decide) f257 (wd288 hw) (wd44 hw) (ctCaA hw X262.2.1 sr ru kr ([ca, cb] : List Int32) (1 : Int32) fmt cz f257 f258 f259 f260 (by decide) (show (1 : Int32) < (2 : Int32) from by decide) (show 1 < 2 from by decide) (own_alS l_ca (own_alS l_cb own_al0)) f261 Sf hfm S2 hcz) (lenOf pd25 rfl) rfl d52_12 rfl rfl (by decide) (nQ rfl) rfl rfl (by decide) (by decide) (fun v263 T263 h263 Q263 X263 z263 => ?_)
        obtain ⟨hv263, hh263⟩ := Q263
        subst hv263; rw [hh263] at X263
        refine G.w 17 C240 X263 d52_15 rfl (l' := #[vR sr, vI 1, vR sb, vI 1, vI cb]) rfl <| G.g 19 C240 X263 d52_17 rfl rfl <| G.j 21 (z := 92) C240 X263 d52_19 rfl (by decide) ?_
        by_cases pa1 : cb = (92 : Int32)
        · refine G.t 24 C240 X263 d52_21 rfl (teq pa1).2 <| G.a 25 C240 X263 d52_24 rfl rfl rfl <| G.F 27 (n := 8) (cells' := 5) (slots' := 58) (z := (2 : Int32)) (vs := [(.int 92), (.int 92)]) C240 X263 (ew hw) Hd255 (wd302 hw) (wS hw) (List.mem_of_getElem? (i := 1) rfl) ⟨by decide +kernel, by first | rfl | decide +kernel⟩ (by decide) rfl d52_25 rfl (by decide +kernel) (by decide) rfl rfl (by decide) (by decide) (fun vm265 T265 h265 a265 b265 k265 C265 X265 Hd265 E265 R265 A265 F265a F265b V265 sf265 => ?_)
          have K266 := K256.ext E265
          have f267 := (Es254.ext E265)
          have sn268 := sf265 sb (Safe.exa (EL := consts_1) C265.2.1.alike f267 (by decide) (by decide))
          have sn269 := sf265 t254 (CHr.safe R265 Et254.lt Sf254)
          have Vx270 : Arv Z h265 b265 k265 .byte (own_n (([92, 92] : List Int32)).length) (tx ([92, 92] : List Int32)) (.int 0) := V265
          have f271 := (Fv254.ext E265)
          have f272 := (Fc254.ext E265)
          have f273 := (Fn254.ext E265)
          have f274 := (Et254.ext E265)
          have f275 := (Vt254.ext E265)
          have f276 := (f257.ext E265)
          have f277 := (f260.ext E265)
          have f280 := (f261.ext E265)
          refine G.o 30 (cells' := 6) (slots' := 92) (argsL := [(.ref a265)]) (St := []) C265 X265 (wd252 hw) (wd253 hw) (wd255 hw) (wd254 hw) (by decide) f267 (wd256 hw) (wd32 hw) (ctAppA hw X265.2.1 sb t254 k254 (W ++ ([92, 34] : List Int32)) cq254 a265 b265 k265 ([92, 92] : List Int32) cz f267 f271 f272 f273 f274 f275 gs ga254 ns254 A265 F265b F265a Vx270 (Ne.symm sn269.2) (Ne.symm sn268.1) (Ne.symm sn269.1) (by first | omega | (simp only [List.length_append, List.length_cons, List.length_nil]; omega)) hq254 hwl254 (by first | omega | (simp only [List.length_append, List.length_cons, List.length_nil]; omega)) f280 S2 hcz) (lenOf pd34 rfl) rfl d52_27 rfl rfl (by decide) (nQ rfl) rfl rfl (by decide) (by decide) (fun v281 T281 h281 Q281 X281 z281 => ?_)
          obtain ⟨t281, k281, cq281, hv281, K281, hf281, hq281, hwl281, ns281, Es281, Fv281, Fc281, Fn281, Et281, Vt281⟩ := Q281
          subst hv281
          have Hd282 := Hd265.keep K281 (allS (Safe.exa (EL := consts_1) C265.2.1.alike f267 (by decide) (by decide)) (allS (CHr.safe R265 Et254.lt Sf254) all0))
          have K283 := K266.trans K281 (allS (mQ 0 rfl) (allS iw254 all0))
          have ga281 : n0 ≤ t281 := own_frg hf281 ga254 X265.2.1
          have iw281 : t281 ∈ [sb, tb] ∨ h0.size ≤ t281 := own_frw hf281 iw254 K266.1
          have Sf281 : Safe Z consts_1 vm265 h281 t281 := by
            rcases hf281 with e | e
            · rw [e]; exact Safe.keep K281 (allS (Safe.exa (EL := consts_1) C265.2.1.alike f267 (by decide) (by decide)) (allS (CHr.safe R265 Et254.lt Sf254) all0)) Hd265.cv (CHr.safe R265 Et254.lt Sf254)
            · exact Safe.keep K281 (allS (Safe.exa (EL := consts_1) C265.2.1.alike f267 (by decide) (by decide)) (allS (CHr.safe R265 Et254.lt Sf254) all0)) Hd265.cv (Safe.new e)
          have hg281 : t281 = tb ∨ h0.size ≤ t281 := own_frt hf281 hg254 K266.1
          refine G.v 31 C265 X281 d52_30 rfl rfl <| G.r 79 C265 X281 d52_31 (by decide) (by decide) <| G.y 82 C265 X281 d52_79 rfl rfl (z := (2 : Int32)) (by decide) (l' := #[vR sr, vI 1, vR sb, vI 2, vI cb]) rfl <| G.r 2 C265 X281 d52_82 (by decide) (by decide) <| G.b 3 C265 X281 d52_2 rfl rfl <| G.a 4 C265 X281 d52_3 rfl rfl rfl ?_
          have f284 := (f276.keep K281)
          have f285 := ((f258.ext E265).keep K281 (ninS nsr (ninS nb254_sr nin0)))
          have f286 := ((f259.ext E265).keep K281 (ninS nsr (ninS nb254_sr nin0)))
          have f287 := (f277.keep K281 (ninS (Ne.symm qn0) (ninS nb254_ru nin0)))
          have f288 := (f280.keep K281 (allS gs (allS ga254 all0)))
          refine G.o 7 (cells' := 6) (slots' := 92) (argsL := []) (St := [(.int 2)]) C265 X281 (wd283 hw) (wd129 hw) (wd131 hw) (wd130 hw) (by decide) f284 (wd132 hw) (wd44 hw) (ctLenA hw X281.2.1 sr ru kr ([ca, cb] : List Int32) cz f284 f285 f286 f287 f288 S2 hcz) (lenOf pd8 rfl) rfl d52_4 rfl rfl (by decide) (nQ rfl) rfl rfl (by decide) (by decide) (fun v289 T289 h289 Q289 X289 z289 => ?_)
          obtain ⟨hv289, hh289⟩ := Q289
          subst hv289; rw [hh289] at X289
          refine G.q 85 C265 X289 d52_7 (flt (by decide : ¬ (2 : Int32) < 2)).2.1 (by decide) (by decide) ?_
          have he290 : W ++ (own_escL ([ca, cb] : List Int32)) = ((W ++ ([92, 34] : List Int32)) ++ ([92, 92] : List Int32)) := by
            simp only [own_escL]
            rw [own_ec pa0 pb0 pc0, own_ea pa1]
            first | done | rfl | simp only [List.append_assoc, List.cons_append, List.nil_append, List.append_nil]
          exact G.H C265 X289 (ew hw) Hd282 d52_85 hret hlk (fun S' hm => (by rw [he290]; exact ⟨t281, k281, cq281, rfl, K283, hg281, hq281, hwl281, ns281, Es281, Fv281, Fc281, Fn281, Et281, Vt281, hm _ Vt281.lt Sf281⟩)) (by decide) (by decide)
        · refine G.q 34 C240 X263 d52_21 (feq pa1).2 (by decide) (by decide) <| G.g 36 C240 X263 d52_34 rfl rfl <| G.j 38 (z := 10) C240 X263 d52_36 rfl (by decide) ?_
          by_cases pb1 : cb = (10 : Int32)
          · refine G.t 41 C240 X263 d52_38 rfl (teq pb1).2 <| G.a 42 C240 X263 d52_41 rfl rfl rfl <| G.F 44 (n := 8) (cells' := 5) (slots' := 58) (z := (2 : Int32)) (vs := [(.int 92), (.int 110)]) C240 X263 (ew hw) Hd255 (wd310 hw) (wS hw) (List.mem_of_getElem? (i := 2) rfl) ⟨by decide +kernel, by first | rfl | decide +kernel⟩ (by decide) rfl d52_42 rfl (by decide +kernel) (by decide) rfl rfl (by decide) (by decide) (fun vm292 T292 h292 a292 b292 k292 C292 X292 Hd292 E292 R292 A292 F292a F292b V292 sf292 => ?_)
            have K293 := K256.ext E292
            have f294 := (Es254.ext E292)
            have sn295 := sf292 sb (Safe.exa (EL := consts_1) C292.2.1.alike f294 (by decide) (by decide))
            have sn296 := sf292 t254 (CHr.safe R292 Et254.lt Sf254)
            have Vx297 : Arv Z h292 b292 k292 .byte (own_n (([92, 110] : List Int32)).length) (tx ([92, 110] : List Int32)) (.int 0) := V292
            have f298 := (Fv254.ext E292)
            have f299 := (Fc254.ext E292)
            have f300 := (Fn254.ext E292)
            have f301 := (Et254.ext E292)
            have f302 := (Vt254.ext E292)
            have f303 := (f257.ext E292)
            have f304 := (f260.ext E292)
            have f307 := (f261.ext E292)
            refine G.o 47 (cells' := 6) (slots' := 92) (argsL := [(.ref a292)]) (St := []) C292 X292 (wd252 hw) (wd253 hw) (wd255 hw) (wd254 hw) (by decide) f294 (wd256 hw) (wd32 hw) (ctAppA hw X292.2.1 sb t254 k254 (W ++ ([92, 34] : List Int32)) cq254 a292 b292 k292 ([92, 110] : List Int32) cz f294 f298 f299 f300 f301 f302 gs ga254 ns254 A292 F292b F292a Vx297 (Ne.symm sn296.2) (Ne.symm sn295.1) (Ne.symm sn296.1) (by first | omega | (simp only [List.length_append, List.length_cons, List.length_nil]; omega)) hq254 hwl254 (by first | omega | (simp only [List.length_append, List.length_cons, List.length_nil]; omega)) f307 S2 hcz) (lenOf pd34 rfl) rfl d52_44 rfl rfl (by decide) (nQ rfl) rfl rfl (by decide) (by decide) (fun v308 T308 h308 Q308 X308 z308 => ?_)
            obtain ⟨t308, k308, cq308, hv308, K308, hf308, hq308, hwl308, ns308, Es308, Fv308, Fc308, Fn308, Et308, Vt308⟩ := Q308
            subst hv308
            have Hd309 := Hd292.keep K308 (allS (Safe.exa (EL := consts_1) C292.2.1.alike f294 (by decide) (by decide)) (allS (CHr.safe R292 Et254.lt Sf254) all0))
            have K310 := K293.trans K308 (allS (mQ 0 rfl) (allS iw254 all0))
            have ga308 : n0 ≤ t308 := own_frg hf308 ga254 X292.2.1
            have iw308 : t308 ∈ [sb, tb] ∨ h0.size ≤ t308 := own_frw hf308 iw254 K293.1
            have Sf308 : Safe Z consts_1 vm292 h308 t308 := by
              rcases hf308 with e | e
              · rw [e]; exact Safe.keep K308 (allS (Safe.exa (EL := consts_1) C292.2.1.alike f294 (by decide) (by decide)) (allS (CHr.safe R292 Et254.lt Sf254) all0)) Hd292.cv (CHr.safe R292 Et254.lt Sf254)
              · exact Safe.keep K308 (allS (Safe.exa (EL := consts_1) C292.2.1.alike f294 (by decide) (by decide)) (allS (CHr.safe R292 Et254.lt Sf254) all0)) Hd292.cv (Safe.new e)
            have hg308 : t308 = tb ∨ h0.size ≤ t308 := own_frt hf308 hg254 K293.1
            refine G.v 48 C292 X308 d52_47 rfl rfl <| G.r 79 C292 X308 d52_48 (by decide) (by decide) <| G.y 82 C292 X308 d52_79 rfl rfl (z := (2 : Int32)) (by decide) (l' := #[vR sr, vI 1, vR sb, vI 2, vI cb]) rfl <| G.r 2 C292 X308 d52_82 (by decide) (by decide) <| G.b 3 C292 X308 d52_2 rfl rfl <| G.a 4 C292 X308 d52_3 rfl rfl rfl ?_
            have f311 := (f303.keep K308)
            have f312 := ((f258.ext E292).keep K308 (ninS nsr (ninS nb254_sr nin0)))
            have f313 := ((f259.ext E292).keep K308 (ninS nsr (ninS nb254_sr nin0)))
            have f314 := (f304.keep K308 (ninS (Ne.symm qn0) (ninS nb254_ru nin0)))
            have f315 := (f307.keep K308 (allS gs (allS ga254 all0)))
            refine G.o 7 (cells' := 6) (slots' := 92) (argsL := []) (St := [(.int 2)]) C292 X308 (wd283 hw) (wd129 hw) (wd131 hw) (wd130 hw) (by decide) f311 (wd132 hw) (wd44 hw) (ctLenA hw X308.2.1 sr ru kr ([ca, cb] : List Int32) cz f311 f312 f313 f314 f315 S2 hcz) (lenOf pd8 rfl) rfl d52_4 rfl rfl (by decide) (nQ rfl) rfl rfl (by decide) (by decide) (fun v316 T316 h316 Q316 X316 z316 => ?_)
            obtain ⟨hv316, hh316⟩ := Q316
            subst hv316; rw [hh316] at X316
            refine G.q 85 C292 X316 d52_7 (flt (by decide : ¬ (2 : Int32) < 2)).2.1 (by decide) (by decide) ?_
            have he317 : W ++ (own_escL ([ca, cb] : List Int32)) = ((W ++ ([92, 34] : List Int32)) ++ ([92, 110] : List Int32)) := by
              simp only [own_escL]
              rw [own_ec pa0 pb0 pc0, own_eb pa1 pb1]
              first | done | rfl | simp only [List.append_assoc, List.cons_append, List.nil_append, List.append_nil]
            exact G.H C292 X316 (ew hw) Hd309 d52_85 hret hlk (fun S' hm => (by rw [he317]; exact ⟨t308, k308, cq308, rfl, K310, hg308, hq308, hwl308, ns308, Es308, Fv308, Fc308, Fn308, Et308, Vt308, hm _ Vt308.lt Sf308⟩)) (by decide) (by decide)
          · refine G.q 51 C240 X263 d52_38 (feq pb1).2 (by decide) (by decide) <| G.g 53 C240 X263 d52_51 rfl rfl <| G.j 55 (z := 34) C240 X263 d52_53 rfl (by decide) ?_
            by_cases pc1 : cb = (34 : Int32)
            · refine G.t 58 C240 X263 d52_55 rfl (teq pc1).2 <| G.b 59 C240 X263 d52_58 rfl rfl <| G.k 62 C240 X263 d52_59 rfl (feq (by decide : ¬ (1 : Int32) = 0)).1 <| G.a 63 C240 X263 d52_62 rfl rfl rfl <| G.F 65 (n := 8) (cells' := 5) (slots' := 58) (z := (2 : Int32)) (vs := [(.int 92), (.int 34)]) C240 X263 (ew hw) Hd255 (wd311 hw) (wS hw) (List.mem_of_getElem? (i := 3) rfl) ⟨by decide +kernel, by first | rfl | decide +kernel⟩ (by decide) rfl d52_63 rfl (by decide +kernel) (by decide) rfl rfl (by decide) (by decide) (fun vm319 T319 h319 a319 b319 k319 C319 X319 Hd319 E319 R319 A319 F319a F319b V319 sf319 => ?_)
              have K320 := K256.ext E319
              have f321 := (Es254.ext E319)
              have sn322 := sf319 sb (Safe.exa (EL := consts_1) C319.2.1.alike f321 (by decide) (by decide))
              have sn323 := sf319 t254 (CHr.safe R319 Et254.lt Sf254)
              have Vx324 : Arv Z h319 b319 k319 .byte (own_n (([92, 34] : List Int32)).length) (tx ([92, 34] : List Int32)) (.int 0) := V319
              have f325 := (Fv254.ext E319)
              have f326 := (Fc254.ext E319)
              have f327 := (Fn254.ext E319)
              have f328 := (Et254.ext E319)
              have f329 := (Vt254.ext E319)
              have f330 := (f257.ext E319)
              have f331 := (f260.ext E319)
              have f334 := (f261.ext E319)
              refine G.o 68 (cells' := 6) (slots' := 92) (argsL := [(.ref a319)]) (St := []) C319 X319 (wd252 hw) (wd253 hw) (wd255 hw) (wd254 hw) (by decide) f321 (wd256 hw) (wd32 hw) (ctAppA hw X319.2.1 sb t254 k254 (W ++ ([92, 34] : List Int32)) cq254 a319 b319 k319 ([92, 34] : List Int32) cz f321 f325 f326 f327 f328 f329 gs ga254 ns254 A319 F319b F319a Vx324 (Ne.symm sn323.2) (Ne.symm sn322.1) (Ne.symm sn323.1) (by first | omega | (simp only [List.length_append, List.length_cons, List.length_nil]; omega)) hq254 hwl254 (by first | omega | (simp only [List.length_append, List.length_cons, List.length_nil]; omega)) f334 S2 hcz) (lenOf pd34 rfl) rfl d52_65 rfl rfl (by decide) (nQ rfl) rfl rfl (by decide) (by decide) (fun v335 T335 h335 Q335 X335 z335 => ?_)
              obtain ⟨t335, k335, cq335, hv335, K335, hf335, hq335, hwl335, ns335, Es335, Fv335, Fc335, Fn335, Et335, Vt335⟩ := Q335
              subst hv335
              have Hd336 := Hd319.keep K335 (allS (Safe.exa (EL := consts_1) C319.2.1.alike f321 (by decide) (by decide)) (allS (CHr.safe R319 Et254.lt Sf254) all0))
              have K337 := K320.trans K335 (allS (mQ 0 rfl) (allS iw254 all0))
              have ga335 : n0 ≤ t335 := own_frg hf335 ga254 X319.2.1
              have iw335 : t335 ∈ [sb, tb] ∨ h0.size ≤ t335 := own_frw hf335 iw254 K320.1
              have Sf335 : Safe Z consts_1 vm319 h335 t335 := by
                rcases hf335 with e | e
                · rw [e]; exact Safe.keep K335 (allS (Safe.exa (EL := consts_1) C319.2.1.alike f321 (by decide) (by decide)) (allS (CHr.safe R319 Et254.lt Sf254) all0)) Hd319.cv (CHr.safe R319 Et254.lt Sf254)
                · exact Safe.keep K335 (allS (Safe.exa (EL := consts_1) C319.2.1.alike f321 (by decide) (by decide)) (allS (CHr.safe R319 Et254.lt Sf254) all0)) Hd319.cv (Safe.new e)
              have hg335 : t335 = tb ∨ h0.size ≤ t335 := own_frt hf335 hg254 K320.1
              refine G.v 69 C319 X335 d52_68 rfl rfl <| G.r 79 C319 X335 d52_69 (by decide) (by decide) <| G.y 82 C319 X335 d52_79 rfl rfl (z := (2 : Int32)) (by decide) (l' := #[vR sr, vI 1, vR sb, vI 2, vI cb]) rfl <| G.r 2 C319 X335 d52_82 (by decide) (by decide) <| G.b 3 C319 X335 d52_2 rfl rfl <| G.a 4 C319 X335 d52_3 rfl rfl rfl ?_
              have f338 := (f330.keep K335)
              have f339 := ((f258.ext E319).keep K335 (ninS nsr (ninS nb254_sr nin0)))
              have f340 := ((f259.ext E319).keep K335 (ninS nsr (ninS nb254_sr nin0)))
              have f341 := (f331.keep K335 (ninS (Ne.symm qn0) (ninS nb254_ru nin0)))
              have f342 := (f334.keep K335 (allS gs (allS ga254 all0)))
              refine G.o 7 (cells' := 6) (slots' := 92) (argsL := []) (St := [(.int 2)]) C319 X335 (wd283 hw) (wd129 hw) (wd131 hw) (wd130 hw) (by decide) f338 (wd132 hw) (wd44 hw) (ctLenA hw X335.2.1 sr ru kr ([ca, cb] : List Int32) cz f338 f339 f340 f341 f342 S2 hcz) (lenOf pd8 rfl) rfl d52_4 rfl rfl (by decide) (nQ rfl) rfl rfl (by decide) (by decide) (fun v343 T343 h343 Q343 X343 z343 => ?_)
              obtain ⟨hv343, hh343⟩ := Q343
              subst hv343; rw [hh343] at X343
              refine G.q 85 C319 X343 d52_7 (flt (by decide : ¬ (2 : Int32) < 2)).2.1 (by decide) (by decide) ?_
              have he344 : W ++ (own_escL ([ca, cb] : List Int32)) = ((W ++ ([92, 34] : List Int32)) ++ ([92, 34] : List Int32)) := by
                simp only [own_escL]
                rw [own_ec pa0 pb0 pc0, own_ec pa1 pb1 pc1]
                first | done | rfl | simp only [List.append_assoc, List.cons_append, List.nil_append, List.append_nil]
              exact G.H C319 X343 (ew hw) Hd336 d52_85 hret hlk (fun S' hm => (by rw [he344]; exact ⟨t335, k335, cq335, rfl, K337, hg335, hq335, hwl335, ns335, Es335, Fv335, Fc335, Fn335, Et335, Vt335, hm _ Vt335.lt Sf335⟩)) (by decide) (by decide)
            · refine G.q 72 C240 X263 d52_55 (feq pc1).2 (by decide) (by decide) <| G.a 73 C240 X263 d52_72 rfl rfl rfl <| G.g 75 C240 X263 d52_73 rfl rfl <| G.o 78 (cells' := 4) (slots' := 80) (argsL := [(.int cb)]) (St := []) C240 X263 (wd214 hw) (wd215 hw) (wd217 hw) (wd216 hw) (by decide) Es254 (wd218 hw) (wd32 hw) (ctApcA hw X263.2.1 sb t254 k254 (W ++ ([92, 34] : List Int32)) cq254 cb cz Es254 Fv254 Fc254 Fn254 Et254 Vt254 gs ga254 ns254 l_cb (by first | omega | (simp only [List.length_append, List.length_cons, List.length_nil]; omega)) hq254 hwl254 (by first | omega | (simp only [List.length_append, List.length_cons, List.length_nil]; omega)) f261 S2 hcz) (lenOf pd35 rfl) rfl d52_75 rfl rfl (by decide) (nQ rfl) rfl rfl (by decide) (by decide) (fun v347 T347 h347 Q347 X347 z347 => ?_)
              obtain ⟨t347, k347, cq347, hv347, K347, hf347, hq347, hwl347, ns347, Es347, Fv347, Fc347, Fn347, Et347, Vt347⟩ := Q347
              subst hv347
              have Hd348 := Hd255.keep K347 (allS (Safe.exa (EL := consts_1) C240.2.1.alike Es254 (by decide) (by decide)) (allS Sf254 all0))
              have K349 := K256.trans K347 (allS (mQ 0 rfl) (allS iw254 all0))
              have ga347 : n0 ≤ t347 := own_frg hf347 ga254 X263.2.1
              have iw347 : t347 ∈ [sb, tb] ∨ h0.size ≤ t347 := own_frw hf347 iw254 K256.1
              have Sf347 : Safe Z consts_1 vm240 h347 t347 := by
                rcases hf347 with e | e
                · rw [e]; exact Safe.keep K347 (allS (Safe.exa (EL := consts_1) C240.2.1.alike Es254 (by decide) (by decide)) (allS Sf254 all0)) Hd255.cv Sf254
                · exact Safe.keep K347 (allS (Safe.exa (EL := consts_1) C240.2.1.alike Es254 (by decide) (by decide)) (allS Sf254 all0)) Hd255.cv (Safe.new e)
              have hg347 : t347 = tb ∨ h0.size ≤ t347 := own_frt hf347 hg254 K256.1
              refine G.v 79 C240 X347 d52_78 rfl rfl <| G.y 82 C240 X347 d52_79 rfl rfl (z := (2 : Int32)) (by decide) (l' := #[vR sr, vI 1, vR sb, vI 2, vI cb]) rfl <| G.r 2 C240 X347 d52_82 (by decide) (by decide) <| G.b 3 C240 X347 d52_2 rfl rfl <| G.a 4 C240 X347 d52_3 rfl rfl rfl ?_
              have f350 := (f257.keep K347)
              have f351 := (f258.keep K347 (ninS nsr (ninS nb254_sr nin0)))
              have f352 := (f259.keep K347 (ninS nsr (ninS nb254_sr nin0)))
              have f353 := (f260.keep K347 (ninS (Ne.symm qn0) (ninS nb254_ru nin0)))
              have f354 := (f261.keep K347 (allS gs (allS ga254 all0)))
              refine G.o 7 (cells' := 4) (slots' := 80) (argsL := []) (St := [(.int 2)]) C240 X347 (wd283 hw) (wd129 hw) (wd131 hw) (wd130 hw) (by decide) f350 (wd132 hw) (wd44 hw) (ctLenA hw X347.2.1 sr ru kr ([ca, cb] : List Int32) cz f350 f351 f352 f353 f354 S2 hcz) (lenOf pd8 rfl) rfl d52_4 rfl rfl (by decide) (nQ rfl) rfl rfl (by decide) (by decide) (fun v355 T355 h355 Q355 X355 z355 => ?_)
              obtain ⟨hv355, hh355⟩ := Q355
              subst hv355; rw [hh355] at X355
              refine G.q 85 C240 X355 d52_7 (flt (by decide : ¬ (2 : Int32) < 2)).2.1 (by decide) (by decide) ?_
              have he356 : W ++ (own_escL ([ca, cb] : List Int32)) = ((W ++ ([92, 34] : List Int32)) ++ [cb]) := by
                simp only [own_escL]
                rw [own_ec pa0 pb0 pc0, own_ed pa1 pb1 pc1]
                first | done | rfl | simp only [List.append_assoc, List.cons_append, List.nil_append, List.append_nil]
              exact G.H C240 X355 (ew hw) Hd348 d52_85 hret hlk (fun S' hm => (by rw [he356]; exact ⟨t347, k347, cq347, rfl, K349, hg347, hq347, hwl347, ns347, Es347, Fv347, Fc347, Fn347, Et347, Vt347, hm _ Vt347.lt Sf347⟩)) (by decide) (by decide)
      · refine G.q 72 C X2 d52_55 (feq pc0).2 (by decide) (by decide) <| G.a 73 C X2 d52_72 rfl rfl rfl <| G.g 75 C X2 d52_73 rfl rfl <| G.o 78 (cells' := 1) (slots' := 34) (argsL := [(.int ca)]) (St := []) C X2 (wd214 hw) (wd215 hw) (wd217 hw) (wd216 hw) (by decide) Es (wd218 hw) (wd32 hw) (ctApcA hw X2.2.1 sb tb kt W cp ca cz Es Fv Fc Fn Et Vt gs gt nst l_ca (by first | omega | (simp only [List.length_append, List.length_cons, List.length_nil]; omega)) hcp hwc (by first | omega | (simp only [List.length_append, List.length_cons, List.length_nil]; omega)) OD S2 hcz) (lenOf pd35 rfl) rfl d52_75 rfl rfl (by decide) (nQ rfl) rfl rfl (by decide) (by decide) (fun v357 T357 h357 Q357 X357 z357 => ?_)
        obtain ⟨t357, k357, cq357, hv357, K357, hf357, hq357, hwl357, ns357, Es357, Fv357, Fc357, Fn357, Et357, Vt357⟩ := Q357
        subst hv357
        have Hd358 := H0.keep K357 (allS (Safe.exa (EL := consts_1) C.2.1.alike Es (by decide) (by decide)) (allS (hSf _ (List.mem_of_getElem? (i := 0) rfl)) all0))
        have K359 := (Keep.refl h0 [sb, tb]).trans K357 (allS (mQ 0 rfl) (allS (mQ 1 rfl) all0))
        have nb357_sr : sr ≠ t357 := own_frn hf357 nsq Er.lt
        have nb357_ru : ru ≠ t357 := own_frn hf357 nrt Vr.lt
        have ga357 : n0 ≤ t357 := own_frg hf357 gt X2.2.1
        have iw357 : t357 ∈ [sb, tb] ∨ h0.size ≤ t357 := own_frw hf357 (mQ 1 rfl) (Keep.refl h0 [sb, tb]).1
        have Sf357 : Safe Z consts_1 s.vm h357 t357 := by
          rcases hf357 with e | e
          · rw [e]; exact Safe.keep K357 (allS (Safe.exa (EL := consts_1) C.2.1.alike Es (by decide) (by decide)) (allS (hSf _ (List.mem_of_getElem? (i := 0) rfl)) all0)) H0.cv (hSf _ (List.mem_of_getElem? (i := 0) rfl))
          · exact Safe.keep K357 (allS (Safe.exa (EL := consts_1) C.2.1.alike Es (by decide) (by decide)) (allS (hSf _ (List.mem_of_getElem? (i := 0) rfl)) all0)) H0.cv (Safe.new e)
        have hg357 : t357 = tb ∨ h0.size ≤ t357 := hf357
        refine G.v 79 C X357 d52_78 rfl rfl <| G.y 82 C X357 d52_79 rfl rfl (z := (1 : Int32)) (by decide) (l' := #[vR sr, vI 1, vR sb, vI 1, vI ca]) rfl <| G.r 2 C X357 d52_82 (by decide) (by decide) <| G.b 3 C X357 d52_2 rfl rfl <| G.a 4 C X357 d52_3 rfl rfl rfl ?_
        have f360 := (Er.keep K357)
        have f361 := (Rv.keep K357 (ninS nsr (ninS nsq nin0)))
        have f362 := (Rc.keep K357 (ninS nsr (ninS nsq nin0)))
        have f363 := (Vr.keep K357 (ninS (Ne.symm qn0) (ninS nrt nin0)))
        have f364 := (OD.keep K357 (allS gs (allS gt all0)))
        refine G.o 7 (cells' := 1) (slots' := 34) (argsL := []) (St := [(.int 1)]) C X357 (wd283 hw) (wd129 hw) (wd131 hw) (wd130 hw) (by decide) f360 (wd132 hw) (wd44 hw) (ctLenA hw X357.2.1 sr ru kr ([ca, cb] : List Int32) cz f360 f361 f362 f363 f364 S2 hcz) (lenOf pd8 rfl) rfl d52_4 rfl rfl (by decide) (nQ rfl) rfl rfl (by decide) (by decide) (fun v365 T365 h365 Q365 X365 z365 => ?_)
        obtain ⟨hv365, hh365⟩ := Q365
        subst hv365; rw [hh365] at X365
        refine G.t 10 C X365 d52_7 rfl (tlt (by decide : (1 : Int32) < 2)).2.1 <| G.a 11 C X365 d52_10 rfl rfl rfl <| G.b 12 C X365 d52_11 rfl rfl <| G.o 15 (cells' := 1) (slots' := 34) (argsL := [(.int 1)]) (St := []) C X365 (wd284 hw) (wd285 hw) (wd287 hw) (wd286 hw) (by decide) f360 (wd288 hw) (wd44 hw) (ctCaA hw X365.2.1 sr ru kr ([ca, cb] : List Int32) (1 : Int32) fmt cz f360 f361 f362 f363 (by decide) (show (1 : Int32) < (2 : Int32) from by decide) (show 1 < 2 from by decide) (own_alS l_ca (own_alS l_cb own_al0)) f364 Sf hfm S2 hcz) (lenOf pd25 rfl) rfl d52_12 rfl rfl (by decide) (nQ rfl) rfl rfl (by decide) (by decide) (fun v366 T366 h366 Q366 X366 z366 => ?_)
        obtain ⟨hv366, hh366⟩ := Q366
        subst hv366; rw [hh366] at X366
        refine G.w 17 C X366 d52_15 rfl (l' := #[vR sr, vI 1, vR sb, vI 1, vI cb]) rfl <| G.g 19 C X366 d52_17 rfl rfl <| G.j 21 (z := 92) C X366 d52_19 rfl (by decide) ?_
        by_cases pa1 : cb = (92 : Int32)
        · refine G.t 24 C X366 d52_21 rfl (teq pa1).2 <| G.a 25 C X366 d52_24 rfl rfl rfl <| G.F 27 (n := 8) (cells' := 3) (slots' := 46) (z := (2 : Int32)) (vs := [(.int 92), (.int 92)]) C X366 (ew hw) Hd358 (wd302 hw) (wS hw) (List.mem_of_getElem? (i := 1) rfl) ⟨by decide +kernel, by first | rfl | decide +kernel⟩ (by decide) rfl d52_25 rfl (by decide +kernel) (by decide) rfl rfl (by decide) (by decide) (fun vm368 T368 h368 a368 b368 k368 C368 X368 Hd368 E368 R368 A368 F368a F368b V368 sf368 => ?_)
          have K369 := K359.ext E368
          have f370 := (Es357.ext E368)
          have sn371 := sf368 sb (Safe.exa (EL := consts_1) C368.2.1.alike f370 (by decide) (by decide))
          have sn372 := sf368 t357 (CHr.safe R368 Et357.lt Sf357)
          have Vx373 : Arv Z h368 b368 k368 .byte (own_n (([92, 92] : List Int32)).length) (tx ([92, 92] : List Int32)) (.int 0) := V368
          have f374 := (Fv357.ext E368)
          have f375 := (Fc357.ext E368)
          have f376 := (Fn357.ext E368)
          have f377 := (Et357.ext E368)
          have f378 := (Vt357.ext E368)
          have f379 := (f360.ext E368)
          have f380 := (f363.ext E368)
          have f381 := (f364.ext E368)
          refine G.o 30 (cells' := 4) (slots' := 80) (argsL := [(.ref a368)]) (St := []) C368 X368 (wd252 hw) (wd253 hw) (wd255 hw) (wd254 hw) (by decide) f370 (wd256 hw) (wd32 hw) (ctAppA hw X368.2.1 sb t357 k357 (W ++ [ca]) cq357 a368 b368 k368 ([92, 92] : List Int32) cz f370 f374 f375 f376 f377 f378 gs ga357 ns357 A368 F368b F368a Vx373 (Ne.symm sn372.2) (Ne.symm sn371.1) (Ne.symm sn372.1) (by first | omega | (simp only [List.length_append, List.length_cons, List.length_nil]; omega)) hq357 hwl357 (by first | omega | (simp only [List.length_append, List.length_cons, List.length_nil]; omega)) f381 S2 hcz) (lenOf pd34 rfl) rfl d52_27 rfl rfl (by decide) (nQ rfl) rfl rfl (by decide) (by decide) (fun v382 T382 h382 Q382 X382 z382 => ?_)
          obtain ⟨t382, k382, cq382, hv382, K382, hf382, hq382, hwl382, ns382, Es382, Fv382, Fc382, Fn382, Et382, Vt382⟩ := Q382
          subst hv382
          have Hd383 := Hd368.keep K382 (allS (Safe.exa (EL := consts_1) C368.2.1.alike f370 (by decide) (by decide)) (allS (CHr.safe R368 Et357.lt Sf357) all0))
          have K384 := K369.trans K382 (allS (mQ 0 rfl) (allS iw357 all0))
          have ga382 : n0 ≤ t382 := own_frg hf382 ga357 X368.2.1
          have iw382 : t382 ∈ [sb, tb] ∨ h0.size ≤ t382 := own_frw hf382 iw357 K369.1
          have Sf382 : Safe Z consts_1 vm368 h382 t382 := by
            rcases hf382 with e | e
            · rw [e]; exact Safe.keep K382 (allS (Safe.exa (EL := consts_1) C368.2.1.alike f370 (by decide) (by decide)) (allS (CHr.safe R368 Et357.lt Sf357) all0)) Hd368.cv (CHr.safe R368 Et357.lt Sf357)
            · exact Safe.keep K382 (allS (Safe.exa (EL := consts_1) C368.2.1.alike f370 (by decide) (by decide)) (allS (CHr.safe R368 Et357.lt Sf357) all0)) Hd368.cv (Safe.new e)
          have hg382 : t382 = tb ∨ h0.size ≤ t382 := own_frt hf382 hg357 K369.1
          refine G.v 31 C368 X382 d52_30 rfl rfl <| G.r 79 C368 X382 d52_31 (by decide) (by decide) <| G.y 82 C368 X382 d52_79 rfl rfl (z := (2 : Int32)) (by decide) (l' := #[vR sr, vI 1, vR sb, vI 2, vI cb]) rfl <| G.r 2 C368 X382 d52_82 (by decide) (by decide) <| G.b 3 C368 X382 d52_2 rfl rfl <| G.a 4 C368 X382 d52_3 rfl rfl rfl ?_
          have f385 := (f379.keep K382)
          have f386 := ((f361.ext E368).keep K382 (ninS nsr (ninS nb357_sr nin0)))
          have f387 := ((f362.ext E368).keep K382 (ninS nsr (ninS nb357_sr nin0)))
          have f388 := (f380.keep K382 (ninS (Ne.symm qn0) (ninS nb357_ru nin0)))
          have f389 := (f381.keep K382 (allS gs (allS ga357 all0)))
          refine G.o 7 (cells' := 4) (slots' := 80) (argsL := []) (St := [(.int 2)]) C368 X382 (wd283 hw) (wd129 hw) (wd131 hw) (wd130 hw) (by decide) f385 (wd132 hw) (wd44 hw) (ctLenA hw X382.2.1 sr ru kr ([ca, cb] : List Int32) cz f385 f386 f387 f388 f389 S2 hcz) (lenOf pd8 rfl) rfl d52_4 rfl rfl (by decide) (nQ rfl) rfl rfl (by decide) (by decide) (fun v390 T390 h390 Q390 X390 z390 => ?_)
          obtain ⟨hv390, hh390⟩ := Q390
          subst hv390; rw [hh390] at X390
          refine G.q 85 C368 X390 d52_7 (flt (by decide : ¬ (2 : Int32) < 2)).2.1 (by decide) (by decide) ?_
          have he391 : W ++ (own_escL ([ca, cb] : List Int32)) = ((W ++ [ca]) ++ ([92, 92] : List Int32)) := by
            simp only [own_escL]
            rw [own_ed pa0 pb0 pc0, own_ea pa1]
            first | done | rfl | simp only [List.append_assoc, List.cons_append, List.nil_append, List.append_nil]
          exact G.H C368 X390 (ew hw) Hd383 d52_85 hret hlk (fun S' hm => (by rw [he391]; exact ⟨t382, k382, cq382, rfl, K384, hg382, hq382, hwl382, ns382, Es382, Fv382, Fc382, Fn382, Et382, Vt382, hm _ Vt382.lt Sf382⟩)) (by decide) (by decide)
        · refine G.q 34 C X366 d52_21 (feq pa1).2 (by decide) (by decide) <| G.g 36 C X366 d52_34 rfl rfl <| G.j 38 (z := 10) C X366 d52_36 rfl (by decide) ?_
          by_cases pb1 : cb = (10 : Int32)
          · refine G.t 41 C X366 d52_38 rfl (teq pb1).2 <| G.a 42 C X366 d52_41 rfl rfl rfl <| G.F 44 (n := 8) (cells' := 3) (slots' := 46) (z := (2 : Int32)) (vs := [(.int 92), (.int 110)]) C X366 (ew hw) Hd358 (wd310 hw) (wS hw) (List.mem_of_getElem? (i := 2) rfl) ⟨by decide +kernel, by first | rfl | decide +kernel⟩ (by decide) rfl d52_42 rfl (by decide +kernel) (by decide) rfl rfl (by decide) (by decide) (fun vm393 T393 h393 a393 b393 k393 C393 X393 Hd393 E393 R393 A393 F393a F393b V393 sf393 => ?_)
            have K394 := K359.ext E393
            have f395 := (Es357.ext E393)
            have sn396 := sf393 sb (Safe.exa (EL := consts_1) C393.2.1.alike f395 (by decide) (by decide))
            have sn397 := sf393 t357 (CHr.safe R393 Et357.lt Sf357)
            have Vx398 : Arv Z h393 b393 k393 .byte (own_n (([92, 110] : List Int32)).length) (tx ([92, 110] : List Int32)) (.int 0) := V393
            have f399 := (Fv357.ext E393)
            have f400 := (Fc357.ext E393)
            have f401 := (Fn357.ext E393)
            have f402 := (Et357.ext E393)
            have f403 := (Vt357.ext E393)
            have f404 := (f360.ext E393)
            have f405 := (f363.ext E393)
            have f406 := (f364.ext E393)
            refine G.o 47 (cells' := 4) (slots' := 80) (argsL := [(.ref a393)]) (St := []) C393 X393 (wd252 hw) (wd253 hw) (wd255 hw) (wd254 hw) (by decide) f395 (wd256 hw) (wd32 hw) (ctAppA hw X393.2.1 sb t357 k357 (W ++ [ca]) cq357 a393 b393 k393 ([92, 110] : List Int32) cz f395 f399 f400 f401 f402 f403 gs ga357 ns357 A393 F393b F393a Vx398 (Ne.symm sn397.2) (Ne.symm sn396.1) (Ne.symm sn397.1) (by first | omega | (simp only [List.length_append, List.length_cons, List.length_nil]; omega)) hq357 hwl357 (by first | omega | (simp only [List.length_append, List.length_cons, List.length_nil]; omega)) f406 S2 hcz) (lenOf pd34 rfl) rfl d52_44 rfl rfl (by decide) (nQ rfl) rfl rfl (by decide) (by decide) (fun v407 T407 h407 Q407 X407 z407 => ?_)
            obtain ⟨t407, k407, cq407, hv407, K407, hf407, hq407, hwl407, ns407, Es407, Fv407, Fc407, Fn407, Et407, Vt407⟩ := Q407
            subst hv407
            have Hd408 := Hd393.keep K407 (allS (Safe.exa (EL := consts_1) C393.2.1.alike f395 (by decide) (by decide)) (allS (CHr.safe R393 Et357.lt Sf357) all0))
            have K409 := K394.trans K407 (allS (mQ 0 rfl) (allS iw357 all0))
            have ga407 : n0 ≤ t407 := own_frg hf407 ga357 X393.2.1
            have iw407 : t407 ∈ [sb, tb] ∨ h0.size ≤ t407 := own_frw hf407 iw357 K394.1
            have Sf407 : Safe Z consts_1 vm393 h407 t407 := by
              rcases hf407 with e | e
              · rw [e]; exact Safe.keep K407 (allS (Safe.exa (EL := consts_1) C393.2.1.alike f395 (by decide) (by decide)) (allS (CHr.safe R393 Et357.lt Sf357) all0)) Hd393.cv (CHr.safe R393 Et357.lt Sf357)
              · exact Safe.keep K407 (allS (Safe.exa (EL := consts_1) C393.2.1.alike f395 (by decide) (by decide)) (allS (CHr.safe R393 Et357.lt Sf357) all0)) Hd393.cv (Safe.new e)
            have hg407 : t407 = tb ∨ h0.size ≤ t407 := own_frt hf407 hg357 K394.1
            refine G.v 48 C393 X407 d52_47 rfl rfl <| G.r 79 C393 X407 d52_48 (by decide) (by decide) <| G.y 82 C393 X407 d52_79 rfl rfl (z := (2 : Int32)) (by decide) (l' := #[vR sr, vI 1, vR sb, vI 2, vI cb]) rfl <| G.r 2 C393 X407 d52_82 (by decide) (by decide) <| G.b 3 C393 X407 d52_2 rfl rfl <| G.a 4 C393 X407 d52_3 rfl rfl rfl ?_
            have f410 := (f404.keep K407)
            have f411 := ((f361.ext E393).keep K407 (ninS nsr (ninS nb357_sr nin0)))
            have f412 := ((f362.ext E393).keep K407 (ninS nsr (ninS nb357_sr nin0)))
            have f413 := (f405.keep K407 (ninS (Ne.symm qn0) (ninS nb357_ru nin0)))
            have f414 := (f406.keep K407 (allS gs (allS ga357 all0)))
            refine G.o 7 (cells' := 4) (slots' := 80) (argsL := []) (St := [(.int 2)]) C393 X407 (wd283 hw) (wd129 hw) (wd131 hw) (wd130 hw) (by decide) f410 (wd132 hw) (wd44 hw) (ctLenA hw X407.2.1 sr ru kr ([ca, cb] : List Int32) cz f410 f411 f412 f413 f414 S2 hcz) (lenOf pd8 rfl) rfl d52_4 rfl rfl (by decide) (nQ rfl) rfl rfl (by decide) (by decide) (fun v415 T415 h415 Q415 X415 z415 => ?_)
            obtain ⟨hv415, hh415⟩ := Q415
            subst hv415; rw [hh415] at X415
            refine G.q 85 C393 X415 d52_7 (flt (by decide : ¬ (2 : Int32) < 2)).2.1 (by decide) (by decide) ?_
            have he416 : W ++ (own_escL ([ca, cb] : List Int32)) = ((W ++ [ca]) ++ ([92, 110] : List Int32)) := by
              simp only [own_escL]
              rw [own_ed pa0 pb0 pc0, own_eb pa1 pb1]
              first | done | rfl | simp only [List.append_assoc, List.cons_append, List.nil_append, List.append_nil]
            exact G.H C393 X415 (ew hw) Hd408 d52_85 hret hlk (fun S' hm => (by rw [he416]; exact ⟨t407, k407, cq407, rfl, K409, hg407, hq407, hwl407, ns407, Es407, Fv407, Fc407, Fn407, Et407, Vt407, hm _ Vt407.lt Sf407⟩)) (by decide) (by decide)
          · refine G.q 51 C X366 d52_38 (feq pb1).2 (by decide) (by decide) <| G.g 53 C X366 d52_51 rfl rfl <| G.j 55 (z := 34) C X366 d52_53 rfl (by decide) ?_
            by_cases pc1 : cb = (34 : Int32)
            · refine G.t 58 C X366 d52_55 rfl (teq pc1).2 <| G.b 59 C X366 d52_58 rfl rfl <| G.k 62 C X366 d52_59 rfl (feq (by decide : ¬ (1 : Int32) = 0)).1 <| G.a 63 C X366 d52_62 rfl rfl rfl <| G.F 65 (n := 8) (cells' := 3) (slots' := 46) (z := (2 : Int32)) (vs := [(.int 92), (.int 34)]) C X366 (ew hw) Hd358 (wd311 hw) (wS hw) (List.mem_of_getElem? (i := 3) rfl) ⟨by decide +kernel, by first | rfl | decide +kernel⟩ (by decide) rfl d52_63 rfl (by decide +kernel) (by decide) rfl rfl (by decide) (by decide) (fun vm418 T418 h418 a418 b418 k418 C418 X418 Hd418 E418 R418 A418 F418a F418b V418 sf418 => ?_)
              have K419 := K359.ext E418
              have f420 := (Es357.ext E418)
              have sn421 := sf418 sb (Safe.exa (EL := consts_1) C418.2.1.alike f420 (by decide) (by decide))
              have sn422 := sf418 t357 (CHr.safe R418 Et357.lt Sf357)
              have Vx423 : Arv Z h418 b418 k418 .byte (own_n (([92, 34] : List Int32)).length) (tx ([92, 34] : List Int32)) (.int 0) := V418
              have f424 := (Fv357.ext E418)
              have f425 := (Fc357.ext E418)
              have f426 := (Fn357.ext E418)
              have f427 := (Et357.ext E418)
              have f428 := (Vt357.ext E418)
              have f429 := (f360.ext E418)
              have f430 := (f363.ext E418)
              have f431 := (f364.ext E418)
              refine G.o 68 (cells' := 4) (slots' := 80) (argsL := [(.ref a418)]) (St := []) C418 X418 (wd252 hw) (wd253 hw) (wd255 hw) (wd254 hw) (by decide) f420 (wd256 hw) (wd32 hw) (ctAppA hw X418.2.1 sb t357 k357 (W ++ [ca]) cq357 a418 b418 k418 ([92, 34] : List Int32) cz f420 f424 f425 f426 f427 f428 gs ga357 ns357 A418 F418b F418a Vx423 (Ne.symm sn422.2) (Ne.symm sn421.1) (Ne.symm sn422.1) (by first | omega | (simp only [List.length_append, List.length_cons, List.length_nil]; omega)) hq357 hwl357 (by first | omega | (simp only [List.length_append, List.length_cons, List.length_nil]; omega)) f431 S2 hcz) (lenOf pd34 rfl) rfl d52_65 rfl rfl (by decide) (nQ rfl) rfl rfl (by decide) (by decide) (fun v432 T432 h432 Q432 X432 z432 => ?_)
              obtain ⟨t432, k432, cq432, hv432, K432, hf432, hq432, hwl432, ns432, Es432, Fv432, Fc432, Fn432, Et432, Vt432⟩ := Q432
              subst hv432
              have Hd433 := Hd418.keep K432 (allS (Safe.exa (EL := consts_1) C418.2.1.alike f420 (by decide) (by decide)) (allS (CHr.safe R418 Et357.lt Sf357) all0))
              have K434 := K419.trans K432 (allS (mQ 0 rfl) (allS iw357 all0))
              have ga432 : n0 ≤ t432 := own_frg hf432 ga357 X418.2.1
              have iw432 : t432 ∈ [sb, tb] ∨ h0.size ≤ t432 := own_frw hf432 iw357 K419.1
              have Sf432 : Safe Z consts_1 vm418 h432 t432 := by
                rcases hf432 with e | e
                · rw [e]; exact Safe.keep K432 (allS (Safe.exa (EL := consts_1) C418.2.1.alike f420 (by decide) (by decide)) (allS (CHr.safe R418 Et357.lt Sf357) all0)) Hd418.cv (CHr.safe R418 Et357.lt Sf357)
                · exact Safe.keep K432 (allS (Safe.exa (EL := consts_1) C418.2.1.alike f420 (by decide) (by decide)) (allS (CHr.safe R418 Et357.lt Sf357) all0)) Hd418.cv (Safe.new e)
              have hg432 : t432 = tb ∨ h0.size ≤ t432 := own_frt hf432 hg357 K419.1
              refine G.v 69 C418 X432 d52_68 rfl rfl <| G.r 79 C418 X432 d52_69 (by decide) (by decide) <| G.y 82 C418 X432 d52_79 rfl rfl (z := (2 : Int32)) (by decide) (l' := #[vR sr, vI 1, vR sb, vI 2, vI cb]) rfl <| G.r 2 C418 X432 d52_82 (by decide) (by decide) <| G.b 3 C418 X432 d52_2 rfl rfl <| G.a 4 C418 X432 d52_3 rfl rfl rfl ?_
              have f435 := (f429.keep K432)
              have f436 := ((f361.ext E418).keep K432 (ninS nsr (ninS nb357_sr nin0)))
              have f437 := ((f362.ext E418).keep K432 (ninS nsr (ninS nb357_sr nin0)))
              have f438 := (f430.keep K432 (ninS (Ne.symm qn0) (ninS nb357_ru nin0)))
              have f439 := (f431.keep K432 (allS gs (allS ga357 all0)))
              refine G.o 7 (cells' := 4) (slots' := 80) (argsL := []) (St := [(.int 2)]) C418 X432 (wd283 hw) (wd129 hw) (wd131 hw) (wd130 hw) (by decide) f435 (wd132 hw) (wd44 hw) (ctLenA hw X432.2.1 sr ru kr ([ca, cb] : List Int32) cz f435 f436 f437 f438 f439 S2 hcz) (lenOf pd8 rfl) rfl d52_4 rfl rfl (by decide) (nQ rfl) rfl rfl (by decide) (by decide) (fun v440 T440 h440 Q440 X440 z440 => ?_)
              obtain ⟨hv440, hh440⟩ := Q440
              subst hv440; rw [hh440] at X440
              refine G.q 85 C418 X440 d52_7 (flt (by decide : ¬ (2 : Int32) < 2)).2.1 (by decide) (by decide) ?_
              have he441 : W ++ (own_escL ([ca, cb] : List Int32)) = ((W ++ [ca]) ++ ([92, 34] : List Int32)) := by
                simp only [own_escL]
                rw [own_ed pa0 pb0 pc0, own_ec pa1 pb1 pc1]
                first | done | rfl | simp only [List.append_assoc, List.cons_append, List.nil_append, List.append_nil]
              exact G.H C418 X440 (ew hw) Hd433 d52_85 hret hlk (fun S' hm => (by rw [he441]; exact ⟨t432, k432, cq432, rfl, K434, hg432, hq432, hwl432, ns432, Es432, Fv432, Fc432, Fn432, Et432, Vt432, hm _ Vt432.lt Sf432⟩)) (by decide) (by decide)
            · refine G.q 72 C X366 d52_55 (feq pc1).2 (by decide) (by decide) <| G.a 73 C X366 d52_72 rfl rfl rfl <| G.g 75 C X366 d52_73 rfl rfl <| G.o 78 (cells' := 2) (slots' := 68) (argsL := [(.int cb)]) (St := []) C X366 (wd214 hw) (wd215 hw) (wd217 hw) (wd216 hw) (by decide) Es357 (wd218 hw) (wd32 hw) (ctApcA hw X366.2.1 sb t357 k357 (W ++ [ca]) cq357 cb cz Es357 Fv357 Fc357 Fn357 Et357 Vt357 gs ga357 ns357 l_cb (by first | omega | (simp only [List.length_append, List.length_cons, List.length_nil]; omega)) hq357 hwl357 (by first | omega | (simp only [List.length_append, List.length_cons, List.length_nil]; omega)) f364 S2 hcz) (lenOf pd35 rfl) rfl d52_75 rfl rfl (by decide) (nQ rfl) rfl rfl (by decide) (by decide) (fun v442 T442 h442 Q442 X442 z442 => ?_)
              obtain ⟨t442, k442, cq442, hv442, K442, hf442, hq442, hwl442, ns442, Es442, Fv442, Fc442, Fn442, Et442, Vt442⟩ := Q442
              subst hv442
              have Hd443 := Hd358.keep K442 (allS (Safe.exa (EL := consts_1) C.2.1.alike Es357 (by decide) (by decide)) (allS Sf357 all0))
              have K444 := K359.trans K442 (allS (mQ 0 rfl) (allS iw357 all0))
              have ga442 : n0 ≤ t442 := own_frg hf442 ga357 X366.2.1
              have iw442 : t442 ∈ [sb, tb] ∨ h0.size ≤ t442 := own_frw hf442 iw357 K359.1
              have Sf442 : Safe Z consts_1 s.vm h442 t442 := by
                rcases hf442 with e | e
                · rw [e]; exact Safe.keep K442 (allS (Safe.exa (EL := consts_1) C.2.1.alike Es357 (by decide) (by decide)) (allS Sf357 all0)) Hd358.cv Sf357
                · exact Safe.keep K442 (allS (Safe.exa (EL := consts_1) C.2.1.alike Es357 (by decide) (by decide)) (allS Sf357 all0)) Hd358.cv (Safe.new e)
              have hg442 : t442 = tb ∨ h0.size ≤ t442 := own_frt hf442 hg357 K359.1
              refine G.v 79 C X442 d52_78 rfl rfl <| G.y 82 C X442 d52_79 rfl rfl (z := (2 : Int32)) (by decide) (l' := #[vR sr, vI 1, vR sb, vI 2, vI cb]) rfl <| G.r 2 C X442 d52_82 (by decide) (by decide) <| G.b 3 C X442 d52_2 rfl rfl <| G.a 4 C X442 d52_3 rfl rfl rfl ?_
              have f445 := (f360.keep K442)
              have f446 := (f361.keep K442 (ninS nsr (ninS nb357_sr nin0)))
              have f447 := (f362.keep K442 (ninS nsr (ninS nb357_sr nin0)))
              have f448 := (f363.keep K442 (ninS (Ne.symm qn0) (ninS nb357_ru nin0)))
              have f449 := (f364.keep K442 (allS gs (allS ga357 all0)))
              refine G.o 7 (cells' := 2) (slots' := 68) (argsL := []) (St := [(.int 2)]) C X442 (wd283 hw) (wd129 hw) (wd131 hw) (wd130 hw) (by decide) f445 (wd132 hw) (wd44 hw) (ctLenA hw X442.2.1 sr ru kr ([ca, cb] : List Int32) cz f445 f446 f447 f448 f449 S2 hcz) (lenOf pd8 rfl) rfl d52_4 rfl rfl (by decide) (nQ rfl) rfl rfl (by decide) (by decide) (fun v450 T450 h450 Q450 X450 z450 => ?_)
              obtain ⟨hv450, hh450⟩ := Q450
              subst hv450; rw [hh450] at X450
              refine G.q 85 C X450 d52_7 (flt (by decide : ¬ (2 : Int32) < 2)).2.1 (by decide) (by decide) ?_
              have he451 : W ++ (own_escL ([ca, cb] : List Int32)) = ((W ++ [ca]) ++ [cb]) := by
                simp only [own_escL]
                rw [own_ed pa0 pb0 pc0, own_ed pa1 pb1 pc1]
                first | done | rfl | simp only [List.append_assoc, List.cons_append, List.nil_append, List.append_nil]
              exact G.H C X450 (ew hw) Hd443 d52_85 hret hlk (fun S' hm => (by rw [he451]; exact ⟨t442, k442, cq442, rfl, K444, hg442, hq442, hwl442, ns442, Es442, Fv442, Fc442, Fn442, Et442, Vt442, hm _ Vt442.lt Sf442⟩)) (by decide) (by decide)
theorem ctEsc {l : Launch} {Z : State} {a0 : Array Value} (hw : HW a0 Z) {n0 : Nat} {h0 : Heap} (hn0 : n0 ≤ h0.size) (sb tb : Addr) (kt : ClassId) (W : List Int32) (cp : Int32) (sr ru : Addr) (kr : ClassId) (M : List Int32) (cz : Int32) (fmt : Value) (Es : Exa Z h0 sb zq4) (Fv : Fld Z h0 sb zq1 "value" "[B" (.ref tb)) (Fc : Fld Z h0 sb zq1 "coder" "B" (.int 0)) (Fn : Fld Z h0 sb zq1 "count" "I" (.int (own_n (W).length))) (Et : Exa Z h0 tb "[B") (Vt : Arv Z h0 tb kt .byte cp (tx W) (.int 0)) (gs : n0 ≤ sb) (gt : n0 ≤ tb) (nst : sb ≠ tb) (Er : Exa Z h0 sr zq0) (Rv : Fld Z h0 sr zq0 "value" "[B" (.ref ru)) (Rc : Fld Z h0 sr zq0 "coder" "B" (.int 0)) (Vr : Arv Z h0 ru kr .byte (own_n (M).length) (tx M) (.int 0)) (nrt : ru ≠ tb) (nsr : sr ≠ sb) (nsq : sr ≠ tb) (hcp : cp = 16 ∨ cp = 34) (hwc : W.length ≤ cp.toNatClampNeg) (hl : W.length + 4 < 34) (hM : M.length ≤ 2) (hla : ∀ c ∈ M, own_lat c) (Sf : Sta Z Z.heap zq9 zq12 zq14 fmt) (hfm : fmt.isRef = true) (OD : Old Z n0 h0) (S2 : Sta Z Z.heap zq0 zq5 "Z" (.int cz)) (hcz : ¬ cz = 0) :
 CtrW l Z consts_1 [tb] (⟨zq15, "escaped", zq24⟩ : MethodName) prog_35_method_6_code 5 none (rQ 6 8 160 160) n0 #[(.ref sr), (.int 1), (.ref sb)] h0 (fun v h sfe => ∃ (t : Addr) (k : ClassId) (cq : Int32), v = none ∧ Keep h0 h [sb, tb] ∧ (t = tb ∨ h0.size ≤ t) ∧ (cq = 16 ∨ cq = 34) ∧ (W ++ (own_escL M)).length ≤ cq.toNatClampNeg ∧ sb ≠ t ∧ Exa Z h sb zq4 ∧ Fld Z h sb zq1 "value" "[B" (.ref t) ∧ Fld Z h sb zq1 "coder" "B" (.int 0) ∧ Fld Z h sb zq1 "count" "I" (.int (own_n ((W ++ (own_escL M))).length)) ∧ Exa Z h t "[B" ∧ Arv Z h t k .byte cq (tx (W ++ (own_escL M))) (.int 0) ∧ sfe t) := by
 match M, Vr, hM, hla with
 | [], Vr, _, _ => exact ctEsc0 hw hn0 sb tb kt W cp sr ru kr cz fmt Es Fv Fc Fn Et Vt gs gt nst Er Rv Rc Vr nrt nsr nsq hcp hwc hl Sf hfm OD S2 hcz
 | [ca], Vr, _, hla => exact ctEsc1 hw hn0 sb tb kt W cp sr ru kr ca cz fmt Es Fv Fc Fn Et Vt gs gt nst Er Rv Rc Vr nrt nsr nsq hcp hwc hl (hla ca (List.mem_cons_self ..)) Sf hfm OD S2 hcz
 | [ca, cb], Vr, _, hla => exact ctEsc2 hw hn0 sb tb kt W cp sr ru kr ca cb cz fmt Es Fv Fc Fn Et Vt gs gt nst Er Rv Rc Vr nrt nsr nsq hcp hwc hl (hla ca (List.mem_cons_self ..)) (hla cb (List.mem_cons_of_mem _ (List.mem_cons_self ..))) Sf hfm OD S2 hcz
 | _ :: _ :: _ :: _, _, hM, _ => exact absurd hM (by simp only [List.length_cons]; omega)
theorem ef5 (m : MethodId) (x0 : Addr) (x1 : Addr) : entryFrame m #[(.ref x0), (.ref x1)] 4 = mkF m 0 #[.val (.ref x0), .val (.ref x1), .unset, .unset] [] := by first | (simp [entryFrame, mkF, argsToLocals, Value.category]; done) | rfl
theorem ctLab0 {l : Launch} {Z : State} {a0 : Array Value} (hw : HW a0 Z) {n0 : Nat} {h0 : Heap} (hn0 : n0 ≤ h0.size) (ln_ lv_ : Addr) (cz : Int32) (fmt : Value) (E_ln_ : Exa Z h0 ln_ zq2) (S_ln_ : Fld Z h0 ln_ zq2 "size" "I" (.int 0)) (E_lv_ : Exa Z h0 lv_ zq2) (S_lv_ : Fld Z h0 lv_ zq2 "size" "I" (.int 0)) (Sf : Sta Z Z.heap zq9 zq12 zq14 fmt) (hfm : fmt.isRef = true) (OD : Old Z n0 h0) (S2 : Sta Z Z.heap zq0 zq5 "Z" (.int cz)) (hcz : ¬ cz = 0) :
 CtrW l Z consts_1 [] (⟨zq15, "labels", zq25⟩ : MethodName) prog_35_method_5_code 4 (some (.object zq0)) (rQ 8 44 1100 190) n0 #[(.ref ln_), (.ref lv_)] h0 (fun v h sfe => ∃ (b t : Addr) (k : ClassId), v = some (.ref b) ∧ Keep h0 h [] ∧ Exa Z h b zq0 ∧ Fld Z h b zq0 "coder" "B" (.int 0) ∧ Fld Z h b zq0 "value" "[B" (.ref t) ∧ Arv Z h t k .byte (own_n (([] : List Int32)).length) (tx ([] : List Int32)) (.int 0)) := by
 refine CtrW.of (plainFor_of_name pn4) hn0 ?_
 intro p e s m below meth c T0 C hnm hret hlk X0 H0 hSf
 rw [ef5 m ln_ lv_]
 refine G.U 3 (cells' := 1) (slots' := 4) C X0 (wd30 hw) (wd31 hw) (wd32 hw) d5_0 rfl rfl rfl (by decide) (by decide) (fun T1 h1 a1 X1 g1 q1 E1 A1 D1 U1 => ?_)
 have ne2 : ln_ ≠ a1 := Nat.ne_of_lt (Nat.lt_of_lt_of_eq E_ln_.lt g1.symm)
 have sz4 : h0.size ≤ a1 := Nat.le_trans (Keep.refl h0 []).1 (Nat.le_of_eq g1.symm)
 have Hd5 := H0.ext E1
 have K6 := (Keep.refl h0 []).ext E1
 have F1_value : Fld Z h1 a1 zq1 "value" "[B" .null := D1 (Or.inl (wd47 hw)) (ty := (.array .byte)) (by decide)
 have F1_coder : Fld Z h1 a1 zq1 "coder" "B" (.int 0) := D1 (Or.inl (wd49 hw)) (ty := .byte) (by decide)
 have F1_count : Fld Z h1 a1 zq1 "count" "I" (.int 0) := D1 (Or.inl (wd99 hw)) (ty := .int) (by decide)
 refine G.I 4 C X1 d5_3 rfl rfl ?_
 have f7 := (E_ln_.ext E1)
 have f9 := (OD.ext E1)
 refine G.N 7 (cells' := 2) (slots' := 20) (argsL := []) (St := [(.ref a1)]) C X1 rfl rfl (wd33 hw) (wd34 hw) (by decide) (wd35 hw) (wd32 hw) (ctSbIA hw X1.2.1 a1 cz A1 F1_value F1_coder F1_count q1 f9 S2 hcz) (lenOf pd29 rfl) rfl d5_4 rfl rfl (by decide) (nQ rfl) rfl rfl (by decide) (by decide) (fun v10 T10 h10 Q10 X10 z10 => ?_)
 obtain ⟨t10, k10, hv10, K10, hz10, ns10, Es10, Fv10, Fc10, Fn10, Et10, Vt10⟩ := Q10
 subst hv10
 have Hd11 := Hd5.keep K10 (allS (Safe.exa (EL := consts_1) C.2.1.alike A1 (by decide) (by decide)) all0)
 have K12 := K6.trans K10 (allS (Or.inr sz4) all0)
 refine G.ac 8 C X10 d5_7 rfl rfl (l' := #[vR ln_, vR lv_, vR a1, .unset]) rfl <| G.f 9 (z := 0) C X10 d5_8 rfl (by decide) <| G.D 10 C X10 d5_9 rfl (l' := #[vR ln_, vR lv_, vR a1, vI 0]) rfl <| G.b 11 C X10 d5_10 rfl rfl <| G.a 12 C X10 d5_11 rfl rfl rfl ?_
 have f13 := ((S_ln_.ext E1).keep K10 (ninS ne2 nin0))
 have f15 := (f7.keep K10)
 refine G.G 17 (cells' := 2) (slots' := 20) (argsL := []) (St := [(.int 0)]) C X10 (wd50 hw) (wd51 hw) (wd52 hw) (wd53 hw) (wd54 hw) (wd55 hw) (wd56 hw) (wd57 hw) (by decide) rfl f15 (wd58 hw) (wd2 hw) (ctSz0 hw X10.2.1 ln_ f13) (lenOf pd8 rfl) rfl d5_12 rfl rfl (by decide) (nQ rfl) rfl rfl (by decide) (by decide) (fun v14 T14 h14 Q14 X14 z14 => ?_)
 obtain ⟨hv14, hh14⟩ := Q14
 subst hv14; rw [hh14] at X14
 refine G.q 82 C X14 d5_17 (flt (by decide : ¬ (0 : Int32) < 0)).2.1 (by decide) (by decide) <| G.a 83 C X14 d5_82 rfl rfl rfl <| G.G 88 (cells' := 2) (slots' := 20) (argsL := []) (St := []) C X14 (wd61 hw) (wd62 hw) (wd63 hw) (wd64 hw) (wd65 hw) (wd66 hw) (wd67 hw) (wd57 hw) (by decide) rfl f15 (wd68 hw) (wd2 hw) (ctIe0 hw X14.2.1 ln_ f13) (lenOf pd11 rfl) rfl d5_83 rfl rfl (by decide) (nQ rfl) rfl rfl (by decide) (by decide) (fun v16 T16 h16 Q16 X16 z16 => ?_)
 obtain ⟨hv16, hh16⟩ := Q16
 subst hv16; rw [hh16] at X16
 refine G.ad 98 C X16 d5_88 (feq (by decide : ¬ (1 : Int32) = 0)).2 (by decide) (by decide) <| G.a 99 C X16 d5_98 rfl rfl rfl ?_
 have f18 := (f9.keep K10 (allS q1 all0))
 refine G.o 102 (cells' := 4) (slots' := 58) (argsL := []) (St := []) C X16 (wd69 hw) (wd70 hw) (wd72 hw) (wd71 hw) (by decide) Es10 (wd73 hw) (wd32 hw) (ctToSA hw X16.2.1 a1 t10 k10 ([] : List Int32) (16 : Int32) cz Es10 Fv10 Fc10 Fn10 Et10 Vt10 (Or.inl rfl) (by first | omega | (simp only [List.length_append, List.length_cons, List.length_nil]; omega)) (Nat.zero_le _) f18 S2 hcz) (lenOf pd36 rfl) rfl d5_99 rfl rfl (by decide) (nQ rfl) rfl rfl (by decide) (by decide) (fun v19 T19 h19 Q19 X19 z19 => ?_)
 obtain ⟨b19, t19, k19, hv19, K19, hz19, hy19, E19, F19c, F19v, V19⟩ := Q19
 subst hv19
 have Hd20 := Hd11.keep K19 all0
 have K21 := K12.trans K19 all0
 exact G.aq C X19 (ew hw) Hd20 d5_102 hret rfl rfl hlk (fun _ _ => ⟨b19, t19, k19, rfl, K21, E19, F19c, F19v, V19⟩) (by decide) (by decide)
theorem ctLab1 {l : Launch} {Z : State} {a0 : Array Value} (hw : HW a0 Z) {n0 : Nat} {h0 : Heap} (hn0 : n0 ≤ h0.size) (ln_ lv_ : Addr) (na_ pa_ va_ qa_ : Addr) (kna kva : ClassId) (ma : Int32) (CA : List Int32) (en_ ev_ : Addr) (ken kev : ClassId) (cz : Int32) (fmt : Value) (E_na_ : Exa Z h0 na_ zq0) (V_na_ : Fld Z h0 na_ zq0 "value" "[B" (.ref pa_)) (C_na_ : Fld Z h0 na_ zq0 "coder" "B" (.int 0)) (A_na_ : Arv Z h0 pa_ kna .byte (own_n ([ma]).length) (tx [ma]) (.int 0)) (E_va_ : Exa Z h0 va_ zq0) (V_va_ : Fld Z h0 va_ zq0 "value" "[B" (.ref qa_)) (C_va_ : Fld Z h0 va_ zq0 "coder" "B" (.int 0)) (A_va_ : Arv Z h0 qa_ kva .byte (own_n (CA).length) (tx CA) (.int 0)) (l_ma : own_lat ma) (hLa : CA.length ≤ 2) (hAa : ∀ x ∈ CA, own_lat x) (E_ln_ : Exa Z h0 ln_ zq2) (S_ln_ : Fld Z h0 ln_ zq2 "size" "I" (.int 1)) (D_ln_ : Fld Z h0 ln_ zq2 zq7 zq6 (.ref en_)) (B_ln_ : Arv Z h0 en_ ken (.object zq3) (10 : Int32) [(.ref na_), .null, .null, .null, .null, .null, .null, .null, .null, .null] .null) (E_lv_ : Exa Z h0 lv_ zq2) (S_lv_ : Fld Z h0 lv_ zq2 "size" "I" (.int 1)) (D_lv_ : Fld Z h0 lv_ zq2 zq7 zq6 (.ref ev_)) (B_lv_ : Arv Z h0 ev_ kev (.object zq3) (10 : Int32) [(.ref va_), .null, .null, .null, .null, .null, .null, .null, .null, .null] .null) (Sf : Sta Z Z.heap zq9 zq12 zq14 fmt) (hfm : fmt.isRef = true) (OD : Old Z n0 h0) (S2 : Sta Z Z.heap zq0 zq5 "Z" (.int cz)) (hcz : ¬ cz = 0) :
    CtrW l Z consts_1 [] (⟨zq15, "labels", zq25⟩ : MethodName) prog_35_method_5_code 4 (some (.object zq0)) (rQ 8 44 1100 190) n0 #[(.ref ln_), (.ref lv_)] h0 (fun v h sfe => ∃ (b t : Addr) (k : ClassId), v = some (.ref b) ∧ Keep h0 h [] ∧ Exa Z h b zq0 ∧ Fld Z h b zq0 "coder" "B" (.int 0) ∧ Fld Z h b zq0 "value" "[B" (.ref t) ∧ Arv Z h t k .byte (own_n (((((((([] : List Int32) ++ [(123 : Int32)]) ++ [ma]) ++ ([61, 34] : List Int32)) ++ (own_escL CA)) ++ [(34 : Int32)]) ++ [(125 : Int32)])).length) (tx ((((((([] : List Int32) ++ [(123 : Int32)]) ++ [ma]) ++ ([61, 34] : List Int32)) ++ (own_escL CA)) ++ [(34 : Int32)]) ++ [(125 : Int32)])) (.int 0)) := by
  refine CtrW.of (plainFor_of_name pn4) hn0 ?_
  intro p e s m below meth c T0 C hnm hret hlk X0 H0 hSf
  rw [ef5 m ln_ lv_]
  have hEa := own_escL_len CA
  refine G.U 3 (cells' := 1) (slots' := 4) C X0 (wd30 hw) (wd31 hw) (wd32 hw) d5_0 rfl rfl rfl (by decide) (by decide) (fun T1 h1 a1 X1 g1 q1 E1 A1 D1 U1 => ?_)
  have ne2 : na_ ≠ a1 := Nat.ne_of_lt (Nat.lt_of_lt_of_eq E_na_.lt g1.symm)
  have ne3 : pa_ ≠ a1 := Nat.ne_of_lt (Nat.lt_of_lt_of_eq A_na_.lt g1.symm)
  have ne4 : va_ ≠ a1 := Nat.ne_of_lt (Nat.lt_of_lt_of_eq E_va_.lt g1.symm)
  have ne5 : qa_ ≠ a1 := Nat.ne_of_lt (Nat.lt_of_lt_of_eq A_va_.lt g1.symm)
  have ne6 : ln_ ≠ a1 := Nat.ne_of_lt (Nat.lt_of_lt_of_eq E_ln_.lt g1.symm)
  have ne7 : en_ ≠ a1 := Nat.ne_of_lt (Nat.lt_of_lt_of_eq B_ln_.lt g1.symm)
  have ne8 : lv_ ≠ a1 := Nat.ne_of_lt (Nat.lt_of_lt_of_eq E_lv_.lt g1.symm)
  have ne9 : ev_ ≠ a1 := Nat.ne_of_lt (Nat.lt_of_lt_of_eq B_lv_.lt g1.symm)
  have sz10 : h0.size ≤ a1 := Nat.le_trans (Keep.refl h0 []).1 (Nat.le_of_eq g1.symm)
  have Hd11 := H0.ext E1
  have K12 := (Keep.refl h0 []).ext E1
  have F1_value : Fld Z h1 a1 zq1 "value" "[B" .null := D1 (Or.inl (wd47 hw)) (ty := (.array .byte)) (by decide)
  have F1_coder : Fld Z h1 a1 zq1 "coder" "B" (.int 0) := D1 (Or.inl (wd49 hw)) (ty := .byte) (by decide)
  have F1_count : Fld Z h1 a1 zq1 "count" "I" (.int 0) := D1 (Or.inl (wd99 hw)) (ty := .int) (by decide)
  refine G.I 4 C X1 d5_3 rfl rfl ?_
  have f13 := (E_na_.ext E1)
  have f14 := (A_na_.ext E1)
  have f15 := (E_va_.ext E1)
  have f16 := (A_va_.ext E1)
  have f17 := (E_ln_.ext E1)
  have f18 := (B_ln_.ext E1)
  have f19 := (E_lv_.ext E1)
  have f20 := (B_lv_.ext E1)
  have f21 := (OD.ext E1)
  refine G.N 7 (cells' := 2) (slots' := 20) (argsL := []) (St := [(.ref a1)]) C X1 rfl rfl (wd33 hw) (wd34 hw) (by decide) (wd35 hw) (wd32 hw) (ctSbIA hw X1.2.1 a1 cz A1 F1_value F1_coder F1_count q1 f21 S2 hcz) (lenOf pd29 rfl) rfl d5_4 rfl rfl (by decide) (nQ rfl) rfl rfl (by decide) (by decide) (fun v22 T22 h22 Q22 X22 z22 => ?_)
  obtain ⟨t22, k22, hv22, K22, hz22, ns22, Es22, Fv22, Fc22, Fn22, Et22, Vt22⟩ := Q22
  subst hv22
  have Hd23 := Hd11.keep K22 (allS (Safe.exa (EL := consts_1) C.2.1.alike A1 (by decide) (by decide)) all0)
  have K24 := K12.trans K22 (allS (Or.inr sz10) all0)
  have nb22_na_ : na_ ≠ t22 := Nat.ne_of_lt (Nat.lt_of_lt_of_le f13.lt hz22)
  have nb22_pa_ : pa_ ≠ t22 := Nat.ne_of_lt (Nat.lt_of_lt_of_le f14.lt hz22)
  have nb22_va_ : va_ ≠ t22 := Nat.ne_of_lt (Nat.lt_of_lt_of_le f15.lt hz22)
  have nb22_qa_ : qa_ ≠ t22 := Nat.ne_of_lt (Nat.lt_of_lt_of_le f16.lt hz22)
  have nb22_ln_ : ln_ ≠ t22 := Nat.ne_of_lt (Nat.lt_of_lt_of_le f17.lt hz22)
  have nb22_en_ : en_ ≠ t22 := Nat.ne_of_lt (Nat.lt_of_lt_of_le f18.lt hz22)
  have nb22_lv_ : lv_ ≠ t22 := Nat.ne_of_lt (Nat.lt_of_lt_of_le f19.lt hz22)
  have nb22_ev_ : ev_ ≠ t22 := Nat.ne_of_lt (Nat.lt_of_lt_of_le f20.lt hz22)
  refine G.ac 8 C X22 d5_7 rfl rfl (l' := #[vR ln_, vR lv_, vR a1, .unset]) rfl <| G.f 9 (z := 0) C X22 d5_8 rfl (by decide) <| G.D 10 C X22 d5_9 rfl (l' := #[vR ln_, vR lv_, vR a1, vI 0]) rfl <| G.b 11 C X22 d5_10 rfl rfl <| G.a 12 C X22 d5_11 rfl rfl rfl ?_
  have f25 := ((S_ln_.ext E1).keep K22 (ninS ne6 nin0))
  have f27 := (f17.keep K22)
  refine G.G 17 (cells' := 2) (slots' := 20) (argsL := []) (St := [(.int 0)]) C X22 (wd50 hw) (wd51 hw) (wd52 hw) (wd53 hw) (wd54 hw) (wd55 hw) (wd56 hw) (wd57 hw) (by decide) rfl f27 (wd58 hw) (wd2 hw) (ctSz1 hw X22.2.1 ln_ f25) (lenOf pd8 rfl) rfl d5_12 rfl rfl (by decide) (nQ rfl) rfl rfl (by decide) (by decide) (fun v26 T26 h26 Q26 X26 z26 => ?_)
  obtain ⟨hv26, hh26⟩ := Q26
  subst hv26; rw [hh26] at X26
  refine G.t 20 C X26 d5_17 rfl (tlt (by decide : (0 : Int32) < 1)).2.1 <| G.a 21 C X26 d5_20 rfl rfl rfl <| G.b 22 C X26 d5_21 rfl rfl <| G.k 25 C X26 d5_22 rfl (teq (by decide : (0 : Int32) = 0)).2 <| G.j 27 (z := 123) C X26 d5_25 rfl (by decide) <| G.r 32 C X26 d5_27 (by decide) (by decide) ?_
  have f28 := (f13.keep K22)
  have f29 := (f14.keep K22 (ninS ne3 nin0))
  have f30 := (f15.keep K22)
  have f31 := (f16.keep K22 (ninS ne5 nin0))
  have f32 := (f18.keep K22 (ninS ne7 nin0))
  have f33 := (f19.keep K22)
  have f34 := (f20.keep K22 (ninS ne9 nin0))
  have f35 := (f21.keep K22 (allS q1 all0))
  refine G.o 35 (cells' := 3) (slots' := 54) (argsL := [(.int 123)]) (St := []) C X26 (wd214 hw) (wd215 hw) (wd217 hw) (wd216 hw) (by decide) Es22 (wd218 hw) (wd32 hw) (ctApcA hw X26.2.1 a1 t22 k22 ([] : List Int32) (16 : Int32) (123 : Int32) cz Es22 Fv22 Fc22 Fn22 Et22 Vt22 q1 (Nat.le_trans X1.2.1 hz22) ns22 (by unfold own_lat; decide) (by first | omega | (simp only [List.length_append, List.length_cons, List.length_nil]; omega)) (Or.inl rfl) (Nat.zero_le _) (by first | omega | (simp only [List.length_append, List.length_cons, List.length_nil]; omega)) f35 S2 hcz) (lenOf pd35 rfl) rfl d5_32 rfl rfl (by decide) (nQ rfl) rfl rfl (by decide) (by decide) (fun v36 T36 h36 Q36 X36 z36 => ?_)
  obtain ⟨t36, k36, cq36, hv36, K36, hf36, hq36, hwl36, ns36, Es36, Fv36, Fc36, Fn36, Et36, Vt36⟩ := Q36
  subst hv36
  have Hd37 := Hd23.keep K36 (allS (Safe.exa (EL := consts_1) C.2.1.alike Es22 (by decide) (by decide)) (allS (Safe.keep K22 (allS (Safe.exa (EL := consts_1) C.2.1.alike A1 (by decide) (by decide)) all0) Hd11.cv (Safe.new hz22)) all0))
  have K38 := K24.trans K36 (allS (Or.inr sz10) (allS (Or.inr (Nat.le_trans K12.1 hz22)) all0))
  have nb36_na_ : na_ ≠ t36 := own_frn hf36 nb22_na_ f28.lt
  have nb36_pa_ : pa_ ≠ t36 := own_frn hf36 nb22_pa_ f29.lt
  have nb36_va_ : va_ ≠ t36 := own_frn hf36 nb22_va_ f30.lt
  have nb36_qa_ : qa_ ≠ t36 := own_frn hf36 nb22_qa_ f31.lt
  have nb36_ln_ : ln_ ≠ t36 := own_frn hf36 nb22_ln_ f27.lt
  have nb36_lv_ : lv_ ≠ t36 := own_frn hf36 nb22_lv_ f33.lt
  have nb36_ev_ : ev_ ≠ t36 := own_frn hf36 nb22_ev_ f34.lt
  have ga36 : n0 ≤ t36 := own_frg hf36 (Nat.le_trans X1.2.1 hz22) X26.2.1
  have iw36 : t36 ∈ [] ∨ h0.size ≤ t36 := own_frw hf36 (Or.inr (Nat.le_trans K12.1 hz22)) K24.1
  have Sf36 : Safe Z consts_1 s.vm h36 t36 := by
    rcases hf36 with e | e
    · rw [e]; exact Safe.keep K36 (allS (Safe.exa (EL := consts_1) C.2.1.alike Es22 (by decide) (by decide)) (allS (Safe.keep K22 (allS (Safe.exa (EL := consts_1) C.2.1.alike A1 (by decide) (by decide)) all0) Hd11.cv (Safe.new hz22)) all0)) Hd23.cv (Safe.keep K22 (allS (Safe.exa (EL := consts_1) C.2.1.alike A1 (by decide) (by decide)) all0) Hd11.cv (Safe.new hz22))
    · exact Safe.keep K36 (allS (Safe.exa (EL := consts_1) C.2.1.alike Es22 (by decide) (by decide)) (allS (Safe.keep K22 (allS (Safe.exa (EL := consts_1) C.2.1.alike A1 (by decide) (by decide)) all0) Hd11.cv (Safe.new hz22)) all0)) Hd23.cv (Safe.new e)
  refine G.a 36 C X36 d5_35 rfl rfl rfl <| G.b 37 C X36 d5_36 rfl rfl ?_
  have f39 := (f27.keep K36)
  have f40 := (((D_ln_.ext E1).keep K22 (ninS ne6 nin0)).keep K36 (ninS ne6 (ninS nb22_ln_ nin0)))
  have f41 := (f25.keep K36 (ninS ne6 (ninS nb22_ln_ nin0)))
  have f42 := (f32.keep K36 (ninS ne7 (ninS nb22_en_ nin0)))
  refine G.G 42 (cells' := 3) (slots' := 54) (argsL := [(.int 0)]) (St := [(.ref a1)]) C X36 (wd230 hw) (wd231 hw) (wd232 hw) (wd233 hw) (wd234 hw) (wd235 hw) (wd236 hw) (wd57 hw) (by decide) rfl f39 (wd237 hw) (wd2 hw) (ctGet10 hw X36.2.1 ln_ en_ na_ ken f39 f40 f41 f42) (lenOf pd33 rfl) rfl d5_37 rfl rfl (by decide) (nQ rfl) rfl rfl (by decide) (by decide) (fun v43 T43 h43 Q43 X43 z43 => ?_)
  obtain ⟨hv43, hh43⟩ := Q43
  subst hv43; rw [hh43] at X43
  have f44 := (f28.keep K36)
  refine G.al 45 C X43 (wd251 hw) (Ins.self f44) d5_42 rfl (fun T45 X45 => ?_)
  have f46 := (((V_na_.ext E1).keep K22 (ninS ne2 nin0)).keep K36 (ninS ne2 (ninS nb22_na_ nin0)))
  have f47 := (((C_na_.ext E1).keep K22 (ninS ne2 nin0)).keep K36 (ninS ne2 (ninS nb22_na_ nin0)))
  have f48 := (f29.keep K36 (ninS ne3 (ninS nb22_pa_ nin0)))
  have f49 := (f30.keep K36)
  have f50 := (f31.keep K36 (ninS ne5 (ninS nb22_qa_ nin0)))
  have f51 := (f33.keep K36)
  have f52 := (f34.keep K36 (ninS ne9 (ninS nb22_ev_ nin0)))
  have f53 := (f35.keep K36 (allS q1 (allS (Nat.le_trans X1.2.1 hz22) all0)))
  refine G.o 48 (cells' := 4) (slots' := 88) (argsL := [(.ref na_)]) (St := []) C X45 (wd252 hw) (wd253 hw) (wd255 hw) (wd254 hw) (by decide) Es36 (wd256 hw) (wd32 hw) (ctAppA hw X45.2.1 a1 t36 k36 (([] : List Int32) ++ [(123 : Int32)]) cq36 na_ pa_ kna [ma] cz Es36 Fv36 Fc36 Fn36 Et36 Vt36 q1 ga36 ns36 f44 f46 f47 f48 nb36_pa_ ne2 nb36_na_ (by first | omega | (simp only [List.length_append, List.length_cons, List.length_nil]; omega)) hq36 hwl36 (by first | omega | (simp only [List.length_append, List.length_cons, List.length_nil]; omega)) f53 S2 hcz) (lenOf pd34 rfl) rfl d5_45 rfl rfl (by decide) (nQ rfl) rfl rfl (by decide) (by decide) (fun v54 T54 h54 Q54 X54 z54 => ?_)
  obtain ⟨t54, k54, cq54, hv54, K54, hf54, hq54, hwl54, ns54, Es54, Fv54, Fc54, Fn54, Et54, Vt54⟩ := Q54
  subst hv54
  have Hd55 := Hd37.keep K54 (allS (Safe.exa (EL := consts_1) C.2.1.alike Es36 (by decide) (by decide)) (allS Sf36 all0))
  have K56 := K38.trans K54 (allS (Or.inr sz10) (allS iw36 all0))
  have nb54_va_ : va_ ≠ t54 := own_frn hf54 nb36_va_ f49.lt
  have nb54_qa_ : qa_ ≠ t54 := own_frn hf54 nb36_qa_ f50.lt
  have nb54_ln_ : ln_ ≠ t54 := own_frn hf54 nb36_ln_ f39.lt
  have nb54_lv_ : lv_ ≠ t54 := own_frn hf54 nb36_lv_ f51.lt
  have nb54_ev_ : ev_ ≠ t54 := own_frn hf54 nb36_ev_ f52.lt
  have ga54 : n0 ≤ t54 := own_frg hf54 ga36 X45.2.1
  have iw54 : t54 ∈ [] ∨ h0.size ≤ t54 := own_frw hf54 iw36 K38.1
  have Sf54 : Safe Z consts_1 s.vm h54 t54 := by
    rcases hf54 with e | e
    · rw [e]; exact Safe.keep K54 (allS (Safe.exa (EL := consts_1) C.2.1.alike Es36 (by decide) (by decide)) (allS Sf36 all0)) Hd37.cv Sf36
    · exact Safe.keep K54 (allS (Safe.exa (EL := consts_1) C.2.1.alike Es36 (by decide) (by decide)) (allS Sf36 all0)) Hd37.cv (Safe.new e)
  refine G.F 50 (n := 8) (cells' := 6) (slots' := 100) (z := (2 : Int32)) (vs := [(.int 61), (.int 34)]) C X54 (ew hw) Hd55 (wd279 hw) (wS hw) (List.mem_of_getElem? (i := 0) rfl) ⟨by decide +kernel, by first | rfl | decide +kernel⟩ (by decide) rfl d5_48 rfl (by decide +kernel) (by decide) rfl rfl (by decide) (by decide) (fun vm57 T57 h57 a57 b57 k57 C57 X57 Hd57 E57 R57 A57 F57a F57b V57 sf57 => ?_)
  have K58 := K56.ext E57
  have f59 := ((f39.keep K54).ext E57)
  have f63 := ((f51.keep K54).ext E57)
  have f65 := ((f52.keep K54 (ninS ne9 (ninS nb36_ev_ nin0))).ext E57)
  have f67 := (Es54.ext E57)
  have sn68 := sf57 a1 (Safe.exa (EL := consts_1) C57.2.1.alike f67 (by decide) (by decide))
  have sn69 := sf57 t54 (CHr.safe R57 Et54.lt Sf54)
  have Vx70 : Arv Z h57 b57 k57 .byte (own_n (([61, 34] : List Int32)).length) (tx ([61, 34] : List Int32)) (.int 0) := V57
  have f71 := (Fv54.ext E57)
  have f72 := (Fc54.ext E57)
  have f73 := (Fn54.ext E57)
  have f74 := (Et54.ext E57)
  have f75 := (Vt54.ext E57)
  have f78 := ((f49.keep K54).ext E57)
  have f79 := ((f50.keep K54 (ninS ne5 (ninS nb36_qa_ nin0))).ext E57)
  have f80 := ((f53.keep K54 (allS q1 (allS ga36 all0))).ext E57)
  refine G.o 53 (cells' := 7) (slots' := 134) (argsL := [(.ref a57)]) (St := []) C57 X57 (wd252 hw) (wd253 hw) (wd255 hw) (wd254 hw) (by decide) f67 (wd256 hw) (wd32 hw) (ctAppA hw X57.2.1 a1 t54 k54 ((([] : List Int32) ++ [(123 : Int32)]) ++ [ma]) cq54 a57 b57 k57 ([61, 34] : List Int32) cz f67 f71 f72 f73 f74 f75 q1 ga54 ns54 A57 F57b F57a Vx70 (Ne.symm sn69.2) (Ne.symm sn68.1) (Ne.symm sn69.1) (by first | omega | (simp only [List.length_append, List.length_cons, List.length_nil]; omega)) hq54 hwl54 (by first | omega | (simp only [List.length_append, List.length_cons, List.length_nil]; omega)) f80 S2 hcz) (lenOf pd34 rfl) rfl d5_50 rfl rfl (by decide) (nQ rfl) rfl rfl (by decide) (by decide) (fun v81 T81 h81 Q81 X81 z81 => ?_)
  obtain ⟨t81, k81, cq81, hv81, K81, hf81, hq81, hwl81, ns81, Es81, Fv81, Fc81, Fn81, Et81, Vt81⟩ := Q81
  subst hv81
  have Hd82 := Hd57.keep K81 (allS (Safe.exa (EL := consts_1) C57.2.1.alike f67 (by decide) (by decide)) (allS (CHr.safe R57 Et54.lt Sf54) all0))
  have K83 := K58.trans K81 (allS (Or.inr sz10) (allS iw54 all0))
  have nb81_va_ : va_ ≠ t81 := own_frn hf81 nb54_va_ f78.lt
  have nb81_qa_ : qa_ ≠ t81 := own_frn hf81 nb54_qa_ f79.lt
  have nb81_ln_ : ln_ ≠ t81 := own_frn hf81 nb54_ln_ f59.lt
  have ga81 : n0 ≤ t81 := own_frg hf81 ga54 X57.2.1
  have iw81 : t81 ∈ [] ∨ h0.size ≤ t81 := own_frw hf81 iw54 K58.1
  have Sf81 : Safe Z consts_1 vm57 h81 t81 := by
    rcases hf81 with e | e
    · rw [e]; exact Safe.keep K81 (allS (Safe.exa (EL := consts_1) C57.2.1.alike f67 (by decide) (by decide)) (allS (CHr.safe R57 Et54.lt Sf54) all0)) Hd57.cv (CHr.safe R57 Et54.lt Sf54)
    · exact Safe.keep K81 (allS (Safe.exa (EL := consts_1) C57.2.1.alike f67 (by decide) (by decide)) (allS (CHr.safe R57 Et54.lt Sf54) all0)) Hd57.cv (Safe.new e)
  refine G.v 54 C57 X81 d5_53 rfl rfl <| G.a 55 C57 X81 d5_54 rfl rfl rfl <| G.b 56 C57 X81 d5_55 rfl rfl ?_
  have f84 := (f63.keep K81)
  have f85 := ((((((D_lv_.ext E1).keep K22 (ninS ne8 nin0)).keep K36 (ninS ne8 (ninS nb22_lv_ nin0))).keep K54 (ninS ne8 (ninS nb36_lv_ nin0))).ext E57).keep K81 (ninS ne8 (ninS nb54_lv_ nin0)))
  have f86 := ((((((S_lv_.ext E1).keep K22 (ninS ne8 nin0)).keep K36 (ninS ne8 (ninS nb22_lv_ nin0))).keep K54 (ninS ne8 (ninS nb36_lv_ nin0))).ext E57).keep K81 (ninS ne8 (ninS nb54_lv_ nin0)))
  have f87 := (f65.keep K81 (ninS ne9 (ninS nb54_ev_ nin0)))
  refine G.G 61 (cells' := 7) (slots' := 134) (argsL := [(.int 0)]) (St := []) C57 X81 (wd230 hw) (wd231 hw) (wd232 hw) (wd233 hw) (wd234 hw) (wd235 hw) (wd236 hw) (wd57 hw) (by decide) rfl f84 (wd237 hw) (wd2 hw) (ctGet10 hw X81.2.1 lv_ ev_ va_ kev f84 f85 f86 f87) (lenOf pd33 rfl) rfl d5_56 rfl rfl (by decide) (nQ rfl) rfl rfl (by decide) (by decide) (fun v88 T88 h88 Q88 X88 z88 => ?_)
  obtain ⟨hv88, hh88⟩ := Q88
  subst hv88; rw [hh88] at X88
  have f89 := (f78.keep K81)
  refine G.al 64 C57 X88 (wd251 hw) (Ins.self f89) d5_61 rfl fun T90 X90 => G.f 65 (z := 1) C57 X90 d5_64 rfl (by decide) <| G.a 66 C57 X90 d5_65 rfl rfl rfl ?_
  have f91 := ((((((V_va_.ext E1).keep K22 (ninS ne4 nin0)).keep K36 (ninS ne4 (ninS nb22_va_ nin0))).keep K54 (ninS ne4 (ninS nb36_va_ nin0))).ext E57).keep K81 (ninS ne4 (ninS nb54_va_ nin0)))
  have f92 := ((((((C_va_.ext E1).keep K22 (ninS ne4 nin0)).keep K36 (ninS ne4 (ninS nb22_va_ nin0))).keep K54 (ninS ne4 (ninS nb36_va_ nin0))).ext E57).keep K81 (ninS ne4 (ninS nb54_va_ nin0)))
  have f93 := (f79.keep K81 (ninS ne5 (ninS nb54_qa_ nin0)))
  have f96 := (f59.keep K81)
  have f100 := (f80.keep K81 (allS q1 (allS ga54 all0)))
  refine G.ag 69 (cells' := 15) (slots' := 294) (argsL := [(.ref va_), (.int 1), (.ref a1)]) (St := []) C57 X90 (ew hw) Hd82 (wd280 hw) (wd281 hw) (by decide) (wd282 hw) (wd28 hw) (ctEsc hw X90.2.1 a1 t81 k81 (((([] : List Int32) ++ [(123 : Int32)]) ++ [ma]) ++ ([61, 34] : List Int32)) cq81 va_ qa_ kva CA cz fmt Es81 Fv81 Fc81 Fn81 Et81 Vt81 q1 ga81 ns81 f89 f91 f92 f93 nb81_qa_ ne4 nb81_va_ hq81 hwl81 (by first | omega | (simp only [List.length_append, List.length_cons, List.length_nil]; omega)) hLa hAa Sf hfm f100 S2 hcz) (sfS ⟨Et81.lt, Sf81⟩ (fun _ hx => by cases hx)) (lenOf pd37 rfl) rfl d5_66 rfl rfl (by decide) (nQ rfl) rfl rfl (by decide) (by decide) (fun v101 vm101 T101 h101 Q101 C101 X101 Hd101 R101 => ?_)
  obtain ⟨t101, k101, cq101, hv101, K101, hf101, hq101, hwl101, ns101, Es101, Fv101, Fc101, Fn101, Et101, Vt101, sfx101⟩ := Q101
  subst hv101
  have K102 := K83.trans K101 (allS (Or.inr sz10) (allS iw81 all0))
  have nb101_ln_ : ln_ ≠ t101 := own_frn hf101 nb81_ln_ f96.lt
  have ga101 : n0 ≤ t101 := own_frg hf101 ga81 X90.2.1
  have iw101 : t101 ∈ [] ∨ h0.size ≤ t101 := own_frw hf101 iw81 K83.1
  refine G.a 70 C101 X101 d5_69 rfl rfl rfl <| G.j 72 (z := 34) C101 X101 d5_70 rfl (by decide) ?_
  have f107 := (f96.keep K101)
  have f113 := (f100.keep K101 (allS q1 (allS ga81 all0)))
  refine G.o 75 (cells' := 16) (slots' := 328) (argsL := [(.int 34)]) (St := []) C101 X101 (wd214 hw) (wd215 hw) (wd217 hw) (wd216 hw) (by decide) Es101 (wd218 hw) (wd32 hw) (ctApcA hw X101.2.1 a1 t101 k101 ((((([] : List Int32) ++ [(123 : Int32)]) ++ [ma]) ++ ([61, 34] : List Int32)) ++ (own_escL CA)) cq101 (34 : Int32) cz Es101 Fv101 Fc101 Fn101 Et101 Vt101 q1 ga101 ns101 (by unfold own_lat; decide) (by first | omega | (simp only [List.length_append, List.length_cons, List.length_nil]; omega)) hq101 hwl101 (by first | omega | (simp only [List.length_append, List.length_cons, List.length_nil]; omega)) f113 S2 hcz) (lenOf pd35 rfl) rfl d5_72 rfl rfl (by decide) (nQ rfl) rfl rfl (by decide) (by decide) (fun v114 T114 h114 Q114 X114 z114 => ?_)
  obtain ⟨t114, k114, cq114, hv114, K114, hf114, hq114, hwl114, ns114, Es114, Fv114, Fc114, Fn114, Et114, Vt114⟩ := Q114
  subst hv114
  have Hd115 := Hd101.keep K114 (allS (Safe.exa (EL := consts_1) C101.2.1.alike Es101 (by decide) (by decide)) (allS sfx101 all0))
  have K116 := K102.trans K114 (allS (Or.inr sz10) (allS iw101 all0))
  have ga114 : n0 ≤ t114 := own_frg hf114 ga101 X101.2.1
  have iw114 : t114 ∈ [] ∨ h0.size ≤ t114 := own_frw hf114 iw101 K102.1
  have Sf114 : Safe Z consts_1 vm101 h114 t114 := by
    rcases hf114 with e | e
    · rw [e]; exact Safe.keep K114 (allS (Safe.exa (EL := consts_1) C101.2.1.alike Es101 (by decide) (by decide)) (allS sfx101 all0)) Hd101.cv sfx101
    · exact Safe.keep K114 (allS (Safe.exa (EL := consts_1) C101.2.1.alike Es101 (by decide) (by decide)) (allS sfx101 all0)) Hd101.cv (Safe.new e)
  refine G.v 76 C101 X114 d5_75 rfl rfl <| G.y 79 C101 X114 d5_76 rfl rfl (z := (1 : Int32)) (by decide) (l' := #[vR ln_, vR lv_, vR a1, vI 1]) rfl <| G.r 10 C101 X114 d5_79 (by decide) (by decide) <| G.b 11 C101 X114 d5_10 rfl rfl <| G.a 12 C101 X114 d5_11 rfl rfl rfl ?_
  have f117 := (((((f41.keep K54 (ninS ne6 (ninS nb36_ln_ nin0))).ext E57).keep K81 (ninS ne6 (ninS nb54_ln_ nin0))).keep K101 (ninS ne6 (ninS nb81_ln_ nin0))).keep K114 (ninS ne6 (ninS nb101_ln_ nin0)))
  have f119 := (f107.keep K114)
  refine G.G 17 (cells' := 16) (slots' := 328) (argsL := []) (St := [(.int 1)]) C101 X114 (wd50 hw) (wd51 hw) (wd52 hw) (wd53 hw) (wd54 hw) (wd55 hw) (wd56 hw) (wd57 hw) (by decide) rfl f119 (wd58 hw) (wd2 hw) (ctSz1 hw X114.2.1 ln_ f117) (lenOf pd8 rfl) rfl d5_12 rfl rfl (by decide) (nQ rfl) rfl rfl (by decide) (by decide) (fun v118 T118 h118 Q118 X118 z118 => ?_)
  obtain ⟨hv118, hh118⟩ := Q118
  subst hv118; rw [hh118] at X118
  refine G.q 82 C101 X118 d5_17 (flt (by decide : ¬ (1 : Int32) < 1)).2.1 (by decide) (by decide) <| G.a 83 C101 X118 d5_82 rfl rfl rfl <| G.G 88 (cells' := 16) (slots' := 328) (argsL := []) (St := []) C101 X118 (wd61 hw) (wd62 hw) (wd63 hw) (wd64 hw) (wd65 hw) (wd66 hw) (wd67 hw) (wd57 hw) (by decide) rfl f119 (wd68 hw) (wd2 hw) (ctIe1 hw X118.2.1 ln_ f117) (lenOf pd11 rfl) rfl d5_83 rfl rfl (by decide) (nQ rfl) rfl rfl (by decide) (by decide) (fun v120 T120 h120 Q120 X120 z120 => ?_)
  obtain ⟨hv120, hh120⟩ := Q120
  subst hv120; rw [hh120] at X120
  refine G.k 91 C101 X120 d5_88 rfl (teq (by decide : (0 : Int32) = 0)).2 <| G.a 92 C101 X120 d5_91 rfl rfl rfl <| G.j 94 (z := 125) C101 X120 d5_92 rfl (by decide) ?_
  have f130 := (f113.keep K114 (allS q1 (allS ga101 all0)))
  refine G.o 97 (cells' := 17) (slots' := 362) (argsL := [(.int 125)]) (St := []) C101 X120 (wd214 hw) (wd215 hw) (wd217 hw) (wd216 hw) (by decide) Es114 (wd218 hw) (wd32 hw) (ctApcA hw X120.2.1 a1 t114 k114 (((((([] : List Int32) ++ [(123 : Int32)]) ++ [ma]) ++ ([61, 34] : List Int32)) ++ (own_escL CA)) ++ [(34 : Int32)]) cq114 (125 : Int32) cz Es114 Fv114 Fc114 Fn114 Et114 Vt114 q1 ga114 ns114 (by unfold own_lat; decide) (by first | omega | (simp only [List.length_append, List.length_cons, List.length_nil]; omega)) hq114 hwl114 (by first | omega | (simp only [List.length_append, List.length_cons, List.length_nil]; omega)) f130 S2 hcz) (lenOf pd35 rfl) rfl d5_94 rfl rfl (by decide) (nQ rfl) rfl rfl (by decide) (by decide) (fun v131 T131 h131 Q131 X131 z131 => ?_)
  obtain ⟨t131, k131, cq131, hv131, K131, hf131, hq131, hwl131, ns131, Es131, Fv131, Fc131, Fn131, Et131, Vt131⟩ := Q131
  subst hv131
  have Hd132 := Hd115.keep K131 (allS (Safe.exa (EL := consts_1) C101.2.1.alike Es114 (by decide) (by decide)) (allS Sf114 all0))
  have K133 := K116.trans K131 (allS (Or.inr sz10) (allS iw114 all0))
  have ga131 : n0 ≤ t131 := own_frg hf131 ga114 X120.2.1
  have iw131 : t131 ∈ [] ∨ h0.size ≤ t131 := own_frw hf131 iw114 K116.1
  have Sf131 : Safe Z consts_1 vm101 h131 t131 := by
    rcases hf131 with e | e
    · rw [e]; exact Safe.keep K131 (allS (Safe.exa (EL := consts_1) C101.2.1.alike Es114 (by decide) (by decide)) (allS Sf114 all0)) Hd115.cv Sf114
    · exact Safe.keep K131 (allS (Safe.exa (EL := consts_1) C101.2.1.alike Es114 (by decide) (by decide)) (allS Sf114 all0)) Hd115.cv (Safe.new e)
  refine G.v 98 C101 X131 d5_97 rfl rfl <| G.a 99 C101 X131 d5_98 rfl rfl rfl ?_
  have f144 := (f130.keep K131 (allS q1 (allS ga114 all0)))
  refine G.o 102 (cells' := 19) (slots' := 400) (argsL := []) (St := []) C101 X131 (wd69 hw) (wd70 hw) (wd72 hw) (wd71 hw) (by decide) Es131 (wd73 hw) (wd32 hw) (ctToSA hw X131.2.1 a1 t131 k131 ((((((([] : List Int32) ++ [(123 : Int32)]) ++ [ma]) ++ ([61, 34] : List Int32)) ++ (own_escL CA)) ++ [(34 : Int32)]) ++ [(125 : Int32)]) cq131 cz Es131 Fv131 Fc131 Fn131 Et131 Vt131 hq131 (by first | omega | (simp only [List.length_append, List.length_cons, List.length_nil]; omega)) hwl131 f144 S2 hcz) (lenOf pd36 rfl) rfl d5_99 rfl rfl (by decide) (nQ rfl) rfl rfl (by decide) (by decide) (fun v145 T145 h145 Q145 X145 z145 => ?_)
  obtain ⟨b145, t145, k145, hv145, K145, hz145, hy145, E145, F145c, F145v, V145⟩ := Q145
  subst hv145
  have Hd146 := Hd132.keep K145 all0
  have K147 := K133.trans K145 all0
  exact G.aq C101 X145 (ew hw) Hd146 d5_102 hret rfl rfl hlk (fun _ _ => ⟨b145, t145, k145, rfl, K147, E145, F145c, F145v, V145⟩) (by decide) (by decide)
theorem ctLab2 {l : Launch} {Z : State} {a0 : Array Value} (hw : HW a0 Z) {n0 : Nat} {h0 : Heap} (hn0 : n0 ≤ h0.size) (ln_ lv_ : Addr) (na_ pa_ va_ qa_ : Addr) (kna kva : ClassId) (ma : Int32) (CA : List Int32) (nb_ pb_ vb_ qb_ : Addr) (knb kvb : ClassId) (mb : Int32) (CB : List Int32) (en_ ev_ : Addr) (ken kev : ClassId) (cz : Int32) (fmt : Value) (E_na_ : Exa Z h0 na_ zq0) (V_na_ : Fld Z h0 na_ zq0 "value" "[B" (.ref pa_)) (C_na_ : Fld Z h0 na_ zq0 "coder" "B" (.int 0)) (A_na_ : Arv Z h0 pa_ kna .byte (own_n ([ma]).length) (tx [ma]) (.int 0)) (E_va_ : Exa Z h0 va_ zq0) (V_va_ : Fld Z h0 va_ zq0 "value" "[B" (.ref qa_)) (C_va_ : Fld Z h0 va_ zq0 "coder" "B" (.int 0)) (A_va_ : Arv Z h0 qa_ kva .byte (own_n (CA).length) (tx CA) (.int 0)) (l_ma : own_lat ma) (hLa : CA.length ≤ 2) (hAa : ∀ x ∈ CA, own_lat x) (E_nb_ : Exa Z h0 nb_ zq0) (V_nb_ : Fld Z h0 nb_ zq0 "value" "[B" (.ref pb_)) (C_nb_ : Fld Z h0 nb_ zq0 "coder" "B" (.int 0)) (A_nb_ : Arv Z h0 pb_ knb .byte (own_n ([mb]).length) (tx [mb]) (.int 0)) (E_vb_ : Exa Z h0 vb_ zq0) (V_vb_ : Fld Z h0 vb_ zq0 "value" "[B" (.ref qb_)) (C_vb_ : Fld Z h0 vb_ zq0 "coder" "B" (.int 0)) (A_vb_ : Arv Z h0 qb_ kvb .byte (own_n (CB).length) (tx CB) (.int 0)) (l_mb : own_lat mb) (hLb : CB.length ≤ 2) (hAb : ∀ x ∈ CB, own_lat x) (E_ln_ : Exa Z h0 ln_ zq2) (S_ln_ : Fld Z h0 ln_ zq2 "size" "I" (.int 2)) (D_ln_ : Fld Z h0 ln_ zq2 zq7 zq6 (.ref en_)) (B_ln_ : Arv Z h0 en_ ken (.object zq3) (10 : Int32) [(.ref na_), (.ref nb_), .null, .null, .null, .null, .null, .null, .null, .null] .null) (E_lv_ : Exa Z h0 lv_ zq2) (S_lv_ : Fld Z h0 lv_ zq2 "size" "I" (.int 2)) (D_lv_ : Fld Z h0 lv_ zq2 zq7 zq6 (.ref ev_)) (B_lv_ : Arv Z h0 ev_ kev (.object zq3) (10 : Int32) [(.ref va_), (.ref vb_), .null, .null, .null, .null, .null, .null, .null, .null] .null) (Sf : Sta Z Z.heap zq9 zq12 zq14 fmt) (hfm : fmt.isRef = true) (OD : Old Z n0 h0) (S2 : Sta Z Z.heap zq0 zq5 "Z" (.int cz)) (hcz : ¬ cz = 0) :
    CtrW l Z consts_1 [] (⟨zq15, "labels", zq25⟩ : MethodName) prog_35_method_5_code 4 (some (.object zq0)) (rQ 8 44 1100 190) n0 #[(.ref ln_), (.ref lv_)] h0 (fun v h sfe => ∃ (b t : Addr) (k : ClassId), v = some (.ref b) ∧ Keep h0 h [] ∧ Exa Z h b zq0 ∧ Fld Z h b zq0 "coder" "B" (.int 0) ∧ Fld Z h b zq0 "value" "[B" (.ref t) ∧ Arv Z h t k .byte (own_n ((((((((((((([] : List Int32) ++ [(123 : Int32)]) ++ [ma]) ++ ([61, 34] : List Int32)) ++ (own_escL CA)) ++ [(34 : Int32)]) ++ [(44 : Int32)]) ++ [mb]) ++ ([61, 34] : List Int32)) ++ (own_escL CB)) ++ [(34 : Int32)]) ++ [(125 : Int32)])).length) (tx (((((((((((([] : List Int32) ++ [(123 : Int32)]) ++ [ma]) ++ ([61, 34] : List Int32)) ++ (own_escL CA)) ++ [(34 : Int32)]) ++ [(44 : Int32)]) ++ [mb]) ++ ([61, 34] : List Int32)) ++ (own_escL CB)) ++ [(34 : Int32)]) ++ [(125 : Int32)])) (.int 0)) := by
  refine CtrW.of (plainFor_of_name pn4) hn0 ?_
  intro p e s m below meth c T0 C hnm hret hlk X0 H0 hSf
  rw [ef5 m ln_ lv_]
  have hEa := own_escL_len CA
  have hEb := own_escL_len CB
  refine G.U 3 (cells' := 1) (slots' := 4) C X0 (wd30 hw) (wd31 hw) (wd32 hw) d5_0 rfl rfl rfl (by decide) (by decide) (fun T1 h1 a1 X1 g1 q1 E1 A1 D1 U1 => ?_)
  have ne2 : na_ ≠ a1 := Nat.ne_of_lt (Nat.lt_of_lt_of_eq E_na_.lt g1.symm)
  have ne3 : pa_ ≠ a1 := Nat.ne_of_lt (Nat.lt_of_lt_of_eq A_na_.lt g1.symm)
  have ne4 : va_ ≠ a1 := Nat.ne_of_lt (Nat.lt_of_lt_of_eq E_va_.lt g1.symm)
  have ne5 : qa_ ≠ a1 := Nat.ne_of_lt (Nat.lt_of_lt_of_eq A_va_.lt g1.symm)
  have ne6 : nb_ ≠ a1 := Nat.ne_of_lt (Nat.lt_of_lt_of_eq E_nb_.lt g1.symm)
  have ne7 : pb_ ≠ a1 := Nat.ne_of_lt (Nat.lt_of_lt_of_eq A_nb_.lt g1.symm)
  have ne8 : vb_ ≠ a1 := Nat.ne_of_lt (Nat.lt_of_lt_of_eq E_vb_.lt g1.symm)
  have ne9 : qb_ ≠ a1 := Nat.ne_of_lt (Nat.lt_of_lt_of_eq A_vb_.lt g1.symm)
  have ne10 : ln_ ≠ a1 := Nat.ne_of_lt (Nat.lt_of_lt_of_eq E_ln_.lt g1.symm)
  have ne11 : en_ ≠ a1 := Nat.ne_of_lt (Nat.lt_of_lt_of_eq B_ln_.lt g1.symm)
  have ne12 : lv_ ≠ a1 := Nat.ne_of_lt (Nat.lt_of_lt_of_eq E_lv_.lt g1.symm)
  have ne13 : ev_ ≠ a1 := Nat.ne_of_lt (Nat.lt_of_lt_of_eq B_lv_.lt g1.symm)
  have sz14 : h0.size ≤ a1 := Nat.le_trans (Keep.refl h0 []).1 (Nat.le_of_eq g1.symm)
  have Hd15 := H0.ext E1
  have K16 := (Keep.refl h0 []).ext E1
  have F1_value : Fld Z h1 a1 zq1 "value" "[B" .null := D1 (Or.inl (wd47 hw)) (ty := (.array .byte)) (by decide)
  have F1_coder : Fld Z h1 a1 zq1 "coder" "B" (.int 0) := D1 (Or.inl (wd49 hw)) (ty := .byte) (by decide)
  have F1_count : Fld Z h1 a1 zq1 "count" "I" (.int 0) := D1 (Or.inl (wd99 hw)) (ty := .int) (by decide)
  refine G.I 4 C X1 d5_3 rfl rfl ?_
  have f17 := (E_na_.ext E1)
  have f18 := (A_na_.ext E1)
  have f19 := (E_va_.ext E1)
  have f20 := (A_va_.ext E1)
  have f21 := (E_nb_.ext E1)
  have f22 := (A_nb_.ext E1)
  have f23 := (E_vb_.ext E1)
  have f24 := (A_vb_.ext E1)
  have f25 := (E_ln_.ext E1)
  have f26 := (B_ln_.ext E1)
  have f27 := (E_lv_.ext E1)
  have f28 := (B_lv_.ext E1)
  have f29 := (OD.ext E1)
  refine G.N 7 (cells' := 2) (slots' := 20) (argsL := []) (St := [(.ref a1)]) C X1 rfl rfl (wd33 hw) (wd34 hw) (by decide) (wd35 hw) (wd32 hw) (ctSbIA hw X1.2.1 a1 cz A1 F1_value F1_coder F1_count q1 f29 S2 hcz) (lenOf pd29 rfl) rfl d5_4 rfl rfl (by decide) (nQ rfl) rfl rfl (by decide) (by decide) (fun v30 T30 h30 Q30 X30 z30 => ?_)
  obtain ⟨t30, k30, hv30, K30, hz30, ns30, Es30, Fv30, Fc30, Fn30, Et30, Vt30⟩ := Q30
  subst hv30
  have Hd31 := Hd15.keep K30 (allS (Safe.exa (EL := consts_1) C.2.1.alike A1 (by decide) (by decide)) all0)
  have K32 := K16.trans K30 (allS (Or.inr sz14) all0)
  have nb30_na_ : na_ ≠ t30 := Nat.ne_of_lt (Nat.lt_of_lt_of_le f17.lt hz30)
  have nb30_pa_ : pa_ ≠ t30 := Nat.ne_of_lt (Nat.lt_of_lt_of_le f18.lt hz30)
  have nb30_va_ : va_ ≠ t30 := Nat.ne_of_lt (Nat.lt_of_lt_of_le f19.lt hz30)
  have nb30_qa_ : qa_ ≠ t30 := Nat.ne_of_lt (Nat.lt_of_lt_of_le f20.lt hz30)
  have nb30_nb_ : nb_ ≠ t30 := Nat.ne_of_lt (Nat.lt_of_lt_of_le f21.lt hz30)
  have nb30_pb_ : pb_ ≠ t30 := Nat.ne_of_lt (Nat.lt_of_lt_of_le f22.lt hz30)
  have nb30_vb_ : vb_ ≠ t30 := Nat.ne_of_lt (Nat.lt_of_lt_of_le f23.lt hz30)
  have nb30_qb_ : qb_ ≠ t30 := Nat.ne_of_lt (Nat.lt_of_lt_of_le f24.lt hz30)
  have nb30_ln_ : ln_ ≠ t30 := Nat.ne_of_lt (Nat.lt_of_lt_of_le f25.lt hz30)
  have nb30_en_ : en_ ≠ t30 := Nat.ne_of_lt (Nat.lt_of_lt_of_le f26.lt hz30)
  have nb30_lv_ : lv_ ≠ t30 := Nat.ne_of_lt (Nat.lt_of_lt_of_le f27.lt hz30)
  have nb30_ev_ : ev_ ≠ t30 := Nat.ne_of_lt (Nat.lt_of_lt_of_le f28.lt hz30)
  refine G.ac 8 C X30 d5_7 rfl rfl (l' := #[vR ln_, vR lv_, vR a1, .unset]) rfl <| G.f 9 (z := 0) C X30 d5_8 rfl (by decide) <| G.D 10 C X30 d5_9 rfl (l' := #[vR ln_, vR lv_, vR a1, vI 0]) rfl <| G.b 11 C X30 d5_10 rfl rfl <| G.a 12 C X30 d5_11 rfl rfl rfl ?_
  have f33 := ((S_ln_.ext E1).keep K30 (ninS ne10 nin0))
  have f35 := (f25.keep K30)
  refine G.G 17 (cells' := 2) (slots' := 20) (argsL := []) (St := [(.int 0)]) C X30 (wd50 hw) (wd51 hw) (wd52 hw) (wd53 hw) (wd54 hw) (wd55 hw) (wd56 hw) (wd57 hw) (by decide) rfl f35 (wd58 hw) (wd2 hw) (ctSz2 hw X30.2.1 ln_ f33) (lenOf pd8 rfl) rfl d5_12 rfl rfl (by decide) (nQ rfl) rfl rfl (by decide) (by decide) (fun v34 T34 h34 Q34 X34 z34 => ?_)
  obtain ⟨hv34, hh34⟩ := Q34
  subst hv34; rw [hh34] at X34
  refine G.t 20 C X34 d5_17 rfl (tlt (by decide : (0 : Int32) < 2)).2.1 <| G.a 21 C X34 d5_20 rfl rfl rfl <| G.b 22 C X34 d5_21 rfl rfl <| G.k 25 C X34 d5_22 rfl (teq (by decide : (0 : Int32) = 0)).2 <| G.j 27 (z := 123) C X34 d5_25 rfl (by decide) <| G.r 32 C X34 d5_27 (by decide) (by decide) ?_
  have f36 := (f17.keep K30)
  have f37 := (f18.keep K30 (ninS ne3 nin0))
  have f38 := (f19.keep K30)
  have f39 := (f20.keep K30 (ninS ne5 nin0))
  have f40 := (f21.keep K30)
  have f41 := (f22.keep K30 (ninS ne7 nin0))
  have f42 := (f23.keep K30)
  have f43 := (f24.keep K30 (ninS ne9 nin0))
  have f44 := (f26.keep K30 (ninS ne11 nin0))
  have f45 := (f27.keep K30)
  have f46 := (f28.keep K30 (ninS ne13 nin0))
  have f47 := (f29.keep K30 (allS q1 all0))
  refine G.o 35 (cells' := 3) (slots' := 54) (argsL := [(.int 123)]) (St := []) C X34 (wd214 hw) (wd215 hw) (wd217 hw) (wd216 hw) (by decide) Es30 (wd218 hw) (wd32 hw) (ctApcA hw X34.2.1 a1 t30 k30 ([] : List Int32) (16 : Int32) (123 : Int32) cz Es30 Fv30 Fc30 Fn30 Et30 Vt30 q1 (Nat.le_trans X1.2.1 hz30) ns30 (by unfold own_lat; decide) (by first | omega | (simp only [List.length_append, List.length_cons, List.length_nil]; omega)) (Or.inl rfl) (Nat.zero_le _) (by first | omega | (simp only [List.length_append, List.length_cons, List.length_nil]; omega)) f47 S2 hcz) (lenOf pd35 rfl) rfl d5_32 rfl rfl (by decide) (nQ rfl) rfl rfl (by decide) (by decide) (fun v48 T48 h48 Q48 X48 z48 => ?_)
  obtain ⟨t48, k48, cq48, hv48, K48, hf48, hq48, hwl48, ns48, Es48, Fv48, Fc48, Fn48, Et48, Vt48⟩ := Q48
  subst hv48
  have Hd49 := Hd31.keep K48 (allS (Safe.exa (EL := consts_1) C.2.1.alike Es30 (by decide) (by decide)) (allS (Safe.keep K30 (allS (Safe.exa (EL := consts_1) C.2.1.alike A1 (by decide) (by decide)) all0) Hd15.cv (Safe.new hz30)) all0))
  have K50 := K32.trans K48 (allS (Or.inr sz14) (allS (Or.inr (Nat.le_trans K16.1 hz30)) all0))
  have nb48_na_ : na_ ≠ t48 := own_frn hf48 nb30_na_ f36.lt
  have nb48_pa_ : pa_ ≠ t48 := own_frn hf48 nb30_pa_ f37.lt
  have nb48_va_ : va_ ≠ t48 := own_frn hf48 nb30_va_ f38.lt
  have nb48_qa_ : qa_ ≠ t48 := own_frn hf48 nb30_qa_ f39.lt
  have nb48_nb_ : nb_ ≠ t48 := own_frn hf48 nb30_nb_ f40.lt
  have nb48_pb_ : pb_ ≠ t48 := own_frn hf48 nb30_pb_ f41.lt
  have nb48_vb_ : vb_ ≠ t48 := own_frn hf48 nb30_vb_ f42.lt
  have nb48_qb_ : qb_ ≠ t48 := own_frn hf48 nb30_qb_ f43.lt
  have nb48_ln_ : ln_ ≠ t48 := own_frn hf48 nb30_ln_ f35.lt
  have nb48_en_ : en_ ≠ t48 := own_frn hf48 nb30_en_ f44.lt
  have nb48_lv_ : lv_ ≠ t48 := own_frn hf48 nb30_lv_ f45.lt
  have nb48_ev_ : ev_ ≠ t48 := own_frn hf48 nb30_ev_ f46.lt
  have ga48 : n0 ≤ t48 := own_frg hf48 (Nat.le_trans X1.2.1 hz30) X34.2.1
  have iw48 : t48 ∈ [] ∨ h0.size ≤ t48 := own_frw hf48 (Or.inr (Nat.le_trans K16.1 hz30)) K32.1
  have Sf48 : Safe Z consts_1 s.vm h48 t48 := by
    rcases hf48 with e | e
    · rw [e]; exact Safe.keep K48 (allS (Safe.exa (EL := consts_1) C.2.1.alike Es30 (by decide) (by decide)) (allS (Safe.keep K30 (allS (Safe.exa (EL := consts_1) C.2.1.alike A1 (by decide) (by decide)) all0) Hd15.cv (Safe.new hz30)) all0)) Hd31.cv (Safe.keep K30 (allS (Safe.exa (EL := consts_1) C.2.1.alike A1 (by decide) (by decide)) all0) Hd15.cv (Safe.new hz30))
    · exact Safe.keep K48 (allS (Safe.exa (EL := consts_1) C.2.1.alike Es30 (by decide) (by decide)) (allS (Safe.keep K30 (allS (Safe.exa (EL := consts_1) C.2.1.alike A1 (by decide) (by decide)) all0) Hd15.cv (Safe.new hz30)) all0)) Hd31.cv (Safe.new e)
  refine G.a 36 C X48 d5_35 rfl rfl rfl <| G.b 37 C X48 d5_36 rfl rfl ?_
  have f51 := (f35.keep K48)
  have f52 := (((D_ln_.ext E1).keep K30 (ninS ne10 nin0)).keep K48 (ninS ne10 (ninS nb30_ln_ nin0)))
  have f53 := (f33.keep K48 (ninS ne10 (ninS nb30_ln_ nin0)))
  have f54 := (f44.keep K48 (ninS ne11 (ninS nb30_en_ nin0)))
  refine G.G 42 (cells' := 3) (slots' := 54) (argsL := [(.int 0)]) (St := [(.ref a1)]) C X48 (wd230 hw) (wd231 hw) (wd232 hw) (wd233 hw) (wd234 hw) (wd235 hw) (wd236 hw) (wd57 hw) (by decide) rfl f51 (wd237 hw) (wd2 hw) (ctGet20 hw X48.2.1 ln_ en_ na_ nb_ ken f51 f52 f53 f54) (lenOf pd33 rfl) rfl d5_37 rfl rfl (by decide) (nQ rfl) rfl rfl (by decide) (by decide) (fun v55 T55 h55 Q55 X55 z55 => ?_)
  obtain ⟨hv55, hh55⟩ := Q55
  subst hv55; rw [hh55] at X55
  have f56 := (f36.keep K48)
  refine G.al 45 C X55 (wd251 hw) (Ins.self f56) d5_42 rfl (fun T57 X57 => ?_)
  have f58 := (((V_na_.ext E1).keep K30 (ninS ne2 nin0)).keep K48 (ninS ne2 (ninS nb30_na_ nin0)))
  have f59 := (((C_na_.ext E1).keep K30 (ninS ne2 nin0)).keep K48 (ninS ne2 (ninS nb30_na_ nin0)))
  have f60 := (f37.keep K48 (ninS ne3 (ninS nb30_pa_ nin0)))
  have f61 := (f38.keep K48)
  have f62 := (f39.keep K48 (ninS ne5 (ninS nb30_qa_ nin0)))
  have f63 := (f40.keep K48)
  have f64 := (f41.keep K48 (ninS ne7 (ninS nb30_pb_ nin0)))
  have f65 := (f42.keep K48)
  have f66 := (f43.keep K48 (ninS ne9 (ninS nb30_qb_ nin0)))
  have f67 := (f45.keep K48)
  have f68 := (f46.keep K48 (ninS ne13 (ninS nb30_ev_ nin0)))
  have f69 := (f47.keep K48 (allS q1 (allS (Nat.le_trans X1.2.1 hz30) all0)))
  refine G.o 48 (cells' := 4) (slots' := 88) (argsL := [(.ref na_)]) (St := []) C X57 (wd252 hw) (wd253 hw) (wd255 hw) (wd254 hw) (by decide) Es48 (wd256 hw) (wd32 hw) (ctAppA hw X57.2.1 a1 t48 k48 (([] : List Int32) ++ [(123 : Int32)]) cq48 na_ pa_ kna [ma] cz Es48 Fv48 Fc48 Fn48 Et48 Vt48 q1 ga48 ns48 f56 f58 f59 f60 nb48_pa_ ne2 nb48_na_ (by first | omega | (simp only [List.length_append, List.length_cons, List.length_nil]; omega)) hq48 hwl48 (by first | omega | (simp only [List.length_append, List.length_cons, List.length_nil]; omega)) f69 S2 hcz) (lenOf pd34 rfl) rfl d5_45 rfl rfl (by decide) (nQ rfl) rfl rfl (by decide) (by decide) (fun v70 T70 h70 Q70 X70 z70 => ?_)
  obtain ⟨t70, k70, cq70, hv70, K70, hf70, hq70, hwl70, ns70, Es70, Fv70, Fc70, Fn70, Et70, Vt70⟩ := Q70
  subst hv70
  have Hd71 := Hd49.keep K70 (allS (Safe.exa (EL := consts_1) C.2.1.alike Es48 (by decide) (by decide)) (allS Sf48 all0))
  have K72 := K50.trans K70 (allS (Or.inr sz14) (allS iw48 all0))
  have nb70_va_ : va_ ≠ t70 := own_frn hf70 nb48_va_ f61.lt
  have nb70_qa_ : qa_ ≠ t70 := own_frn hf70 nb48_qa_ f62.lt
  have nb70_nb_ : nb_ ≠ t70 := own_frn hf70 nb48_nb_ f63.lt
  have nb70_pb_ : pb_ ≠ t70 := own_frn hf70 nb48_pb_ f64.lt
  have nb70_vb_ : vb_ ≠ t70 := own_frn hf70 nb48_vb_ f65.lt
  have nb70_qb_ : qb_ ≠ t70 := own_frn hf70 nb48_qb_ f66.lt
  have nb70_ln_ : ln_ ≠ t70 := own_frn hf70 nb48_ln_ f51.lt
  have nb70_en_ : en_ ≠ t70 := own_frn hf70 nb48_en_ f54.lt
  have nb70_lv_ : lv_ ≠ t70 := own_frn hf70 nb48_lv_ f67.lt
  have nb70_ev_ : ev_ ≠ t70 := own_frn hf70 nb48_ev_ f68.lt
  have ga70 : n0 ≤ t70 := own_frg hf70 ga48 X57.2.1
  have iw70 : t70 ∈ [] ∨ h0.size ≤ t70 := own_frw hf70 iw48 K50.1
  have Sf70 : Safe Z consts_1 s.vm h70 t70 := by
    rcases hf70 with e | e
    · rw [e]; exact Safe.keep K70 (allS (Safe.exa (EL := consts_1) C.2.1.alike Es48 (by decide) (by decide)) (allS Sf48 all0)) Hd49.cv Sf48
    · exact Safe.keep K70 (allS (Safe.exa (EL := consts_1) C.2.1.alike Es48 (by decide) (by decide)) (allS Sf48 all0)) Hd49.cv (Safe.new e)
  refine G.F 50 (n := 8) (cells' := 6) (slots' := 100) (z := (2 : Int32)) (vs := [(.int 61), (.int 34)]) C X70 (ew hw) Hd71 (wd279 hw) (wS hw) (List.mem_of_getElem? (i := 0) rfl) ⟨by decide +kernel, by first | rfl | decide +kernel⟩ (by decide) rfl d5_48 rfl (by decide +kernel) (by decide) rfl rfl (by decide) (by decide) (fun vm73 T73 h73 a73 b73 k73 C73 X73 Hd73 E73 R73 A73 F73a F73b V73 sf73 => ?_)
  have K74 := K72.ext E73
  have f75 := ((f51.keep K70).ext E73)
  have f77 := ((f54.keep K70 (ninS ne11 (ninS nb48_en_ nin0))).ext E73)
  have f79 := ((f67.keep K70).ext E73)
  have f81 := ((f68.keep K70 (ninS ne13 (ninS nb48_ev_ nin0))).ext E73)
  have f83 := (Es70.ext E73)
  have sn84 := sf73 a1 (Safe.exa (EL := consts_1) C73.2.1.alike f83 (by decide) (by decide))
  have sn85 := sf73 t70 (CHr.safe R73 Et70.lt Sf70)
  have Vx86 : Arv Z h73 b73 k73 .byte (own_n (([61, 34] : List Int32)).length) (tx ([61, 34] : List Int32)) (.int 0) := V73
  have f87 := (Fv70.ext E73)
  have f88 := (Fc70.ext E73)
  have f89 := (Fn70.ext E73)
  have f90 := (Et70.ext E73)
  have f91 := (Vt70.ext E73)
  have f94 := ((f61.keep K70).ext E73)
  have f95 := ((f62.keep K70 (ninS ne5 (ninS nb48_qa_ nin0))).ext E73)
  have f96 := ((f63.keep K70).ext E73)
  have f97 := ((f64.keep K70 (ninS ne7 (ninS nb48_pb_ nin0))).ext E73)
  have f98 := ((f65.keep K70).ext E73)
  have f99 := ((f66.keep K70 (ninS ne9 (ninS nb48_qb_ nin0))).ext E73)
  have f100 := ((f69.keep K70 (allS q1 (allS ga48 all0))).ext E73)
  refine G.o 53 (cells' := 7) (slots' := 134) (argsL := [(.ref a73)]) (St := []) C73 X73 (wd252 hw) (wd253 hw) (wd255 hw) (wd254 hw) (by decide) f83 (wd256 hw) (wd32 hw) (ctAppA hw X73.2.1 a1 t70 k70 ((([] : List Int32) ++ [(123 : Int32)]) ++ [ma]) cq70 a73 b73 k73 ([61, 34] : List Int32) cz f83 f87 f88 f89 f90 f91 q1 ga70 ns70 A73 F73b F73a Vx86 (Ne.symm sn85.2) (Ne.symm sn84.1) (Ne.symm sn85.1) (by first | omega | (simp only [List.length_append, List.length_cons, List.length_nil]; omega)) hq70 hwl70 (by first | omega | (simp only [List.length_append, List.length_cons, List.length_nil]; omega)) f100 S2 hcz) (lenOf pd34 rfl) rfl d5_50 rfl rfl (by decide) (nQ rfl) rfl rfl (by decide) (by decide) (fun v101 T101 h101 Q101 X101 z101 => ?_)
  obtain ⟨t101, k101, cq101, hv101, K101, hf101, hq101, hwl101, ns101, Es101, Fv101, Fc101, Fn101, Et101, Vt101⟩ := Q101
  subst hv101
  have Hd102 := Hd73.keep K101 (allS (Safe.exa (EL := consts_1) C73.2.1.alike f83 (by decide) (by decide)) (allS (CHr.safe R73 Et70.lt Sf70) all0))
  have K103 := K74.trans K101 (allS (Or.inr sz14) (allS iw70 all0))
  have nb101_va_ : va_ ≠ t101 := own_frn hf101 nb70_va_ f94.lt
  have nb101_qa_ : qa_ ≠ t101 := own_frn hf101 nb70_qa_ f95.lt
  have nb101_nb_ : nb_ ≠ t101 := own_frn hf101 nb70_nb_ f96.lt
  have nb101_pb_ : pb_ ≠ t101 := own_frn hf101 nb70_pb_ f97.lt
  have nb101_vb_ : vb_ ≠ t101 := own_frn hf101 nb70_vb_ f98.lt
  have nb101_qb_ : qb_ ≠ t101 := own_frn hf101 nb70_qb_ f99.lt
  have nb101_ln_ : ln_ ≠ t101 := own_frn hf101 nb70_ln_ f75.lt
  have nb101_en_ : en_ ≠ t101 := own_frn hf101 nb70_en_ f77.lt
  have nb101_lv_ : lv_ ≠ t101 := own_frn hf101 nb70_lv_ f79.lt
  have nb101_ev_ : ev_ ≠ t101 := own_frn hf101 nb70_ev_ f81.lt
  have ga101 : n0 ≤ t101 := own_frg hf101 ga70 X73.2.1
  have iw101 : t101 ∈ [] ∨ h0.size ≤ t101 := own_frw hf101 iw70 K74.1
  have Sf101 : Safe Z consts_1 vm73 h101 t101 := by
    rcases hf101 with e | e
    · rw [e]; exact Safe.keep K101 (allS (Safe.exa (EL := consts_1) C73.2.1.alike f83 (by decide) (by decide)) (allS (CHr.safe R73 Et70.lt Sf70) all0)) Hd73.cv (CHr.safe R73 Et70.lt Sf70)
    · exact Safe.keep K101 (allS (Safe.exa (EL := consts_1) C73.2.1.alike f83 (by decide) (by decide)) (allS (CHr.safe R73 Et70.lt Sf70) all0)) Hd73.cv (Safe.new e)
  refine G.v 54 C73 X101 d5_53 rfl rfl <| G.a 55 C73 X101 d5_54 rfl rfl rfl <| G.b 56 C73 X101 d5_55 rfl rfl ?_
  have f104 := (f79.keep K101)
  have f105 := ((((((D_lv_.ext E1).keep K30 (ninS ne12 nin0)).keep K48 (ninS ne12 (ninS nb30_lv_ nin0))).keep K70 (ninS ne12 (ninS nb48_lv_ nin0))).ext E73).keep K101 (ninS ne12 (ninS nb70_lv_ nin0)))
  have f106 := ((((((S_lv_.ext E1).keep K30 (ninS ne12 nin0)).keep K48 (ninS ne12 (ninS nb30_lv_ nin0))).keep K70 (ninS ne12 (ninS nb48_lv_ nin0))).ext E73).keep K101 (ninS ne12 (ninS nb70_lv_ nin0)))
  have f107 := (f81.keep K101 (ninS ne13 (ninS nb70_ev_ nin0)))
  refine G.G 61 (cells' := 7) (slots' := 134) (argsL := [(.int 0)]) (St := []) C73 X101 (wd230 hw) (wd231 hw) (wd232 hw) (wd233 hw) (wd234 hw) (wd235 hw) (wd236 hw) (wd57 hw) (by decide) rfl f104 (wd237 hw) (wd2 hw) (ctGet20 hw X101.2.1 lv_ ev_ va_ vb_ kev f104 f105 f106 f107) (lenOf pd33 rfl) rfl d5_56 rfl rfl (by decide) (nQ rfl) rfl rfl (by decide) (by decide) (fun v108 T108 h108 Q108 X108 z108 => ?_)
  obtain ⟨hv108, hh108⟩ := Q108
  subst hv108; rw [hh108] at X108
  have f109 := (f94.keep K101)
  refine G.al 64 C73 X108 (wd251 hw) (Ins.self f109) d5_61 rfl fun T110 X110 => G.f 65 (z := 1) C73 X110 d5_64 rfl (by decide) <| G.a 66 C73 X110 d5_65 rfl rfl rfl ?_
  have f111 := ((((((V_va_.ext E1).keep K30 (ninS ne4 nin0)).keep K48 (ninS ne4 (ninS nb30_va_ nin0))).keep K70 (ninS ne4 (ninS nb48_va_ nin0))).ext E73).keep K101 (ninS ne4 (ninS nb70_va_ nin0)))
  have f112 := ((((((C_va_.ext E1).keep K30 (ninS ne4 nin0)).keep K48 (ninS ne4 (ninS nb30_va_ nin0))).keep K70 (ninS ne4 (ninS nb48_va_ nin0))).ext E73).keep K101 (ninS ne4 (ninS nb70_va_ nin0)))
  have f113 := (f95.keep K101 (ninS ne5 (ninS nb70_qa_ nin0)))
  have f116 := (f96.keep K101)
  have f117 := (f97.keep K101 (ninS ne7 (ninS nb70_pb_ nin0)))
  have f118 := (f98.keep K101)
  have f119 := (f99.keep K101 (ninS ne9 (ninS nb70_qb_ nin0)))
  have f120 := (f75.keep K101)
  have f121 := (f77.keep K101 (ninS ne11 (ninS nb70_en_ nin0)))
  have f124 := (f100.keep K101 (allS q1 (allS ga70 all0)))
  refine G.ag 69 (cells' := 15) (slots' := 294) (argsL := [(.ref va_), (.int 1), (.ref a1)]) (St := []) C73 X110 (ew hw) Hd102 (wd280 hw) (wd281 hw) (by decide) (wd282 hw) (wd28 hw) (ctEsc hw X110.2.1 a1 t101 k101 (((([] : List Int32) ++ [(123 : Int32)]) ++ [ma]) ++ ([61, 34] : List Int32)) cq101 va_ qa_ kva CA cz fmt Es101 Fv101 Fc101 Fn101 Et101 Vt101 q1 ga101 ns101 f109 f111 f112 f113 nb101_qa_ ne4 nb101_va_ hq101 hwl101 (by first | omega | (simp only [List.length_append, List.length_cons, List.length_nil]; omega)) hLa hAa Sf hfm f124 S2 hcz) (sfS ⟨Et101.lt, Sf101⟩ (fun _ hx => by cases hx)) (lenOf pd37 rfl) rfl d5_66 rfl rfl (by decide) (nQ rfl) rfl rfl (by decide) (by decide) (fun v125 vm125 T125 h125 Q125 C125 X125 Hd125 R125 => ?_)
  obtain ⟨t125, k125, cq125, hv125, K125, hf125, hq125, hwl125, ns125, Es125, Fv125, Fc125, Fn125, Et125, Vt125, sfx125⟩ := Q125
  subst hv125
  have K126 := K103.trans K125 (allS (Or.inr sz14) (allS iw101 all0))
  have nb125_nb_ : nb_ ≠ t125 := own_frn hf125 nb101_nb_ f116.lt
  have nb125_pb_ : pb_ ≠ t125 := own_frn hf125 nb101_pb_ f117.lt
  have nb125_vb_ : vb_ ≠ t125 := own_frn hf125 nb101_vb_ f118.lt
  have nb125_qb_ : qb_ ≠ t125 := own_frn hf125 nb101_qb_ f119.lt
  have nb125_ln_ : ln_ ≠ t125 := own_frn hf125 nb101_ln_ f120.lt
  have nb125_en_ : en_ ≠ t125 := own_frn hf125 nb101_en_ f121.lt
  have nb125_lv_ : lv_ ≠ t125 := own_frn hf125 nb101_lv_ f104.lt
  have nb125_ev_ : ev_ ≠ t125 := own_frn hf125 nb101_ev_ f107.lt
  have ga125 : n0 ≤ t125 := own_frg hf125 ga101 X110.2.1
  have iw125 : t125 ∈ [] ∨ h0.size ≤ t125 := own_frw hf125 iw101 K103.1
  refine G.a 70 C125 X125 d5_69 rfl rfl rfl <| G.j 72 (z := 34) C125 X125 d5_70 rfl (by decide) ?_
  have f131 := (f116.keep K125)
  have f132 := (f117.keep K125 (ninS ne7 (ninS nb101_pb_ nin0)))
  have f133 := (f118.keep K125)
  have f134 := (f119.keep K125 (ninS ne9 (ninS nb101_qb_ nin0)))
  have f135 := (f120.keep K125)
  have f136 := (f121.keep K125 (ninS ne11 (ninS nb101_en_ nin0)))
  have f137 := (f104.keep K125)
  have f138 := (f107.keep K125 (ninS ne13 (ninS nb101_ev_ nin0)))
  have f141 := (f124.keep K125 (allS q1 (allS ga101 all0)))
  refine G.o 75 (cells' := 16) (slots' := 328) (argsL := [(.int 34)]) (St := []) C125 X125 (wd214 hw) (wd215 hw) (wd217 hw) (wd216 hw) (by decide) Es125 (wd218 hw) (wd32 hw) (ctApcA hw X125.2.1 a1 t125 k125 ((((([] : List Int32) ++ [(123 : Int32)]) ++ [ma]) ++ ([61, 34] : List Int32)) ++ (own_escL CA)) cq125 (34 : Int32) cz Es125 Fv125 Fc125 Fn125 Et125 Vt125 q1 ga125 ns125 (by unfold own_lat; decide) (by first | omega | (simp only [List.length_append, List.length_cons, List.length_nil]; omega)) hq125 hwl125 (by first | omega | (simp only [List.length_append, List.length_cons, List.length_nil]; omega)) f141 S2 hcz) (lenOf pd35 rfl) rfl d5_72 rfl rfl (by decide) (nQ rfl) rfl rfl (by decide) (by decide) (fun v142 T142 h142 Q142 X142 z142 => ?_)
  obtain ⟨t142, k142, cq142, hv142, K142, hf142, hq142, hwl142, ns142, Es142, Fv142, Fc142, Fn142, Et142, Vt142⟩ := Q142
  subst hv142
  have Hd143 := Hd125.keep K142 (allS (Safe.exa (EL := consts_1) C125.2.1.alike Es125 (by decide) (by decide)) (allS sfx125 all0))
  have K144 := K126.trans K142 (allS (Or.inr sz14) (allS iw125 all0))
  have nb142_nb_ : nb_ ≠ t142 := own_frn hf142 nb125_nb_ f131.lt
  have nb142_pb_ : pb_ ≠ t142 := own_frn hf142 nb125_pb_ f132.lt
  have nb142_vb_ : vb_ ≠ t142 := own_frn hf142 nb125_vb_ f133.lt
  have nb142_qb_ : qb_ ≠ t142 := own_frn hf142 nb125_qb_ f134.lt
  have nb142_ln_ : ln_ ≠ t142 := own_frn hf142 nb125_ln_ f135.lt
  have nb142_en_ : en_ ≠ t142 := own_frn hf142 nb125_en_ f136.lt
  have nb142_lv_ : lv_ ≠ t142 := own_frn hf142 nb125_lv_ f137.lt
  have nb142_ev_ : ev_ ≠ t142 := own_frn hf142 nb125_ev_ f138.lt
  have ga142 : n0 ≤ t142 := own_frg hf142 ga125 X125.2.1
  have iw142 : t142 ∈ [] ∨ h0.size ≤ t142 := own_frw hf142 iw125 K126.1
  have Sf142 : Safe Z consts_1 vm125 h142 t142 := by
    rcases hf142 with e | e
    · rw [e]; exact Safe.keep K142 (allS (Safe.exa (EL := consts_1) C125.2.1.alike Es125 (by decide) (by decide)) (allS sfx125 all0)) Hd125.cv sfx125
    · exact Safe.keep K142 (allS (Safe.exa (EL := consts_1) C125.2.1.alike Es125 (by decide) (by decide)) (allS sfx125 all0)) Hd125.cv (Safe.new e)
  refine G.v 76 C125 X142 d5_75 rfl rfl <| G.y 79 C125 X142 d5_76 rfl rfl (z := (1 : Int32)) (by decide) (l' := #[vR ln_, vR lv_, vR a1, vI 1]) rfl <| G.r 10 C125 X142 d5_79 (by decide) (by decide) <| G.b 11 C125 X142 d5_10 rfl rfl <| G.a 12 C125 X142 d5_11 rfl rfl rfl ?_
  have f145 := (((((f53.keep K70 (ninS ne10 (ninS nb48_ln_ nin0))).ext E73).keep K101 (ninS ne10 (ninS nb70_ln_ nin0))).keep K125 (ninS ne10 (ninS nb101_ln_ nin0))).keep K142 (ninS ne10 (ninS nb125_ln_ nin0)))
  have f147 := (f135.keep K142)
  refine G.G 17 (cells' := 16) (slots' := 328) (argsL := []) (St := [(.int 1)]) C125 X142 (wd50 hw) (wd51 hw) (wd52 hw) (wd53 hw) (wd54 hw) (wd55 hw) (wd56 hw) (wd57 hw) (by decide) rfl f147 (wd58 hw) (wd2 hw) (ctSz2 hw X142.2.1 ln_ f145) (lenOf pd8 rfl) rfl d5_12 rfl rfl (by decide) (nQ rfl) rfl rfl (by decide) (by decide) (fun v146 T146 h146 Q146 X146 z146 => ?_)
  obtain ⟨hv146, hh146⟩ := Q146
  subst hv146; rw [hh146] at X146
  refine G.t 20 C125 X146 d5_17 rfl (tlt (by decide : (1 : Int32) < 2)).2.1 <| G.a 21 C125 X146 d5_20 rfl rfl rfl <| G.b 22 C125 X146 d5_21 rfl rfl <| G.ad 30 C125 X146 d5_22 (feq (by decide : ¬ (1 : Int32) = 0)).2 (by decide) (by decide) <| G.j 32 (z := 44) C125 X146 d5_30 rfl (by decide) ?_
  have f152 := (f131.keep K142)
  have f153 := (f132.keep K142 (ninS ne7 (ninS nb125_pb_ nin0)))
  have f154 := (f133.keep K142)
  have f155 := (f134.keep K142 (ninS ne9 (ninS nb125_qb_ nin0)))
  have f156 := (f136.keep K142 (ninS ne11 (ninS nb125_en_ nin0)))
  have f157 := (f137.keep K142)
  have f158 := (f138.keep K142 (ninS ne13 (ninS nb125_ev_ nin0)))
  have f161 := (f141.keep K142 (allS q1 (allS ga125 all0)))
  refine G.o 35 (cells' := 17) (slots' := 362) (argsL := [(.int 44)]) (St := []) C125 X146 (wd214 hw) (wd215 hw) (wd217 hw) (wd216 hw) (by decide) Es142 (wd218 hw) (wd32 hw) (ctApcA hw X146.2.1 a1 t142 k142 (((((([] : List Int32) ++ [(123 : Int32)]) ++ [ma]) ++ ([61, 34] : List Int32)) ++ (own_escL CA)) ++ [(34 : Int32)]) cq142 (44 : Int32) cz Es142 Fv142 Fc142 Fn142 Et142 Vt142 q1 ga142 ns142 (by unfold own_lat; decide) (by first | omega | (simp only [List.length_append, List.length_cons, List.length_nil]; omega)) hq142 hwl142 (by first | omega | (simp only [List.length_append, List.length_cons, List.length_nil]; omega)) f161 S2 hcz) (lenOf pd35 rfl) rfl d5_32 rfl rfl (by decide) (nQ rfl) rfl rfl (by decide) (by decide) (fun v162 T162 h162 Q162 X162 z162 => ?_)
  obtain ⟨t162, k162, cq162, hv162, K162, hf162, hq162, hwl162, ns162, Es162, Fv162, Fc162, Fn162, Et162, Vt162⟩ := Q162
  subst hv162
  have Hd163 := Hd143.keep K162 (allS (Safe.exa (EL := consts_1) C125.2.1.alike Es142 (by decide) (by decide)) (allS Sf142 all0))
  have K164 := K144.trans K162 (allS (Or.inr sz14) (allS iw142 all0))
  have nb162_nb_ : nb_ ≠ t162 := own_frn hf162 nb142_nb_ f152.lt
  have nb162_pb_ : pb_ ≠ t162 := own_frn hf162 nb142_pb_ f153.lt
  have nb162_vb_ : vb_ ≠ t162 := own_frn hf162 nb142_vb_ f154.lt
  have nb162_qb_ : qb_ ≠ t162 := own_frn hf162 nb142_qb_ f155.lt
  have nb162_ln_ : ln_ ≠ t162 := own_frn hf162 nb142_ln_ f147.lt
  have nb162_lv_ : lv_ ≠ t162 := own_frn hf162 nb142_lv_ f157.lt
  have nb162_ev_ : ev_ ≠ t162 := own_frn hf162 nb142_ev_ f158.lt
  have ga162 : n0 ≤ t162 := own_frg hf162 ga142 X146.2.1
  have iw162 : t162 ∈ [] ∨ h0.size ≤ t162 := own_frw hf162 iw142 K144.1
  have Sf162 : Safe Z consts_1 vm125 h162 t162 := by
    rcases hf162 with e | e
    · rw [e]; exact Safe.keep K162 (allS (Safe.exa (EL := consts_1) C125.2.1.alike Es142 (by decide) (by decide)) (allS Sf142 all0)) Hd143.cv Sf142
    · exact Safe.keep K162 (allS (Safe.exa (EL := consts_1) C125.2.1.alike Es142 (by decide) (by decide)) (allS Sf142 all0)) Hd143.cv (Safe.new e)
  refine G.a 36 C125 X162 d5_35 rfl rfl rfl <| G.b 37 C125 X162 d5_36 rfl rfl ?_
  have f165 := (f147.keep K162)
  have f166 := ((((((f52.keep K70 (ninS ne10 (ninS nb48_ln_ nin0))).ext E73).keep K101 (ninS ne10 (ninS nb70_ln_ nin0))).keep K125 (ninS ne10 (ninS nb101_ln_ nin0))).keep K142 (ninS ne10 (ninS nb125_ln_ nin0))).keep K162 (ninS ne10 (ninS nb142_ln_ nin0)))
  have f167 := (f145.keep K162 (ninS ne10 (ninS nb142_ln_ nin0)))
  have f168 := (f156.keep K162 (ninS ne11 (ninS nb142_en_ nin0)))
  refine G.G 42 (cells' := 17) (slots' := 362) (argsL := [(.int 1)]) (St := [(.ref a1)]) C125 X162 (wd230 hw) (wd231 hw) (wd232 hw) (wd233 hw) (wd234 hw) (wd235 hw) (wd236 hw) (wd57 hw) (by decide) rfl f165 (wd237 hw) (wd2 hw) (ctGet21 hw X162.2.1 ln_ en_ na_ nb_ ken f165 f166 f167 f168) (lenOf pd33 rfl) rfl d5_37 rfl rfl (by decide) (nQ rfl) rfl rfl (by decide) (by decide) (fun v169 T169 h169 Q169 X169 z169 => ?_)
  obtain ⟨hv169, hh169⟩ := Q169
  subst hv169; rw [hh169] at X169
  have f170 := (f152.keep K162)
  refine G.al 45 C125 X169 (wd251 hw) (Ins.self f170) d5_42 rfl (fun T171 X171 => ?_)
  have f172 := (((((((((V_nb_.ext E1).keep K30 (ninS ne6 nin0)).keep K48 (ninS ne6 (ninS nb30_nb_ nin0))).keep K70 (ninS ne6 (ninS nb48_nb_ nin0))).ext E73).keep K101 (ninS ne6 (ninS nb70_nb_ nin0))).keep K125 (ninS ne6 (ninS nb101_nb_ nin0))).keep K142 (ninS ne6 (ninS nb125_nb_ nin0))).keep K162 (ninS ne6 (ninS nb142_nb_ nin0)))
  have f173 := (((((((((C_nb_.ext E1).keep K30 (ninS ne6 nin0)).keep K48 (ninS ne6 (ninS nb30_nb_ nin0))).keep K70 (ninS ne6 (ninS nb48_nb_ nin0))).ext E73).keep K101 (ninS ne6 (ninS nb70_nb_ nin0))).keep K125 (ninS ne6 (ninS nb101_nb_ nin0))).keep K142 (ninS ne6 (ninS nb125_nb_ nin0))).keep K162 (ninS ne6 (ninS nb142_nb_ nin0)))
  have f174 := (f153.keep K162 (ninS ne7 (ninS nb142_pb_ nin0)))
  have f179 := (f154.keep K162)
  have f180 := (f155.keep K162 (ninS ne9 (ninS nb142_qb_ nin0)))
  have f181 := (f157.keep K162)
  have f182 := (f158.keep K162 (ninS ne13 (ninS nb142_ev_ nin0)))
  have f185 := (f161.keep K162 (allS q1 (allS ga142 all0)))
  refine G.o 48 (cells' := 18) (slots' := 396) (argsL := [(.ref nb_)]) (St := []) C125 X171 (wd252 hw) (wd253 hw) (wd255 hw) (wd254 hw) (by decide) Es162 (wd256 hw) (wd32 hw) (ctAppA hw X171.2.1 a1 t162 k162 ((((((([] : List Int32) ++ [(123 : Int32)]) ++ [ma]) ++ ([61, 34] : List Int32)) ++ (own_escL CA)) ++ [(34 : Int32)]) ++ [(44 : Int32)]) cq162 nb_ pb_ knb [mb] cz Es162 Fv162 Fc162 Fn162 Et162 Vt162 q1 ga162 ns162 f170 f172 f173 f174 nb162_pb_ ne6 nb162_nb_ (by first | omega | (simp only [List.length_append, List.length_cons, List.length_nil]; omega)) hq162 hwl162 (by first | omega | (simp only [List.length_append, List.length_cons, List.length_nil]; omega)) f185 S2 hcz) (lenOf pd34 rfl) rfl d5_45 rfl rfl (by decide) (nQ rfl) rfl rfl (by decide) (by decide) (fun v186 T186 h186 Q186 X186 z186 => ?_)
  obtain ⟨t186, k186, cq186, hv186, K186, hf186, hq186, hwl186, ns186, Es186, Fv186, Fc186, Fn186, Et186, Vt186⟩ := Q186
  subst hv186
  have Hd187 := Hd163.keep K186 (allS (Safe.exa (EL := consts_1) C125.2.1.alike Es162 (by decide) (by decide)) (allS Sf162 all0))
  have K188 := K164.trans K186 (allS (Or.inr sz14) (allS iw162 all0))
  have nb186_vb_ : vb_ ≠ t186 := own_frn hf186 nb162_vb_ f179.lt
  have nb186_qb_ : qb_ ≠ t186 := own_frn hf186 nb162_qb_ f180.lt
  have nb186_ln_ : ln_ ≠ t186 := own_frn hf186 nb162_ln_ f165.lt
  have nb186_lv_ : lv_ ≠ t186 := own_frn hf186 nb162_lv_ f181.lt
  have nb186_ev_ : ev_ ≠ t186 := own_frn hf186 nb162_ev_ f182.lt
  have ga186 : n0 ≤ t186 := own_frg hf186 ga162 X171.2.1
  have iw186 : t186 ∈ [] ∨ h0.size ≤ t186 := own_frw hf186 iw162 K164.1
  have Sf186 : Safe Z consts_1 vm125 h186 t186 := by
    rcases hf186 with e | e
    · rw [e]; exact Safe.keep K186 (allS (Safe.exa (EL := consts_1) C125.2.1.alike Es162 (by decide) (by decide)) (allS Sf162 all0)) Hd163.cv Sf162
    · exact Safe.keep K186 (allS (Safe.exa (EL := consts_1) C125.2.1.alike Es162 (by decide) (by decide)) (allS Sf162 all0)) Hd163.cv (Safe.new e)
  refine G.F 50 (n := 8) (cells' := 20) (slots' := 408) (z := (2 : Int32)) (vs := [(.int 61), (.int 34)]) C125 X186 (ew hw) Hd187 (wd279 hw) (wS hw) (List.mem_of_getElem? (i := 0) rfl) ⟨by decide +kernel, by first | rfl | decide +kernel⟩ (by decide) rfl d5_48 rfl (by decide +kernel) (by decide) rfl rfl (by decide) (by decide) (fun vm189 T189 h189 a189 b189 k189 C189 X189 Hd189 E189 R189 A189 F189a F189b V189 sf189 => ?_)
  have K190 := K188.ext E189
  have f191 := ((f165.keep K186).ext E189)
  have f195 := ((f181.keep K186).ext E189)
  have f197 := ((f182.keep K186 (ninS ne13 (ninS nb162_ev_ nin0))).ext E189)
  have f199 := (Es186.ext E189)
  have sn200 := sf189 a1 (Safe.exa (EL := consts_1) C189.2.1.alike f199 (by decide) (by decide))
  have sn201 := sf189 t186 (CHr.safe R189 Et186.lt Sf186)
  have Vx202 : Arv Z h189 b189 k189 .byte (own_n (([61, 34] : List Int32)).length) (tx ([61, 34] : List Int32)) (.int 0) := V189
  have f203 := (Fv186.ext E189)
  have f204 := (Fc186.ext E189)
  have f205 := (Fn186.ext E189)
  have f206 := (Et186.ext E189)
  have f207 := (Vt186.ext E189)
  have f214 := ((f179.keep K186).ext E189)
  have f215 := ((f180.keep K186 (ninS ne9 (ninS nb162_qb_ nin0))).ext E189)
  have f218 := ((f185.keep K186 (allS q1 (allS ga162 all0))).ext E189)
  refine G.o 53 (cells' := 21) (slots' := 442) (argsL := [(.ref a189)]) (St := []) C189 X189 (wd252 hw) (wd253 hw) (wd255 hw) (wd254 hw) (by decide) f199 (wd256 hw) (wd32 hw) (ctAppA hw X189.2.1 a1 t186 k186 (((((((([] : List Int32) ++ [(123 : Int32)]) ++ [ma]) ++ ([61, 34] : List Int32)) ++ (own_escL CA)) ++ [(34 : Int32)]) ++ [(44 : Int32)]) ++ [mb]) cq186 a189 b189 k189 ([61, 34] : List Int32) cz f199 f203 f204 f205 f206 f207 q1 ga186 ns186 A189 F189b F189a Vx202 (Ne.symm sn201.2) (Ne.symm sn200.1) (Ne.symm sn201.1) (by first | omega | (simp only [List.length_append, List.length_cons, List.length_nil]; omega)) hq186 hwl186 (by first | omega | (simp only [List.length_append, List.length_cons, List.length_nil]; omega)) f218 S2 hcz) (lenOf pd34 rfl) rfl d5_50 rfl rfl (by decide) (nQ rfl) rfl rfl (by decide) (by decide) (fun v219 T219 h219 Q219 X219 z219 => ?_)
  obtain ⟨t219, k219, cq219, hv219, K219, hf219, hq219, hwl219, ns219, Es219, Fv219, Fc219, Fn219, Et219, Vt219⟩ := Q219
  subst hv219
  have Hd220 := Hd189.keep K219 (allS (Safe.exa (EL := consts_1) C189.2.1.alike f199 (by decide) (by decide)) (allS (CHr.safe R189 Et186.lt Sf186) all0))
  have K221 := K190.trans K219 (allS (Or.inr sz14) (allS iw186 all0))
  have nb219_vb_ : vb_ ≠ t219 := own_frn hf219 nb186_vb_ f214.lt
  have nb219_qb_ : qb_ ≠ t219 := own_frn hf219 nb186_qb_ f215.lt
  have nb219_ln_ : ln_ ≠ t219 := own_frn hf219 nb186_ln_ f191.lt
  have ga219 : n0 ≤ t219 := own_frg hf219 ga186 X189.2.1
  have iw219 : t219 ∈ [] ∨ h0.size ≤ t219 := own_frw hf219 iw186 K190.1
  have Sf219 : Safe Z consts_1 vm189 h219 t219 := by
    rcases hf219 with e | e
    · rw [e]; exact Safe.keep K219 (allS (Safe.exa (EL := consts_1) C189.2.1.alike f199 (by decide) (by decide)) (allS (CHr.safe R189 Et186.lt Sf186) all0)) Hd189.cv (CHr.safe R189 Et186.lt Sf186)
    · exact Safe.keep K219 (allS (Safe.exa (EL := consts_1) C189.2.1.alike f199 (by decide) (by decide)) (allS (CHr.safe R189 Et186.lt Sf186) all0)) Hd189.cv (Safe.new e)
  refine G.v 54 C189 X219 d5_53 rfl rfl <| G.a 55 C189 X219 d5_54 rfl rfl rfl <| G.b 56 C189 X219 d5_55 rfl rfl ?_
  have f222 := (f195.keep K219)
  have f223 := ((((((f105.keep K125 (ninS ne12 (ninS nb101_lv_ nin0))).keep K142 (ninS ne12 (ninS nb125_lv_ nin0))).keep K162 (ninS ne12 (ninS nb142_lv_ nin0))).keep K186 (ninS ne12 (ninS nb162_lv_ nin0))).ext E189).keep K219 (ninS ne12 (ninS nb186_lv_ nin0)))
  have f224 := ((((((f106.keep K125 (ninS ne12 (ninS nb101_lv_ nin0))).keep K142 (ninS ne12 (ninS nb125_lv_ nin0))).keep K162 (ninS ne12 (ninS nb142_lv_ nin0))).keep K186 (ninS ne12 (ninS nb162_lv_ nin0))).ext E189).keep K219 (ninS ne12 (ninS nb186_lv_ nin0)))
  have f225 := (f197.keep K219 (ninS ne13 (ninS nb186_ev_ nin0)))
  refine G.G 61 (cells' := 21) (slots' := 442) (argsL := [(.int 1)]) (St := []) C189 X219 (wd230 hw) (wd231 hw) (wd232 hw) (wd233 hw) (wd234 hw) (wd235 hw) (wd236 hw) (wd57 hw) (by decide) rfl f222 (wd237 hw) (wd2 hw) (ctGet21 hw X219.2.1 lv_ ev_ va_ vb_ kev f222 f223 f224 f225) (lenOf pd33 rfl) rfl d5_56 rfl rfl (by decide) (nQ rfl) rfl rfl (by decide) (by decide) (fun v226 T226 h226 Q226 X226 z226 => ?_)
  obtain ⟨hv226, hh226⟩ := Q226
  subst hv226; rw [hh226] at X226
  have f227 := (f214.keep K219)
  refine G.al 64 C189 X226 (wd251 hw) (Ins.self f227) d5_61 rfl fun T228 X228 => G.f 65 (z := 1) C189 X228 d5_64 rfl (by decide) <| G.a 66 C189 X228 d5_65 rfl rfl rfl ?_
  have f229 := ((((((((((((V_vb_.ext E1).keep K30 (ninS ne8 nin0)).keep K48 (ninS ne8 (ninS nb30_vb_ nin0))).keep K70 (ninS ne8 (ninS nb48_vb_ nin0))).ext E73).keep K101 (ninS ne8 (ninS nb70_vb_ nin0))).keep K125 (ninS ne8 (ninS nb101_vb_ nin0))).keep K142 (ninS ne8 (ninS nb125_vb_ nin0))).keep K162 (ninS ne8 (ninS nb142_vb_ nin0))).keep K186 (ninS ne8 (ninS nb162_vb_ nin0))).ext E189).keep K219 (ninS ne8 (ninS nb186_vb_ nin0)))
  have f230 := ((((((((((((C_vb_.ext E1).keep K30 (ninS ne8 nin0)).keep K48 (ninS ne8 (ninS nb30_vb_ nin0))).keep K70 (ninS ne8 (ninS nb48_vb_ nin0))).ext E73).keep K101 (ninS ne8 (ninS nb70_vb_ nin0))).keep K125 (ninS ne8 (ninS nb101_vb_ nin0))).keep K142 (ninS ne8 (ninS nb125_vb_ nin0))).keep K162 (ninS ne8 (ninS nb142_vb_ nin0))).keep K186 (ninS ne8 (ninS nb162_vb_ nin0))).ext E189).keep K219 (ninS ne8 (ninS nb186_vb_ nin0)))
  have f231 := (f215.keep K219 (ninS ne9 (ninS nb186_qb_ nin0)))
  have f238 := (f191.keep K219)
  have f244 := (f218.keep K219 (allS q1 (allS ga186 all0)))
  refine G.ag 69 (cells' := 29) (slots' := 602) (argsL := [(.ref vb_), (.int 1), (.ref a1)]) (St := []) C189 X228 (ew hw) Hd220 (wd280 hw) (wd281 hw) (by decide) (wd282 hw) (wd28 hw) (ctEsc hw X228.2.1 a1 t219 k219 ((((((((([] : List Int32) ++ [(123 : Int32)]) ++ [ma]) ++ ([61, 34] : List Int32)) ++ (own_escL CA)) ++ [(34 : Int32)]) ++ [(44 : Int32)]) ++ [mb]) ++ ([61, 34] : List Int32)) cq219 vb_ qb_ kvb CB cz fmt Es219 Fv219 Fc219 Fn219 Et219 Vt219 q1 ga219 ns219 f227 f229 f230 f231 nb219_qb_ ne8 nb219_vb_ hq219 hwl219 (by first | omega | (simp only [List.length_append, List.length_cons, List.length_nil]; omega)) hLb hAb Sf hfm f244 S2 hcz) (sfS ⟨Et219.lt, Sf219⟩ (fun _ hx => by cases hx)) (lenOf pd37 rfl) rfl d5_66 rfl rfl (by decide) (nQ rfl) rfl rfl (by decide) (by decide) (fun v245 vm245 T245 h245 Q245 C245 X245 Hd245 R245 => ?_)
  obtain ⟨t245, k245, cq245, hv245, K245, hf245, hq245, hwl245, ns245, Es245, Fv245, Fc245, Fn245, Et245, Vt245, sfx245⟩ := Q245
  subst hv245
  have K246 := K221.trans K245 (allS (Or.inr sz14) (allS iw219 all0))
  have nb245_ln_ : ln_ ≠ t245 := own_frn hf245 nb219_ln_ f238.lt
  have ga245 : n0 ≤ t245 := own_frg hf245 ga219 X228.2.1
  have iw245 : t245 ∈ [] ∨ h0.size ≤ t245 := own_frw hf245 iw219 K221.1
  refine G.a 70 C245 X245 d5_69 rfl rfl rfl <| G.j 72 (z := 34) C245 X245 d5_70 rfl (by decide) ?_
  have f255 := (f238.keep K245)
  have f263 := (f244.keep K245 (allS q1 (allS ga219 all0)))
  refine G.o 75 (cells' := 30) (slots' := 636) (argsL := [(.int 34)]) (St := []) C245 X245 (wd214 hw) (wd215 hw) (wd217 hw) (wd216 hw) (by decide) Es245 (wd218 hw) (wd32 hw) (ctApcA hw X245.2.1 a1 t245 k245 (((((((((([] : List Int32) ++ [(123 : Int32)]) ++ [ma]) ++ ([61, 34] : List Int32)) ++ (own_escL CA)) ++ [(34 : Int32)]) ++ [(44 : Int32)]) ++ [mb]) ++ ([61, 34] : List Int32)) ++ (own_escL CB)) cq245 (34 : Int32) cz Es245 Fv245 Fc245 Fn245 Et245 Vt245 q1 ga245 ns245 (by unfold own_lat; decide) (by first | omega | (simp only [List.length_append, List.length_cons, List.length_nil]; omega)) hq245 hwl245 (by first | omega | (simp only [List.length_append, List.length_cons, List.length_nil]; omega)) f263 S2 hcz) (lenOf pd35 rfl) rfl d5_72 rfl rfl (by decide) (nQ rfl) rfl rfl (by decide) (by decide) (fun v264 T264 h264 Q264 X264 z264 => ?_)
  obtain ⟨t264, k264, cq264, hv264, K264, hf264, hq264, hwl264, ns264, Es264, Fv264, Fc264, Fn264, Et264, Vt264⟩ := Q264
  subst hv264
  have Hd265 := Hd245.keep K264 (allS (Safe.exa (EL := consts_1) C245.2.1.alike Es245 (by decide) (by decide)) (allS sfx245 all0))
  have K266 := K246.trans K264 (allS (Or.inr sz14) (allS iw245 all0))
  have ga264 : n0 ≤ t264 := own_frg hf264 ga245 X245.2.1
  have iw264 : t264 ∈ [] ∨ h0.size ≤ t264 := own_frw hf264 iw245 K246.1
  have Sf264 : Safe Z consts_1 vm245 h264 t264 := by
    rcases hf264 with e | e
    · rw [e]; exact Safe.keep K264 (allS (Safe.exa (EL := consts_1) C245.2.1.alike Es245 (by decide) (by decide)) (allS sfx245 all0)) Hd245.cv sfx245
    · exact Safe.keep K264 (allS (Safe.exa (EL := consts_1) C245.2.1.alike Es245 (by decide) (by decide)) (allS sfx245 all0)) Hd245.cv (Safe.new e)
  refine G.v 76 C245 X264 d5_75 rfl rfl <| G.y 79 C245 X264 d5_76 rfl rfl (z := (2 : Int32)) (by decide) (l' := #[vR ln_, vR lv_, vR a1, vI 2]) rfl <| G.r 10 C245 X264 d5_79 (by decide) (by decide) <| G.b 11 C245 X264 d5_10 rfl rfl <| G.a 12 C245 X264 d5_11 rfl rfl rfl ?_
  have f267 := (((((f167.keep K186 (ninS ne10 (ninS nb162_ln_ nin0))).ext E189).keep K219 (ninS ne10 (ninS nb186_ln_ nin0))).keep K245 (ninS ne10 (ninS nb219_ln_ nin0))).keep K264 (ninS ne10 (ninS nb245_ln_ nin0)))
  have f269 := (f255.keep K264)
  refine G.G 17 (cells' := 30) (slots' := 636) (argsL := []) (St := [(.int 2)]) C245 X264 (wd50 hw) (wd51 hw) (wd52 hw) (wd53 hw) (wd54 hw) (wd55 hw) (wd56 hw) (wd57 hw) (by decide) rfl f269 (wd58 hw) (wd2 hw) (ctSz2 hw X264.2.1 ln_ f267) (lenOf pd8 rfl) rfl d5_12 rfl rfl (by decide) (nQ rfl) rfl rfl (by decide) (by decide) (fun v268 T268 h268 Q268 X268 z268 => ?_)
  obtain ⟨hv268, hh268⟩ := Q268
  subst hv268; rw [hh268] at X268
  refine G.q 82 C245 X268 d5_17 (flt (by decide : ¬ (2 : Int32) < 2)).2.1 (by decide) (by decide) <| G.a 83 C245 X268 d5_82 rfl rfl rfl <| G.G 88 (cells' := 30) (slots' := 636) (argsL := []) (St := []) C245 X268 (wd61 hw) (wd62 hw) (wd63 hw) (wd64 hw) (wd65 hw) (wd66 hw) (wd67 hw) (wd57 hw) (by decide) rfl f269 (wd68 hw) (wd2 hw) (ctIe2 hw X268.2.1 ln_ f267) (lenOf pd11 rfl) rfl d5_83 rfl rfl (by decide) (nQ rfl) rfl rfl (by decide) (by decide) (fun v270 T270 h270 Q270 X270 z270 => ?_)
  obtain ⟨hv270, hh270⟩ := Q270
  subst hv270; rw [hh270] at X270
  refine G.k 91 C245 X270 d5_88 rfl (teq (by decide : (0 : Int32) = 0)).2 <| G.a 92 C245 X270 d5_91 rfl rfl rfl <| G.j 94 (z := 125) C245 X270 d5_92 rfl (by decide) ?_
  have f286 := (f263.keep K264 (allS q1 (allS ga245 all0)))
  refine G.o 97 (cells' := 31) (slots' := 670) (argsL := [(.int 125)]) (St := []) C245 X270 (wd214 hw) (wd215 hw) (wd217 hw) (wd216 hw) (by decide) Es264 (wd218 hw) (wd32 hw) (ctApcA hw X270.2.1 a1 t264 k264 ((((((((((([] : List Int32) ++ [(123 : Int32)]) ++ [ma]) ++ ([61, 34] : List Int32)) ++ (own_escL CA)) ++ [(34 : Int32)]) ++ [(44 : Int32)]) ++ [mb]) ++ ([61, 34] : List Int32)) ++ (own_escL CB)) ++ [(34 : Int32)]) cq264 (125 : Int32) cz Es264 Fv264 Fc264 Fn264 Et264 Vt264 q1 ga264 ns264 (by unfold own_lat; decide) (by first | omega | (simp only [List.length_append, List.length_cons, List.length_nil]; omega)) hq264 hwl264 (by first | omega | (simp only [List.length_append, List.length_cons, List.length_nil]; omega)) f286 S2 hcz) (lenOf pd35 rfl) rfl d5_94 rfl rfl (by decide) (nQ rfl) rfl rfl (by decide) (by decide) (fun v287 T287 h287 Q287 X287 z287 => ?_)
  obtain ⟨t287, k287, cq287, hv287, K287, hf287, hq287, hwl287, ns287, Es287, Fv287, Fc287, Fn287, Et287, Vt287⟩ := Q287
  subst hv287
  have Hd288 := Hd265.keep K287 (allS (Safe.exa (EL := consts_1) C245.2.1.alike Es264 (by decide) (by decide)) (allS Sf264 all0))
  have K289 := K266.trans K287 (allS (Or.inr sz14) (allS iw264 all0))
  have ga287 : n0 ≤ t287 := own_frg hf287 ga264 X270.2.1
  have iw287 : t287 ∈ [] ∨ h0.size ≤ t287 := own_frw hf287 iw264 K266.1
  have Sf287 : Safe Z consts_1 vm245 h287 t287 := by
    rcases hf287 with e | e
    · rw [e]; exact Safe.keep K287 (allS (Safe.exa (EL := consts_1) C245.2.1.alike Es264 (by decide) (by decide)) (allS Sf264 all0)) Hd265.cv Sf264
    · exact Safe.keep K287 (allS (Safe.exa (EL := consts_1) C245.2.1.alike Es264 (by decide) (by decide)) (allS Sf264 all0)) Hd265.cv (Safe.new e)
  refine G.v 98 C245 X287 d5_97 rfl rfl <| G.a 99 C245 X287 d5_98 rfl rfl rfl ?_
  have f306 := (f286.keep K287 (allS q1 (allS ga264 all0)))
  refine G.o 102 (cells' := 33) (slots' := 708) (argsL := []) (St := []) C245 X287 (wd69 hw) (wd70 hw) (wd72 hw) (wd71 hw) (by decide) Es287 (wd73 hw) (wd32 hw) (ctToSA hw X287.2.1 a1 t287 k287 (((((((((((([] : List Int32) ++ [(123 : Int32)]) ++ [ma]) ++ ([61, 34] : List Int32)) ++ (own_escL CA)) ++ [(34 : Int32)]) ++ [(44 : Int32)]) ++ [mb]) ++ ([61, 34] : List Int32)) ++ (own_escL CB)) ++ [(34 : Int32)]) ++ [(125 : Int32)]) cq287 cz Es287 Fv287 Fc287 Fn287 Et287 Vt287 hq287 (by first | omega | (simp only [List.length_append, List.length_cons, List.length_nil]; omega)) hwl287 f306 S2 hcz) (lenOf pd36 rfl) rfl d5_99 rfl rfl (by decide) (nQ rfl) rfl rfl (by decide) (by decide) (fun v307 T307 h307 Q307 X307 z307 => ?_)
  obtain ⟨b307, t307, k307, hv307, K307, hz307, hy307, E307, F307c, F307v, V307⟩ := Q307
  subst hv307
  have Hd308 := Hd288.keep K307 all0
  have K309 := K289.trans K307 all0
  exact G.aq C245 X307 (ew hw) Hd308 d5_102 hret rfl rfl hlk (fun _ _ => ⟨b307, t307, k307, rfl, K309, E307, F307c, F307v, V307⟩) (by decide) (by decide)
theorem ef58 (m : MethodId) (x0 : Addr) (x1 : Int32) (x2 : Int32) : entryFrame m #[(.ref x0), (.int x1), (.int x2)] 3 = mkF m 0 #[.val (.ref x0), .val (.int x1), .val (.int x2)] [] := by first | (simp [entryFrame, mkF, argsToLocals, Value.category]; done) | rfl
theorem ctEch {l : Launch} {Z : State} {a0 : Array Value} (hw : HW a0 Z) {n0 : Nat} {h0 : Heap} (hn0 : n0 ≤ h0.size) (ea : Addr) (ke : ClassId) (X : List Int32) (ch : Int32) (Ve : Arv Z h0 ea ke .char (24 : Int32) (tc X) (.int 0)) (ge : n0 ≤ ea) (l_ch : own_lat ch) (hX : X.length + 2 ≤ 24) :
    Ctr l Z (⟨zq11, "escapedChar", "([CIC)I"⟩ : MethodName) method_6_code 3 (some .int) (rQ 0 0 0 0) n0 #[(.ref ea), (.int (own_n (X).length)), (.int ch)] h0 (fun v h => v = some (.int (own_n ((X ++ (own_esc ch))).length)) ∧ Keep h0 h [ea] ∧ Arv Z h ea ke .char (24 : Int32) (tc (X ++ (own_esc ch))) (.int 0)) := by
  refine Ctr.of (plainFor_of_name pn3) hn0 ?_
  intro p e s m below meth c T0 C hnm hret hlk X0
  rw [ef58 m ea (own_n (X).length) ch]
  refine G.b 1 C X0 d58_0 rfl rfl <| G.j 3 (z := 92) C X0 d58_1 rfl (by decide) ?_
  by_cases qa : ch = (92 : Int32)
  · refine G.t 6 C X0 d58_3 rfl (teq qa).2 <| G.a 7 C X0 d58_6 rfl rfl rfl <| G.b 8 C X0 d58_7 rfl rfl <| G.j 10 (z := 92) C X0 d58_8 rfl (by decide) ?_
    have Vp2 := Ve.pad (pad_rep (tc X) (.int 0) 1)
    refine G.A 11 C X0 Vp2 ge (i := (X).length) d58_10 rfl (own_ix (by decide) (by first | omega | (simp only [List.length_append, List.length_cons, List.length_nil]; omega)) (by rw [show (24 : Int32).toNatClampNeg = 24 from by decide]; first | omega | (simp only [List.length_append, List.length_cons, List.length_nil]; omega))) (own_n_cl (by first | omega | (simp only [List.length_append, List.length_cons, List.length_nil]; omega))) (by simp [tc_len]) (fun T3 h3 X3 W3 V3 => ?_)
    replace V3 : Arv Z h3 ea ke .char (24 : Int32) (tc (X ++ [(92 : Int32)])) (.int 0) := by rw [show nar .char (92 : Int32) = (92 : Int32) from by decide] at V3; rw [← own_sc1 X (92 : Int32) (.int 0)]; exact V3
    have K4 := (Keep.refl h0 [ea]).wr W3 (mQ 0 rfl)
    refine G.a 12 C X3 d58_11 rfl rfl rfl <| G.b 13 C X3 d58_12 rfl rfl <| G.f 14 (z := 1) C X3 d58_13 rfl (by decide) <| G.x 15 (z := (own_n ((X ++ [(92 : Int32)])).length)) C X3 d58_14 rfl (own_nk X (X ++ [(92 : Int32)]) 1 (by simp only [List.length_append, List.length_cons, List.length_nil])) <| G.j 17 (z := 92) C X3 d58_15 rfl (by decide) ?_
    have Vp5 := V3.pad (pad_rep (tc (X ++ [(92 : Int32)])) (.int 0) 1)
    refine G.A 18 C X3 Vp5 ge (i := ((X ++ [(92 : Int32)])).length) d58_17 rfl (own_ix (by decide) (by first | omega | (simp only [List.length_append, List.length_cons, List.length_nil]; omega)) (by rw [show (24 : Int32).toNatClampNeg = 24 from by decide]; first | omega | (simp only [List.length_append, List.length_cons, List.length_nil]; omega))) (own_n_cl (by first | omega | (simp only [List.length_append, List.length_cons, List.length_nil]; omega))) (by simp [tc_len]) (fun T6 h6 X6 W6 V6 => ?_)
    replace V6 : Arv Z h6 ea ke .char (24 : Int32) (tc ((X ++ [(92 : Int32)]) ++ [(92 : Int32)])) (.int 0) := by rw [show nar .char (92 : Int32) = (92 : Int32) from by decide] at V6; rw [← own_sc1 (X ++ [(92 : Int32)]) (92 : Int32) (.int 0)]; exact V6
    have K7 := K4.wr W6 (mQ 0 rfl)
    refine G.b 19 C X6 d58_18 rfl rfl <| G.f 20 (z := 2) C X6 d58_19 rfl (by decide) <| G.x 21 (z := (own_n (((X ++ [(92 : Int32)]) ++ [(92 : Int32)])).length)) C X6 d58_20 rfl (own_nk X ((X ++ [(92 : Int32)]) ++ [(92 : Int32)]) 2 (by simp only [List.length_append, List.length_cons, List.length_nil])) ?_
    exact G.z C X6 d58_21 hret hlk (by rw [own_ea qa, show X ++ [(92 : Int32), (92 : Int32)] = ((X ++ [(92 : Int32)]) ++ [(92 : Int32)]) from by first | rfl | simp only [List.append_assoc, List.cons_append, List.nil_append, List.append_nil]]; exact ⟨rfl, K7, V6⟩) (by decide) (by decide)
  · refine G.q 22 C X0 d58_3 (feq qa).2 (by decide) (by decide) <| G.b 23 C X0 d58_22 rfl rfl <| G.j 25 (z := 10) C X0 d58_23 rfl (by decide) ?_
    by_cases qb : ch = (10 : Int32)
    · refine G.t 28 C X0 d58_25 rfl (teq qb).2 <| G.a 29 C X0 d58_28 rfl rfl rfl <| G.b 30 C X0 d58_29 rfl rfl <| G.j 32 (z := 92) C X0 d58_30 rfl (by decide) ?_
      have Vp9 := Ve.pad (pad_rep (tc X) (.int 0) 1)
      refine G.A 33 C X0 Vp9 ge (i := (X).length) d58_32 rfl (own_ix (by decide) (by first | omega | (simp only [List.length_append, List.length_cons, List.length_nil]; omega)) (by rw [show (24 : Int32).toNatClampNeg = 24 from by decide]; first | omega | (simp only [List.length_append, List.length_cons, List.length_nil]; omega))) (own_n_cl (by first | omega | (simp only [List.length_append, List.length_cons, List.length_nil]; omega))) (by simp [tc_len]) (fun T10 h10 X10 W10 V10 => ?_)
      replace V10 : Arv Z h10 ea ke .char (24 : Int32) (tc (X ++ [(92 : Int32)])) (.int 0) := by rw [show nar .char (92 : Int32) = (92 : Int32) from by decide] at V10; rw [← own_sc1 X (92 : Int32) (.int 0)]; exact V10
      have K11 := (Keep.refl h0 [ea]).wr W10 (mQ 0 rfl)
      refine G.a 34 C X10 d58_33 rfl rfl rfl <| G.b 35 C X10 d58_34 rfl rfl <| G.f 36 (z := 1) C X10 d58_35 rfl (by decide) <| G.x 37 (z := (own_n ((X ++ [(92 : Int32)])).length)) C X10 d58_36 rfl (own_nk X (X ++ [(92 : Int32)]) 1 (by simp only [List.length_append, List.length_cons, List.length_nil])) <| G.j 39 (z := 110) C X10 d58_37 rfl (by decide) ?_
      have Vp12 := V10.pad (pad_rep (tc (X ++ [(92 : Int32)])) (.int 0) 1)
      refine G.A 40 C X10 Vp12 ge (i := ((X ++ [(92 : Int32)])).length) d58_39 rfl (own_ix (by decide) (by first | omega | (simp only [List.length_append, List.length_cons, List.length_nil]; omega)) (by rw [show (24 : Int32).toNatClampNeg = 24 from by decide]; first | omega | (simp only [List.length_append, List.length_cons, List.length_nil]; omega))) (own_n_cl (by first | omega | (simp only [List.length_append, List.length_cons, List.length_nil]; omega))) (by simp [tc_len]) (fun T13 h13 X13 W13 V13 => ?_)
      replace V13 : Arv Z h13 ea ke .char (24 : Int32) (tc ((X ++ [(92 : Int32)]) ++ [(110 : Int32)])) (.int 0) := by rw [show nar .char (110 : Int32) = (110 : Int32) from by decide] at V13; rw [← own_sc1 (X ++ [(92 : Int32)]) (110 : Int32) (.int 0)]; exact V13
      have K14 := K11.wr W13 (mQ 0 rfl)
      refine G.b 41 C X13 d58_40 rfl rfl <| G.f 42 (z := 2) C X13 d58_41 rfl (by decide) <| G.x 43 (z := (own_n (((X ++ [(92 : Int32)]) ++ [(110 : Int32)])).length)) C X13 d58_42 rfl (own_nk X ((X ++ [(92 : Int32)]) ++ [(110 : Int32)]) 2 (by simp only [List.length_append, List.length_cons, List.length_nil])) ?_
      exact G.z C X13 d58_43 hret hlk (by rw [own_eb qa qb, show X ++ [(92 : Int32), (110 : Int32)] = ((X ++ [(92 : Int32)]) ++ [(110 : Int32)]) from by first | rfl | simp only [List.append_assoc, List.cons_append, List.nil_append, List.append_nil]]; exact ⟨rfl, K14, V13⟩) (by decide) (by decide)
    · refine G.q 44 C X0 d58_25 (feq qb).2 (by decide) (by decide) <| G.b 45 C X0 d58_44 rfl rfl <| G.j 47 (z := 34) C X0 d58_45 rfl (by decide) ?_
      by_cases qc : ch = (34 : Int32)
      · refine G.t 50 C X0 d58_47 rfl (teq qc).2 <| G.a 51 C X0 d58_50 rfl rfl rfl <| G.b 52 C X0 d58_51 rfl rfl <| G.j 54 (z := 92) C X0 d58_52 rfl (by decide) ?_
        have Vp16 := Ve.pad (pad_rep (tc X) (.int 0) 1)
        refine G.A 55 C X0 Vp16 ge (i := (X).length) d58_54 rfl (own_ix (by decide) (by first | omega | (simp only [List.length_append, List.length_cons, List.length_nil]; omega)) (by rw [show (24 : Int32).toNatClampNeg = 24 from by decide]; first | omega | (simp only [List.length_append, List.length_cons, List.length_nil]; omega))) (own_n_cl (by first | omega | (simp only [List.length_append, List.length_cons, List.length_nil]; omega))) (by simp [tc_len]) (fun T17 h17 X17 W17 V17 => ?_)
        replace V17 : Arv Z h17 ea ke .char (24 : Int32) (tc (X ++ [(92 : Int32)])) (.int 0) := by rw [show nar .char (92 : Int32) = (92 : Int32) from by decide] at V17; rw [← own_sc1 X (92 : Int32) (.int 0)]; exact V17
        have K18 := (Keep.refl h0 [ea]).wr W17 (mQ 0 rfl)
        refine G.a 56 C X17 d58_55 rfl rfl rfl <| G.b 57 C X17 d58_56 rfl rfl <| G.f 58 (z := 1) C X17 d58_57 rfl (by decide) <| G.x 59 (z := (own_n ((X ++ [(92 : Int32)])).length)) C X17 d58_58 rfl (own_nk X (X ++ [(92 : Int32)]) 1 (by simp only [List.length_append, List.length_cons, List.length_nil])) <| G.j 61 (z := 34) C X17 d58_59 rfl (by decide) ?_
        have Vp19 := V17.pad (pad_rep (tc (X ++ [(92 : Int32)])) (.int 0) 1)
        refine G.A 62 C X17 Vp19 ge (i := ((X ++ [(92 : Int32)])).length) d58_61 rfl (own_ix (by decide) (by first | omega | (simp only [List.length_append, List.length_cons, List.length_nil]; omega)) (by rw [show (24 : Int32).toNatClampNeg = 24 from by decide]; first | omega | (simp only [List.length_append, List.length_cons, List.length_nil]; omega))) (own_n_cl (by first | omega | (simp only [List.length_append, List.length_cons, List.length_nil]; omega))) (by simp [tc_len]) (fun T20 h20 X20 W20 V20 => ?_)
        replace V20 : Arv Z h20 ea ke .char (24 : Int32) (tc ((X ++ [(92 : Int32)]) ++ [(34 : Int32)])) (.int 0) := by rw [show nar .char (34 : Int32) = (34 : Int32) from by decide] at V20; rw [← own_sc1 (X ++ [(92 : Int32)]) (34 : Int32) (.int 0)]; exact V20
        have K21 := K18.wr W20 (mQ 0 rfl)
        refine G.b 63 C X20 d58_62 rfl rfl <| G.f 64 (z := 2) C X20 d58_63 rfl (by decide) <| G.x 65 (z := (own_n (((X ++ [(92 : Int32)]) ++ [(34 : Int32)])).length)) C X20 d58_64 rfl (own_nk X ((X ++ [(92 : Int32)]) ++ [(34 : Int32)]) 2 (by simp only [List.length_append, List.length_cons, List.length_nil])) ?_
        exact G.z C X20 d58_65 hret hlk (by rw [own_ec qa qb qc, show X ++ [(92 : Int32), (34 : Int32)] = ((X ++ [(92 : Int32)]) ++ [(34 : Int32)]) from by first | rfl | simp only [List.append_assoc, List.cons_append, List.nil_append, List.append_nil]]; exact ⟨rfl, K21, V20⟩) (by decide) (by decide)
      · refine G.q 66 C X0 d58_47 (feq qc).2 (by decide) (by decide) <| G.a 67 C X0 d58_66 rfl rfl rfl <| G.b 68 C X0 d58_67 rfl rfl <| G.b 69 C X0 d58_68 rfl rfl ?_
        have Vp22 := Ve.pad (pad_rep (tc X) (.int 0) 1)
        refine G.A 70 C X0 Vp22 ge (i := (X).length) d58_69 rfl (own_ix (by decide) (by first | omega | (simp only [List.length_append, List.length_cons, List.length_nil]; omega)) (by rw [show (24 : Int32).toNatClampNeg = 24 from by decide]; first | omega | (simp only [List.length_append, List.length_cons, List.length_nil]; omega))) (own_n_cl (by first | omega | (simp only [List.length_append, List.length_cons, List.length_nil]; omega))) (by simp [tc_len]) (fun T23 h23 X23 W23 V23 => ?_)
        replace V23 : Arv Z h23 ea ke .char (24 : Int32) (tc (X ++ [ch])) (.int 0) := by rw [own_nar_lat l_ch] at V23; rw [← own_sc1 X ch (.int 0)]; exact V23
        have K24 := (Keep.refl h0 [ea]).wr W23 (mQ 0 rfl)
        refine G.b 71 C X23 d58_70 rfl rfl <| G.f 72 (z := 1) C X23 d58_71 rfl (by decide) <| G.x 73 (z := (own_n ((X ++ [ch])).length)) C X23 d58_72 rfl (own_nk X (X ++ [ch]) 1 (by simp only [List.length_append, List.length_cons, List.length_nil])) ?_
        exact G.z C X23 d58_73 hret hlk (by rw [own_ed qa qb qc, show X ++ [ch] = (X ++ [ch]) from by first | rfl | simp only [List.append_assoc, List.cons_append, List.nil_append, List.append_nil]]; exact ⟨rfl, K24, V23⟩) (by decide) (by decide)
theorem ef57 (m : MethodId) (x0 : Addr) (x1 : Int32) (x2 : Int32) : entryFrame m #[(.ref x0), (.int x1), (.int x2)] 5 = mkF m 0 #[.val (.ref x0), .val (.int x1), .val (.int x2), .unset, .unset] [] := by first | (simp [entryFrame, mkF, argsToLocals, Value.category]; done) | rfl
theorem ctEv {l : Launch} {Z : State} {a0 : Array Value} (hw : HW a0 Z) {n0 : Nat} {h0 : Heap} (hn0 : n0 ≤ h0.size) (ea : Addr) (ke : ClassId) (X : List Int32) (vv : Int32) (Ve : Arv Z h0 ea ke .char (24 : Int32) (tc X) (.int 0)) (ge : n0 ≤ ea) (hX : X.length + 4 ≤ 24) :
    Ctr l Z (⟨zq11, zq53, "([CII)I"⟩ : MethodName) method_5_code 5 (some .int) (rQ 1 0 0 20) n0 #[(.ref ea), (.int (own_n (X).length)), (.int vv)] h0 (fun v h => v = some (.int (own_n ((X ++ (own_escL (own_val vv)))).length)) ∧ Keep h0 h [ea] ∧ Arv Z h ea ke .char (24 : Int32) (tc (X ++ (own_escL (own_val vv)))) (.int 0)) := by
  refine Ctr.of (plainFor_of_name pn3) hn0 ?_
  intro p e s m below meth c T0 C hnm hret hlk X0
  rw [ef57 m ea (own_n (X).length) vv]
  refine G.b 1 C X0 d57_0 rfl rfl <| G.f 2 (z := 3) C X0 d57_1 rfl (by decide) <| G.ab 3 (z := (vv &&& (3 : Int32))) C X0 d57_2 rfl rfl <| G.f 4 (z := 3) C X0 d57_3 rfl (by decide) ?_
  obtain ⟨ln, h_ln⟩ : ∃ z : Int32, (vv &&& (3 : Int32)) % (3 : Int32) = z := ⟨_, rfl⟩
  refine G.av 5 (z := ln) C X0 d57_4 rfl (by decide) h_ln ?_
  have h3_ln := own_k3 h_ln
  rcases h3_ln with rfl | rfl | rfl
  · refine G.D 6 C X0 d57_5 rfl (l' := #[vR ea, vI (own_n (X).length), vI vv, vI 0, .unset]) rfl <| G.b 7 C X0 d57_6 rfl rfl <| G.w 9 C X0 d57_7 rfl (l' := #[vR ea, vI (own_n (X).length), vI vv, vI 0, vI (own_n (X).length)]) rfl <| G.b 10 C X0 d57_9 rfl rfl <| G.f 11 (z := 1) C X0 d57_10 rfl (by decide) <| G.q 28 C X0 d57_11 (tlt (by decide : (0 : Int32) < 1)).1 (by decide) (by decide) <| G.b 29 C X0 d57_28 rfl rfl <| G.f 30 (z := 2) C X0 d57_29 rfl (by decide) <| G.q 48 C X0 d57_30 (tlt (by decide : (0 : Int32) < 2)).1 (by decide) (by decide) <| G.g 50 C X0 d57_48 rfl rfl ?_
    exact G.z C X0 d57_50 hret hlk (by rw [own_v0 h_ln, show X ++ (own_escL []) = X from by simp only [own_escL, List.append_nil, List.append_assoc]]; exact ⟨rfl, (Keep.refl h0 [ea]), Ve⟩) (by decide) (by decide)
  · refine G.D 6 C X0 d57_5 rfl (l' := #[vR ea, vI (own_n (X).length), vI vv, vI 1, .unset]) rfl <| G.b 7 C X0 d57_6 rfl rfl <| G.w 9 C X0 d57_7 rfl (l' := #[vR ea, vI (own_n (X).length), vI vv, vI 1, vI (own_n (X).length)]) rfl <| G.b 10 C X0 d57_9 rfl rfl <| G.f 11 (z := 1) C X0 d57_10 rfl (by decide) <| G.t 14 C X0 d57_11 rfl (flt (by decide : ¬ (1 : Int32) < 1)).1 <| G.a 15 C X0 d57_14 rfl rfl rfl <| G.g 17 C X0 d57_15 rfl rfl <| G.b 18 C X0 d57_17 rfl rfl <| G.f 19 (z := 2) C X0 d57_18 rfl (by decide) <| G.ae 20 (z := ((vv.toUInt32 >>> ((2 : Int32) &&& 31).toUInt32).toInt32)) C X0 d57_19 rfl rfl ?_
    obtain ⟨pa, h_pa⟩ : ∃ z : Int32, own_pick (own_ush vv 2) = z := ⟨_, rfl⟩
    have l_pa : own_lat pa := h_pa ▸ own_pick_lat _
    refine G.i 23 (cells' := 0) (slots' := 0) (argsL := [(.int ((vv.toUInt32 >>> ((2 : Int32) &&& 31).toUInt32).toInt32))]) (St := [(.int (own_n (X).length)), (.ref ea)]) C X0 (wd191 hw) (wd192 hw) (by decide) (wd193 hw) (wd141 hw) (ctPick hw X0.2.1 ((vv.toUInt32 >>> ((2 : Int32) &&& 31).toUInt32).toInt32) pa h_pa) (lenOf pd25 rfl) rfl d57_20 rfl rfl (by decide) (nQ rfl) rfl rfl (by decide) (by decide) (fun v1 T1 h1 Q1 X1 z1 => ?_)
    obtain ⟨hv1, hh1⟩ := Q1
    subst hv1; rw [hh1] at X1
    have hc_pa := own_esc_len pa
    refine G.i 26 (cells' := 0) (slots' := 0) (argsL := [(.ref ea), (.int (own_n (X).length)), (.int pa)]) (St := []) C X1 (wd306 hw) (wd307 hw) (by decide) (wd308 hw) (wd141 hw) (ctEch hw X1.2.1 ea ke X pa Ve ge l_pa (by first | omega | (simp only [List.length_append, List.length_cons, List.length_nil]; omega))) (lenOf pd38 rfl) rfl d57_23 rfl rfl (by decide) (nQ rfl) rfl rfl (by decide) (by decide) (fun v2 T2 h2 Q2 X2 z2 => ?_)
    obtain ⟨hv2, K2, Ve2⟩ := Q2
    subst hv2
    have K3 := (Keep.refl h0 [ea]).trans K2 (allS (mQ 0 rfl) all0)
    refine G.w 28 C X2 d57_26 rfl (l' := #[vR ea, vI (own_n (X).length), vI vv, vI 1, .val (.int (own_n ((X ++ (own_esc pa))).length))]) rfl <| G.b 29 C X2 d57_28 rfl rfl <| G.f 30 (z := 2) C X2 d57_29 rfl (by decide) <| G.q 48 C X2 d57_30 (tlt (by decide : (1 : Int32) < 2)).1 (by decide) (by decide) <| G.g 50 C X2 d57_48 rfl rfl ?_
    exact G.z C X2 d57_50 hret hlk (by rw [own_v1 h_ln h_pa, show X ++ (own_escL [pa]) = (X ++ (own_esc pa)) from by simp only [own_escL, List.append_nil, List.append_assoc]]; exact ⟨rfl, K3, Ve2⟩) (by decide) (by decide)
  · refine G.D 6 C X0 d57_5 rfl (l' := #[vR ea, vI (own_n (X).length), vI vv, vI 2, .unset]) rfl <| G.b 7 C X0 d57_6 rfl rfl <| G.w 9 C X0 d57_7 rfl (l' := #[vR ea, vI (own_n (X).length), vI vv, vI 2, vI (own_n (X).length)]) rfl <| G.b 10 C X0 d57_9 rfl rfl <| G.f 11 (z := 1) C X0 d57_10 rfl (by decide) <| G.t 14 C X0 d57_11 rfl (flt (by decide : ¬ (2 : Int32) < 1)).1 <| G.a 15 C X0 d57_14 rfl rfl rfl <| G.g 17 C X0 d57_15 rfl rfl <| G.b 18 C X0 d57_17 rfl rfl <| G.f 19 (z := 2) C X0 d57_18 rfl (by decide) <| G.ae 20 (z := ((vv.toUInt32 >>> ((2 : Int32) &&& 31).toUInt32).toInt32)) C X0 d57_19 rfl rfl ?_
    obtain ⟨pa, h_pa⟩ : ∃ z : Int32, own_pick (own_ush vv 2) = z := ⟨_, rfl⟩
    have l_pa : own_lat pa := h_pa ▸ own_pick_lat _
    refine G.i 23 (cells' := 0) (slots' := 0) (argsL := [(.int ((vv.toUInt32 >>> ((2 : Int32) &&& 31).toUInt32).toInt32))]) (St := [(.int (own_n (X).length)), (.ref ea)]) C X0 (wd191 hw) (wd192 hw) (by decide) (wd193 hw) (wd141 hw) (ctPick hw X0.2.1 ((vv.toUInt32 >>> ((2 : Int32) &&& 31).toUInt32).toInt32) pa h_pa) (lenOf pd25 rfl) rfl d57_20 rfl rfl (by decide) (nQ rfl) rfl rfl (by decide) (by decide) (fun v4 T4 h4 Q4 X4 z4 => ?_)
    obtain ⟨hv4, hh4⟩ := Q4
    subst hv4; rw [hh4] at X4
    have hc_pa := own_esc_len pa
    refine G.i 26 (cells' := 0) (slots' := 0) (argsL := [(.ref ea), (.int (own_n (X).length)), (.int pa)]) (St := []) C X4 (wd306 hw) (wd307 hw) (by decide) (wd308 hw) (wd141 hw) (ctEch hw X4.2.1 ea ke X pa Ve ge l_pa (by first | omega | (simp only [List.length_append, List.length_cons, List.length_nil]; omega))) (lenOf pd38 rfl) rfl d57_23 rfl rfl (by decide) (nQ rfl) rfl rfl (by decide) (by decide) (fun v5 T5 h5 Q5 X5 z5 => ?_)
    obtain ⟨hv5, K5, Ve5⟩ := Q5
    subst hv5
    have K6 := (Keep.refl h0 [ea]).trans K5 (allS (mQ 0 rfl) all0)
    refine G.w 28 C X5 d57_26 rfl (l' := #[vR ea, vI (own_n (X).length), vI vv, vI 2, .val (.int (own_n ((X ++ (own_esc pa))).length))]) rfl <| G.b 29 C X5 d57_28 rfl rfl <| G.f 30 (z := 2) C X5 d57_29 rfl (by decide) <| G.t 33 C X5 d57_30 rfl (flt (by decide : ¬ (2 : Int32) < 2)).1 <| G.a 34 C X5 d57_33 rfl rfl rfl <| G.g 36 C X5 d57_34 rfl rfl <| G.b 37 C X5 d57_36 rfl rfl <| G.j 39 (z := 12) C X5 d57_37 rfl (by decide) <| G.ae 40 (z := ((vv.toUInt32 >>> ((12 : Int32) &&& 31).toUInt32).toInt32)) C X5 d57_39 rfl rfl ?_
    obtain ⟨pb, h_pb⟩ : ∃ z : Int32, own_pick (own_ush vv 12) = z := ⟨_, rfl⟩
    have l_pb : own_lat pb := h_pb ▸ own_pick_lat _
    refine G.i 43 (cells' := 0) (slots' := 0) (argsL := [(.int ((vv.toUInt32 >>> ((12 : Int32) &&& 31).toUInt32).toInt32))]) (St := [(.int (own_n ((X ++ (own_esc pa))).length)), (.ref ea)]) C X5 (wd191 hw) (wd192 hw) (by decide) (wd193 hw) (wd141 hw) (ctPick hw X5.2.1 ((vv.toUInt32 >>> ((12 : Int32) &&& 31).toUInt32).toInt32) pb h_pb) (lenOf pd25 rfl) rfl d57_40 rfl rfl (by decide) (nQ rfl) rfl rfl (by decide) (by decide) (fun v7 T7 h7 Q7 X7 z7 => ?_)
    obtain ⟨hv7, hh7⟩ := Q7
    subst hv7; rw [hh7] at X7
    have hc_pb := own_esc_len pb
    refine G.i 46 (cells' := 0) (slots' := 0) (argsL := [(.ref ea), (.int (own_n ((X ++ (own_esc pa))).length)), (.int pb)]) (St := []) C X7 (wd306 hw) (wd307 hw) (by decide) (wd308 hw) (wd141 hw) (ctEch hw X7.2.1 ea ke (X ++ (own_esc pa)) pb Ve5 ge l_pb (by first | omega | (simp only [List.length_append, List.length_cons, List.length_nil]; omega))) (lenOf pd38 rfl) rfl d57_43 rfl rfl (by decide) (nQ rfl) rfl rfl (by decide) (by decide) (fun v8 T8 h8 Q8 X8 z8 => ?_)
    obtain ⟨hv8, K8, Ve8⟩ := Q8
    subst hv8
    have K9 := K6.trans K8 (allS (mQ 0 rfl) all0)
    refine G.w 48 C X8 d57_46 rfl (l' := #[vR ea, vI (own_n (X).length), vI vv, vI 2, .val (.int (own_n (((X ++ (own_esc pa)) ++ (own_esc pb))).length))]) rfl <| G.g 50 C X8 d57_48 rfl rfl ?_
    exact G.z C X8 d57_50 hret hlk (by rw [own_v2 h_ln h_pa h_pb, show X ++ (own_escL [pa, pb]) = ((X ++ (own_esc pa)) ++ (own_esc pb)) from by simp only [own_escL, List.append_nil, List.append_assoc]]; exact ⟨rfl, K9, Ve8⟩) (by decide) (by decide)
theorem ef23 (m : MethodId) (x0 : Addr) (x1 : Addr) (x2 : Int32) : entryFrame m #[(.ref x0), (.ref x1), (.int x2)] 3 = mkF m 0 #[.val (.ref x0), .val (.ref x1), .val (.int x2)] [] := by first | (simp [entryFrame, mkF, argsToLocals, Value.category]; done) | rfl
theorem ctAt {l : Launch} {Z : State} {a0 : Array Value} (hw : HW a0 Z) {n0 : Nat} {h0 : Heap} (hn0 : n0 ≤ h0.size) (sr ru : Addr) (kr : ClassId) (M : List Int32) (ea : Addr) (ke : ClassId) (ii cz : Int32) (fmt : Value) (Er : Exa Z h0 sr zq0) (Rv : Fld Z h0 sr zq0 "value" "[B" (.ref ru)) (Rc : Fld Z h0 sr zq0 "coder" "B" (.int 0)) (Vr : Arv Z h0 ru kr .byte (own_n (M).length) (tx M) (.int 0)) (Ve : Arv Z h0 ea ke .char (24 : Int32) (tc M) (.int 0)) (hi0 : ¬ ii < 0) (hi1 : ii < 24) (hb : M.length < 1000) (hla : ∀ c ∈ M, own_lat c) (Sf : Sta Z Z.heap zq9 zq12 zq14 fmt) (hfm : fmt.isRef = true) (OD : Old Z n0 h0) (S2 : Sta Z Z.heap zq0 zq5 "Z" (.int cz)) (hcz : ¬ cz = 0) :
    Ctr l Z (⟨zq11, "at", zq45⟩ : MethodName) method_7_code 3 (some .boolean) (rQ 4 0 0 70) n0 #[(.ref sr), (.ref ea), (.int ii)] h0 (fun v h => v = some (.int 1) ∧ h = h0) := by
  refine Ctr.of (plainFor_of_name pn3) hn0 ?_
  intro p e s m below meth c T0 C hnm hret hlk X0
  rw [ef23 m sr ea ii]
  refine G.b 1 C X0 d23_0 rfl rfl <| G.a 2 C X0 d23_1 rfl rfl rfl <| G.o 5 (cells' := 0) (slots' := 0) (argsL := []) (St := [(.int ii)]) C X0 (wd128 hw) (wd129 hw) (wd131 hw) (wd130 hw) (by decide) Er (wd132 hw) (wd44 hw) (ctLenA hw X0.2.1 sr ru kr M cz Er Rv Rc Vr OD S2 hcz) (lenOf pd8 rfl) rfl d23_2 rfl rfl (by decide) (nQ rfl) rfl rfl (by decide) (by decide) (fun v1 T1 h1 Q1 X1 z1 => ?_)
  obtain ⟨hv1, hh1⟩ := Q1
  subst hv1; rw [hh1] at X1
  by_cases hq : ii < (own_n (M).length)
  · refine G.t 8 C X1 d23_5 rfl (tlt hq).2.1 <| G.a 9 C X1 d23_8 rfl rfl rfl <| G.b 10 C X1 d23_9 rfl rfl <| G.o 13 (cells' := 0) (slots' := 0) (argsL := [(.int ii)]) (St := []) C X1 (wd309 hw) (wd285 hw) (wd287 hw) (wd286 hw) (by decide) Er (wd288 hw) (wd44 hw) (ctCaA hw X1.2.1 sr ru kr M ii fmt cz Er Rv Rc Vr hi0 hq (own_ltl hi0 hq hb) hla OD Sf hfm S2 hcz) (lenOf pd25 rfl) rfl d23_10 rfl rfl (by decide) (nQ rfl) rfl rfl (by decide) (by decide) (fun v3 T3 h3 Q3 X3 z3 => ?_)
    obtain ⟨hv3, hh3⟩ := Q3
    subst hv3; rw [hh3] at X3
    refine G.a 14 C X3 d23_13 rfl rfl rfl <| G.b 15 C X3 d23_14 rfl rfl <| G.at 16 C X3 Ve d23_15 rfl ⟨hi0, hi1⟩ (v := (M.getD ii.toNatClampNeg 0)) (own_tc_at _ (own_ltl hi0 hq hb)) <| G.t 19 C X3 d23_16 rfl (teq rfl).2 <| G.f 20 (z := 1) C X3 d23_19 rfl (by decide) <| G.r 24 C X3 d23_20 (by decide) (by decide) ?_
    exact G.M C X3 d23_24 hret (by simp) (z' := (1 : Int32)) (by decide) hlk (⟨rfl, rfl⟩) (by decide) (by decide)
  · refine G.q 19 C X1 d23_5 (flt hq).2.1 (by decide) (by decide) <| G.f 20 (z := 1) C X1 d23_19 rfl (by decide) <| G.r 24 C X1 d23_20 (by decide) (by decide) ?_
    exact G.M C X1 d23_24 hret (by simp) (z' := (1 : Int32)) (by decide) hlk (⟨rfl, rfl⟩) (by decide) (by decide)
theorem ef0 (m : MethodId) (x0 : Int32) (x1 : Int32) (x2 : Int32) (x3 : Int32) (x4 : Int32) : entryFrame m #[(.int x0), (.int x1), (.int x2), (.int x3), (.int x4)] maxLocals = mkF m 0 #[.val (.int x0), .val (.int x1), .val (.int x2), .val (.int x3), .val (.int x4), .unset, .unset, .unset, .unset, .unset, .unset, .unset, .unset] [] := by first | (simp [entryFrame, mkF, argsToLocals, Value.category, maxLocals]; done) | rfl
theorem ct0 {l : Launch} {Z : State} {a0 : Array Value} (hw : HW a0 Z) {n0 : Nat} {h0 : Heap} (hn0 : n0 ≤ h0.size) (i0 : Int32) (i1 : Int32) (i2 : Int32) (i3 : Int32) (i4 : Int32) (de : Addr) (kd : ClassId) (cz : Int32) (fmt : Value) (OD : Old Z n0 h0) (Sde : Sta Z Z.heap zq2 zq26 zq6 (.ref de)) (Vd : Arv Z Z.heap de kd (.object zq3) (0 : Int32) [] .null) (S2 : Sta Z Z.heap zq0 zq5 "Z" (.int cz)) (hcz : ¬ cz = 0) (Sf : Sta Z Z.heap zq9 zq12 zq14 fmt) (hfm : fmt.isRef = true) :
    CtrW l Z consts_1 [] x code maxLocals ret room_1 n0 #[(.int i0), (.int i1), (.int i2), (.int i3), (.int i4)] h0 (fun v h sfe => v = some (.int 1)) := by
  refine CtrW.of (plainFor_of_name pn3) hn0 ?_
  intro p e s m below meth c T0 C hnm hret hlk X0 H0 hSf
  rw [ef0 m i0 i1 i2 i3 i4]
  refine G.b 1 C X0 at_0 rfl rfl <| G.f 2 (z := 3) C X0 at_1 rfl (by decide) <| G.ab 3 (z := (i0 &&& (3 : Int32))) C X0 at_2 rfl rfl <| G.f 4 (z := 3) C X0 at_3 rfl (by decide) ?_
  obtain ⟨ln, h_ln⟩ : ∃ z : Int32, (i0 &&& (3 : Int32)) % (3 : Int32) = z := ⟨_, rfl⟩
  refine G.av 5 (z := ln) C X0 at_4 rfl (by decide) h_ln ?_
  have h3_ln := own_k3 h_ln
  rcases h3_ln with rfl | rfl | rfl
  · refine G.w 7 C X0 at_5 rfl (l' := #[vI i0, vI i1, vI i2, vI i3, vI i4, vI 0, .unset, .unset, .unset, .unset, .unset, .unset, .unset]) rfl ?_
    have hva := own_val_len i3
    have hEa := own_escL_len (own_val i3)
    have hvb := own_val_len i4
    have hEb := own_escL_len (own_val i4)
    refine G.b 8 C X0 at_7 rfl rfl <| G.aa 11 (z := 255) C X0 at_8 rfl (by decide) <| G.ab 12 (z := (i1 &&& (255 : Int32))) C X0 at_11 rfl rfl ?_
    obtain ⟨ma, h_ma⟩ : ∃ z : Int32, (i1 &&& (255 : Int32)).toUInt32.toUInt16.toUInt32.toInt32 = z := ⟨_, rfl⟩
    refine G.ai 13 (z := ma) C X0 at_12 rfl h_ma ?_
    have l_ma := own_lat_mask h_ma
    refine G.w 15 C X0 at_13 rfl (l' := #[vI i0, vI i1, vI i2, vI i3, vI i4, vI 0, vI ma, .unset, .unset, .unset, .unset, .unset, .unset]) rfl <| G.b 16 C X0 at_15 rfl rfl <| G.aa 19 (z := 255) C X0 at_16 rfl (by decide) <| G.ab 20 (z := (i2 &&& (255 : Int32))) C X0 at_19 rfl rfl ?_
    obtain ⟨mb, h_mb⟩ : ∃ z : Int32, (i2 &&& (255 : Int32)).toUInt32.toUInt16.toUInt32.toInt32 = z := ⟨_, rfl⟩
    refine G.ai 21 (z := mb) C X0 at_20 rfl h_mb ?_
    have l_mb := own_lat_mask h_mb
    refine G.w 23 C X0 at_21 rfl (l' := #[vI i0, vI i1, vI i2, vI i3, vI i4, vI 0, vI ma, vI mb, .unset, .unset, .unset, .unset, .unset]) rfl <| G.U 26 (cells' := 1) (slots' := 3) C X0 (wd0 hw) (wd1 hw) (wd2 hw) at_23 rfl rfl rfl (by decide) (by decide) (fun T1 h1 a1 X1 g1 q1 E1 A1 D1 U1 => ?_)
    have Hd2 := H0.ext E1
    have F1_modCount : Fld Z h1 a1 zq8 "modCount" "I" (.int 0) := D1 (Or.inl (wd22 hw)) (ty := .int) (by decide)
    have F1_elementData : Fld Z h1 a1 zq2 zq7 zq6 .null := D1 (Or.inl (wd25 hw)) (ty := (.array (.object zq3))) (by decide)
    have F1_size : Fld Z h1 a1 zq2 "size" "I" (.int 0) := D1 (Or.inl (wd60 hw)) (ty := .int) (by decide)
    refine G.I 27 C X1 at_26 rfl rfl ?_
    have f3 := (OD.ext E1)
    refine G.N 30 (cells' := 1) (slots' := 3) (argsL := []) (St := [(.ref a1)]) C X1 rfl rfl (wd3 hw) (wd4 hw) (by decide) (wd5 hw) (wd2 hw) (ctAlI hw X1.2.1 a1 de A1 F1_modCount F1_elementData F1_size q1 f3 Sde) (lenOf pd29 rfl) rfl at_27 rfl rfl (by decide) (nQ rfl) rfl rfl (by decide) (by decide) (fun v4 T4 h4 Q4 X4 z4 => ?_)
    obtain ⟨hv4, K4, Ea4, Fa0_4, Fa1_4, Fa2_4⟩ := Q4
    subst hv4
    have Hd5 := Hd2.keep K4 (allS (Safe.exa (EL := consts_1) C.2.1.alike A1 (by decide) (by decide)) all0)
    refine G.P 32 C X4 at_30 rfl rfl (l' := #[vI i0, vI i1, vI i2, vI i3, vI i4, vI 0, vI ma, vI mb, vR a1, .unset, .unset, .unset, .unset]) rfl <| G.U 35 (cells' := 2) (slots' := 6) C X4 (wd0 hw) (wd1 hw) (wd2 hw) at_32 rfl rfl rfl (by decide) (by decide) (fun T6 h6 a6 X6 g6 q6 E6 A6 D6 U6 => ?_)
    have ne7 : a1 ≠ a6 := Nat.ne_of_lt (Nat.lt_of_lt_of_eq Ea4.lt g6.symm)
    have Hd8 := Hd5.ext E6
    have F6_modCount : Fld Z h6 a6 zq8 "modCount" "I" (.int 0) := D6 (Or.inl (wd22 hw)) (ty := .int) (by decide)
    have F6_elementData : Fld Z h6 a6 zq2 zq7 zq6 .null := D6 (Or.inl (wd25 hw)) (ty := (.array (.object zq3))) (by decide)
    have F6_size : Fld Z h6 a6 zq2 "size" "I" (.int 0) := D6 (Or.inl (wd60 hw)) (ty := .int) (by decide)
    refine G.I 36 C X6 at_35 rfl rfl ?_
    have f9 := ((f3.keep K4 (allS q1 all0)).ext E6)
    refine G.N 39 (cells' := 2) (slots' := 6) (argsL := []) (St := [(.ref a6)]) C X6 rfl rfl (wd3 hw) (wd4 hw) (by decide) (wd5 hw) (wd2 hw) (ctAlI hw X6.2.1 a6 de A6 F6_modCount F6_elementData F6_size q6 f9 Sde) (lenOf pd29 rfl) rfl at_36 rfl rfl (by decide) (nQ rfl) rfl rfl (by decide) (by decide) (fun v10 T10 h10 Q10 X10 z10 => ?_)
    obtain ⟨hv10, K10, Ea10, Fa0_10, Fa1_10, Fa2_10⟩ := Q10
    subst hv10
    have Hd11 := Hd8.keep K10 (allS (Safe.exa (EL := consts_1) C.2.1.alike A6 (by decide) (by decide)) all0)
    refine G.P 41 C X10 at_39 rfl rfl (l' := #[vI i0, vI i1, vI i2, vI i3, vI i4, vI 0, vI ma, vI mb, vR a1, vR a6, .unset, .unset, .unset]) rfl <| G.g 43 C X10 at_41 rfl rfl <| G.f 44 (z := 1) C X10 at_43 rfl (by decide) <| G.q 72 C X10 at_44 (tlt (by decide : (0 : Int32) < 1)).1 (by decide) (by decide) <| G.g 74 C X10 at_72 rfl rfl <| G.f 75 (z := 2) C X10 at_74 rfl (by decide) <| G.q 104 C X10 at_75 (tlt (by decide : (0 : Int32) < 2)).1 (by decide) (by decide) <| G.d 106 C X10 at_104 rfl rfl rfl <| G.d 108 C X10 at_106 rfl rfl rfl ?_
    have f12 := ((Ea4.ext E6).keep K10)
    have f13 := ((Fa2_4.ext E6).keep K10 (ninS ne7 nin0))
    have f14 := (f9.keep K10 (allS q6 all0))
    refine G.ag 111 (cells' := 46) (slots' := 1106) (argsL := [(.ref a1), (.ref a6)]) (St := []) C X10 (ew hw) Hd11 (wd26 hw) (wd27 hw) (by decide) (wd29 hw) (wd28 hw) (ctLab0 hw X10.2.1 a1 a6 cz fmt f12 f13 Ea10 Fa2_10 Sf hfm f14 S2 hcz) (fun _ hx => by cases hx) (lenOf pd39 rfl) rfl at_108 rfl rfl (by decide) (nQ rfl) rfl rfl (by decide) (by decide) (fun v15 vm15 T15 h15 Q15 C15 X15 Hd15 R15 => ?_)
    obtain ⟨b15, t15, k15, hv15, K15, E15, F15c, F15v, V15⟩ := Q15
    subst hv15
    refine G.P 113 C15 X15 at_111 rfl rfl (l' := #[vI i0, vI i1, vI i2, vI i3, vI i4, vI 0, vI ma, vI mb, vR a1, vR a6, vR b15, .unset, .unset]) rfl <| G.j 115 (z := 24) C15 X15 at_113 rfl (by decide) <| G.af 117 (cap := 24) (d0 := (.int 0)) (cells' := 47) (slots' := 1130) C15 X15 (wd127 hw) rfl at_115 rfl (by decide) (by decide) (by decide) rfl rfl rfl (by decide) (by decide) (fun T23 h23 a23 k23 X23 g23 q23 E23 V23 => ?_)
    have Hd28 := Hd15.ext E23
    replace V23 : Arv Z h23 a23 k23 .char (24 : Int32) [] (.int 0) := V23.pad (pad_rep [] (.int 0) 0)
    have Vz : Arv Z h23 a23 k23 .char (24 : Int32) (tc ([] : List Int32)) (.int 0) := V23
    refine G.P 119 C15 X23 at_117 rfl rfl (l' := #[vI i0, vI i1, vI i2, vI i3, vI i4, vI 0, vI ma, vI mb, vR a1, vR a6, vR b15, vR a23, .unset]) rfl <| G.f 120 (z := 0) C15 X23 at_119 rfl (by decide) <| G.w 122 C15 X23 at_120 rfl (l' := #[vI i0, vI i1, vI i2, vI i3, vI i4, vI 0, vI ma, vI mb, vR a1, vR a6, vR b15, vR a23, vI 0]) rfl <| G.g 124 C15 X23 at_122 rfl rfl <| G.f 125 (z := 1) C15 X23 at_124 rfl (by decide) <| G.q 187 C15 X23 at_125 (tlt (by decide : (0 : Int32) < 1)).1 (by decide) (by decide) <| G.g 189 C15 X23 at_187 rfl rfl <| G.f 190 (z := 2) C15 X23 at_189 rfl (by decide) <| G.q 253 C15 X23 at_190 (tlt (by decide : (0 : Int32) < 2)).1 (by decide) (by decide) <| G.g 255 C15 X23 at_253 rfl rfl <| G.f 256 (z := 1) C15 X23 at_255 rfl (by decide) <| G.q 272 C15 X23 at_256 (tlt (by decide : (0 : Int32) < 1)).1 (by decide) (by decide) ?_
    have hRX : ([] : List Int32) = ([] : List Int32) := by first | rfl | simp only [List.append_assoc, List.cons_append, List.nil_append, List.append_nil]
    have f29 := (V15.ext E23)
    have Vy : Arv Z h23 t15 k15 .byte (own_n (([] : List Int32)).length) (tx ([] : List Int32)) (.int 0) := by rw [← hRX]; exact f29
    have hLA : ∀ c ∈ ([] : List Int32), own_lat c := own_al0
    have hXb : (([] : List Int32)).length < 1000 := by simp only [List.length_append, List.length_cons, List.length_nil]; omega
    refine G.d 274 C15 X23 at_272 rfl rfl rfl ?_
    have f30 := (E15.ext E23)
    have f31 := (F15v.ext E23)
    have f32 := (F15c.ext E23)
    have f33 := ((f14.keep K15 all0).ext E23)
    refine G.o 277 (cells' := 47) (slots' := 1130) (argsL := []) (St := []) C15 X23 (wd128 hw) (wd129 hw) (wd131 hw) (wd130 hw) (by decide) f30 (wd132 hw) (wd44 hw) (ctLenA hw X23.2.1 b15 t15 k15 ([] : List Int32) cz f30 f31 f32 Vy f33 S2 hcz) (lenOf pd8 rfl) rfl at_274 rfl rfl (by decide) (nQ rfl) rfl rfl (by decide) (by decide) (fun v34 T34 h34 Q34 X34 z34 => ?_)
    obtain ⟨hv34, hh34⟩ := Q34
    subst hv34; rw [hh34] at X34
    refine G.g 279 C15 X34 at_277 rfl rfl <| G.t 282 C15 X34 at_279 rfl (teq rfl).2 <| G.d 284 C15 X34 at_282 rfl rfl rfl <| G.d 286 C15 X34 at_284 rfl rfl rfl <| G.f 287 (z := 0) C15 X34 at_286 rfl (by decide) <| G.i 290 (cells' := 47) (slots' := 1130) (argsL := [(.ref b15), (.ref a23), (.int 0)]) (St := []) C15 X34 (wd139 hw) (wd140 hw) (by decide) (wd142 hw) (wd141 hw) (ctAt hw X34.2.1 b15 t15 k15 ([] : List Int32) a23 k23 (0 : Int32) cz fmt f30 f31 f32 Vy Vz (by decide) (by decide) hXb hLA Sf hfm f33 S2 hcz) (lenOf pd40 rfl) rfl at_287 rfl rfl (by decide) (nQ rfl) rfl rfl (by decide) (by decide) (fun v35 T35 h35 Q35 X35 z35 => ?_)
    obtain ⟨hv35, hh35⟩ := Q35
    subst hv35; rw [hh35] at X35
    refine G.k 293 C15 X35 at_290 rfl (feq (by decide : ¬ (1 : Int32) = 0)).1 <| G.d 295 C15 X35 at_293 rfl rfl rfl <| G.d 297 C15 X35 at_295 rfl rfl rfl <| G.f 298 (z := 1) C15 X35 at_297 rfl (by decide) <| G.i 301 (cells' := 47) (slots' := 1130) (argsL := [(.ref b15), (.ref a23), (.int 1)]) (St := []) C15 X35 (wd139 hw) (wd140 hw) (by decide) (wd142 hw) (wd141 hw) (ctAt hw X35.2.1 b15 t15 k15 ([] : List Int32) a23 k23 (1 : Int32) cz fmt f30 f31 f32 Vy Vz (by decide) (by decide) hXb hLA Sf hfm f33 S2 hcz) (lenOf pd40 rfl) rfl at_298 rfl rfl (by decide) (nQ rfl) rfl rfl (by decide) (by decide) (fun v36 T36 h36 Q36 X36 z36 => ?_)
    obtain ⟨hv36, hh36⟩ := Q36
    subst hv36; rw [hh36] at X36
    refine G.k 304 C15 X36 at_301 rfl (feq (by decide : ¬ (1 : Int32) = 0)).1 <| G.d 306 C15 X36 at_304 rfl rfl rfl <| G.d 308 C15 X36 at_306 rfl rfl rfl <| G.f 309 (z := 2) C15 X36 at_308 rfl (by decide) <| G.i 312 (cells' := 47) (slots' := 1130) (argsL := [(.ref b15), (.ref a23), (.int 2)]) (St := []) C15 X36 (wd139 hw) (wd140 hw) (by decide) (wd142 hw) (wd141 hw) (ctAt hw X36.2.1 b15 t15 k15 ([] : List Int32) a23 k23 (2 : Int32) cz fmt f30 f31 f32 Vy Vz (by decide) (by decide) hXb hLA Sf hfm f33 S2 hcz) (lenOf pd40 rfl) rfl at_309 rfl rfl (by decide) (nQ rfl) rfl rfl (by decide) (by decide) (fun v37 T37 h37 Q37 X37 z37 => ?_)
    obtain ⟨hv37, hh37⟩ := Q37
    subst hv37; rw [hh37] at X37
    refine G.k 315 C15 X37 at_312 rfl (feq (by decide : ¬ (1 : Int32) = 0)).1 <| G.d 317 C15 X37 at_315 rfl rfl rfl <| G.d 319 C15 X37 at_317 rfl rfl rfl <| G.f 320 (z := 3) C15 X37 at_319 rfl (by decide) <| G.i 323 (cells' := 47) (slots' := 1130) (argsL := [(.ref b15), (.ref a23), (.int 3)]) (St := []) C15 X37 (wd139 hw) (wd140 hw) (by decide) (wd142 hw) (wd141 hw) (ctAt hw X37.2.1 b15 t15 k15 ([] : List Int32) a23 k23 (3 : Int32) cz fmt f30 f31 f32 Vy Vz (by decide) (by decide) hXb hLA Sf hfm f33 S2 hcz) (lenOf pd40 rfl) rfl at_320 rfl rfl (by decide) (nQ rfl) rfl rfl (by decide) (by decide) (fun v38 T38 h38 Q38 X38 z38 => ?_)
    obtain ⟨hv38, hh38⟩ := Q38
    subst hv38; rw [hh38] at X38
    refine G.k 326 C15 X38 at_323 rfl (feq (by decide : ¬ (1 : Int32) = 0)).1 <| G.d 328 C15 X38 at_326 rfl rfl rfl <| G.d 330 C15 X38 at_328 rfl rfl rfl <| G.f 331 (z := 4) C15 X38 at_330 rfl (by decide) <| G.i 334 (cells' := 47) (slots' := 1130) (argsL := [(.ref b15), (.ref a23), (.int 4)]) (St := []) C15 X38 (wd139 hw) (wd140 hw) (by decide) (wd142 hw) (wd141 hw) (ctAt hw X38.2.1 b15 t15 k15 ([] : List Int32) a23 k23 (4 : Int32) cz fmt f30 f31 f32 Vy Vz (by decide) (by decide) hXb hLA Sf hfm f33 S2 hcz) (lenOf pd40 rfl) rfl at_331 rfl rfl (by decide) (nQ rfl) rfl rfl (by decide) (by decide) (fun v39 T39 h39 Q39 X39 z39 => ?_)
    obtain ⟨hv39, hh39⟩ := Q39
    subst hv39; rw [hh39] at X39
    refine G.k 337 C15 X39 at_334 rfl (feq (by decide : ¬ (1 : Int32) = 0)).1 <| G.d 339 C15 X39 at_337 rfl rfl rfl <| G.d 341 C15 X39 at_339 rfl rfl rfl <| G.f 342 (z := 5) C15 X39 at_341 rfl (by decide) <| G.i 345 (cells' := 47) (slots' := 1130) (argsL := [(.ref b15), (.ref a23), (.int 5)]) (St := []) C15 X39 (wd139 hw) (wd140 hw) (by decide) (wd142 hw) (wd141 hw) (ctAt hw X39.2.1 b15 t15 k15 ([] : List Int32) a23 k23 (5 : Int32) cz fmt f30 f31 f32 Vy Vz (by decide) (by decide) hXb hLA Sf hfm f33 S2 hcz) (lenOf pd40 rfl) rfl at_342 rfl rfl (by decide) (nQ rfl) rfl rfl (by decide) (by decide) (fun v40 T40 h40 Q40 X40 z40 => ?_)
    obtain ⟨hv40, hh40⟩ := Q40
    subst hv40; rw [hh40] at X40
    refine G.k 348 C15 X40 at_345 rfl (feq (by decide : ¬ (1 : Int32) = 0)).1 <| G.d 350 C15 X40 at_348 rfl rfl rfl <| G.d 352 C15 X40 at_350 rfl rfl rfl <| G.j 354 (z := 6) C15 X40 at_352 rfl (by decide) <| G.i 357 (cells' := 47) (slots' := 1130) (argsL := [(.ref b15), (.ref a23), (.int 6)]) (St := []) C15 X40 (wd139 hw) (wd140 hw) (by decide) (wd142 hw) (wd141 hw) (ctAt hw X40.2.1 b15 t15 k15 ([] : List Int32) a23 k23 (6 : Int32) cz fmt f30 f31 f32 Vy Vz (by decide) (by decide) hXb hLA Sf hfm f33 S2 hcz) (lenOf pd40 rfl) rfl at_354 rfl rfl (by decide) (nQ rfl) rfl rfl (by decide) (by decide) (fun v41 T41 h41 Q41 X41 z41 => ?_)
    obtain ⟨hv41, hh41⟩ := Q41
    subst hv41; rw [hh41] at X41
    refine G.k 360 C15 X41 at_357 rfl (feq (by decide : ¬ (1 : Int32) = 0)).1 <| G.d 362 C15 X41 at_360 rfl rfl rfl <| G.d 364 C15 X41 at_362 rfl rfl rfl <| G.j 366 (z := 7) C15 X41 at_364 rfl (by decide) <| G.i 369 (cells' := 47) (slots' := 1130) (argsL := [(.ref b15), (.ref a23), (.int 7)]) (St := []) C15 X41 (wd139 hw) (wd140 hw) (by decide) (wd142 hw) (wd141 hw) (ctAt hw X41.2.1 b15 t15 k15 ([] : List Int32) a23 k23 (7 : Int32) cz fmt f30 f31 f32 Vy Vz (by decide) (by decide) hXb hLA Sf hfm f33 S2 hcz) (lenOf pd40 rfl) rfl at_366 rfl rfl (by decide) (nQ rfl) rfl rfl (by decide) (by decide) (fun v42 T42 h42 Q42 X42 z42 => ?_)
    obtain ⟨hv42, hh42⟩ := Q42
    subst hv42; rw [hh42] at X42
    refine G.k 372 C15 X42 at_369 rfl (feq (by decide : ¬ (1 : Int32) = 0)).1 <| G.d 374 C15 X42 at_372 rfl rfl rfl <| G.d 376 C15 X42 at_374 rfl rfl rfl <| G.j 378 (z := 8) C15 X42 at_376 rfl (by decide) <| G.i 381 (cells' := 47) (slots' := 1130) (argsL := [(.ref b15), (.ref a23), (.int 8)]) (St := []) C15 X42 (wd139 hw) (wd140 hw) (by decide) (wd142 hw) (wd141 hw) (ctAt hw X42.2.1 b15 t15 k15 ([] : List Int32) a23 k23 (8 : Int32) cz fmt f30 f31 f32 Vy Vz (by decide) (by decide) hXb hLA Sf hfm f33 S2 hcz) (lenOf pd40 rfl) rfl at_378 rfl rfl (by decide) (nQ rfl) rfl rfl (by decide) (by decide) (fun v43 T43 h43 Q43 X43 z43 => ?_)
    obtain ⟨hv43, hh43⟩ := Q43
    subst hv43; rw [hh43] at X43
    refine G.k 384 C15 X43 at_381 rfl (feq (by decide : ¬ (1 : Int32) = 0)).1 <| G.d 386 C15 X43 at_384 rfl rfl rfl <| G.d 388 C15 X43 at_386 rfl rfl rfl <| G.j 390 (z := 9) C15 X43 at_388 rfl (by decide) <| G.i 393 (cells' := 47) (slots' := 1130) (argsL := [(.ref b15), (.ref a23), (.int 9)]) (St := []) C15 X43 (wd139 hw) (wd140 hw) (by decide) (wd142 hw) (wd141 hw) (ctAt hw X43.2.1 b15 t15 k15 ([] : List Int32) a23 k23 (9 : Int32) cz fmt f30 f31 f32 Vy Vz (by decide) (by decide) hXb hLA Sf hfm f33 S2 hcz) (lenOf pd40 rfl) rfl at_390 rfl rfl (by decide) (nQ rfl) rfl rfl (by decide) (by decide) (fun v44 T44 h44 Q44 X44 z44 => ?_)
    obtain ⟨hv44, hh44⟩ := Q44
    subst hv44; rw [hh44] at X44
    refine G.k 396 C15 X44 at_393 rfl (feq (by decide : ¬ (1 : Int32) = 0)).1 <| G.d 398 C15 X44 at_396 rfl rfl rfl <| G.d 400 C15 X44 at_398 rfl rfl rfl <| G.j 402 (z := 10) C15 X44 at_400 rfl (by decide) <| G.i 405 (cells' := 47) (slots' := 1130) (argsL := [(.ref b15), (.ref a23), (.int 10)]) (St := []) C15 X44 (wd139 hw) (wd140 hw) (by decide) (wd142 hw) (wd141 hw) (ctAt hw X44.2.1 b15 t15 k15 ([] : List Int32) a23 k23 (10 : Int32) cz fmt f30 f31 f32 Vy Vz (by decide) (by decide) hXb hLA Sf hfm f33 S2 hcz) (lenOf pd40 rfl) rfl at_402 rfl rfl (by decide) (nQ rfl) rfl rfl (by decide) (by decide) (fun v45 T45 h45 Q45 X45 z45 => ?_)
    obtain ⟨hv45, hh45⟩ := Q45
    subst hv45; rw [hh45] at X45
    refine G.k 408 C15 X45 at_405 rfl (feq (by decide : ¬ (1 : Int32) = 0)).1 <| G.d 410 C15 X45 at_408 rfl rfl rfl <| G.d 412 C15 X45 at_410 rfl rfl rfl <| G.j 414 (z := 11) C15 X45 at_412 rfl (by decide) <| G.i 417 (cells' := 47) (slots' := 1130) (argsL := [(.ref b15), (.ref a23), (.int 11)]) (St := []) C15 X45 (wd139 hw) (wd140 hw) (by decide) (wd142 hw) (wd141 hw) (ctAt hw X45.2.1 b15 t15 k15 ([] : List Int32) a23 k23 (11 : Int32) cz fmt f30 f31 f32 Vy Vz (by decide) (by decide) hXb hLA Sf hfm f33 S2 hcz) (lenOf pd40 rfl) rfl at_414 rfl rfl (by decide) (nQ rfl) rfl rfl (by decide) (by decide) (fun v46 T46 h46 Q46 X46 z46 => ?_)
    obtain ⟨hv46, hh46⟩ := Q46
    subst hv46; rw [hh46] at X46
    refine G.k 420 C15 X46 at_417 rfl (feq (by decide : ¬ (1 : Int32) = 0)).1 <| G.d 422 C15 X46 at_420 rfl rfl rfl <| G.d 424 C15 X46 at_422 rfl rfl rfl <| G.j 426 (z := 12) C15 X46 at_424 rfl (by decide) <| G.i 429 (cells' := 47) (slots' := 1130) (argsL := [(.ref b15), (.ref a23), (.int 12)]) (St := []) C15 X46 (wd139 hw) (wd140 hw) (by decide) (wd142 hw) (wd141 hw) (ctAt hw X46.2.1 b15 t15 k15 ([] : List Int32) a23 k23 (12 : Int32) cz fmt f30 f31 f32 Vy Vz (by decide) (by decide) hXb hLA Sf hfm f33 S2 hcz) (lenOf pd40 rfl) rfl at_426 rfl rfl (by decide) (nQ rfl) rfl rfl (by decide) (by decide) (fun v47 T47 h47 Q47 X47 z47 => ?_)
    obtain ⟨hv47, hh47⟩ := Q47
    subst hv47; rw [hh47] at X47
    refine G.k 432 C15 X47 at_429 rfl (feq (by decide : ¬ (1 : Int32) = 0)).1 <| G.d 434 C15 X47 at_432 rfl rfl rfl <| G.d 436 C15 X47 at_434 rfl rfl rfl <| G.j 438 (z := 13) C15 X47 at_436 rfl (by decide) <| G.i 441 (cells' := 47) (slots' := 1130) (argsL := [(.ref b15), (.ref a23), (.int 13)]) (St := []) C15 X47 (wd139 hw) (wd140 hw) (by decide) (wd142 hw) (wd141 hw) (ctAt hw X47.2.1 b15 t15 k15 ([] : List Int32) a23 k23 (13 : Int32) cz fmt f30 f31 f32 Vy Vz (by decide) (by decide) hXb hLA Sf hfm f33 S2 hcz) (lenOf pd40 rfl) rfl at_438 rfl rfl (by decide) (nQ rfl) rfl rfl (by decide) (by decide) (fun v48 T48 h48 Q48 X48 z48 => ?_)
    obtain ⟨hv48, hh48⟩ := Q48
    subst hv48; rw [hh48] at X48
    refine G.k 444 C15 X48 at_441 rfl (feq (by decide : ¬ (1 : Int32) = 0)).1 <| G.d 446 C15 X48 at_444 rfl rfl rfl <| G.d 448 C15 X48 at_446 rfl rfl rfl <| G.j 450 (z := 14) C15 X48 at_448 rfl (by decide) <| G.i 453 (cells' := 47) (slots' := 1130) (argsL := [(.ref b15), (.ref a23), (.int 14)]) (St := []) C15 X48 (wd139 hw) (wd140 hw) (by decide) (wd142 hw) (wd141 hw) (ctAt hw X48.2.1 b15 t15 k15 ([] : List Int32) a23 k23 (14 : Int32) cz fmt f30 f31 f32 Vy Vz (by decide) (by decide) hXb hLA Sf hfm f33 S2 hcz) (lenOf pd40 rfl) rfl at_450 rfl rfl (by decide) (nQ rfl) rfl rfl (by decide) (by decide) (fun v49 T49 h49 Q49 X49 z49 => ?_)
    obtain ⟨hv49, hh49⟩ := Q49
    subst hv49; rw [hh49] at X49
    refine G.k 456 C15 X49 at_453 rfl (feq (by decide : ¬ (1 : Int32) = 0)).1 <| G.d 458 C15 X49 at_456 rfl rfl rfl <| G.d 460 C15 X49 at_458 rfl rfl rfl <| G.j 462 (z := 15) C15 X49 at_460 rfl (by decide) <| G.i 465 (cells' := 47) (slots' := 1130) (argsL := [(.ref b15), (.ref a23), (.int 15)]) (St := []) C15 X49 (wd139 hw) (wd140 hw) (by decide) (wd142 hw) (wd141 hw) (ctAt hw X49.2.1 b15 t15 k15 ([] : List Int32) a23 k23 (15 : Int32) cz fmt f30 f31 f32 Vy Vz (by decide) (by decide) hXb hLA Sf hfm f33 S2 hcz) (lenOf pd40 rfl) rfl at_462 rfl rfl (by decide) (nQ rfl) rfl rfl (by decide) (by decide) (fun v50 T50 h50 Q50 X50 z50 => ?_)
    obtain ⟨hv50, hh50⟩ := Q50
    subst hv50; rw [hh50] at X50
    refine G.k 468 C15 X50 at_465 rfl (feq (by decide : ¬ (1 : Int32) = 0)).1 <| G.d 470 C15 X50 at_468 rfl rfl rfl <| G.d 472 C15 X50 at_470 rfl rfl rfl <| G.j 474 (z := 16) C15 X50 at_472 rfl (by decide) <| G.i 477 (cells' := 47) (slots' := 1130) (argsL := [(.ref b15), (.ref a23), (.int 16)]) (St := []) C15 X50 (wd139 hw) (wd140 hw) (by decide) (wd142 hw) (wd141 hw) (ctAt hw X50.2.1 b15 t15 k15 ([] : List Int32) a23 k23 (16 : Int32) cz fmt f30 f31 f32 Vy Vz (by decide) (by decide) hXb hLA Sf hfm f33 S2 hcz) (lenOf pd40 rfl) rfl at_474 rfl rfl (by decide) (nQ rfl) rfl rfl (by decide) (by decide) (fun v51 T51 h51 Q51 X51 z51 => ?_)
    obtain ⟨hv51, hh51⟩ := Q51
    subst hv51; rw [hh51] at X51
    refine G.k 480 C15 X51 at_477 rfl (feq (by decide : ¬ (1 : Int32) = 0)).1 <| G.d 482 C15 X51 at_480 rfl rfl rfl <| G.d 484 C15 X51 at_482 rfl rfl rfl <| G.j 486 (z := 17) C15 X51 at_484 rfl (by decide) <| G.i 489 (cells' := 47) (slots' := 1130) (argsL := [(.ref b15), (.ref a23), (.int 17)]) (St := []) C15 X51 (wd139 hw) (wd140 hw) (by decide) (wd142 hw) (wd141 hw) (ctAt hw X51.2.1 b15 t15 k15 ([] : List Int32) a23 k23 (17 : Int32) cz fmt f30 f31 f32 Vy Vz (by decide) (by decide) hXb hLA Sf hfm f33 S2 hcz) (lenOf pd40 rfl) rfl at_486 rfl rfl (by decide) (nQ rfl) rfl rfl (by decide) (by decide) (fun v52 T52 h52 Q52 X52 z52 => ?_)
    obtain ⟨hv52, hh52⟩ := Q52
    subst hv52; rw [hh52] at X52
    refine G.k 492 C15 X52 at_489 rfl (feq (by decide : ¬ (1 : Int32) = 0)).1 <| G.d 494 C15 X52 at_492 rfl rfl rfl <| G.d 496 C15 X52 at_494 rfl rfl rfl <| G.j 498 (z := 18) C15 X52 at_496 rfl (by decide) <| G.i 501 (cells' := 47) (slots' := 1130) (argsL := [(.ref b15), (.ref a23), (.int 18)]) (St := []) C15 X52 (wd139 hw) (wd140 hw) (by decide) (wd142 hw) (wd141 hw) (ctAt hw X52.2.1 b15 t15 k15 ([] : List Int32) a23 k23 (18 : Int32) cz fmt f30 f31 f32 Vy Vz (by decide) (by decide) hXb hLA Sf hfm f33 S2 hcz) (lenOf pd40 rfl) rfl at_498 rfl rfl (by decide) (nQ rfl) rfl rfl (by decide) (by decide) (fun v53 T53 h53 Q53 X53 z53 => ?_)
    obtain ⟨hv53, hh53⟩ := Q53
    subst hv53; rw [hh53] at X53
    refine G.k 504 C15 X53 at_501 rfl (feq (by decide : ¬ (1 : Int32) = 0)).1 <| G.f 505 (z := 1) C15 X53 at_504 rfl (by decide) <| G.r 509 C15 X53 at_505 (by decide) (by decide) ?_
    exact G.aA C15 X53 (ew hw) Hd28 at_509 hret (by simp) (z' := (1 : Int32)) (by decide) hlk (fun _ _ => rfl) (by decide) (by decide)
  · refine G.w 7 C X0 at_5 rfl (l' := #[vI i0, vI i1, vI i2, vI i3, vI i4, vI 1, .unset, .unset, .unset, .unset, .unset, .unset, .unset]) rfl ?_
    have hva := own_val_len i3
    have hEa := own_escL_len (own_val i3)
    have hvb := own_val_len i4
    have hEb := own_escL_len (own_val i4)
    refine G.b 8 C X0 at_7 rfl rfl <| G.aa 11 (z := 255) C X0 at_8 rfl (by decide) <| G.ab 12 (z := (i1 &&& (255 : Int32))) C X0 at_11 rfl rfl ?_
    obtain ⟨ma, h_ma⟩ : ∃ z : Int32, (i1 &&& (255 : Int32)).toUInt32.toUInt16.toUInt32.toInt32 = z := ⟨_, rfl⟩
    refine G.ai 13 (z := ma) C X0 at_12 rfl h_ma ?_
    have l_ma := own_lat_mask h_ma
    refine G.w 15 C X0 at_13 rfl (l' := #[vI i0, vI i1, vI i2, vI i3, vI i4, vI 1, vI ma, .unset, .unset, .unset, .unset, .unset, .unset]) rfl <| G.b 16 C X0 at_15 rfl rfl <| G.aa 19 (z := 255) C X0 at_16 rfl (by decide) <| G.ab 20 (z := (i2 &&& (255 : Int32))) C X0 at_19 rfl rfl ?_
    obtain ⟨mb, h_mb⟩ : ∃ z : Int32, (i2 &&& (255 : Int32)).toUInt32.toUInt16.toUInt32.toInt32 = z := ⟨_, rfl⟩
    refine G.ai 21 (z := mb) C X0 at_20 rfl h_mb ?_
    have l_mb := own_lat_mask h_mb
    refine G.w 23 C X0 at_21 rfl (l' := #[vI i0, vI i1, vI i2, vI i3, vI i4, vI 1, vI ma, vI mb, .unset, .unset, .unset, .unset, .unset]) rfl <| G.U 26 (cells' := 1) (slots' := 3) C X0 (wd0 hw) (wd1 hw) (wd2 hw) at_23 rfl rfl rfl (by decide) (by decide) (fun T54 h54 a54 X54 g54 q54 E54 A54 D54 U54 => ?_)
    have Hd55 := H0.ext E54
    have F54_modCount : Fld Z h54 a54 zq8 "modCount" "I" (.int 0) := D54 (Or.inl (wd22 hw)) (ty := .int) (by decide)
    have F54_elementData : Fld Z h54 a54 zq2 zq7 zq6 .null := D54 (Or.inl (wd25 hw)) (ty := (.array (.object zq3))) (by decide)
    have F54_size : Fld Z h54 a54 zq2 "size" "I" (.int 0) := D54 (Or.inl (wd60 hw)) (ty := .int) (by decide)
    refine G.I 27 C X54 at_26 rfl rfl ?_
    have f56 := (OD.ext E54)
    refine G.N 30 (cells' := 1) (slots' := 3) (argsL := []) (St := [(.ref a54)]) C X54 rfl rfl (wd3 hw) (wd4 hw) (by decide) (wd5 hw) (wd2 hw) (ctAlI hw X54.2.1 a54 de A54 F54_modCount F54_elementData F54_size q54 f56 Sde) (lenOf pd29 rfl) rfl at_27 rfl rfl (by decide) (nQ rfl) rfl rfl (by decide) (by decide) (fun v57 T57 h57 Q57 X57 z57 => ?_)
    obtain ⟨hv57, K57, Ea57, Fa0_57, Fa1_57, Fa2_57⟩ := Q57
    subst hv57
    have Hd58 := Hd55.keep K57 (allS (Safe.exa (EL := consts_1) C.2.1.alike A54 (by decide) (by decide)) all0)
    refine G.P 32 C X57 at_30 rfl rfl (l' := #[vI i0, vI i1, vI i2, vI i3, vI i4, vI 1, vI ma, vI mb, vR a54, .unset, .unset, .unset, .unset]) rfl <| G.U 35 (cells' := 2) (slots' := 6) C X57 (wd0 hw) (wd1 hw) (wd2 hw) at_32 rfl rfl rfl (by decide) (by decide) (fun T59 h59 a59 X59 g59 q59 E59 A59 D59 U59 => ?_)
    have ne60 : a54 ≠ a59 := Nat.ne_of_lt (Nat.lt_of_lt_of_eq Ea57.lt g59.symm)
    have Hd61 := Hd58.ext E59
    have F59_modCount : Fld Z h59 a59 zq8 "modCount" "I" (.int 0) := D59 (Or.inl (wd22 hw)) (ty := .int) (by decide)
    have F59_elementData : Fld Z h59 a59 zq2 zq7 zq6 .null := D59 (Or.inl (wd25 hw)) (ty := (.array (.object zq3))) (by decide)
    have F59_size : Fld Z h59 a59 zq2 "size" "I" (.int 0) := D59 (Or.inl (wd60 hw)) (ty := .int) (by decide)
    refine G.I 36 C X59 at_35 rfl rfl ?_
    have f62 := ((f56.keep K57 (allS q54 all0)).ext E59)
    refine G.N 39 (cells' := 2) (slots' := 6) (argsL := []) (St := [(.ref a59)]) C X59 rfl rfl (wd3 hw) (wd4 hw) (by decide) (wd5 hw) (wd2 hw) (ctAlI hw X59.2.1 a59 de A59 F59_modCount F59_elementData F59_size q59 f62 Sde) (lenOf pd29 rfl) rfl at_36 rfl rfl (by decide) (nQ rfl) rfl rfl (by decide) (by decide) (fun v63 T63 h63 Q63 X63 z63 => ?_)
    obtain ⟨hv63, K63, Ea63, Fa0_63, Fa1_63, Fa2_63⟩ := Q63
    subst hv63
    have Hd64 := Hd61.keep K63 (allS (Safe.exa (EL := consts_1) C.2.1.alike A59 (by decide) (by decide)) all0)
    refine G.P 41 C X63 at_39 rfl rfl (l' := #[vI i0, vI i1, vI i2, vI i3, vI i4, vI 1, vI ma, vI mb, vR a54, vR a59, .unset, .unset, .unset]) rfl <| G.g 43 C X63 at_41 rfl rfl <| G.f 44 (z := 1) C X63 at_43 rfl (by decide) <| G.t 47 C X63 at_44 rfl (flt (by decide : ¬ (1 : Int32) < 1)).1 <| G.d 49 C X63 at_47 rfl rfl rfl <| G.g 51 C X63 at_49 rfl rfl ?_
    have f65 := (f62.keep K63 (allS q59 all0))
    refine G.i 54 (cells' := 4) (slots' := 11) (argsL := [(.int ma)]) (St := [(.ref a54)]) C X63 (wd143 hw) (wd144 hw) (by decide) (wd145 hw) (wd44 hw) (ctVof hw X63.2.1 ma cz l_ma f65 S2 hcz) (lenOf pd41 rfl) rfl at_51 rfl rfl (by decide) (nQ rfl) rfl rfl (by decide) (by decide) (fun v66 T66 h66 Q66 X66 z66 => ?_)
    obtain ⟨b66, t66, k66, hv66, K66, E66, F66c, F66v, V66⟩ := Q66
    subst hv66
    have Hd67 := Hd64.keep K66 all0
    have f68 := (((Ea57.ext E59).keep K63).keep K66)
    have na69 : b66 ≠ a54 := Exa.ne E66 f68 (by decide)
    have f70 := (Ea63.keep K66)
    have na71 : b66 ≠ a59 := Exa.ne E66 f70 (by decide)
    have na73 : t66 ≠ a54 := Ne.symm (Exa.neArv f68 V66 (wd1 hw))
    have na74 : t66 ≠ a59 := Ne.symm (Exa.neArv f70 V66 (wd1 hw))
    have f75 := (((Fa0_57.ext E59).keep K63 (ninS ne60 nin0)).keep K66 nin0)
    have f76 := (((Fa1_57.ext E59).keep K63 (ninS ne60 nin0)).keep K66 nin0)
    have f77 := (((Fa2_57.ext E59).keep K63 (ninS ne60 nin0)).keep K66 nin0)
    have f78 := (f65.keep K66 all0)
    refine G.G 59 (cells' := 5) (slots' := 21) (argsL := [(.ref b66)]) (St := []) C X66 (wd157 hw) (wd158 hw) (wd159 hw) (wd160 hw) (wd161 hw) (wd162 hw) (wd163 hw) (wd57 hw) (by decide) rfl f68 (wd164 hw) (wd2 hw) (ctAdd0 hw X66.2.1 b66 a54 de kd E66 f68 f75 f76 f77 q54 f78 Sde Vd) (lenOf pd42 rfl) rfl at_54 rfl rfl (by decide) (nQ rfl) rfl rfl (by decide) (by decide) (fun v79 T79 h79 Q79 X79 z79 => ?_)
    obtain ⟨ea79, ke79, hv79, K79, hz79, Ea79, Fa0_79, Fa1_79, Fa2_79, Ve79, Oe79⟩ := Q79
    subst hv79
    have Hd80 := Hd67.keep K79 (allS (Safe.exa (EL := consts_1) C.2.1.alike f68 (by decide) (by decide)) all0)
    have nb79_a59 : a59 ≠ ea79 := Nat.ne_of_lt (Nat.lt_of_lt_of_le f70.lt hz79)
    refine G.v 60 C X79 at_59 rfl rfl <| G.d 62 C X79 at_60 rfl rfl rfl <| G.b 63 C X79 at_62 rfl rfl ?_
    have f81 := (f78.keep K79 (allS q54 all0))
    refine G.ag 66 (cells' := 9) (slots' := 45) (argsL := [(.int i3)]) (St := [(.ref a59)]) C X79 (ew hw) Hd80 (wd188 hw) (wd189 hw) (by decide) (wd190 hw) (wd141 hw) (ctValue hw X79.2.1 i3 cz f81 S2 hcz) (fun _ hx => by cases hx) (lenOf pd43 rfl) rfl at_63 rfl rfl (by decide) (nQ rfl) rfl rfl (by decide) (by decide) (fun v82 vm82 T82 h82 Q82 C82 X82 Hd82 R82 => ?_)
    obtain ⟨b82, t82, k82, hv82, K82, E82, F82c, F82v, V82⟩ := Q82
    subst hv82
    have f83 := (Ea79.keep K82)
    have f85 := ((f70.keep K79).keep K82)
    have na86 : b82 ≠ a59 := Exa.ne E82 f85 (by decide)
    have f87 := ((V66.keep K79 (ninS na73 nin0)).keep K82 nin0)
    have f89 := (Ve79.keep K82 nin0)
    have na93 : t82 ≠ a59 := Ne.symm (Exa.neArv f85 V82 (wd1 hw))
    have f94 := ((E66.keep K79).keep K82)
    have f97 := (((Fa0_63.keep K66 nin0).keep K79 (ninS (Ne.symm ne60) nin0)).keep K82 nin0)
    have f98 := (((Fa1_63.keep K66 nin0).keep K79 (ninS (Ne.symm ne60) nin0)).keep K82 nin0)
    have f99 := (((Fa2_63.keep K66 nin0).keep K79 (ninS (Ne.symm ne60) nin0)).keep K82 nin0)
    have f100 := (f81.keep K82 all0)
    refine G.G 71 (cells' := 10) (slots' := 55) (argsL := [(.ref b82)]) (St := []) C82 X82 (wd157 hw) (wd158 hw) (wd159 hw) (wd160 hw) (wd161 hw) (wd162 hw) (wd163 hw) (wd57 hw) (by decide) rfl f85 (wd164 hw) (wd2 hw) (ctAdd0 hw X82.2.1 b82 a59 de kd E82 f85 f97 f98 f99 q59 f100 Sde Vd) (lenOf pd42 rfl) rfl at_66 rfl rfl (by decide) (nQ rfl) rfl rfl (by decide) (by decide) (fun v101 T101 h101 Q101 X101 z101 => ?_)
    obtain ⟨ea101, ke101, hv101, K101, hz101, Ea101, Fa0_101, Fa1_101, Fa2_101, Ve101, Oe101⟩ := Q101
    subst hv101
    have Hd102 := Hd82.keep K101 (allS (Safe.exa (EL := consts_1) C82.2.1.alike f85 (by decide) (by decide)) all0)
    refine G.v 72 C82 X101 at_71 rfl rfl <| G.g 74 C82 X101 at_72 rfl rfl <| G.f 75 (z := 2) C82 X101 at_74 rfl (by decide) <| G.q 104 C82 X101 at_75 (tlt (by decide : (1 : Int32) < 2)).1 (by decide) (by decide) <| G.d 106 C82 X101 at_104 rfl rfl rfl <| G.d 108 C82 X101 at_106 rfl rfl rfl ?_
    have f103 := (f94.keep K101)
    have f104 := (((F66v.keep K79 (ninS na69 nin0)).keep K82 nin0).keep K101 (ninS na71 nin0))
    have f105 := (((F66c.keep K79 (ninS na69 nin0)).keep K82 nin0).keep K101 (ninS na71 nin0))
    have f106 := (f87.keep K101 (ninS na74 nin0))
    have f107 := (E82.keep K101)
    have f108 := (F82v.keep K101 (ninS na86 nin0))
    have f109 := (F82c.keep K101 (ninS na86 nin0))
    have f110 := (V82.keep K101 (ninS na93 nin0))
    have f111 := (f83.keep K101)
    have f112 := ((Fa2_79.keep K82 nin0).keep K101 (ninS ne60 nin0))
    have f113 := ((Fa1_79.keep K82 nin0).keep K101 (ninS ne60 nin0))
    have f114 := (f89.keep K101 (ninS (Ne.symm nb79_a59) nin0))
    have f115 := (f100.keep K101 (allS q59 all0))
    refine G.ag 111 (cells' := 54) (slots' := 1155) (argsL := [(.ref a54), (.ref a59)]) (St := []) C82 X101 (ew hw) Hd102 (wd26 hw) (wd27 hw) (by decide) (wd29 hw) (wd28 hw) (ctLab1 hw X101.2.1 a54 a59 b66 t66 b82 t82 k66 k82 ma (own_val i3) ea79 ea101 ke79 ke101 cz fmt f103 f104 f105 f106 f107 f108 f109 f110 l_ma (own_val_len _) (own_val_lat _) f111 f112 f113 f114 Ea101 Fa2_101 Fa1_101 Ve101 Sf hfm f115 S2 hcz) (fun _ hx => by cases hx) (lenOf pd39 rfl) rfl at_108 rfl rfl (by decide) (nQ rfl) rfl rfl (by decide) (by decide) (fun v116 vm116 T116 h116 Q116 C116 X116 Hd116 R116 => ?_)
    obtain ⟨b116, t116, k116, hv116, K116, E116, F116c, F116v, V116⟩ := Q116
    subst hv116
    refine G.P 113 C116 X116 at_111 rfl rfl (l' := #[vI i0, vI i1, vI i2, vI i3, vI i4, vI 1, vI ma, vI mb, vR a54, vR a59, vR b116, .unset, .unset]) rfl <| G.j 115 (z := 24) C116 X116 at_113 rfl (by decide) <| G.af 117 (cap := 24) (d0 := (.int 0)) (cells' := 55) (slots' := 1179) C116 X116 (wd127 hw) rfl at_115 rfl (by decide) (by decide) (by decide) rfl rfl rfl (by decide) (by decide) (fun T138 h138 a138 k138 X138 g138 q138 E138 V138 => ?_)
    have ne147 : b116 ≠ a138 := Nat.ne_of_lt (Nat.lt_of_lt_of_eq E116.lt g138.symm)
    have ne148 : t116 ≠ a138 := Nat.ne_of_lt (Nat.lt_of_lt_of_eq V116.lt g138.symm)
    have Hd149 := Hd116.ext E138
    replace V138 : Arv Z h138 a138 k138 .char (24 : Int32) [] (.int 0) := V138.pad (pad_rep [] (.int 0) 0)
    have Vz : Arv Z h138 a138 k138 .char (24 : Int32) (tc ([] : List Int32)) (.int 0) := V138
    refine G.P 119 C116 X138 at_117 rfl rfl (l' := #[vI i0, vI i1, vI i2, vI i3, vI i4, vI 1, vI ma, vI mb, vR a54, vR a59, vR b116, vR a138, .unset]) rfl <| G.f 120 (z := 0) C116 X138 at_119 rfl (by decide) <| G.w 122 C116 X138 at_120 rfl (l' := #[vI i0, vI i1, vI i2, vI i3, vI i4, vI 1, vI ma, vI mb, vR a54, vR a59, vR b116, vR a138, vI 0]) rfl <| G.g 124 C116 X138 at_122 rfl rfl <| G.f 125 (z := 1) C116 X138 at_124 rfl (by decide) <| G.t 128 C116 X138 at_125 rfl (flt (by decide : ¬ (1 : Int32) < 1)).1 <| G.d 130 C116 X138 at_128 rfl rfl rfl <| G.g 132 C116 X138 at_130 rfl rfl <| G.j 134 (z := 123) C116 X138 at_132 rfl (by decide) ?_
    have Vp150 := Vz.pad (pad_rep (tc ([] : List Int32)) (.int 0) 1)
    refine G.A 135 C116 X138 Vp150 q138 (i := 0) at_134 rfl ⟨by decide, by decide⟩ (by decide) (Nat.lt_of_lt_of_eq (show 0 < 1 from by decide) (by simp [tc_len])) (fun T151 h151 X151 W151 V151 => ?_)
    replace V151 : Arv Z h151 a138 k138 .char (24 : Int32) (tc (([] : List Int32) ++ [(123 : Int32)])) (.int 0) := by rw [show nar .char (123 : Int32) = (123 : Int32) from by decide] at V151; rw [← own_sc1 ([] : List Int32) (123 : Int32) (.int 0)]; exact V151
    have Hd152 := Hd149.wr W151 (safe_arv (EL := consts_1) C116.2.1.alike Vp150 (by decide))
    refine G.d 137 C116 X151 at_135 rfl rfl rfl <| G.g 139 C116 X151 at_137 rfl rfl <| G.f 140 (z := 1) C116 X151 at_139 rfl (by decide) <| G.x 141 (z := (1 : Int32)) C116 X151 at_140 rfl (by decide) <| G.g 143 C116 X151 at_141 rfl rfl ?_
    have Vp153 := V151.pad (pad_rep (tc (([] : List Int32) ++ [(123 : Int32)])) (.int 0) 1)
    refine G.A 144 C116 X151 Vp153 q138 (i := 1) at_143 rfl ⟨by decide, by decide⟩ (by decide) (Nat.lt_of_lt_of_eq (show 1 < 2 from by decide) (by simp [tc_len])) (fun T154 h154 X154 W154 V154 => ?_)
    replace V154 : Arv Z h154 a138 k138 .char (24 : Int32) (tc ((([] : List Int32) ++ [(123 : Int32)]) ++ [ma])) (.int 0) := by rw [own_nar_lat l_ma] at V154; rw [← own_sc1 (([] : List Int32) ++ [(123 : Int32)]) ma (.int 0)]; exact V154
    have Hd155 := Hd152.wr W154 (safe_arv (EL := consts_1) C116.2.1.alike Vp153 (by decide))
    refine G.d 146 C116 X154 at_144 rfl rfl rfl <| G.g 148 C116 X154 at_146 rfl rfl <| G.f 149 (z := 2) C116 X154 at_148 rfl (by decide) <| G.x 150 (z := (2 : Int32)) C116 X154 at_149 rfl (by decide) <| G.j 152 (z := 61) C116 X154 at_150 rfl (by decide) ?_
    have Vp156 := V154.pad (pad_rep (tc ((([] : List Int32) ++ [(123 : Int32)]) ++ [ma])) (.int 0) 1)
    refine G.A 153 C116 X154 Vp156 q138 (i := 2) at_152 rfl ⟨by decide, by decide⟩ (by decide) (Nat.lt_of_lt_of_eq (show 2 < 3 from by decide) (by simp [tc_len])) (fun T157 h157 X157 W157 V157 => ?_)
    replace V157 : Arv Z h157 a138 k138 .char (24 : Int32) (tc (((([] : List Int32) ++ [(123 : Int32)]) ++ [ma]) ++ [(61 : Int32)])) (.int 0) := by rw [show nar .char (61 : Int32) = (61 : Int32) from by decide] at V157; rw [← own_sc1 ((([] : List Int32) ++ [(123 : Int32)]) ++ [ma]) (61 : Int32) (.int 0)]; exact V157
    have Hd158 := Hd155.wr W157 (safe_arv (EL := consts_1) C116.2.1.alike Vp156 (by decide))
    refine G.d 155 C116 X157 at_153 rfl rfl rfl <| G.g 157 C116 X157 at_155 rfl rfl <| G.f 158 (z := 3) C116 X157 at_157 rfl (by decide) <| G.x 159 (z := (3 : Int32)) C116 X157 at_158 rfl (by decide) <| G.j 161 (z := 34) C116 X157 at_159 rfl (by decide) ?_
    have Vp159 := V157.pad (pad_rep (tc (((([] : List Int32) ++ [(123 : Int32)]) ++ [ma]) ++ [(61 : Int32)])) (.int 0) 1)
    refine G.A 162 C116 X157 Vp159 q138 (i := 3) at_161 rfl ⟨by decide, by decide⟩ (by decide) (Nat.lt_of_lt_of_eq (show 3 < 4 from by decide) (by simp [tc_len])) (fun T160 h160 X160 W160 V160 => ?_)
    replace V160 : Arv Z h160 a138 k138 .char (24 : Int32) (tc ((((([] : List Int32) ++ [(123 : Int32)]) ++ [ma]) ++ [(61 : Int32)]) ++ [(34 : Int32)])) (.int 0) := by rw [show nar .char (34 : Int32) = (34 : Int32) from by decide] at V160; rw [← own_sc1 (((([] : List Int32) ++ [(123 : Int32)]) ++ [ma]) ++ [(61 : Int32)]) (34 : Int32) (.int 0)]; exact V160
    have Hd161 := Hd158.wr W160 (safe_arv (EL := consts_1) C116.2.1.alike Vp159 (by decide))
    refine G.d 164 C116 X160 at_162 rfl rfl rfl <| G.g 166 C116 X160 at_164 rfl rfl <| G.f 167 (z := 4) C116 X160 at_166 rfl (by decide) <| G.x 168 (z := (4 : Int32)) C116 X160 at_167 rfl (by decide) <| G.b 169 C116 X160 at_168 rfl rfl <| G.i 172 (cells' := 55) (slots' := 1179) (argsL := [(.ref a138), (.int 4), (.int i3)]) (St := []) C116 X160 (wd303 hw) (wd304 hw) (by decide) (wd305 hw) (wd141 hw) (ctEv hw X160.2.1 a138 k138 ((((([] : List Int32) ++ [(123 : Int32)]) ++ [ma]) ++ [(61 : Int32)]) ++ [(34 : Int32)]) i3 V160 q138 (by first | omega | (simp only [List.length_append, List.length_cons, List.length_nil]; omega))) (lenOf pd44 rfl) rfl at_169 rfl rfl (by decide) (nQ rfl) rfl rfl (by decide) (by decide) (fun v162 T162 h162 Q162 X162 z162 => ?_)
    obtain ⟨hv162, K162, Ve162⟩ := Q162
    subst hv162
    have Hd163 := Hd161.keep K162 (allS (safe_arv (EL := consts_1) C116.2.1.alike V160 (by decide)) all0)
    refine G.w 174 C116 X162 at_172 rfl (l' := #[vI i0, vI i1, vI i2, vI i3, vI i4, vI 1, vI ma, vI mb, vR a54, vR a59, vR b116, vR a138, .val (.int (own_n ((((((([] : List Int32) ++ [(123 : Int32)]) ++ [ma]) ++ [(61 : Int32)]) ++ [(34 : Int32)]) ++ (own_escL (own_val i3)))).length))]) rfl <| G.d 176 C116 X162 at_174 rfl rfl rfl <| G.g 178 C116 X162 at_176 rfl rfl <| G.j 180 (z := 34) C116 X162 at_178 rfl (by decide) ?_
    have Vp164 := Ve162.pad (pad_rep (tc (((((([] : List Int32) ++ [(123 : Int32)]) ++ [ma]) ++ [(61 : Int32)]) ++ [(34 : Int32)]) ++ (own_escL (own_val i3)))) (.int 0) 1)
    refine G.A 181 C116 X162 Vp164 q138 (i := ((((((([] : List Int32) ++ [(123 : Int32)]) ++ [ma]) ++ [(61 : Int32)]) ++ [(34 : Int32)]) ++ (own_escL (own_val i3)))).length) at_180 rfl (own_ix (by decide) (by first | omega | (simp only [List.length_append, List.length_cons, List.length_nil]; omega)) (by rw [show (24 : Int32).toNatClampNeg = 24 from by decide]; first | omega | (simp only [List.length_append, List.length_cons, List.length_nil]; omega))) (own_n_cl (by first | omega | (simp only [List.length_append, List.length_cons, List.length_nil]; omega))) (by simp [tc_len]) (fun T165 h165 X165 W165 V165 => ?_)
    replace V165 : Arv Z h165 a138 k138 .char (24 : Int32) (tc ((((((([] : List Int32) ++ [(123 : Int32)]) ++ [ma]) ++ [(61 : Int32)]) ++ [(34 : Int32)]) ++ (own_escL (own_val i3))) ++ [(34 : Int32)])) (.int 0) := by rw [show nar .char (34 : Int32) = (34 : Int32) from by decide] at V165; rw [← own_sc1 (((((([] : List Int32) ++ [(123 : Int32)]) ++ [ma]) ++ [(61 : Int32)]) ++ [(34 : Int32)]) ++ (own_escL (own_val i3))) (34 : Int32) (.int 0)]; exact V165
    have Hd166 := Hd163.wr W165 (safe_arv (EL := consts_1) C116.2.1.alike Vp164 (by decide))
    refine G.g 183 C116 X165 at_181 rfl rfl <| G.f 184 (z := 1) C116 X165 at_183 rfl (by decide) <| G.x 185 (z := (own_n (((((((([] : List Int32) ++ [(123 : Int32)]) ++ [ma]) ++ [(61 : Int32)]) ++ [(34 : Int32)]) ++ (own_escL (own_val i3))) ++ [(34 : Int32)])).length)) C116 X165 at_184 rfl (own_nk (((((([] : List Int32) ++ [(123 : Int32)]) ++ [ma]) ++ [(61 : Int32)]) ++ [(34 : Int32)]) ++ (own_escL (own_val i3))) ((((((([] : List Int32) ++ [(123 : Int32)]) ++ [ma]) ++ [(61 : Int32)]) ++ [(34 : Int32)]) ++ (own_escL (own_val i3))) ++ [(34 : Int32)]) 1 (by simp only [List.length_append, List.length_cons, List.length_nil])) <| G.w 187 C116 X165 at_185 rfl (l' := #[vI i0, vI i1, vI i2, vI i3, vI i4, vI 1, vI ma, vI mb, vR a54, vR a59, vR b116, vR a138, .val (.int (own_n (((((((([] : List Int32) ++ [(123 : Int32)]) ++ [ma]) ++ [(61 : Int32)]) ++ [(34 : Int32)]) ++ (own_escL (own_val i3))) ++ [(34 : Int32)])).length))]) rfl <| G.g 189 C116 X165 at_187 rfl rfl <| G.f 190 (z := 2) C116 X165 at_189 rfl (by decide) <| G.q 253 C116 X165 at_190 (tlt (by decide : (1 : Int32) < 2)).1 (by decide) (by decide) <| G.g 255 C116 X165 at_253 rfl rfl <| G.f 256 (z := 1) C116 X165 at_255 rfl (by decide) <| G.t 259 C116 X165 at_256 rfl (flt (by decide : ¬ (1 : Int32) < 1)).1 <| G.d 261 C116 X165 at_259 rfl rfl rfl <| G.g 263 C116 X165 at_261 rfl rfl <| G.j 265 (z := 125) C116 X165 at_263 rfl (by decide) ?_
    have Vp167 := V165.pad (pad_rep (tc ((((((([] : List Int32) ++ [(123 : Int32)]) ++ [ma]) ++ [(61 : Int32)]) ++ [(34 : Int32)]) ++ (own_escL (own_val i3))) ++ [(34 : Int32)])) (.int 0) 1)
    refine G.A 266 C116 X165 Vp167 q138 (i := (((((((([] : List Int32) ++ [(123 : Int32)]) ++ [ma]) ++ [(61 : Int32)]) ++ [(34 : Int32)]) ++ (own_escL (own_val i3))) ++ [(34 : Int32)])).length) at_265 rfl (own_ix (by decide) (by first | omega | (simp only [List.length_append, List.length_cons, List.length_nil]; omega)) (by rw [show (24 : Int32).toNatClampNeg = 24 from by decide]; first | omega | (simp only [List.length_append, List.length_cons, List.length_nil]; omega))) (own_n_cl (by first | omega | (simp only [List.length_append, List.length_cons, List.length_nil]; omega))) (by simp [tc_len]) (fun T168 h168 X168 W168 V168 => ?_)
    replace V168 : Arv Z h168 a138 k138 .char (24 : Int32) (tc (((((((([] : List Int32) ++ [(123 : Int32)]) ++ [ma]) ++ [(61 : Int32)]) ++ [(34 : Int32)]) ++ (own_escL (own_val i3))) ++ [(34 : Int32)]) ++ [(125 : Int32)])) (.int 0) := by rw [show nar .char (125 : Int32) = (125 : Int32) from by decide] at V168; rw [← own_sc1 ((((((([] : List Int32) ++ [(123 : Int32)]) ++ [ma]) ++ [(61 : Int32)]) ++ [(34 : Int32)]) ++ (own_escL (own_val i3))) ++ [(34 : Int32)]) (125 : Int32) (.int 0)]; exact V168
    have Hd169 := Hd166.wr W168 (safe_arv (EL := consts_1) C116.2.1.alike Vp167 (by decide))
    refine G.g 268 C116 X168 at_266 rfl rfl <| G.f 269 (z := 1) C116 X168 at_268 rfl (by decide) <| G.x 270 (z := (own_n ((((((((([] : List Int32) ++ [(123 : Int32)]) ++ [ma]) ++ [(61 : Int32)]) ++ [(34 : Int32)]) ++ (own_escL (own_val i3))) ++ [(34 : Int32)]) ++ [(125 : Int32)])).length)) C116 X168 at_269 rfl (own_nk ((((((([] : List Int32) ++ [(123 : Int32)]) ++ [ma]) ++ [(61 : Int32)]) ++ [(34 : Int32)]) ++ (own_escL (own_val i3))) ++ [(34 : Int32)]) (((((((([] : List Int32) ++ [(123 : Int32)]) ++ [ma]) ++ [(61 : Int32)]) ++ [(34 : Int32)]) ++ (own_escL (own_val i3))) ++ [(34 : Int32)]) ++ [(125 : Int32)]) 1 (by simp only [List.length_append, List.length_cons, List.length_nil])) <| G.w 272 C116 X168 at_270 rfl (l' := #[vI i0, vI i1, vI i2, vI i3, vI i4, vI 1, vI ma, vI mb, vR a54, vR a59, vR b116, vR a138, .val (.int (own_n ((((((((([] : List Int32) ++ [(123 : Int32)]) ++ [ma]) ++ [(61 : Int32)]) ++ [(34 : Int32)]) ++ (own_escL (own_val i3))) ++ [(34 : Int32)]) ++ [(125 : Int32)])).length))]) rfl ?_
    have hRX : ((((((([] : List Int32) ++ [(123 : Int32)]) ++ [ma]) ++ ([61, 34] : List Int32)) ++ (own_escL (own_val i3))) ++ [(34 : Int32)]) ++ [(125 : Int32)]) = (((((((([] : List Int32) ++ [(123 : Int32)]) ++ [ma]) ++ [(61 : Int32)]) ++ [(34 : Int32)]) ++ (own_escL (own_val i3))) ++ [(34 : Int32)]) ++ [(125 : Int32)]) := by first | rfl | simp only [List.append_assoc, List.cons_append, List.nil_append, List.append_nil]
    have f170 := ((((((((V116.ext E138).other W151 ne148).other W154 ne148).other W157 ne148).other W160 ne148).keep K162 (ninS ne148 nin0)).other W165 ne148).other W168 ne148)
    have Vy : Arv Z h168 t116 k116 .byte (own_n ((((((((([] : List Int32) ++ [(123 : Int32)]) ++ [ma]) ++ [(61 : Int32)]) ++ [(34 : Int32)]) ++ (own_escL (own_val i3))) ++ [(34 : Int32)]) ++ [(125 : Int32)])).length) (tx (((((((([] : List Int32) ++ [(123 : Int32)]) ++ [ma]) ++ [(61 : Int32)]) ++ [(34 : Int32)]) ++ (own_escL (own_val i3))) ++ [(34 : Int32)]) ++ [(125 : Int32)])) (.int 0) := by rw [← hRX]; exact f170
    have hLA : ∀ c ∈ (((((((([] : List Int32) ++ [(123 : Int32)]) ++ [ma]) ++ [(61 : Int32)]) ++ [(34 : Int32)]) ++ (own_escL (own_val i3))) ++ [(34 : Int32)]) ++ [(125 : Int32)]), own_lat c := (own_alA (own_alA (own_alA (own_alA (own_alA (own_alA (own_alA own_al0 (own_alS (by unfold own_lat; decide) own_al0)) (own_alS l_ma own_al0)) (own_alS (by unfold own_lat; decide) own_al0)) (own_alS (by unfold own_lat; decide) own_al0)) (own_escL_lat (own_val_lat i3))) (own_alS (by unfold own_lat; decide) own_al0)) (own_alS (by unfold own_lat; decide) own_al0))
    have hXb : ((((((((([] : List Int32) ++ [(123 : Int32)]) ++ [ma]) ++ [(61 : Int32)]) ++ [(34 : Int32)]) ++ (own_escL (own_val i3))) ++ [(34 : Int32)]) ++ [(125 : Int32)])).length < 1000 := by simp only [List.length_append, List.length_cons, List.length_nil]; omega
    refine G.d 274 C116 X168 at_272 rfl rfl rfl ?_
    have f171 := ((((((((E116.ext E138).wr W151).wr W154).wr W157).wr W160).keep K162).wr W165).wr W168)
    have f172 := ((((((((F116v.ext E138).other W151 (Or.inl ne147)).other W154 (Or.inl ne147)).other W157 (Or.inl ne147)).other W160 (Or.inl ne147)).keep K162 (ninS ne147 nin0)).other W165 (Or.inl ne147)).other W168 (Or.inl ne147))
    have f173 := ((((((((F116c.ext E138).other W151 (Or.inl ne147)).other W154 (Or.inl ne147)).other W157 (Or.inl ne147)).other W160 (Or.inl ne147)).keep K162 (ninS ne147 nin0)).other W165 (Or.inl ne147)).other W168 (Or.inl ne147))
    have f174 := (((((((((f115.keep K116 all0).ext E138).wr W151 q138).wr W154 q138).wr W157 q138).wr W160 q138).keep K162 (allS q138 all0)).wr W165 q138).wr W168 q138)
    refine G.o 277 (cells' := 55) (slots' := 1179) (argsL := []) (St := []) C116 X168 (wd128 hw) (wd129 hw) (wd131 hw) (wd130 hw) (by decide) f171 (wd132 hw) (wd44 hw) (ctLenA hw X168.2.1 b116 t116 k116 (((((((([] : List Int32) ++ [(123 : Int32)]) ++ [ma]) ++ [(61 : Int32)]) ++ [(34 : Int32)]) ++ (own_escL (own_val i3))) ++ [(34 : Int32)]) ++ [(125 : Int32)]) cz f171 f172 f173 Vy f174 S2 hcz) (lenOf pd8 rfl) rfl at_274 rfl rfl (by decide) (nQ rfl) rfl rfl (by decide) (by decide) (fun v175 T175 h175 Q175 X175 z175 => ?_)
    obtain ⟨hv175, hh175⟩ := Q175
    subst hv175; rw [hh175] at X175
    refine G.g 279 C116 X175 at_277 rfl rfl <| G.t 282 C116 X175 at_279 rfl (teq rfl).2 <| G.d 284 C116 X175 at_282 rfl rfl rfl <| G.d 286 C116 X175 at_284 rfl rfl rfl <| G.f 287 (z := 0) C116 X175 at_286 rfl (by decide) <| G.i 290 (cells' := 55) (slots' := 1179) (argsL := [(.ref b116), (.ref a138), (.int 0)]) (St := []) C116 X175 (wd139 hw) (wd140 hw) (by decide) (wd142 hw) (wd141 hw) (ctAt hw X175.2.1 b116 t116 k116 (((((((([] : List Int32) ++ [(123 : Int32)]) ++ [ma]) ++ [(61 : Int32)]) ++ [(34 : Int32)]) ++ (own_escL (own_val i3))) ++ [(34 : Int32)]) ++ [(125 : Int32)]) a138 k138 (0 : Int32) cz fmt f171 f172 f173 Vy V168 (by decide) (by decide) hXb hLA Sf hfm f174 S2 hcz) (lenOf pd40 rfl) rfl at_287 rfl rfl (by decide) (nQ rfl) rfl rfl (by decide) (by decide) (fun v176 T176 h176 Q176 X176 z176 => ?_)
    obtain ⟨hv176, hh176⟩ := Q176
    subst hv176; rw [hh176] at X176
    refine G.k 293 C116 X176 at_290 rfl (feq (by decide : ¬ (1 : Int32) = 0)).1 <| G.d 295 C116 X176 at_293 rfl rfl rfl <| G.d 297 C116 X176 at_295 rfl rfl rfl <| G.f 298 (z := 1) C116 X176 at_297 rfl (by decide) <| G.i 301 (cells' := 55) (slots' := 1179) (argsL := [(.ref b116), (.ref a138), (.int 1)]) (St := []) C116 X176 (wd139 hw) (wd140 hw) (by decide) (wd142 hw) (wd141 hw) (ctAt hw X176.2.1 b116 t116 k116 (((((((([] : List Int32) ++ [(123 : Int32)]) ++ [ma]) ++ [(61 : Int32)]) ++ [(34 : Int32)]) ++ (own_escL (own_val i3))) ++ [(34 : Int32)]) ++ [(125 : Int32)]) a138 k138 (1 : Int32) cz fmt f171 f172 f173 Vy V168 (by decide) (by decide) hXb hLA Sf hfm f174 S2 hcz) (lenOf pd40 rfl) rfl at_298 rfl rfl (by decide) (nQ rfl) rfl rfl (by decide) (by decide) (fun v177 T177 h177 Q177 X177 z177 => ?_)
    obtain ⟨hv177, hh177⟩ := Q177
    subst hv177; rw [hh177] at X177
    refine G.k 304 C116 X177 at_301 rfl (feq (by decide : ¬ (1 : Int32) = 0)).1 <| G.d 306 C116 X177 at_304 rfl rfl rfl <| G.d 308 C116 X177 at_306 rfl rfl rfl <| G.f 309 (z := 2) C116 X177 at_308 rfl (by decide) <| G.i 312 (cells' := 55) (slots' := 1179) (argsL := [(.ref b116), (.ref a138), (.int 2)]) (St := []) C116 X177 (wd139 hw) (wd140 hw) (by decide) (wd142 hw) (wd141 hw) (ctAt hw X177.2.1 b116 t116 k116 (((((((([] : List Int32) ++ [(123 : Int32)]) ++ [ma]) ++ [(61 : Int32)]) ++ [(34 : Int32)]) ++ (own_escL (own_val i3))) ++ [(34 : Int32)]) ++ [(125 : Int32)]) a138 k138 (2 : Int32) cz fmt f171 f172 f173 Vy V168 (by decide) (by decide) hXb hLA Sf hfm f174 S2 hcz) (lenOf pd40 rfl) rfl at_309 rfl rfl (by decide) (nQ rfl) rfl rfl (by decide) (by decide) (fun v178 T178 h178 Q178 X178 z178 => ?_)
    obtain ⟨hv178, hh178⟩ := Q178
    subst hv178; rw [hh178] at X178
    refine G.k 315 C116 X178 at_312 rfl (feq (by decide : ¬ (1 : Int32) = 0)).1 <| G.d 317 C116 X178 at_315 rfl rfl rfl <| G.d 319 C116 X178 at_317 rfl rfl rfl <| G.f 320 (z := 3) C116 X178 at_319 rfl (by decide) <| G.i 323 (cells' := 55) (slots' := 1179) (argsL := [(.ref b116), (.ref a138), (.int 3)]) (St := []) C116 X178 (wd139 hw) (wd140 hw) (by decide) (wd142 hw) (wd141 hw) (ctAt hw X178.2.1 b116 t116 k116 (((((((([] : List Int32) ++ [(123 : Int32)]) ++ [ma]) ++ [(61 : Int32)]) ++ [(34 : Int32)]) ++ (own_escL (own_val i3))) ++ [(34 : Int32)]) ++ [(125 : Int32)]) a138 k138 (3 : Int32) cz fmt f171 f172 f173 Vy V168 (by decide) (by decide) hXb hLA Sf hfm f174 S2 hcz) (lenOf pd40 rfl) rfl at_320 rfl rfl (by decide) (nQ rfl) rfl rfl (by decide) (by decide) (fun v179 T179 h179 Q179 X179 z179 => ?_)
    obtain ⟨hv179, hh179⟩ := Q179
    subst hv179; rw [hh179] at X179
    refine G.k 326 C116 X179 at_323 rfl (feq (by decide : ¬ (1 : Int32) = 0)).1 <| G.d 328 C116 X179 at_326 rfl rfl rfl <| G.d 330 C116 X179 at_328 rfl rfl rfl <| G.f 331 (z := 4) C116 X179 at_330 rfl (by decide) <| G.i 334 (cells' := 55) (slots' := 1179) (argsL := [(.ref b116), (.ref a138), (.int 4)]) (St := []) C116 X179 (wd139 hw) (wd140 hw) (by decide) (wd142 hw) (wd141 hw) (ctAt hw X179.2.1 b116 t116 k116 (((((((([] : List Int32) ++ [(123 : Int32)]) ++ [ma]) ++ [(61 : Int32)]) ++ [(34 : Int32)]) ++ (own_escL (own_val i3))) ++ [(34 : Int32)]) ++ [(125 : Int32)]) a138 k138 (4 : Int32) cz fmt f171 f172 f173 Vy V168 (by decide) (by decide) hXb hLA Sf hfm f174 S2 hcz) (lenOf pd40 rfl) rfl at_331 rfl rfl (by decide) (nQ rfl) rfl rfl (by decide) (by decide) (fun v180 T180 h180 Q180 X180 z180 => ?_)
    obtain ⟨hv180, hh180⟩ := Q180
    subst hv180; rw [hh180] at X180
    refine G.k 337 C116 X180 at_334 rfl (feq (by decide : ¬ (1 : Int32) = 0)).1 <| G.d 339 C116 X180 at_337 rfl rfl rfl <| G.d 341 C116 X180 at_339 rfl rfl rfl <| G.f 342 (z := 5) C116 X180 at_341 rfl (by decide) <| G.i 345 (cells' := 55) (slots' := 1179) (argsL := [(.ref b116), (.ref a138), (.int 5)]) (St := []) C116 X180 (wd139 hw) (wd140 hw) (by decide) (wd142 hw) (wd141 hw) (ctAt hw X180.2.1 b116 t116 k116 (((((((([] : List Int32) ++ [(123 : Int32)]) ++ [ma]) ++ [(61 : Int32)]) ++ [(34 : Int32)]) ++ (own_escL (own_val i3))) ++ [(34 : Int32)]) ++ [(125 : Int32)]) a138 k138 (5 : Int32) cz fmt f171 f172 f173 Vy V168 (by decide) (by decide) hXb hLA Sf hfm f174 S2 hcz) (lenOf pd40 rfl) rfl at_342 rfl rfl (by decide) (nQ rfl) rfl rfl (by decide) (by decide) (fun v181 T181 h181 Q181 X181 z181 => ?_)
    obtain ⟨hv181, hh181⟩ := Q181
    subst hv181; rw [hh181] at X181
    refine G.k 348 C116 X181 at_345 rfl (feq (by decide : ¬ (1 : Int32) = 0)).1 <| G.d 350 C116 X181 at_348 rfl rfl rfl <| G.d 352 C116 X181 at_350 rfl rfl rfl <| G.j 354 (z := 6) C116 X181 at_352 rfl (by decide) <| G.i 357 (cells' := 55) (slots' := 1179) (argsL := [(.ref b116), (.ref a138), (.int 6)]) (St := []) C116 X181 (wd139 hw) (wd140 hw) (by decide) (wd142 hw) (wd141 hw) (ctAt hw X181.2.1 b116 t116 k116 (((((((([] : List Int32) ++ [(123 : Int32)]) ++ [ma]) ++ [(61 : Int32)]) ++ [(34 : Int32)]) ++ (own_escL (own_val i3))) ++ [(34 : Int32)]) ++ [(125 : Int32)]) a138 k138 (6 : Int32) cz fmt f171 f172 f173 Vy V168 (by decide) (by decide) hXb hLA Sf hfm f174 S2 hcz) (lenOf pd40 rfl) rfl at_354 rfl rfl (by decide) (nQ rfl) rfl rfl (by decide) (by decide) (fun v182 T182 h182 Q182 X182 z182 => ?_)
    obtain ⟨hv182, hh182⟩ := Q182
    subst hv182; rw [hh182] at X182
    refine G.k 360 C116 X182 at_357 rfl (feq (by decide : ¬ (1 : Int32) = 0)).1 <| G.d 362 C116 X182 at_360 rfl rfl rfl <| G.d 364 C116 X182 at_362 rfl rfl rfl <| G.j 366 (z := 7) C116 X182 at_364 rfl (by decide) <| G.i 369 (cells' := 55) (slots' := 1179) (argsL := [(.ref b116), (.ref a138), (.int 7)]) (St := []) C116 X182 (wd139 hw) (wd140 hw) (by decide) (wd142 hw) (wd141 hw) (ctAt hw X182.2.1 b116 t116 k116 (((((((([] : List Int32) ++ [(123 : Int32)]) ++ [ma]) ++ [(61 : Int32)]) ++ [(34 : Int32)]) ++ (own_escL (own_val i3))) ++ [(34 : Int32)]) ++ [(125 : Int32)]) a138 k138 (7 : Int32) cz fmt f171 f172 f173 Vy V168 (by decide) (by decide) hXb hLA Sf hfm f174 S2 hcz) (lenOf pd40 rfl) rfl at_366 rfl rfl (by decide) (nQ rfl) rfl rfl (by decide) (by decide) (fun v183 T183 h183 Q183 X183 z183 => ?_)
    obtain ⟨hv183, hh183⟩ := Q183
    subst hv183; rw [hh183] at X183
    refine G.k 372 C116 X183 at_369 rfl (feq (by decide : ¬ (1 : Int32) = 0)).1 <| G.d 374 C116 X183 at_372 rfl rfl rfl <| G.d 376 C116 X183 at_374 rfl rfl rfl <| G.j 378 (z := 8) C116 X183 at_376 rfl (by decide) <| G.i 381 (cells' := 55) (slots' := 1179) (argsL := [(.ref b116), (.ref a138), (.int 8)]) (St := []) C116 X183 (wd139 hw) (wd140 hw) (by decide) (wd142 hw) (wd141 hw) (ctAt hw X183.2.1 b116 t116 k116 (((((((([] : List Int32) ++ [(123 : Int32)]) ++ [ma]) ++ [(61 : Int32)]) ++ [(34 : Int32)]) ++ (own_escL (own_val i3))) ++ [(34 : Int32)]) ++ [(125 : Int32)]) a138 k138 (8 : Int32) cz fmt f171 f172 f173 Vy V168 (by decide) (by decide) hXb hLA Sf hfm f174 S2 hcz) (lenOf pd40 rfl) rfl at_378 rfl rfl (by decide) (nQ rfl) rfl rfl (by decide) (by decide) (fun v184 T184 h184 Q184 X184 z184 => ?_)
    obtain ⟨hv184, hh184⟩ := Q184
    subst hv184; rw [hh184] at X184
    refine G.k 384 C116 X184 at_381 rfl (feq (by decide : ¬ (1 : Int32) = 0)).1 <| G.d 386 C116 X184 at_384 rfl rfl rfl <| G.d 388 C116 X184 at_386 rfl rfl rfl <| G.j 390 (z := 9) C116 X184 at_388 rfl (by decide) <| G.i 393 (cells' := 55) (slots' := 1179) (argsL := [(.ref b116), (.ref a138), (.int 9)]) (St := []) C116 X184 (wd139 hw) (wd140 hw) (by decide) (wd142 hw) (wd141 hw) (ctAt hw X184.2.1 b116 t116 k116 (((((((([] : List Int32) ++ [(123 : Int32)]) ++ [ma]) ++ [(61 : Int32)]) ++ [(34 : Int32)]) ++ (own_escL (own_val i3))) ++ [(34 : Int32)]) ++ [(125 : Int32)]) a138 k138 (9 : Int32) cz fmt f171 f172 f173 Vy V168 (by decide) (by decide) hXb hLA Sf hfm f174 S2 hcz) (lenOf pd40 rfl) rfl at_390 rfl rfl (by decide) (nQ rfl) rfl rfl (by decide) (by decide) (fun v185 T185 h185 Q185 X185 z185 => ?_)
    obtain ⟨hv185, hh185⟩ := Q185
    subst hv185; rw [hh185] at X185
    refine G.k 396 C116 X185 at_393 rfl (feq (by decide : ¬ (1 : Int32) = 0)).1 <| G.d 398 C116 X185 at_396 rfl rfl rfl <| G.d 400 C116 X185 at_398 rfl rfl rfl <| G.j 402 (z := 10) C116 X185 at_400 rfl (by decide) <| G.i 405 (cells' := 55) (slots' := 1179) (argsL := [(.ref b116), (.ref a138), (.int 10)]) (St := []) C116 X185 (wd139 hw) (wd140 hw) (by decide) (wd142 hw) (wd141 hw) (ctAt hw X185.2.1 b116 t116 k116 (((((((([] : List Int32) ++ [(123 : Int32)]) ++ [ma]) ++ [(61 : Int32)]) ++ [(34 : Int32)]) ++ (own_escL (own_val i3))) ++ [(34 : Int32)]) ++ [(125 : Int32)]) a138 k138 (10 : Int32) cz fmt f171 f172 f173 Vy V168 (by decide) (by decide) hXb hLA Sf hfm f174 S2 hcz) (lenOf pd40 rfl) rfl at_402 rfl rfl (by decide) (nQ rfl) rfl rfl (by decide) (by decide) (fun v186 T186 h186 Q186 X186 z186 => ?_)
    obtain ⟨hv186, hh186⟩ := Q186
    subst hv186; rw [hh186] at X186
    refine G.k 408 C116 X186 at_405 rfl (feq (by decide : ¬ (1 : Int32) = 0)).1 <| G.d 410 C116 X186 at_408 rfl rfl rfl <| G.d 412 C116 X186 at_410 rfl rfl rfl <| G.j 414 (z := 11) C116 X186 at_412 rfl (by decide) <| G.i 417 (cells' := 55) (slots' := 1179) (argsL := [(.ref b116), (.ref a138), (.int 11)]) (St := []) C116 X186 (wd139 hw) (wd140 hw) (by decide) (wd142 hw) (wd141 hw) (ctAt hw X186.2.1 b116 t116 k116 (((((((([] : List Int32) ++ [(123 : Int32)]) ++ [ma]) ++ [(61 : Int32)]) ++ [(34 : Int32)]) ++ (own_escL (own_val i3))) ++ [(34 : Int32)]) ++ [(125 : Int32)]) a138 k138 (11 : Int32) cz fmt f171 f172 f173 Vy V168 (by decide) (by decide) hXb hLA Sf hfm f174 S2 hcz) (lenOf pd40 rfl) rfl at_414 rfl rfl (by decide) (nQ rfl) rfl rfl (by decide) (by decide) (fun v187 T187 h187 Q187 X187 z187 => ?_)
    obtain ⟨hv187, hh187⟩ := Q187
    subst hv187; rw [hh187] at X187
    refine G.k 420 C116 X187 at_417 rfl (feq (by decide : ¬ (1 : Int32) = 0)).1 <| G.d 422 C116 X187 at_420 rfl rfl rfl <| G.d 424 C116 X187 at_422 rfl rfl rfl <| G.j 426 (z := 12) C116 X187 at_424 rfl (by decide) <| G.i 429 (cells' := 55) (slots' := 1179) (argsL := [(.ref b116), (.ref a138), (.int 12)]) (St := []) C116 X187 (wd139 hw) (wd140 hw) (by decide) (wd142 hw) (wd141 hw) (ctAt hw X187.2.1 b116 t116 k116 (((((((([] : List Int32) ++ [(123 : Int32)]) ++ [ma]) ++ [(61 : Int32)]) ++ [(34 : Int32)]) ++ (own_escL (own_val i3))) ++ [(34 : Int32)]) ++ [(125 : Int32)]) a138 k138 (12 : Int32) cz fmt f171 f172 f173 Vy V168 (by decide) (by decide) hXb hLA Sf hfm f174 S2 hcz) (lenOf pd40 rfl) rfl at_426 rfl rfl (by decide) (nQ rfl) rfl rfl (by decide) (by decide) (fun v188 T188 h188 Q188 X188 z188 => ?_)
    obtain ⟨hv188, hh188⟩ := Q188
    subst hv188; rw [hh188] at X188
    refine G.k 432 C116 X188 at_429 rfl (feq (by decide : ¬ (1 : Int32) = 0)).1 <| G.d 434 C116 X188 at_432 rfl rfl rfl <| G.d 436 C116 X188 at_434 rfl rfl rfl <| G.j 438 (z := 13) C116 X188 at_436 rfl (by decide) <| G.i 441 (cells' := 55) (slots' := 1179) (argsL := [(.ref b116), (.ref a138), (.int 13)]) (St := []) C116 X188 (wd139 hw) (wd140 hw) (by decide) (wd142 hw) (wd141 hw) (ctAt hw X188.2.1 b116 t116 k116 (((((((([] : List Int32) ++ [(123 : Int32)]) ++ [ma]) ++ [(61 : Int32)]) ++ [(34 : Int32)]) ++ (own_escL (own_val i3))) ++ [(34 : Int32)]) ++ [(125 : Int32)]) a138 k138 (13 : Int32) cz fmt f171 f172 f173 Vy V168 (by decide) (by decide) hXb hLA Sf hfm f174 S2 hcz) (lenOf pd40 rfl) rfl at_438 rfl rfl (by decide) (nQ rfl) rfl rfl (by decide) (by decide) (fun v189 T189 h189 Q189 X189 z189 => ?_)
    obtain ⟨hv189, hh189⟩ := Q189
    subst hv189; rw [hh189] at X189
    refine G.k 444 C116 X189 at_441 rfl (feq (by decide : ¬ (1 : Int32) = 0)).1 <| G.d 446 C116 X189 at_444 rfl rfl rfl <| G.d 448 C116 X189 at_446 rfl rfl rfl <| G.j 450 (z := 14) C116 X189 at_448 rfl (by decide) <| G.i 453 (cells' := 55) (slots' := 1179) (argsL := [(.ref b116), (.ref a138), (.int 14)]) (St := []) C116 X189 (wd139 hw) (wd140 hw) (by decide) (wd142 hw) (wd141 hw) (ctAt hw X189.2.1 b116 t116 k116 (((((((([] : List Int32) ++ [(123 : Int32)]) ++ [ma]) ++ [(61 : Int32)]) ++ [(34 : Int32)]) ++ (own_escL (own_val i3))) ++ [(34 : Int32)]) ++ [(125 : Int32)]) a138 k138 (14 : Int32) cz fmt f171 f172 f173 Vy V168 (by decide) (by decide) hXb hLA Sf hfm f174 S2 hcz) (lenOf pd40 rfl) rfl at_450 rfl rfl (by decide) (nQ rfl) rfl rfl (by decide) (by decide) (fun v190 T190 h190 Q190 X190 z190 => ?_)
    obtain ⟨hv190, hh190⟩ := Q190
    subst hv190; rw [hh190] at X190
    refine G.k 456 C116 X190 at_453 rfl (feq (by decide : ¬ (1 : Int32) = 0)).1 <| G.d 458 C116 X190 at_456 rfl rfl rfl <| G.d 460 C116 X190 at_458 rfl rfl rfl <| G.j 462 (z := 15) C116 X190 at_460 rfl (by decide) <| G.i 465 (cells' := 55) (slots' := 1179) (argsL := [(.ref b116), (.ref a138), (.int 15)]) (St := []) C116 X190 (wd139 hw) (wd140 hw) (by decide) (wd142 hw) (wd141 hw) (ctAt hw X190.2.1 b116 t116 k116 (((((((([] : List Int32) ++ [(123 : Int32)]) ++ [ma]) ++ [(61 : Int32)]) ++ [(34 : Int32)]) ++ (own_escL (own_val i3))) ++ [(34 : Int32)]) ++ [(125 : Int32)]) a138 k138 (15 : Int32) cz fmt f171 f172 f173 Vy V168 (by decide) (by decide) hXb hLA Sf hfm f174 S2 hcz) (lenOf pd40 rfl) rfl at_462 rfl rfl (by decide) (nQ rfl) rfl rfl (by decide) (by decide) (fun v191 T191 h191 Q191 X191 z191 => ?_)
    obtain ⟨hv191, hh191⟩ := Q191
    subst hv191; rw [hh191] at X191
    refine G.k 468 C116 X191 at_465 rfl (feq (by decide : ¬ (1 : Int32) = 0)).1 <| G.d 470 C116 X191 at_468 rfl rfl rfl <| G.d 472 C116 X191 at_470 rfl rfl rfl <| G.j 474 (z := 16) C116 X191 at_472 rfl (by decide) <| G.i 477 (cells' := 55) (slots' := 1179) (argsL := [(.ref b116), (.ref a138), (.int 16)]) (St := []) C116 X191 (wd139 hw) (wd140 hw) (by decide) (wd142 hw) (wd141 hw) (ctAt hw X191.2.1 b116 t116 k116 (((((((([] : List Int32) ++ [(123 : Int32)]) ++ [ma]) ++ [(61 : Int32)]) ++ [(34 : Int32)]) ++ (own_escL (own_val i3))) ++ [(34 : Int32)]) ++ [(125 : Int32)]) a138 k138 (16 : Int32) cz fmt f171 f172 f173 Vy V168 (by decide) (by decide) hXb hLA Sf hfm f174 S2 hcz) (lenOf pd40 rfl) rfl at_474 rfl rfl (by decide) (nQ rfl) rfl rfl (by decide) (by decide) (fun v192 T192 h192 Q192 X192 z192 => ?_)
    obtain ⟨hv192, hh192⟩ := Q192
    subst hv192; rw [hh192] at X192
    refine G.k 480 C116 X192 at_477 rfl (feq (by decide : ¬ (1 : Int32) = 0)).1 <| G.d 482 C116 X192 at_480 rfl rfl rfl <| G.d 484 C116 X192 at_482 rfl rfl rfl <| G.j 486 (z := 17) C116 X192 at_484 rfl (by decide) <| G.i 489 (cells' := 55) (slots' := 1179) (argsL := [(.ref b116), (.ref a138), (.int 17)]) (St := []) C116 X192 (wd139 hw) (wd140 hw) (by decide) (wd142 hw) (wd141 hw) (ctAt hw X192.2.1 b116 t116 k116 (((((((([] : List Int32) ++ [(123 : Int32)]) ++ [ma]) ++ [(61 : Int32)]) ++ [(34 : Int32)]) ++ (own_escL (own_val i3))) ++ [(34 : Int32)]) ++ [(125 : Int32)]) a138 k138 (17 : Int32) cz fmt f171 f172 f173 Vy V168 (by decide) (by decide) hXb hLA Sf hfm f174 S2 hcz) (lenOf pd40 rfl) rfl at_486 rfl rfl (by decide) (nQ rfl) rfl rfl (by decide) (by decide) (fun v193 T193 h193 Q193 X193 z193 => ?_)
    obtain ⟨hv193, hh193⟩ := Q193
    subst hv193; rw [hh193] at X193
    refine G.k 492 C116 X193 at_489 rfl (feq (by decide : ¬ (1 : Int32) = 0)).1 <| G.d 494 C116 X193 at_492 rfl rfl rfl <| G.d 496 C116 X193 at_494 rfl rfl rfl <| G.j 498 (z := 18) C116 X193 at_496 rfl (by decide) <| G.i 501 (cells' := 55) (slots' := 1179) (argsL := [(.ref b116), (.ref a138), (.int 18)]) (St := []) C116 X193 (wd139 hw) (wd140 hw) (by decide) (wd142 hw) (wd141 hw) (ctAt hw X193.2.1 b116 t116 k116 (((((((([] : List Int32) ++ [(123 : Int32)]) ++ [ma]) ++ [(61 : Int32)]) ++ [(34 : Int32)]) ++ (own_escL (own_val i3))) ++ [(34 : Int32)]) ++ [(125 : Int32)]) a138 k138 (18 : Int32) cz fmt f171 f172 f173 Vy V168 (by decide) (by decide) hXb hLA Sf hfm f174 S2 hcz) (lenOf pd40 rfl) rfl at_498 rfl rfl (by decide) (nQ rfl) rfl rfl (by decide) (by decide) (fun v194 T194 h194 Q194 X194 z194 => ?_)
    obtain ⟨hv194, hh194⟩ := Q194
    subst hv194; rw [hh194] at X194
    refine G.k 504 C116 X194 at_501 rfl (feq (by decide : ¬ (1 : Int32) = 0)).1 <| G.f 505 (z := 1) C116 X194 at_504 rfl (by decide) <| G.r 509 C116 X194 at_505 (by decide) (by decide) ?_
    exact G.aA C116 X194 (ew hw) Hd169 at_509 hret (by simp) (z' := (1 : Int32)) (by decide) hlk (fun _ _ => rfl) (by decide) (by decide)
  · refine G.w 7 C X0 at_5 rfl (l' := #[vI i0, vI i1, vI i2, vI i3, vI i4, vI 2, .unset, .unset, .unset, .unset, .unset, .unset, .unset]) rfl ?_
    have hva := own_val_len i3
    have hEa := own_escL_len (own_val i3)
    have hvb := own_val_len i4
    have hEb := own_escL_len (own_val i4)
    refine G.b 8 C X0 at_7 rfl rfl <| G.aa 11 (z := 255) C X0 at_8 rfl (by decide) <| G.ab 12 (z := (i1 &&& (255 : Int32))) C X0 at_11 rfl rfl ?_
    obtain ⟨ma, h_ma⟩ : ∃ z : Int32, (i1 &&& (255 : Int32)).toUInt32.toUInt16.toUInt32.toInt32 = z := ⟨_, rfl⟩
    refine G.ai 13 (z := ma) C X0 at_12 rfl h_ma ?_
    have l_ma := own_lat_mask h_ma
    refine G.w 15 C X0 at_13 rfl (l' := #[vI i0, vI i1, vI i2, vI i3, vI i4, vI 2, vI ma, .unset, .unset, .unset, .unset, .unset, .unset]) rfl <| G.b 16 C X0 at_15 rfl rfl <| G.aa 19 (z := 255) C X0 at_16 rfl (by decide) <| G.ab 20 (z := (i2 &&& (255 : Int32))) C X0 at_19 rfl rfl ?_
    obtain ⟨mb, h_mb⟩ : ∃ z : Int32, (i2 &&& (255 : Int32)).toUInt32.toUInt16.toUInt32.toInt32 = z := ⟨_, rfl⟩
    refine G.ai 21 (z := mb) C X0 at_20 rfl h_mb ?_
    have l_mb := own_lat_mask h_mb
    refine G.w 23 C X0 at_21 rfl (l' := #[vI i0, vI i1, vI i2, vI i3, vI i4, vI 2, vI ma, vI mb, .unset, .unset, .unset, .unset, .unset]) rfl <| G.U 26 (cells' := 1) (slots' := 3) C X0 (wd0 hw) (wd1 hw) (wd2 hw) at_23 rfl rfl rfl (by decide) (by decide) (fun T195 h195 a195 X195 g195 q195 E195 A195 D195 U195 => ?_)
    have Hd196 := H0.ext E195
    have F195_modCount : Fld Z h195 a195 zq8 "modCount" "I" (.int 0) := D195 (Or.inl (wd22 hw)) (ty := .int) (by decide)
    have F195_elementData : Fld Z h195 a195 zq2 zq7 zq6 .null := D195 (Or.inl (wd25 hw)) (ty := (.array (.object zq3))) (by decide)
    have F195_size : Fld Z h195 a195 zq2 "size" "I" (.int 0) := D195 (Or.inl (wd60 hw)) (ty := .int) (by decide)
    refine G.I 27 C X195 at_26 rfl rfl ?_
    have f197 := (OD.ext E195)
    refine G.N 30 (cells' := 1) (slots' := 3) (argsL := []) (St := [(.ref a195)]) C X195 rfl rfl (wd3 hw) (wd4 hw) (by decide) (wd5 hw) (wd2 hw) (ctAlI hw X195.2.1 a195 de A195 F195_modCount F195_elementData F195_size q195 f197 Sde) (lenOf pd29 rfl) rfl at_27 rfl rfl (by decide) (nQ rfl) rfl rfl (by decide) (by decide) (fun v198 T198 h198 Q198 X198 z198 => ?_)
    obtain ⟨hv198, K198, Ea198, Fa0_198, Fa1_198, Fa2_198⟩ := Q198
    subst hv198
    have Hd199 := Hd196.keep K198 (allS (Safe.exa (EL := consts_1) C.2.1.alike A195 (by decide) (by decide)) all0)
    refine G.P 32 C X198 at_30 rfl rfl (l' := #[vI i0, vI i1, vI i2, vI i3, vI i4, vI 2, vI ma, vI mb, vR a195, .unset, .unset, .unset, .unset]) rfl <| G.U 35 (cells' := 2) (slots' := 6) C X198 (wd0 hw) (wd1 hw) (wd2 hw) at_32 rfl rfl rfl (by decide) (by decide) (fun T200 h200 a200 X200 g200 q200 E200 A200 D200 U200 => ?_)
    have ne201 : a195 ≠ a200 := Nat.ne_of_lt (Nat.lt_of_lt_of_eq Ea198.lt g200.symm)
    have Hd202 := Hd199.ext E200
    have F200_modCount : Fld Z h200 a200 zq8 "modCount" "I" (.int 0) := D200 (Or.inl (wd22 hw)) (ty := .int) (by decide)
    have F200_elementData : Fld Z h200 a200 zq2 zq7 zq6 .null := D200 (Or.inl (wd25 hw)) (ty := (.array (.object zq3))) (by decide)
    have F200_size : Fld Z h200 a200 zq2 "size" "I" (.int 0) := D200 (Or.inl (wd60 hw)) (ty := .int) (by decide)
    refine G.I 36 C X200 at_35 rfl rfl ?_
    have f203 := ((f197.keep K198 (allS q195 all0)).ext E200)
    refine G.N 39 (cells' := 2) (slots' := 6) (argsL := []) (St := [(.ref a200)]) C X200 rfl rfl (wd3 hw) (wd4 hw) (by decide) (wd5 hw) (wd2 hw) (ctAlI hw X200.2.1 a200 de A200 F200_modCount F200_elementData F200_size q200 f203 Sde) (lenOf pd29 rfl) rfl at_36 rfl rfl (by decide) (nQ rfl) rfl rfl (by decide) (by decide) (fun v204 T204 h204 Q204 X204 z204 => ?_)
    obtain ⟨hv204, K204, Ea204, Fa0_204, Fa1_204, Fa2_204⟩ := Q204
    subst hv204
    have Hd205 := Hd202.keep K204 (allS (Safe.exa (EL := consts_1) C.2.1.alike A200 (by decide) (by decide)) all0)
    refine G.P 41 C X204 at_39 rfl rfl (l' := #[vI i0, vI i1, vI i2, vI i3, vI i4, vI 2, vI ma, vI mb, vR a195, vR a200, .unset, .unset, .unset]) rfl <| G.g 43 C X204 at_41 rfl rfl <| G.f 44 (z := 1) C X204 at_43 rfl (by decide) <| G.t 47 C X204 at_44 rfl (flt (by decide : ¬ (2 : Int32) < 1)).1 <| G.d 49 C X204 at_47 rfl rfl rfl <| G.g 51 C X204 at_49 rfl rfl ?_
    have f206 := (f203.keep K204 (allS q200 all0))
    refine G.i 54 (cells' := 4) (slots' := 11) (argsL := [(.int ma)]) (St := [(.ref a195)]) C X204 (wd143 hw) (wd144 hw) (by decide) (wd145 hw) (wd44 hw) (ctVof hw X204.2.1 ma cz l_ma f206 S2 hcz) (lenOf pd41 rfl) rfl at_51 rfl rfl (by decide) (nQ rfl) rfl rfl (by decide) (by decide) (fun v207 T207 h207 Q207 X207 z207 => ?_)
    obtain ⟨b207, t207, k207, hv207, K207, E207, F207c, F207v, V207⟩ := Q207
    subst hv207
    have Hd208 := Hd205.keep K207 all0
    have f209 := (((Ea198.ext E200).keep K204).keep K207)
    have na210 : b207 ≠ a195 := Exa.ne E207 f209 (by decide)
    have f211 := (Ea204.keep K207)
    have na212 : b207 ≠ a200 := Exa.ne E207 f211 (by decide)
    have na214 : t207 ≠ a195 := Ne.symm (Exa.neArv f209 V207 (wd1 hw))
    have na215 : t207 ≠ a200 := Ne.symm (Exa.neArv f211 V207 (wd1 hw))
    have f216 := (((Fa0_198.ext E200).keep K204 (ninS ne201 nin0)).keep K207 nin0)
    have f217 := (((Fa1_198.ext E200).keep K204 (ninS ne201 nin0)).keep K207 nin0)
    have f218 := (((Fa2_198.ext E200).keep K204 (ninS ne201 nin0)).keep K207 nin0)
    have f219 := (f206.keep K207 all0)
    refine G.G 59 (cells' := 5) (slots' := 21) (argsL := [(.ref b207)]) (St := []) C X207 (wd157 hw) (wd158 hw) (wd159 hw) (wd160 hw) (wd161 hw) (wd162 hw) (wd163 hw) (wd57 hw) (by decide) rfl f209 (wd164 hw) (wd2 hw) (ctAdd0 hw X207.2.1 b207 a195 de kd E207 f209 f216 f217 f218 q195 f219 Sde Vd) (lenOf pd42 rfl) rfl at_54 rfl rfl (by decide) (nQ rfl) rfl rfl (by decide) (by decide) (fun v220 T220 h220 Q220 X220 z220 => ?_)
    obtain ⟨ea220, ke220, hv220, K220, hz220, Ea220, Fa0_220, Fa1_220, Fa2_220, Ve220, Oe220⟩ := Q220
    subst hv220
    have Hd221 := Hd208.keep K220 (allS (Safe.exa (EL := consts_1) C.2.1.alike f209 (by decide) (by decide)) all0)
    have nb220_a195 : a195 ≠ ea220 := Nat.ne_of_lt (Nat.lt_of_lt_of_le f209.lt hz220)
    have nb220_a200 : a200 ≠ ea220 := Nat.ne_of_lt (Nat.lt_of_lt_of_le f211.lt hz220)
    have nb220_b207 : b207 ≠ ea220 := Nat.ne_of_lt (Nat.lt_of_lt_of_le E207.lt hz220)
    have nb220_t207 : t207 ≠ ea220 := Nat.ne_of_lt (Nat.lt_of_lt_of_le V207.lt hz220)
    refine G.v 60 C X220 at_59 rfl rfl <| G.d 62 C X220 at_60 rfl rfl rfl <| G.b 63 C X220 at_62 rfl rfl ?_
    have f222 := (f219.keep K220 (allS q195 all0))
    refine G.ag 66 (cells' := 9) (slots' := 45) (argsL := [(.int i3)]) (St := [(.ref a200)]) C X220 (ew hw) Hd221 (wd188 hw) (wd189 hw) (by decide) (wd190 hw) (wd141 hw) (ctValue hw X220.2.1 i3 cz f222 S2 hcz) (fun _ hx => by cases hx) (lenOf pd43 rfl) rfl at_63 rfl rfl (by decide) (nQ rfl) rfl rfl (by decide) (by decide) (fun v223 vm223 T223 h223 Q223 C223 X223 Hd223 R223 => ?_)
    obtain ⟨b223, t223, k223, hv223, K223, E223, F223c, F223v, V223⟩ := Q223
    subst hv223
    have f224 := (Ea220.keep K223)
    have na225 : b223 ≠ a195 := Exa.ne E223 f224 (by decide)
    have f226 := ((f211.keep K220).keep K223)
    have na227 : b223 ≠ a200 := Exa.ne E223 f226 (by decide)
    have f228 := ((V207.keep K220 (ninS na214 nin0)).keep K223 nin0)
    have f230 := (Ve220.keep K223 nin0)
    have na231 : b223 ≠ ea220 := Exa.neArv E223 f230 (wd75 hw)
    have na233 : t223 ≠ a195 := Ne.symm (Exa.neArv f224 V223 (wd1 hw))
    have na234 : t223 ≠ a200 := Ne.symm (Exa.neArv f226 V223 (wd1 hw))
    have f235 := ((E207.keep K220).keep K223)
    have na237 : t223 ≠ ea220 := own_arne V223 f230 (by decide)
    have f238 := (((Fa0_204.keep K207 nin0).keep K220 (ninS (Ne.symm ne201) nin0)).keep K223 nin0)
    have f239 := (((Fa1_204.keep K207 nin0).keep K220 (ninS (Ne.symm ne201) nin0)).keep K223 nin0)
    have f240 := (((Fa2_204.keep K207 nin0).keep K220 (ninS (Ne.symm ne201) nin0)).keep K223 nin0)
    have f241 := (f222.keep K223 all0)
    refine G.G 71 (cells' := 10) (slots' := 55) (argsL := [(.ref b223)]) (St := []) C223 X223 (wd157 hw) (wd158 hw) (wd159 hw) (wd160 hw) (wd161 hw) (wd162 hw) (wd163 hw) (wd57 hw) (by decide) rfl f226 (wd164 hw) (wd2 hw) (ctAdd0 hw X223.2.1 b223 a200 de kd E223 f226 f238 f239 f240 q200 f241 Sde Vd) (lenOf pd42 rfl) rfl at_66 rfl rfl (by decide) (nQ rfl) rfl rfl (by decide) (by decide) (fun v242 T242 h242 Q242 X242 z242 => ?_)
    obtain ⟨ea242, ke242, hv242, K242, hz242, Ea242, Fa0_242, Fa1_242, Fa2_242, Ve242, Oe242⟩ := Q242
    subst hv242
    have Hd243 := Hd223.keep K242 (allS (Safe.exa (EL := consts_1) C223.2.1.alike f226 (by decide) (by decide)) all0)
    have nb242_a195 : a195 ≠ ea242 := Nat.ne_of_lt (Nat.lt_of_lt_of_le f224.lt hz242)
    have nb242_a200 : a200 ≠ ea242 := Nat.ne_of_lt (Nat.lt_of_lt_of_le f226.lt hz242)
    have nb242_b207 : b207 ≠ ea242 := Nat.ne_of_lt (Nat.lt_of_lt_of_le f235.lt hz242)
    have nb242_t207 : t207 ≠ ea242 := Nat.ne_of_lt (Nat.lt_of_lt_of_le f228.lt hz242)
    have nb242_ea220 : ea220 ≠ ea242 := Nat.ne_of_lt (Nat.lt_of_lt_of_le f230.lt hz242)
    have nb242_b223 : b223 ≠ ea242 := Nat.ne_of_lt (Nat.lt_of_lt_of_le E223.lt hz242)
    have nb242_t223 : t223 ≠ ea242 := Nat.ne_of_lt (Nat.lt_of_lt_of_le V223.lt hz242)
    refine G.v 72 C223 X242 at_71 rfl rfl <| G.g 74 C223 X242 at_72 rfl rfl <| G.f 75 (z := 2) C223 X242 at_74 rfl (by decide) <| G.t 78 C223 X242 at_75 rfl (flt (by decide : ¬ (2 : Int32) < 2)).1 <| G.d 80 C223 X242 at_78 rfl rfl rfl <| G.g 82 C223 X242 at_80 rfl rfl ?_
    have f244 := (f241.keep K242 (allS q200 all0))
    refine G.i 85 (cells' := 12) (slots' := 60) (argsL := [(.int mb)]) (St := [(.ref a195)]) C223 X242 (wd143 hw) (wd144 hw) (by decide) (wd145 hw) (wd44 hw) (ctVof hw X242.2.1 mb cz l_mb f244 S2 hcz) (lenOf pd41 rfl) rfl at_82 rfl rfl (by decide) (nQ rfl) rfl rfl (by decide) (by decide) (fun v245 T245 h245 Q245 X245 z245 => ?_)
    obtain ⟨b245, t245, k245, hv245, K245, E245, F245c, F245v, V245⟩ := Q245
    subst hv245
    have Hd246 := Hd243.keep K245 all0
    have f247 := ((f224.keep K242).keep K245)
    have na248 : b245 ≠ a195 := Exa.ne E245 f247 (by decide)
    have f249 := (Ea242.keep K245)
    have na250 : b245 ≠ a200 := Exa.ne E245 f249 (by decide)
    have f251 := ((f228.keep K242 (ninS na215 nin0)).keep K245 nin0)
    have f253 := ((f230.keep K242 (ninS (Ne.symm nb220_a200) nin0)).keep K245 nin0)
    have na254 : b245 ≠ ea220 := Exa.neArv E245 f253 (wd75 hw)
    have f255 := ((V223.keep K242 (ninS na234 nin0)).keep K245 nin0)
    have f257 := (Ve242.keep K245 nin0)
    have na258 : b245 ≠ ea242 := Exa.neArv E245 f257 (wd75 hw)
    have na260 : t245 ≠ a195 := Ne.symm (Exa.neArv f247 V245 (wd1 hw))
    have na261 : t245 ≠ a200 := Ne.symm (Exa.neArv f249 V245 (wd1 hw))
    have f262 := ((f235.keep K242).keep K245)
    have na264 : t245 ≠ ea220 := own_arne V245 f253 (by decide)
    have f265 := ((E223.keep K242).keep K245)
    have na267 : t245 ≠ ea242 := own_arne V245 f257 (by decide)
    have f268 := (((Fa0_220.keep K223 nin0).keep K242 (ninS ne201 nin0)).keep K245 nin0)
    have f269 := (((Fa1_220.keep K223 nin0).keep K242 (ninS ne201 nin0)).keep K245 nin0)
    have f270 := (((Fa2_220.keep K223 nin0).keep K242 (ninS ne201 nin0)).keep K245 nin0)
    refine G.G 90 (cells' := 12) (slots' := 60) (argsL := [(.ref b245)]) (St := []) C223 X245 (wd157 hw) (wd158 hw) (wd159 hw) (wd160 hw) (wd161 hw) (wd162 hw) (wd163 hw) (wd57 hw) (by decide) rfl f247 (wd164 hw) (wd2 hw) (ctAdd1 hw X245.2.1 a195 ea220 b207 b245 ke220 E245 f247 f268 f269 f270 q195 f253 Oe220 (Nat.le_trans X207.2.1 hz220) nb220_a195) (lenOf pd42 rfl) rfl at_85 rfl rfl (by decide) (nQ rfl) rfl rfl (by decide) (by decide) (fun v271 T271 h271 Q271 X271 z271 => ?_)
    obtain ⟨hv271, K271, Ea271, Fa0_271, Fa1_271, Fa2_271, Ve271⟩ := Q271
    subst hv271
    have Hd272 := Hd246.keep K271 (allS (Safe.exa (EL := consts_1) C223.2.1.alike f247 (by decide) (by decide)) (allS (safe_arv (EL := consts_1) C223.2.1.alike f253 (by decide)) all0))
    refine G.v 91 C223 X271 at_90 rfl rfl <| G.d 93 C223 X271 at_91 rfl rfl rfl <| G.g 95 C223 X271 at_93 rfl rfl ?_
    have f273 := ((f244.keep K245 all0).keep K271 (allS q195 (allS (Nat.le_trans X207.2.1 hz220) all0)))
    refine G.ag 98 (cells' := 16) (slots' := 84) (argsL := [(.int i4)]) (St := [(.ref a200)]) C223 X271 (ew hw) Hd272 (wd188 hw) (wd189 hw) (by decide) (wd190 hw) (wd141 hw) (ctValue hw X271.2.1 i4 cz f273 S2 hcz) (fun _ hx => by cases hx) (lenOf pd43 rfl) rfl at_95 rfl rfl (by decide) (nQ rfl) rfl rfl (by decide) (by decide) (fun v274 vm274 T274 h274 Q274 C274 X274 Hd274 R274 => ?_)
    obtain ⟨b274, t274, k274, hv274, K274, E274, F274c, F274v, V274⟩ := Q274
    subst hv274
    have f275 := (Ea271.keep K274)
    have f277 := ((f249.keep K271).keep K274)
    have na278 : b274 ≠ a200 := Exa.ne E274 f277 (by decide)
    have f279 := ((f251.keep K271 (ninS na214 (ninS nb220_t207 nin0))).keep K274 nin0)
    have f281 := (Ve271.keep K274 nin0)
    have f283 := ((f255.keep K271 (ninS na233 (ninS na237 nin0))).keep K274 nin0)
    have f285 := ((f257.keep K271 (ninS (Ne.symm nb242_a195) (ninS (Ne.symm nb242_ea220) nin0))).keep K274 nin0)
    have na286 : b274 ≠ ea242 := Exa.neArv E274 f285 (wd75 hw)
    have f287 := ((V245.keep K271 (ninS na260 (ninS na264 nin0))).keep K274 nin0)
    have na291 : t274 ≠ a200 := Ne.symm (Exa.neArv f277 V274 (wd1 hw))
    have f292 := ((f262.keep K271).keep K274)
    have f295 := ((f265.keep K271).keep K274)
    have na297 : t274 ≠ ea242 := own_arne V274 f285 (by decide)
    have f298 := ((E245.keep K271).keep K274)
    have f300 := (((Fa0_242.keep K245 nin0).keep K271 (ninS (Ne.symm ne201) (ninS nb220_a200 nin0))).keep K274 nin0)
    have f301 := (((Fa1_242.keep K245 nin0).keep K271 (ninS (Ne.symm ne201) (ninS nb220_a200 nin0))).keep K274 nin0)
    have f302 := (((Fa2_242.keep K245 nin0).keep K271 (ninS (Ne.symm ne201) (ninS nb220_a200 nin0))).keep K274 nin0)
    refine G.G 103 (cells' := 16) (slots' := 84) (argsL := [(.ref b274)]) (St := []) C274 X274 (wd157 hw) (wd158 hw) (wd159 hw) (wd160 hw) (wd161 hw) (wd162 hw) (wd163 hw) (wd57 hw) (by decide) rfl f277 (wd164 hw) (wd2 hw) (ctAdd1 hw X274.2.1 a200 ea242 b223 b274 ke242 E274 f277 f300 f301 f302 q200 f285 Oe242 (Nat.le_trans X223.2.1 hz242) nb242_a200) (lenOf pd42 rfl) rfl at_98 rfl rfl (by decide) (nQ rfl) rfl rfl (by decide) (by decide) (fun v303 T303 h303 Q303 X303 z303 => ?_)
    obtain ⟨hv303, K303, Ea303, Fa0_303, Fa1_303, Fa2_303, Ve303⟩ := Q303
    subst hv303
    have Hd304 := Hd274.keep K303 (allS (Safe.exa (EL := consts_1) C274.2.1.alike f277 (by decide) (by decide)) (allS (safe_arv (EL := consts_1) C274.2.1.alike f285 (by decide)) all0))
    refine G.v 104 C274 X303 at_103 rfl rfl <| G.d 106 C274 X303 at_104 rfl rfl rfl <| G.d 108 C274 X303 at_106 rfl rfl rfl ?_
    have f305 := (f292.keep K303)
    have f306 := (((((((F207v.keep K220 (ninS na210 nin0)).keep K223 nin0).keep K242 (ninS na212 nin0)).keep K245 nin0).keep K271 (ninS na210 (ninS nb220_b207 nin0))).keep K274 nin0).keep K303 (ninS na212 (ninS nb242_b207 nin0)))
    have f307 := (((((((F207c.keep K220 (ninS na210 nin0)).keep K223 nin0).keep K242 (ninS na212 nin0)).keep K245 nin0).keep K271 (ninS na210 (ninS nb220_b207 nin0))).keep K274 nin0).keep K303 (ninS na212 (ninS nb242_b207 nin0)))
    have f308 := (f279.keep K303 (ninS na215 (ninS nb242_t207 nin0)))
    have f309 := (f295.keep K303)
    have f310 := (((((F223v.keep K242 (ninS na227 nin0)).keep K245 nin0).keep K271 (ninS na225 (ninS na231 nin0))).keep K274 nin0).keep K303 (ninS na227 (ninS nb242_b223 nin0)))
    have f311 := (((((F223c.keep K242 (ninS na227 nin0)).keep K245 nin0).keep K271 (ninS na225 (ninS na231 nin0))).keep K274 nin0).keep K303 (ninS na227 (ninS nb242_b223 nin0)))
    have f312 := (f283.keep K303 (ninS na234 (ninS nb242_t223 nin0)))
    have f313 := (f298.keep K303)
    have f314 := (((F245v.keep K271 (ninS na248 (ninS na254 nin0))).keep K274 nin0).keep K303 (ninS na250 (ninS na258 nin0)))
    have f315 := (((F245c.keep K271 (ninS na248 (ninS na254 nin0))).keep K274 nin0).keep K303 (ninS na250 (ninS na258 nin0)))
    have f316 := (f287.keep K303 (ninS na261 (ninS na267 nin0)))
    have f317 := (E274.keep K303)
    have f318 := (F274v.keep K303 (ninS na278 (ninS na286 nin0)))
    have f319 := (F274c.keep K303 (ninS na278 (ninS na286 nin0)))
    have f320 := (V274.keep K303 (ninS na291 (ninS na297 nin0)))
    have f321 := (f275.keep K303)
    have f322 := ((Fa2_271.keep K274 nin0).keep K303 (ninS ne201 (ninS nb242_a195 nin0)))
    have f323 := ((Fa1_271.keep K274 nin0).keep K303 (ninS ne201 (ninS nb242_a195 nin0)))
    have f324 := (f281.keep K303 (ninS (Ne.symm nb220_a200) (ninS nb242_ea220 nin0)))
    have f325 := ((f273.keep K274 all0).keep K303 (allS q200 (allS (Nat.le_trans X223.2.1 hz242) all0)))
    refine G.ag 111 (cells' := 60) (slots' := 1184) (argsL := [(.ref a195), (.ref a200)]) (St := []) C274 X303 (ew hw) Hd304 (wd26 hw) (wd27 hw) (by decide) (wd29 hw) (wd28 hw) (ctLab2 hw X303.2.1 a195 a200 b207 t207 b223 t223 k207 k223 ma (own_val i3) b245 t245 b274 t274 k245 k274 mb (own_val i4) ea220 ea242 ke220 ke242 cz fmt f305 f306 f307 f308 f309 f310 f311 f312 l_ma (own_val_len _) (own_val_lat _) f313 f314 f315 f316 f317 f318 f319 f320 l_mb (own_val_len _) (own_val_lat _) f321 f322 f323 f324 Ea303 Fa2_303 Fa1_303 Ve303 Sf hfm f325 S2 hcz) (fun _ hx => by cases hx) (lenOf pd39 rfl) rfl at_108 rfl rfl (by decide) (nQ rfl) rfl rfl (by decide) (by decide) (fun v326 vm326 T326 h326 Q326 C326 X326 Hd326 R326 => ?_)
    obtain ⟨b326, t326, k326, hv326, K326, E326, F326c, F326v, V326⟩ := Q326
    subst hv326
    refine G.P 113 C326 X326 at_111 rfl rfl (l' := #[vI i0, vI i1, vI i2, vI i3, vI i4, vI 2, vI ma, vI mb, vR a195, vR a200, vR b326, .unset, .unset]) rfl <| G.j 115 (z := 24) C326 X326 at_113 rfl (by decide) <| G.af 117 (cap := 24) (d0 := (.int 0)) (cells' := 61) (slots' := 1208) C326 X326 (wd127 hw) rfl at_115 rfl (by decide) (by decide) (by decide) rfl rfl rfl (by decide) (by decide) (fun T356 h356 a356 k356 X356 g356 q356 E356 V356 => ?_)
    have ne369 : b326 ≠ a356 := Nat.ne_of_lt (Nat.lt_of_lt_of_eq E326.lt g356.symm)
    have ne370 : t326 ≠ a356 := Nat.ne_of_lt (Nat.lt_of_lt_of_eq V326.lt g356.symm)
    have Hd371 := Hd326.ext E356
    replace V356 : Arv Z h356 a356 k356 .char (24 : Int32) [] (.int 0) := V356.pad (pad_rep [] (.int 0) 0)
    have Vz : Arv Z h356 a356 k356 .char (24 : Int32) (tc ([] : List Int32)) (.int 0) := V356
    refine G.P 119 C326 X356 at_117 rfl rfl (l' := #[vI i0, vI i1, vI i2, vI i3, vI i4, vI 2, vI ma, vI mb, vR a195, vR a200, vR b326, vR a356, .unset]) rfl <| G.f 120 (z := 0) C326 X356 at_119 rfl (by decide) <| G.w 122 C326 X356 at_120 rfl (l' := #[vI i0, vI i1, vI i2, vI i3, vI i4, vI 2, vI ma, vI mb, vR a195, vR a200, vR b326, vR a356, vI 0]) rfl <| G.g 124 C326 X356 at_122 rfl rfl <| G.f 125 (z := 1) C326 X356 at_124 rfl (by decide) <| G.t 128 C326 X356 at_125 rfl (flt (by decide : ¬ (2 : Int32) < 1)).1 <| G.d 130 C326 X356 at_128 rfl rfl rfl <| G.g 132 C326 X356 at_130 rfl rfl <| G.j 134 (z := 123) C326 X356 at_132 rfl (by decide) ?_
    have Vp372 := Vz.pad (pad_rep (tc ([] : List Int32)) (.int 0) 1)
    refine G.A 135 C326 X356 Vp372 q356 (i := 0) at_134 rfl ⟨by decide, by decide⟩ (by decide) (Nat.lt_of_lt_of_eq (show 0 < 1 from by decide) (by simp [tc_len])) (fun T373 h373 X373 W373 V373 => ?_)
    replace V373 : Arv Z h373 a356 k356 .char (24 : Int32) (tc (([] : List Int32) ++ [(123 : Int32)])) (.int 0) := by rw [show nar .char (123 : Int32) = (123 : Int32) from by decide] at V373; rw [← own_sc1 ([] : List Int32) (123 : Int32) (.int 0)]; exact V373
    have Hd374 := Hd371.wr W373 (safe_arv (EL := consts_1) C326.2.1.alike Vp372 (by decide))
    refine G.d 137 C326 X373 at_135 rfl rfl rfl <| G.g 139 C326 X373 at_137 rfl rfl <| G.f 140 (z := 1) C326 X373 at_139 rfl (by decide) <| G.x 141 (z := (1 : Int32)) C326 X373 at_140 rfl (by decide) <| G.g 143 C326 X373 at_141 rfl rfl ?_
    have Vp375 := V373.pad (pad_rep (tc (([] : List Int32) ++ [(123 : Int32)])) (.int 0) 1)
    refine G.A 144 C326 X373 Vp375 q356 (i := 1) at_143 rfl ⟨by decide, by decide⟩ (by decide) (Nat.lt_of_lt_of_eq (show 1 < 2 from by decide) (by simp [tc_len])) (fun T376 h376 X376 W376 V376 => ?_)
    replace V376 : Arv Z h376 a356 k356 .char (24 : Int32) (tc ((([] : List Int32) ++ [(123 : Int32)]) ++ [ma])) (.int 0) := by rw [own_nar_lat l_ma] at V376; rw [← own_sc1 (([] : List Int32) ++ [(123 : Int32)]) ma (.int 0)]; exact V376
    have Hd377 := Hd374.wr W376 (safe_arv (EL := consts_1) C326.2.1.alike Vp375 (by decide))
    refine G.d 146 C326 X376 at_144 rfl rfl rfl <| G.g 148 C326 X376 at_146 rfl rfl <| G.f 149 (z := 2) C326 X376 at_148 rfl (by decide) <| G.x 150 (z := (2 : Int32)) C326 X376 at_149 rfl (by decide) <| G.j 152 (z := 61) C326 X376 at_150 rfl (by decide) ?_
    have Vp378 := V376.pad (pad_rep (tc ((([] : List Int32) ++ [(123 : Int32)]) ++ [ma])) (.int 0) 1)
    refine G.A 153 C326 X376 Vp378 q356 (i := 2) at_152 rfl ⟨by decide, by decide⟩ (by decide) (Nat.lt_of_lt_of_eq (show 2 < 3 from by decide) (by simp [tc_len])) (fun T379 h379 X379 W379 V379 => ?_)
    replace V379 : Arv Z h379 a356 k356 .char (24 : Int32) (tc (((([] : List Int32) ++ [(123 : Int32)]) ++ [ma]) ++ [(61 : Int32)])) (.int 0) := by rw [show nar .char (61 : Int32) = (61 : Int32) from by decide] at V379; rw [← own_sc1 ((([] : List Int32) ++ [(123 : Int32)]) ++ [ma]) (61 : Int32) (.int 0)]; exact V379
    have Hd380 := Hd377.wr W379 (safe_arv (EL := consts_1) C326.2.1.alike Vp378 (by decide))
    refine G.d 155 C326 X379 at_153 rfl rfl rfl <| G.g 157 C326 X379 at_155 rfl rfl <| G.f 158 (z := 3) C326 X379 at_157 rfl (by decide) <| G.x 159 (z := (3 : Int32)) C326 X379 at_158 rfl (by decide) <| G.j 161 (z := 34) C326 X379 at_159 rfl (by decide) ?_
    have Vp381 := V379.pad (pad_rep (tc (((([] : List Int32) ++ [(123 : Int32)]) ++ [ma]) ++ [(61 : Int32)])) (.int 0) 1)
    refine G.A 162 C326 X379 Vp381 q356 (i := 3) at_161 rfl ⟨by decide, by decide⟩ (by decide) (Nat.lt_of_lt_of_eq (show 3 < 4 from by decide) (by simp [tc_len])) (fun T382 h382 X382 W382 V382 => ?_)
    replace V382 : Arv Z h382 a356 k356 .char (24 : Int32) (tc ((((([] : List Int32) ++ [(123 : Int32)]) ++ [ma]) ++ [(61 : Int32)]) ++ [(34 : Int32)])) (.int 0) := by rw [show nar .char (34 : Int32) = (34 : Int32) from by decide] at V382; rw [← own_sc1 (((([] : List Int32) ++ [(123 : Int32)]) ++ [ma]) ++ [(61 : Int32)]) (34 : Int32) (.int 0)]; exact V382
    have Hd383 := Hd380.wr W382 (safe_arv (EL := consts_1) C326.2.1.alike Vp381 (by decide))
    refine G.d 164 C326 X382 at_162 rfl rfl rfl <| G.g 166 C326 X382 at_164 rfl rfl <| G.f 167 (z := 4) C326 X382 at_166 rfl (by decide) <| G.x 168 (z := (4 : Int32)) C326 X382 at_167 rfl (by decide) <| G.b 169 C326 X382 at_168 rfl rfl <| G.i 172 (cells' := 61) (slots' := 1208) (argsL := [(.ref a356), (.int 4), (.int i3)]) (St := []) C326 X382 (wd303 hw) (wd304 hw) (by decide) (wd305 hw) (wd141 hw) (ctEv hw X382.2.1 a356 k356 ((((([] : List Int32) ++ [(123 : Int32)]) ++ [ma]) ++ [(61 : Int32)]) ++ [(34 : Int32)]) i3 V382 q356 (by first | omega | (simp only [List.length_append, List.length_cons, List.length_nil]; omega))) (lenOf pd44 rfl) rfl at_169 rfl rfl (by decide) (nQ rfl) rfl rfl (by decide) (by decide) (fun v384 T384 h384 Q384 X384 z384 => ?_)
    obtain ⟨hv384, K384, Ve384⟩ := Q384
    subst hv384
    have Hd385 := Hd383.keep K384 (allS (safe_arv (EL := consts_1) C326.2.1.alike V382 (by decide)) all0)
    refine G.w 174 C326 X384 at_172 rfl (l' := #[vI i0, vI i1, vI i2, vI i3, vI i4, vI 2, vI ma, vI mb, vR a195, vR a200, vR b326, vR a356, .val (.int (own_n ((((((([] : List Int32) ++ [(123 : Int32)]) ++ [ma]) ++ [(61 : Int32)]) ++ [(34 : Int32)]) ++ (own_escL (own_val i3)))).length))]) rfl <| G.d 176 C326 X384 at_174 rfl rfl rfl <| G.g 178 C326 X384 at_176 rfl rfl <| G.j 180 (z := 34) C326 X384 at_178 rfl (by decide) ?_
    have Vp386 := Ve384.pad (pad_rep (tc (((((([] : List Int32) ++ [(123 : Int32)]) ++ [ma]) ++ [(61 : Int32)]) ++ [(34 : Int32)]) ++ (own_escL (own_val i3)))) (.int 0) 1)
    refine G.A 181 C326 X384 Vp386 q356 (i := ((((((([] : List Int32) ++ [(123 : Int32)]) ++ [ma]) ++ [(61 : Int32)]) ++ [(34 : Int32)]) ++ (own_escL (own_val i3)))).length) at_180 rfl (own_ix (by decide) (by first | omega | (simp only [List.length_append, List.length_cons, List.length_nil]; omega)) (by rw [show (24 : Int32).toNatClampNeg = 24 from by decide]; first | omega | (simp only [List.length_append, List.length_cons, List.length_nil]; omega))) (own_n_cl (by first | omega | (simp only [List.length_append, List.length_cons, List.length_nil]; omega))) (by simp [tc_len]) (fun T387 h387 X387 W387 V387 => ?_)
    replace V387 : Arv Z h387 a356 k356 .char (24 : Int32) (tc ((((((([] : List Int32) ++ [(123 : Int32)]) ++ [ma]) ++ [(61 : Int32)]) ++ [(34 : Int32)]) ++ (own_escL (own_val i3))) ++ [(34 : Int32)])) (.int 0) := by rw [show nar .char (34 : Int32) = (34 : Int32) from by decide] at V387; rw [← own_sc1 (((((([] : List Int32) ++ [(123 : Int32)]) ++ [ma]) ++ [(61 : Int32)]) ++ [(34 : Int32)]) ++ (own_escL (own_val i3))) (34 : Int32) (.int 0)]; exact V387
    have Hd388 := Hd385.wr W387 (safe_arv (EL := consts_1) C326.2.1.alike Vp386 (by decide))
    refine G.g 183 C326 X387 at_181 rfl rfl <| G.f 184 (z := 1) C326 X387 at_183 rfl (by decide) <| G.x 185 (z := (own_n (((((((([] : List Int32) ++ [(123 : Int32)]) ++ [ma]) ++ [(61 : Int32)]) ++ [(34 : Int32)]) ++ (own_escL (own_val i3))) ++ [(34 : Int32)])).length)) C326 X387 at_184 rfl (own_nk (((((([] : List Int32) ++ [(123 : Int32)]) ++ [ma]) ++ [(61 : Int32)]) ++ [(34 : Int32)]) ++ (own_escL (own_val i3))) ((((((([] : List Int32) ++ [(123 : Int32)]) ++ [ma]) ++ [(61 : Int32)]) ++ [(34 : Int32)]) ++ (own_escL (own_val i3))) ++ [(34 : Int32)]) 1 (by simp only [List.length_append, List.length_cons, List.length_nil])) <| G.w 187 C326 X387 at_185 rfl (l' := #[vI i0, vI i1, vI i2, vI i3, vI i4, vI 2, vI ma, vI mb, vR a195, vR a200, vR b326, vR a356, .val (.int (own_n (((((((([] : List Int32) ++ [(123 : Int32)]) ++ [ma]) ++ [(61 : Int32)]) ++ [(34 : Int32)]) ++ (own_escL (own_val i3))) ++ [(34 : Int32)])).length))]) rfl <| G.g 189 C326 X387 at_187 rfl rfl <| G.f 190 (z := 2) C326 X387 at_189 rfl (by decide) <| G.t 193 C326 X387 at_190 rfl (flt (by decide : ¬ (2 : Int32) < 2)).1 <| G.d 195 C326 X387 at_193 rfl rfl rfl <| G.g 197 C326 X387 at_195 rfl rfl <| G.j 199 (z := 44) C326 X387 at_197 rfl (by decide) ?_
    have Vp389 := V387.pad (pad_rep (tc ((((((([] : List Int32) ++ [(123 : Int32)]) ++ [ma]) ++ [(61 : Int32)]) ++ [(34 : Int32)]) ++ (own_escL (own_val i3))) ++ [(34 : Int32)])) (.int 0) 1)
    refine G.A 200 C326 X387 Vp389 q356 (i := (((((((([] : List Int32) ++ [(123 : Int32)]) ++ [ma]) ++ [(61 : Int32)]) ++ [(34 : Int32)]) ++ (own_escL (own_val i3))) ++ [(34 : Int32)])).length) at_199 rfl (own_ix (by decide) (by first | omega | (simp only [List.length_append, List.length_cons, List.length_nil]; omega)) (by rw [show (24 : Int32).toNatClampNeg = 24 from by decide]; first | omega | (simp only [List.length_append, List.length_cons, List.length_nil]; omega))) (own_n_cl (by first | omega | (simp only [List.length_append, List.length_cons, List.length_nil]; omega))) (by simp [tc_len]) (fun T390 h390 X390 W390 V390 => ?_)
    replace V390 : Arv Z h390 a356 k356 .char (24 : Int32) (tc (((((((([] : List Int32) ++ [(123 : Int32)]) ++ [ma]) ++ [(61 : Int32)]) ++ [(34 : Int32)]) ++ (own_escL (own_val i3))) ++ [(34 : Int32)]) ++ [(44 : Int32)])) (.int 0) := by rw [show nar .char (44 : Int32) = (44 : Int32) from by decide] at V390; rw [← own_sc1 ((((((([] : List Int32) ++ [(123 : Int32)]) ++ [ma]) ++ [(61 : Int32)]) ++ [(34 : Int32)]) ++ (own_escL (own_val i3))) ++ [(34 : Int32)]) (44 : Int32) (.int 0)]; exact V390
    have Hd391 := Hd388.wr W390 (safe_arv (EL := consts_1) C326.2.1.alike Vp389 (by decide))
    refine G.d 202 C326 X390 at_200 rfl rfl rfl <| G.g 204 C326 X390 at_202 rfl rfl <| G.f 205 (z := 1) C326 X390 at_204 rfl (by decide) <| G.x 206 (z := (own_n ((((((((([] : List Int32) ++ [(123 : Int32)]) ++ [ma]) ++ [(61 : Int32)]) ++ [(34 : Int32)]) ++ (own_escL (own_val i3))) ++ [(34 : Int32)]) ++ [(44 : Int32)])).length)) C326 X390 at_205 rfl (own_nk ((((((([] : List Int32) ++ [(123 : Int32)]) ++ [ma]) ++ [(61 : Int32)]) ++ [(34 : Int32)]) ++ (own_escL (own_val i3))) ++ [(34 : Int32)]) (((((((([] : List Int32) ++ [(123 : Int32)]) ++ [ma]) ++ [(61 : Int32)]) ++ [(34 : Int32)]) ++ (own_escL (own_val i3))) ++ [(34 : Int32)]) ++ [(44 : Int32)]) 1 (by simp only [List.length_append, List.length_cons, List.length_nil])) <| G.g 208 C326 X390 at_206 rfl rfl ?_
    have Vp392 := V390.pad (pad_rep (tc (((((((([] : List Int32) ++ [(123 : Int32)]) ++ [ma]) ++ [(61 : Int32)]) ++ [(34 : Int32)]) ++ (own_escL (own_val i3))) ++ [(34 : Int32)]) ++ [(44 : Int32)])) (.int 0) 1)
    refine G.A 209 C326 X390 Vp392 q356 (i := ((((((((([] : List Int32) ++ [(123 : Int32)]) ++ [ma]) ++ [(61 : Int32)]) ++ [(34 : Int32)]) ++ (own_escL (own_val i3))) ++ [(34 : Int32)]) ++ [(44 : Int32)])).length) at_208 rfl (own_ix (by decide) (by first | omega | (simp only [List.length_append, List.length_cons, List.length_nil]; omega)) (by rw [show (24 : Int32).toNatClampNeg = 24 from by decide]; first | omega | (simp only [List.length_append, List.length_cons, List.length_nil]; omega))) (own_n_cl (by first | omega | (simp only [List.length_append, List.length_cons, List.length_nil]; omega))) (by simp [tc_len]) (fun T393 h393 X393 W393 V393 => ?_)
    replace V393 : Arv Z h393 a356 k356 .char (24 : Int32) (tc ((((((((([] : List Int32) ++ [(123 : Int32)]) ++ [ma]) ++ [(61 : Int32)]) ++ [(34 : Int32)]) ++ (own_escL (own_val i3))) ++ [(34 : Int32)]) ++ [(44 : Int32)]) ++ [mb])) (.int 0) := by rw [own_nar_lat l_mb] at V393; rw [← own_sc1 (((((((([] : List Int32) ++ [(123 : Int32)]) ++ [ma]) ++ [(61 : Int32)]) ++ [(34 : Int32)]) ++ (own_escL (own_val i3))) ++ [(34 : Int32)]) ++ [(44 : Int32)]) mb (.int 0)]; exact V393
    have Hd394 := Hd391.wr W393 (safe_arv (EL := consts_1) C326.2.1.alike Vp392 (by decide))
    refine G.d 211 C326 X393 at_209 rfl rfl rfl <| G.g 213 C326 X393 at_211 rfl rfl <| G.f 214 (z := 2) C326 X393 at_213 rfl (by decide) <| G.x 215 (z := (own_n (((((((((([] : List Int32) ++ [(123 : Int32)]) ++ [ma]) ++ [(61 : Int32)]) ++ [(34 : Int32)]) ++ (own_escL (own_val i3))) ++ [(34 : Int32)]) ++ [(44 : Int32)]) ++ [mb])).length)) C326 X393 at_214 rfl (own_nk ((((((([] : List Int32) ++ [(123 : Int32)]) ++ [ma]) ++ [(61 : Int32)]) ++ [(34 : Int32)]) ++ (own_escL (own_val i3))) ++ [(34 : Int32)]) ((((((((([] : List Int32) ++ [(123 : Int32)]) ++ [ma]) ++ [(61 : Int32)]) ++ [(34 : Int32)]) ++ (own_escL (own_val i3))) ++ [(34 : Int32)]) ++ [(44 : Int32)]) ++ [mb]) 2 (by simp only [List.length_append, List.length_cons, List.length_nil])) <| G.j 217 (z := 61) C326 X393 at_215 rfl (by decide) ?_
    have Vp395 := V393.pad (pad_rep (tc ((((((((([] : List Int32) ++ [(123 : Int32)]) ++ [ma]) ++ [(61 : Int32)]) ++ [(34 : Int32)]) ++ (own_escL (own_val i3))) ++ [(34 : Int32)]) ++ [(44 : Int32)]) ++ [mb])) (.int 0) 1)
    refine G.A 218 C326 X393 Vp395 q356 (i := (((((((((([] : List Int32) ++ [(123 : Int32)]) ++ [ma]) ++ [(61 : Int32)]) ++ [(34 : Int32)]) ++ (own_escL (own_val i3))) ++ [(34 : Int32)]) ++ [(44 : Int32)]) ++ [mb])).length) at_217 rfl (own_ix (by decide) (by first | omega | (simp only [List.length_append, List.length_cons, List.length_nil]; omega)) (by rw [show (24 : Int32).toNatClampNeg = 24 from by decide]; first | omega | (simp only [List.length_append, List.length_cons, List.length_nil]; omega))) (own_n_cl (by first | omega | (simp only [List.length_append, List.length_cons, List.length_nil]; omega))) (by simp [tc_len]) (fun T396 h396 X396 W396 V396 => ?_)
    replace V396 : Arv Z h396 a356 k356 .char (24 : Int32) (tc (((((((((([] : List Int32) ++ [(123 : Int32)]) ++ [ma]) ++ [(61 : Int32)]) ++ [(34 : Int32)]) ++ (own_escL (own_val i3))) ++ [(34 : Int32)]) ++ [(44 : Int32)]) ++ [mb]) ++ [(61 : Int32)])) (.int 0) := by rw [show nar .char (61 : Int32) = (61 : Int32) from by decide] at V396; rw [← own_sc1 ((((((((([] : List Int32) ++ [(123 : Int32)]) ++ [ma]) ++ [(61 : Int32)]) ++ [(34 : Int32)]) ++ (own_escL (own_val i3))) ++ [(34 : Int32)]) ++ [(44 : Int32)]) ++ [mb]) (61 : Int32) (.int 0)]; exact V396
    have Hd397 := Hd394.wr W396 (safe_arv (EL := consts_1) C326.2.1.alike Vp395 (by decide))
    refine G.d 220 C326 X396 at_218 rfl rfl rfl <| G.g 222 C326 X396 at_220 rfl rfl <| G.f 223 (z := 3) C326 X396 at_222 rfl (by decide) <| G.x 224 (z := (own_n ((((((((((([] : List Int32) ++ [(123 : Int32)]) ++ [ma]) ++ [(61 : Int32)]) ++ [(34 : Int32)]) ++ (own_escL (own_val i3))) ++ [(34 : Int32)]) ++ [(44 : Int32)]) ++ [mb]) ++ [(61 : Int32)])).length)) C326 X396 at_223 rfl (own_nk ((((((([] : List Int32) ++ [(123 : Int32)]) ++ [ma]) ++ [(61 : Int32)]) ++ [(34 : Int32)]) ++ (own_escL (own_val i3))) ++ [(34 : Int32)]) (((((((((([] : List Int32) ++ [(123 : Int32)]) ++ [ma]) ++ [(61 : Int32)]) ++ [(34 : Int32)]) ++ (own_escL (own_val i3))) ++ [(34 : Int32)]) ++ [(44 : Int32)]) ++ [mb]) ++ [(61 : Int32)]) 3 (by simp only [List.length_append, List.length_cons, List.length_nil])) <| G.j 226 (z := 34) C326 X396 at_224 rfl (by decide) ?_
    have Vp398 := V396.pad (pad_rep (tc (((((((((([] : List Int32) ++ [(123 : Int32)]) ++ [ma]) ++ [(61 : Int32)]) ++ [(34 : Int32)]) ++ (own_escL (own_val i3))) ++ [(34 : Int32)]) ++ [(44 : Int32)]) ++ [mb]) ++ [(61 : Int32)])) (.int 0) 1)
    refine G.A 227 C326 X396 Vp398 q356 (i := ((((((((((([] : List Int32) ++ [(123 : Int32)]) ++ [ma]) ++ [(61 : Int32)]) ++ [(34 : Int32)]) ++ (own_escL (own_val i3))) ++ [(34 : Int32)]) ++ [(44 : Int32)]) ++ [mb]) ++ [(61 : Int32)])).length) at_226 rfl (own_ix (by decide) (by first | omega | (simp only [List.length_append, List.length_cons, List.length_nil]; omega)) (by rw [show (24 : Int32).toNatClampNeg = 24 from by decide]; first | omega | (simp only [List.length_append, List.length_cons, List.length_nil]; omega))) (own_n_cl (by first | omega | (simp only [List.length_append, List.length_cons, List.length_nil]; omega))) (by simp [tc_len]) (fun T399 h399 X399 W399 V399 => ?_)
    replace V399 : Arv Z h399 a356 k356 .char (24 : Int32) (tc ((((((((((([] : List Int32) ++ [(123 : Int32)]) ++ [ma]) ++ [(61 : Int32)]) ++ [(34 : Int32)]) ++ (own_escL (own_val i3))) ++ [(34 : Int32)]) ++ [(44 : Int32)]) ++ [mb]) ++ [(61 : Int32)]) ++ [(34 : Int32)])) (.int 0) := by rw [show nar .char (34 : Int32) = (34 : Int32) from by decide] at V399; rw [← own_sc1 (((((((((([] : List Int32) ++ [(123 : Int32)]) ++ [ma]) ++ [(61 : Int32)]) ++ [(34 : Int32)]) ++ (own_escL (own_val i3))) ++ [(34 : Int32)]) ++ [(44 : Int32)]) ++ [mb]) ++ [(61 : Int32)]) (34 : Int32) (.int 0)]; exact V399
    have Hd400 := Hd397.wr W399 (safe_arv (EL := consts_1) C326.2.1.alike Vp398 (by decide))
    refine G.d 229 C326 X399 at_227 rfl rfl rfl <| G.g 231 C326 X399 at_229 rfl rfl <| G.f 232 (z := 4) C326 X399 at_231 rfl (by decide) <| G.x 233 (z := (own_n (((((((((((([] : List Int32) ++ [(123 : Int32)]) ++ [ma]) ++ [(61 : Int32)]) ++ [(34 : Int32)]) ++ (own_escL (own_val i3))) ++ [(34 : Int32)]) ++ [(44 : Int32)]) ++ [mb]) ++ [(61 : Int32)]) ++ [(34 : Int32)])).length)) C326 X399 at_232 rfl (own_nk ((((((([] : List Int32) ++ [(123 : Int32)]) ++ [ma]) ++ [(61 : Int32)]) ++ [(34 : Int32)]) ++ (own_escL (own_val i3))) ++ [(34 : Int32)]) ((((((((((([] : List Int32) ++ [(123 : Int32)]) ++ [ma]) ++ [(61 : Int32)]) ++ [(34 : Int32)]) ++ (own_escL (own_val i3))) ++ [(34 : Int32)]) ++ [(44 : Int32)]) ++ [mb]) ++ [(61 : Int32)]) ++ [(34 : Int32)]) 4 (by simp only [List.length_append, List.length_cons, List.length_nil])) <| G.g 235 C326 X399 at_233 rfl rfl <| G.i 238 (cells' := 61) (slots' := 1208) (argsL := [(.ref a356), (.int (own_n (((((((((((([] : List Int32) ++ [(123 : Int32)]) ++ [ma]) ++ [(61 : Int32)]) ++ [(34 : Int32)]) ++ (own_escL (own_val i3))) ++ [(34 : Int32)]) ++ [(44 : Int32)]) ++ [mb]) ++ [(61 : Int32)]) ++ [(34 : Int32)])).length)), (.int i4)]) (St := []) C326 X399 (wd303 hw) (wd304 hw) (by decide) (wd305 hw) (wd141 hw) (ctEv hw X399.2.1 a356 k356 ((((((((((([] : List Int32) ++ [(123 : Int32)]) ++ [ma]) ++ [(61 : Int32)]) ++ [(34 : Int32)]) ++ (own_escL (own_val i3))) ++ [(34 : Int32)]) ++ [(44 : Int32)]) ++ [mb]) ++ [(61 : Int32)]) ++ [(34 : Int32)]) i4 V399 q356 (by first | omega | (simp only [List.length_append, List.length_cons, List.length_nil]; omega))) (lenOf pd44 rfl) rfl at_235 rfl rfl (by decide) (nQ rfl) rfl rfl (by decide) (by decide) (fun v401 T401 h401 Q401 X401 z401 => ?_)
    obtain ⟨hv401, K401, Ve401⟩ := Q401
    subst hv401
    have Hd402 := Hd400.keep K401 (allS (safe_arv (EL := consts_1) C326.2.1.alike V399 (by decide)) all0)
    refine G.w 240 C326 X401 at_238 rfl (l' := #[vI i0, vI i1, vI i2, vI i3, vI i4, vI 2, vI ma, vI mb, vR a195, vR a200, vR b326, vR a356, .val (.int (own_n ((((((((((((([] : List Int32) ++ [(123 : Int32)]) ++ [ma]) ++ [(61 : Int32)]) ++ [(34 : Int32)]) ++ (own_escL (own_val i3))) ++ [(34 : Int32)]) ++ [(44 : Int32)]) ++ [mb]) ++ [(61 : Int32)]) ++ [(34 : Int32)]) ++ (own_escL (own_val i4)))).length))]) rfl <| G.d 242 C326 X401 at_240 rfl rfl rfl <| G.g 244 C326 X401 at_242 rfl rfl <| G.j 246 (z := 34) C326 X401 at_244 rfl (by decide) ?_
    have Vp403 := Ve401.pad (pad_rep (tc (((((((((((([] : List Int32) ++ [(123 : Int32)]) ++ [ma]) ++ [(61 : Int32)]) ++ [(34 : Int32)]) ++ (own_escL (own_val i3))) ++ [(34 : Int32)]) ++ [(44 : Int32)]) ++ [mb]) ++ [(61 : Int32)]) ++ [(34 : Int32)]) ++ (own_escL (own_val i4)))) (.int 0) 1)
    refine G.A 247 C326 X401 Vp403 q356 (i := ((((((((((((([] : List Int32) ++ [(123 : Int32)]) ++ [ma]) ++ [(61 : Int32)]) ++ [(34 : Int32)]) ++ (own_escL (own_val i3))) ++ [(34 : Int32)]) ++ [(44 : Int32)]) ++ [mb]) ++ [(61 : Int32)]) ++ [(34 : Int32)]) ++ (own_escL (own_val i4)))).length) at_246 rfl (own_ix (by decide) (by first | omega | (simp only [List.length_append, List.length_cons, List.length_nil]; omega)) (by rw [show (24 : Int32).toNatClampNeg = 24 from by decide]; first | omega | (simp only [List.length_append, List.length_cons, List.length_nil]; omega))) (own_n_cl (by first | omega | (simp only [List.length_append, List.length_cons, List.length_nil]; omega))) (by simp [tc_len]) (fun T404 h404 X404 W404 V404 => ?_)
    replace V404 : Arv Z h404 a356 k356 .char (24 : Int32) (tc ((((((((((((([] : List Int32) ++ [(123 : Int32)]) ++ [ma]) ++ [(61 : Int32)]) ++ [(34 : Int32)]) ++ (own_escL (own_val i3))) ++ [(34 : Int32)]) ++ [(44 : Int32)]) ++ [mb]) ++ [(61 : Int32)]) ++ [(34 : Int32)]) ++ (own_escL (own_val i4))) ++ [(34 : Int32)])) (.int 0) := by rw [show nar .char (34 : Int32) = (34 : Int32) from by decide] at V404; rw [← own_sc1 (((((((((((([] : List Int32) ++ [(123 : Int32)]) ++ [ma]) ++ [(61 : Int32)]) ++ [(34 : Int32)]) ++ (own_escL (own_val i3))) ++ [(34 : Int32)]) ++ [(44 : Int32)]) ++ [mb]) ++ [(61 : Int32)]) ++ [(34 : Int32)]) ++ (own_escL (own_val i4))) (34 : Int32) (.int 0)]; exact V404
    have Hd405 := Hd402.wr W404 (safe_arv (EL := consts_1) C326.2.1.alike Vp403 (by decide))
    refine G.g 249 C326 X404 at_247 rfl rfl <| G.f 250 (z := 1) C326 X404 at_249 rfl (by decide) <| G.x 251 (z := (own_n (((((((((((((([] : List Int32) ++ [(123 : Int32)]) ++ [ma]) ++ [(61 : Int32)]) ++ [(34 : Int32)]) ++ (own_escL (own_val i3))) ++ [(34 : Int32)]) ++ [(44 : Int32)]) ++ [mb]) ++ [(61 : Int32)]) ++ [(34 : Int32)]) ++ (own_escL (own_val i4))) ++ [(34 : Int32)])).length)) C326 X404 at_250 rfl (own_nk (((((((((((([] : List Int32) ++ [(123 : Int32)]) ++ [ma]) ++ [(61 : Int32)]) ++ [(34 : Int32)]) ++ (own_escL (own_val i3))) ++ [(34 : Int32)]) ++ [(44 : Int32)]) ++ [mb]) ++ [(61 : Int32)]) ++ [(34 : Int32)]) ++ (own_escL (own_val i4))) ((((((((((((([] : List Int32) ++ [(123 : Int32)]) ++ [ma]) ++ [(61 : Int32)]) ++ [(34 : Int32)]) ++ (own_escL (own_val i3))) ++ [(34 : Int32)]) ++ [(44 : Int32)]) ++ [mb]) ++ [(61 : Int32)]) ++ [(34 : Int32)]) ++ (own_escL (own_val i4))) ++ [(34 : Int32)]) 1 (by simp only [List.length_append, List.length_cons, List.length_nil])) <| G.w 253 C326 X404 at_251 rfl (l' := #[vI i0, vI i1, vI i2, vI i3, vI i4, vI 2, vI ma, vI mb, vR a195, vR a200, vR b326, vR a356, .val (.int (own_n (((((((((((((([] : List Int32) ++ [(123 : Int32)]) ++ [ma]) ++ [(61 : Int32)]) ++ [(34 : Int32)]) ++ (own_escL (own_val i3))) ++ [(34 : Int32)]) ++ [(44 : Int32)]) ++ [mb]) ++ [(61 : Int32)]) ++ [(34 : Int32)]) ++ (own_escL (own_val i4))) ++ [(34 : Int32)])).length))]) rfl <| G.g 255 C326 X404 at_253 rfl rfl <| G.f 256 (z := 1) C326 X404 at_255 rfl (by decide) <| G.t 259 C326 X404 at_256 rfl (flt (by decide : ¬ (2 : Int32) < 1)).1 <| G.d 261 C326 X404 at_259 rfl rfl rfl <| G.g 263 C326 X404 at_261 rfl rfl <| G.j 265 (z := 125) C326 X404 at_263 rfl (by decide) ?_
    have Vp406 := V404.pad (pad_rep (tc ((((((((((((([] : List Int32) ++ [(123 : Int32)]) ++ [ma]) ++ [(61 : Int32)]) ++ [(34 : Int32)]) ++ (own_escL (own_val i3))) ++ [(34 : Int32)]) ++ [(44 : Int32)]) ++ [mb]) ++ [(61 : Int32)]) ++ [(34 : Int32)]) ++ (own_escL (own_val i4))) ++ [(34 : Int32)])) (.int 0) 1)
    refine G.A 266 C326 X404 Vp406 q356 (i := (((((((((((((([] : List Int32) ++ [(123 : Int32)]) ++ [ma]) ++ [(61 : Int32)]) ++ [(34 : Int32)]) ++ (own_escL (own_val i3))) ++ [(34 : Int32)]) ++ [(44 : Int32)]) ++ [mb]) ++ [(61 : Int32)]) ++ [(34 : Int32)]) ++ (own_escL (own_val i4))) ++ [(34 : Int32)])).length) at_265 rfl (own_ix (by decide) (by first | omega | (simp only [List.length_append, List.length_cons, List.length_nil]; omega)) (by rw [show (24 : Int32).toNatClampNeg = 24 from by decide]; first | omega | (simp only [List.length_append, List.length_cons, List.length_nil]; omega))) (own_n_cl (by first | omega | (simp only [List.length_append, List.length_cons, List.length_nil]; omega))) (by simp [tc_len]) (fun T407 h407 X407 W407 V407 => ?_)
    replace V407 : Arv Z h407 a356 k356 .char (24 : Int32) (tc (((((((((((((([] : List Int32) ++ [(123 : Int32)]) ++ [ma]) ++ [(61 : Int32)]) ++ [(34 : Int32)]) ++ (own_escL (own_val i3))) ++ [(34 : Int32)]) ++ [(44 : Int32)]) ++ [mb]) ++ [(61 : Int32)]) ++ [(34 : Int32)]) ++ (own_escL (own_val i4))) ++ [(34 : Int32)]) ++ [(125 : Int32)])) (.int 0) := by rw [show nar .char (125 : Int32) = (125 : Int32) from by decide] at V407; rw [← own_sc1 ((((((((((((([] : List Int32) ++ [(123 : Int32)]) ++ [ma]) ++ [(61 : Int32)]) ++ [(34 : Int32)]) ++ (own_escL (own_val i3))) ++ [(34 : Int32)]) ++ [(44 : Int32)]) ++ [mb]) ++ [(61 : Int32)]) ++ [(34 : Int32)]) ++ (own_escL (own_val i4))) ++ [(34 : Int32)]) (125 : Int32) (.int 0)]; exact V407
    have Hd408 := Hd405.wr W407 (safe_arv (EL := consts_1) C326.2.1.alike Vp406 (by decide))
    refine G.g 268 C326 X407 at_266 rfl rfl <| G.f 269 (z := 1) C326 X407 at_268 rfl (by decide) <| G.x 270 (z := (own_n ((((((((((((((([] : List Int32) ++ [(123 : Int32)]) ++ [ma]) ++ [(61 : Int32)]) ++ [(34 : Int32)]) ++ (own_escL (own_val i3))) ++ [(34 : Int32)]) ++ [(44 : Int32)]) ++ [mb]) ++ [(61 : Int32)]) ++ [(34 : Int32)]) ++ (own_escL (own_val i4))) ++ [(34 : Int32)]) ++ [(125 : Int32)])).length)) C326 X407 at_269 rfl (own_nk ((((((((((((([] : List Int32) ++ [(123 : Int32)]) ++ [ma]) ++ [(61 : Int32)]) ++ [(34 : Int32)]) ++ (own_escL (own_val i3))) ++ [(34 : Int32)]) ++ [(44 : Int32)]) ++ [mb]) ++ [(61 : Int32)]) ++ [(34 : Int32)]) ++ (own_escL (own_val i4))) ++ [(34 : Int32)]) (((((((((((((([] : List Int32) ++ [(123 : Int32)]) ++ [ma]) ++ [(61 : Int32)]) ++ [(34 : Int32)]) ++ (own_escL (own_val i3))) ++ [(34 : Int32)]) ++ [(44 : Int32)]) ++ [mb]) ++ [(61 : Int32)]) ++ [(34 : Int32)]) ++ (own_escL (own_val i4))) ++ [(34 : Int32)]) ++ [(125 : Int32)]) 1 (by simp only [List.length_append, List.length_cons, List.length_nil])) <| G.w 272 C326 X407 at_270 rfl (l' := #[vI i0, vI i1, vI i2, vI i3, vI i4, vI 2, vI ma, vI mb, vR a195, vR a200, vR b326, vR a356, .val (.int (own_n ((((((((((((((([] : List Int32) ++ [(123 : Int32)]) ++ [ma]) ++ [(61 : Int32)]) ++ [(34 : Int32)]) ++ (own_escL (own_val i3))) ++ [(34 : Int32)]) ++ [(44 : Int32)]) ++ [mb]) ++ [(61 : Int32)]) ++ [(34 : Int32)]) ++ (own_escL (own_val i4))) ++ [(34 : Int32)]) ++ [(125 : Int32)])).length))]) rfl ?_
    have hRX : (((((((((((([] : List Int32) ++ [(123 : Int32)]) ++ [ma]) ++ ([61, 34] : List Int32)) ++ (own_escL (own_val i3))) ++ [(34 : Int32)]) ++ [(44 : Int32)]) ++ [mb]) ++ ([61, 34] : List Int32)) ++ (own_escL (own_val i4))) ++ [(34 : Int32)]) ++ [(125 : Int32)]) = (((((((((((((([] : List Int32) ++ [(123 : Int32)]) ++ [ma]) ++ [(61 : Int32)]) ++ [(34 : Int32)]) ++ (own_escL (own_val i3))) ++ [(34 : Int32)]) ++ [(44 : Int32)]) ++ [mb]) ++ [(61 : Int32)]) ++ [(34 : Int32)]) ++ (own_escL (own_val i4))) ++ [(34 : Int32)]) ++ [(125 : Int32)]) := by first | rfl | simp only [List.append_assoc, List.cons_append, List.nil_append, List.append_nil]
    have f409 := ((((((((((((((V326.ext E356).other W373 ne370).other W376 ne370).other W379 ne370).other W382 ne370).keep K384 (ninS ne370 nin0)).other W387 ne370).other W390 ne370).other W393 ne370).other W396 ne370).other W399 ne370).keep K401 (ninS ne370 nin0)).other W404 ne370).other W407 ne370)
    have Vy : Arv Z h407 t326 k326 .byte (own_n ((((((((((((((([] : List Int32) ++ [(123 : Int32)]) ++ [ma]) ++ [(61 : Int32)]) ++ [(34 : Int32)]) ++ (own_escL (own_val i3))) ++ [(34 : Int32)]) ++ [(44 : Int32)]) ++ [mb]) ++ [(61 : Int32)]) ++ [(34 : Int32)]) ++ (own_escL (own_val i4))) ++ [(34 : Int32)]) ++ [(125 : Int32)])).length) (tx (((((((((((((([] : List Int32) ++ [(123 : Int32)]) ++ [ma]) ++ [(61 : Int32)]) ++ [(34 : Int32)]) ++ (own_escL (own_val i3))) ++ [(34 : Int32)]) ++ [(44 : Int32)]) ++ [mb]) ++ [(61 : Int32)]) ++ [(34 : Int32)]) ++ (own_escL (own_val i4))) ++ [(34 : Int32)]) ++ [(125 : Int32)])) (.int 0) := by rw [← hRX]; exact f409
    have hLA : ∀ c ∈ (((((((((((((([] : List Int32) ++ [(123 : Int32)]) ++ [ma]) ++ [(61 : Int32)]) ++ [(34 : Int32)]) ++ (own_escL (own_val i3))) ++ [(34 : Int32)]) ++ [(44 : Int32)]) ++ [mb]) ++ [(61 : Int32)]) ++ [(34 : Int32)]) ++ (own_escL (own_val i4))) ++ [(34 : Int32)]) ++ [(125 : Int32)]), own_lat c := (own_alA (own_alA (own_alA (own_alA (own_alA (own_alA (own_alA (own_alA (own_alA (own_alA (own_alA (own_alA (own_alA own_al0 (own_alS (by unfold own_lat; decide) own_al0)) (own_alS l_ma own_al0)) (own_alS (by unfold own_lat; decide) own_al0)) (own_alS (by unfold own_lat; decide) own_al0)) (own_escL_lat (own_val_lat i3))) (own_alS (by unfold own_lat; decide) own_al0)) (own_alS (by unfold own_lat; decide) own_al0)) (own_alS l_mb own_al0)) (own_alS (by unfold own_lat; decide) own_al0)) (own_alS (by unfold own_lat; decide) own_al0)) (own_escL_lat (own_val_lat i4))) (own_alS (by unfold own_lat; decide) own_al0)) (own_alS (by unfold own_lat; decide) own_al0))
    have hXb : ((((((((((((((([] : List Int32) ++ [(123 : Int32)]) ++ [ma]) ++ [(61 : Int32)]) ++ [(34 : Int32)]) ++ (own_escL (own_val i3))) ++ [(34 : Int32)]) ++ [(44 : Int32)]) ++ [mb]) ++ [(61 : Int32)]) ++ [(34 : Int32)]) ++ (own_escL (own_val i4))) ++ [(34 : Int32)]) ++ [(125 : Int32)])).length < 1000 := by simp only [List.length_append, List.length_cons, List.length_nil]; omega
    refine G.d 274 C326 X407 at_272 rfl rfl rfl ?_
    have f410 := ((((((((((((((E326.ext E356).wr W373).wr W376).wr W379).wr W382).keep K384).wr W387).wr W390).wr W393).wr W396).wr W399).keep K401).wr W404).wr W407)
    have f411 := ((((((((((((((F326v.ext E356).other W373 (Or.inl ne369)).other W376 (Or.inl ne369)).other W379 (Or.inl ne369)).other W382 (Or.inl ne369)).keep K384 (ninS ne369 nin0)).other W387 (Or.inl ne369)).other W390 (Or.inl ne369)).other W393 (Or.inl ne369)).other W396 (Or.inl ne369)).other W399 (Or.inl ne369)).keep K401 (ninS ne369 nin0)).other W404 (Or.inl ne369)).other W407 (Or.inl ne369))
    have f412 := ((((((((((((((F326c.ext E356).other W373 (Or.inl ne369)).other W376 (Or.inl ne369)).other W379 (Or.inl ne369)).other W382 (Or.inl ne369)).keep K384 (ninS ne369 nin0)).other W387 (Or.inl ne369)).other W390 (Or.inl ne369)).other W393 (Or.inl ne369)).other W396 (Or.inl ne369)).other W399 (Or.inl ne369)).keep K401 (ninS ne369 nin0)).other W404 (Or.inl ne369)).other W407 (Or.inl ne369))
    have f413 := (((((((((((((((f325.keep K326 all0).ext E356).wr W373 q356).wr W376 q356).wr W379 q356).wr W382 q356).keep K384 (allS q356 all0)).wr W387 q356).wr W390 q356).wr W393 q356).wr W396 q356).wr W399 q356).keep K401 (allS q356 all0)).wr W404 q356).wr W407 q356)
    refine G.o 277 (cells' := 61) (slots' := 1208) (argsL := []) (St := []) C326 X407 (wd128 hw) (wd129 hw) (wd131 hw) (wd130 hw) (by decide) f410 (wd132 hw) (wd44 hw) (ctLenA hw X407.2.1 b326 t326 k326 (((((((((((((([] : List Int32) ++ [(123 : Int32)]) ++ [ma]) ++ [(61 : Int32)]) ++ [(34 : Int32)]) ++ (own_escL (own_val i3))) ++ [(34 : Int32)]) ++ [(44 : Int32)]) ++ [mb]) ++ [(61 : Int32)]) ++ [(34 : Int32)]) ++ (own_escL (own_val i4))) ++ [(34 : Int32)]) ++ [(125 : Int32)]) cz f410 f411 f412 Vy f413 S2 hcz) (lenOf pd8 rfl) rfl at_274 rfl rfl (by decide) (nQ rfl) rfl rfl (by decide) (by decide) (fun v414 T414 h414 Q414 X414 z414 => ?_)
    obtain ⟨hv414, hh414⟩ := Q414
    subst hv414; rw [hh414] at X414
    refine G.g 279 C326 X414 at_277 rfl rfl <| G.t 282 C326 X414 at_279 rfl (teq rfl).2 <| G.d 284 C326 X414 at_282 rfl rfl rfl <| G.d 286 C326 X414 at_284 rfl rfl rfl <| G.f 287 (z := 0) C326 X414 at_286 rfl (by decide) <| G.i 290 (cells' := 61) (slots' := 1208) (argsL := [(.ref b326), (.ref a356), (.int 0)]) (St := []) C326 X414 (wd139 hw) (wd140 hw) (by decide) (wd142 hw) (wd141 hw) (ctAt hw X414.2.1 b326 t326 k326 (((((((((((((([] : List Int32) ++ [(123 : Int32)]) ++ [ma]) ++ [(61 : Int32)]) ++ [(34 : Int32)]) ++ (own_escL (own_val i3))) ++ [(34 : Int32)]) ++ [(44 : Int32)]) ++ [mb]) ++ [(61 : Int32)]) ++ [(34 : Int32)]) ++ (own_escL (own_val i4))) ++ [(34 : Int32)]) ++ [(125 : Int32)]) a356 k356 (0 : Int32) cz fmt f410 f411 f412 Vy V407 (by decide) (by decide) hXb hLA Sf hfm f413 S2 hcz) (lenOf pd40 rfl) rfl at_287 rfl rfl (by decide) (nQ rfl) rfl rfl (by decide) (by decide) (fun v415 T415 h415 Q415 X415 z415 => ?_)
    obtain ⟨hv415, hh415⟩ := Q415
    subst hv415; rw [hh415] at X415
    refine G.k 293 C326 X415 at_290 rfl (feq (by decide : ¬ (1 : Int32) = 0)).1 <| G.d 295 C326 X415 at_293 rfl rfl rfl <| G.d 297 C326 X415 at_295 rfl rfl rfl <| G.f 298 (z := 1) C326 X415 at_297 rfl (by decide) <| G.i 301 (cells' := 61) (slots' := 1208) (argsL := [(.ref b326), (.ref a356), (.int 1)]) (St := []) C326 X415 (wd139 hw) (wd140 hw) (by decide) (wd142 hw) (wd141 hw) (ctAt hw X415.2.1 b326 t326 k326 (((((((((((((([] : List Int32) ++ [(123 : Int32)]) ++ [ma]) ++ [(61 : Int32)]) ++ [(34 : Int32)]) ++ (own_escL (own_val i3))) ++ [(34 : Int32)]) ++ [(44 : Int32)]) ++ [mb]) ++ [(61 : Int32)]) ++ [(34 : Int32)]) ++ (own_escL (own_val i4))) ++ [(34 : Int32)]) ++ [(125 : Int32)]) a356 k356 (1 : Int32) cz fmt f410 f411 f412 Vy V407 (by decide) (by decide) hXb hLA Sf hfm f413 S2 hcz) (lenOf pd40 rfl) rfl at_298 rfl rfl (by decide) (nQ rfl) rfl rfl (by decide) (by decide) (fun v416 T416 h416 Q416 X416 z416 => ?_)
    obtain ⟨hv416, hh416⟩ := Q416
    subst hv416; rw [hh416] at X416
    refine G.k 304 C326 X416 at_301 rfl (feq (by decide : ¬ (1 : Int32) = 0)).1 <| G.d 306 C326 X416 at_304 rfl rfl rfl <| G.d 308 C326 X416 at_306 rfl rfl rfl <| G.f 309 (z := 2) C326 X416 at_308 rfl (by decide) <| G.i 312 (cells' := 61) (slots' := 1208) (argsL := [(.ref b326), (.ref a356), (.int 2)]) (St := []) C326 X416 (wd139 hw) (wd140 hw) (by decide) (wd142 hw) (wd141 hw) (ctAt hw X416.2.1 b326 t326 k326 (((((((((((((([] : List Int32) ++ [(123 : Int32)]) ++ [ma]) ++ [(61 : Int32)]) ++ [(34 : Int32)]) ++ (own_escL (own_val i3))) ++ [(34 : Int32)]) ++ [(44 : Int32)]) ++ [mb]) ++ [(61 : Int32)]) ++ [(34 : Int32)]) ++ (own_escL (own_val i4))) ++ [(34 : Int32)]) ++ [(125 : Int32)]) a356 k356 (2 : Int32) cz fmt f410 f411 f412 Vy V407 (by decide) (by decide) hXb hLA Sf hfm f413 S2 hcz) (lenOf pd40 rfl) rfl at_309 rfl rfl (by decide) (nQ rfl) rfl rfl (by decide) (by decide) (fun v417 T417 h417 Q417 X417 z417 => ?_)
    obtain ⟨hv417, hh417⟩ := Q417
    subst hv417; rw [hh417] at X417
    refine G.k 315 C326 X417 at_312 rfl (feq (by decide : ¬ (1 : Int32) = 0)).1 <| G.d 317 C326 X417 at_315 rfl rfl rfl <| G.d 319 C326 X417 at_317 rfl rfl rfl <| G.f 320 (z := 3) C326 X417 at_319 rfl (by decide) <| G.i 323 (cells' := 61) (slots' := 1208) (argsL := [(.ref b326), (.ref a356), (.int 3)]) (St := []) C326 X417 (wd139 hw) (wd140 hw) (by decide) (wd142 hw) (wd141 hw) (ctAt hw X417.2.1 b326 t326 k326 (((((((((((((([] : List Int32) ++ [(123 : Int32)]) ++ [ma]) ++ [(61 : Int32)]) ++ [(34 : Int32)]) ++ (own_escL (own_val i3))) ++ [(34 : Int32)]) ++ [(44 : Int32)]) ++ [mb]) ++ [(61 : Int32)]) ++ [(34 : Int32)]) ++ (own_escL (own_val i4))) ++ [(34 : Int32)]) ++ [(125 : Int32)]) a356 k356 (3 : Int32) cz fmt f410 f411 f412 Vy V407 (by decide) (by decide) hXb hLA Sf hfm f413 S2 hcz) (lenOf pd40 rfl) rfl at_320 rfl rfl (by decide) (nQ rfl) rfl rfl (by decide) (by decide) (fun v418 T418 h418 Q418 X418 z418 => ?_)
    obtain ⟨hv418, hh418⟩ := Q418
    subst hv418; rw [hh418] at X418
    refine G.k 326 C326 X418 at_323 rfl (feq (by decide : ¬ (1 : Int32) = 0)).1 <| G.d 328 C326 X418 at_326 rfl rfl rfl <| G.d 330 C326 X418 at_328 rfl rfl rfl <| G.f 331 (z := 4) C326 X418 at_330 rfl (by decide) <| G.i 334 (cells' := 61) (slots' := 1208) (argsL := [(.ref b326), (.ref a356), (.int 4)]) (St := []) C326 X418 (wd139 hw) (wd140 hw) (by decide) (wd142 hw) (wd141 hw) (ctAt hw X418.2.1 b326 t326 k326 (((((((((((((([] : List Int32) ++ [(123 : Int32)]) ++ [ma]) ++ [(61 : Int32)]) ++ [(34 : Int32)]) ++ (own_escL (own_val i3))) ++ [(34 : Int32)]) ++ [(44 : Int32)]) ++ [mb]) ++ [(61 : Int32)]) ++ [(34 : Int32)]) ++ (own_escL (own_val i4))) ++ [(34 : Int32)]) ++ [(125 : Int32)]) a356 k356 (4 : Int32) cz fmt f410 f411 f412 Vy V407 (by decide) (by decide) hXb hLA Sf hfm f413 S2 hcz) (lenOf pd40 rfl) rfl at_331 rfl rfl (by decide) (nQ rfl) rfl rfl (by decide) (by decide) (fun v419 T419 h419 Q419 X419 z419 => ?_)
    obtain ⟨hv419, hh419⟩ := Q419
    subst hv419; rw [hh419] at X419
    refine G.k 337 C326 X419 at_334 rfl (feq (by decide : ¬ (1 : Int32) = 0)).1 <| G.d 339 C326 X419 at_337 rfl rfl rfl <| G.d 341 C326 X419 at_339 rfl rfl rfl <| G.f 342 (z := 5) C326 X419 at_341 rfl (by decide) <| G.i 345 (cells' := 61) (slots' := 1208) (argsL := [(.ref b326), (.ref a356), (.int 5)]) (St := []) C326 X419 (wd139 hw) (wd140 hw) (by decide) (wd142 hw) (wd141 hw) (ctAt hw X419.2.1 b326 t326 k326 (((((((((((((([] : List Int32) ++ [(123 : Int32)]) ++ [ma]) ++ [(61 : Int32)]) ++ [(34 : Int32)]) ++ (own_escL (own_val i3))) ++ [(34 : Int32)]) ++ [(44 : Int32)]) ++ [mb]) ++ [(61 : Int32)]) ++ [(34 : Int32)]) ++ (own_escL (own_val i4))) ++ [(34 : Int32)]) ++ [(125 : Int32)]) a356 k356 (5 : Int32) cz fmt f410 f411 f412 Vy V407 (by decide) (by decide) hXb hLA Sf hfm f413 S2 hcz) (lenOf pd40 rfl) rfl at_342 rfl rfl (by decide) (nQ rfl) rfl rfl (by decide) (by decide) (fun v420 T420 h420 Q420 X420 z420 => ?_)
    obtain ⟨hv420, hh420⟩ := Q420
    subst hv420; rw [hh420] at X420
    refine G.k 348 C326 X420 at_345 rfl (feq (by decide : ¬ (1 : Int32) = 0)).1 <| G.d 350 C326 X420 at_348 rfl rfl rfl <| G.d 352 C326 X420 at_350 rfl rfl rfl <| G.j 354 (z := 6) C326 X420 at_352 rfl (by decide) <| G.i 357 (cells' := 61) (slots' := 1208) (argsL := [(.ref b326), (.ref a356), (.int 6)]) (St := []) C326 X420 (wd139 hw) (wd140 hw) (by decide) (wd142 hw) (wd141 hw) (ctAt hw X420.2.1 b326 t326 k326 (((((((((((((([] : List Int32) ++ [(123 : Int32)]) ++ [ma]) ++ [(61 : Int32)]) ++ [(34 : Int32)]) ++ (own_escL (own_val i3))) ++ [(34 : Int32)]) ++ [(44 : Int32)]) ++ [mb]) ++ [(61 : Int32)]) ++ [(34 : Int32)]) ++ (own_escL (own_val i4))) ++ [(34 : Int32)]) ++ [(125 : Int32)]) a356 k356 (6 : Int32) cz fmt f410 f411 f412 Vy V407 (by decide) (by decide) hXb hLA Sf hfm f413 S2 hcz) (lenOf pd40 rfl) rfl at_354 rfl rfl (by decide) (nQ rfl) rfl rfl (by decide) (by decide) (fun v421 T421 h421 Q421 X421 z421 => ?_)
    obtain ⟨hv421, hh421⟩ := Q421
    subst hv421; rw [hh421] at X421
    refine G.k 360 C326 X421 at_357 rfl (feq (by decide : ¬ (1 : Int32) = 0)).1 <| G.d 362 C326 X421 at_360 rfl rfl rfl <| G.d 364 C326 X421 at_362 rfl rfl rfl <| G.j 366 (z := 7) C326 X421 at_364 rfl (by decide) <| G.i 369 (cells' := 61) (slots' := 1208) (argsL := [(.ref b326), (.ref a356), (.int 7)]) (St := []) C326 X421 (wd139 hw) (wd140 hw) (by decide) (wd142 hw) (wd141 hw) (ctAt hw X421.2.1 b326 t326 k326 (((((((((((((([] : List Int32) ++ [(123 : Int32)]) ++ [ma]) ++ [(61 : Int32)]) ++ [(34 : Int32)]) ++ (own_escL (own_val i3))) ++ [(34 : Int32)]) ++ [(44 : Int32)]) ++ [mb]) ++ [(61 : Int32)]) ++ [(34 : Int32)]) ++ (own_escL (own_val i4))) ++ [(34 : Int32)]) ++ [(125 : Int32)]) a356 k356 (7 : Int32) cz fmt f410 f411 f412 Vy V407 (by decide) (by decide) hXb hLA Sf hfm f413 S2 hcz) (lenOf pd40 rfl) rfl at_366 rfl rfl (by decide) (nQ rfl) rfl rfl (by decide) (by decide) (fun v422 T422 h422 Q422 X422 z422 => ?_)
    obtain ⟨hv422, hh422⟩ := Q422
    subst hv422; rw [hh422] at X422
    refine G.k 372 C326 X422 at_369 rfl (feq (by decide : ¬ (1 : Int32) = 0)).1 <| G.d 374 C326 X422 at_372 rfl rfl rfl <| G.d 376 C326 X422 at_374 rfl rfl rfl <| G.j 378 (z := 8) C326 X422 at_376 rfl (by decide) <| G.i 381 (cells' := 61) (slots' := 1208) (argsL := [(.ref b326), (.ref a356), (.int 8)]) (St := []) C326 X422 (wd139 hw) (wd140 hw) (by decide) (wd142 hw) (wd141 hw) (ctAt hw X422.2.1 b326 t326 k326 (((((((((((((([] : List Int32) ++ [(123 : Int32)]) ++ [ma]) ++ [(61 : Int32)]) ++ [(34 : Int32)]) ++ (own_escL (own_val i3))) ++ [(34 : Int32)]) ++ [(44 : Int32)]) ++ [mb]) ++ [(61 : Int32)]) ++ [(34 : Int32)]) ++ (own_escL (own_val i4))) ++ [(34 : Int32)]) ++ [(125 : Int32)]) a356 k356 (8 : Int32) cz fmt f410 f411 f412 Vy V407 (by decide) (by decide) hXb hLA Sf hfm f413 S2 hcz) (lenOf pd40 rfl) rfl at_378 rfl rfl (by decide) (nQ rfl) rfl rfl (by decide) (by decide) (fun v423 T423 h423 Q423 X423 z423 => ?_)
    obtain ⟨hv423, hh423⟩ := Q423
    subst hv423; rw [hh423] at X423
    refine G.k 384 C326 X423 at_381 rfl (feq (by decide : ¬ (1 : Int32) = 0)).1 <| G.d 386 C326 X423 at_384 rfl rfl rfl <| G.d 388 C326 X423 at_386 rfl rfl rfl <| G.j 390 (z := 9) C326 X423 at_388 rfl (by decide) <| G.i 393 (cells' := 61) (slots' := 1208) (argsL := [(.ref b326), (.ref a356), (.int 9)]) (St := []) C326 X423 (wd139 hw) (wd140 hw) (by decide) (wd142 hw) (wd141 hw) (ctAt hw X423.2.1 b326 t326 k326 (((((((((((((([] : List Int32) ++ [(123 : Int32)]) ++ [ma]) ++ [(61 : Int32)]) ++ [(34 : Int32)]) ++ (own_escL (own_val i3))) ++ [(34 : Int32)]) ++ [(44 : Int32)]) ++ [mb]) ++ [(61 : Int32)]) ++ [(34 : Int32)]) ++ (own_escL (own_val i4))) ++ [(34 : Int32)]) ++ [(125 : Int32)]) a356 k356 (9 : Int32) cz fmt f410 f411 f412 Vy V407 (by decide) (by decide) hXb hLA Sf hfm f413 S2 hcz) (lenOf pd40 rfl) rfl at_390 rfl rfl (by decide) (nQ rfl) rfl rfl (by decide) (by decide) (fun v424 T424 h424 Q424 X424 z424 => ?_)
    obtain ⟨hv424, hh424⟩ := Q424
    subst hv424; rw [hh424] at X424
    refine G.k 396 C326 X424 at_393 rfl (feq (by decide : ¬ (1 : Int32) = 0)).1 <| G.d 398 C326 X424 at_396 rfl rfl rfl <| G.d 400 C326 X424 at_398 rfl rfl rfl <| G.j 402 (z := 10) C326 X424 at_400 rfl (by decide) <| G.i 405 (cells' := 61) (slots' := 1208) (argsL := [(.ref b326), (.ref a356), (.int 10)]) (St := []) C326 X424 (wd139 hw) (wd140 hw) (by decide) (wd142 hw) (wd141 hw) (ctAt hw X424.2.1 b326 t326 k326 (((((((((((((([] : List Int32) ++ [(123 : Int32)]) ++ [ma]) ++ [(61 : Int32)]) ++ [(34 : Int32)]) ++ (own_escL (own_val i3))) ++ [(34 : Int32)]) ++ [(44 : Int32)]) ++ [mb]) ++ [(61 : Int32)]) ++ [(34 : Int32)]) ++ (own_escL (own_val i4))) ++ [(34 : Int32)]) ++ [(125 : Int32)]) a356 k356 (10 : Int32) cz fmt f410 f411 f412 Vy V407 (by decide) (by decide) hXb hLA Sf hfm f413 S2 hcz) (lenOf pd40 rfl) rfl at_402 rfl rfl (by decide) (nQ rfl) rfl rfl (by decide) (by decide) (fun v425 T425 h425 Q425 X425 z425 => ?_)
    obtain ⟨hv425, hh425⟩ := Q425
    subst hv425; rw [hh425] at X425
    refine G.k 408 C326 X425 at_405 rfl (feq (by decide : ¬ (1 : Int32) = 0)).1 <| G.d 410 C326 X425 at_408 rfl rfl rfl <| G.d 412 C326 X425 at_410 rfl rfl rfl <| G.j 414 (z := 11) C326 X425 at_412 rfl (by decide) <| G.i 417 (cells' := 61) (slots' := 1208) (argsL := [(.ref b326), (.ref a356), (.int 11)]) (St := []) C326 X425 (wd139 hw) (wd140 hw) (by decide) (wd142 hw) (wd141 hw) (ctAt hw X425.2.1 b326 t326 k326 (((((((((((((([] : List Int32) ++ [(123 : Int32)]) ++ [ma]) ++ [(61 : Int32)]) ++ [(34 : Int32)]) ++ (own_escL (own_val i3))) ++ [(34 : Int32)]) ++ [(44 : Int32)]) ++ [mb]) ++ [(61 : Int32)]) ++ [(34 : Int32)]) ++ (own_escL (own_val i4))) ++ [(34 : Int32)]) ++ [(125 : Int32)]) a356 k356 (11 : Int32) cz fmt f410 f411 f412 Vy V407 (by decide) (by decide) hXb hLA Sf hfm f413 S2 hcz) (lenOf pd40 rfl) rfl at_414 rfl rfl (by decide) (nQ rfl) rfl rfl (by decide) (by decide) (fun v426 T426 h426 Q426 X426 z426 => ?_)
    obtain ⟨hv426, hh426⟩ := Q426
    subst hv426; rw [hh426] at X426
    refine G.k 420 C326 X426 at_417 rfl (feq (by decide : ¬ (1 : Int32) = 0)).1 <| G.d 422 C326 X426 at_420 rfl rfl rfl <| G.d 424 C326 X426 at_422 rfl rfl rfl <| G.j 426 (z := 12) C326 X426 at_424 rfl (by decide) <| G.i 429 (cells' := 61) (slots' := 1208) (argsL := [(.ref b326), (.ref a356), (.int 12)]) (St := []) C326 X426 (wd139 hw) (wd140 hw) (by decide) (wd142 hw) (wd141 hw) (ctAt hw X426.2.1 b326 t326 k326 (((((((((((((([] : List Int32) ++ [(123 : Int32)]) ++ [ma]) ++ [(61 : Int32)]) ++ [(34 : Int32)]) ++ (own_escL (own_val i3))) ++ [(34 : Int32)]) ++ [(44 : Int32)]) ++ [mb]) ++ [(61 : Int32)]) ++ [(34 : Int32)]) ++ (own_escL (own_val i4))) ++ [(34 : Int32)]) ++ [(125 : Int32)]) a356 k356 (12 : Int32) cz fmt f410 f411 f412 Vy V407 (by decide) (by decide) hXb hLA Sf hfm f413 S2 hcz) (lenOf pd40 rfl) rfl at_426 rfl rfl (by decide) (nQ rfl) rfl rfl (by decide) (by decide) (fun v427 T427 h427 Q427 X427 z427 => ?_)
    obtain ⟨hv427, hh427⟩ := Q427
    subst hv427; rw [hh427] at X427
    refine G.k 432 C326 X427 at_429 rfl (feq (by decide : ¬ (1 : Int32) = 0)).1 <| G.d 434 C326 X427 at_432 rfl rfl rfl <| G.d 436 C326 X427 at_434 rfl rfl rfl <| G.j 438 (z := 13) C326 X427 at_436 rfl (by decide) <| G.i 441 (cells' := 61) (slots' := 1208) (argsL := [(.ref b326), (.ref a356), (.int 13)]) (St := []) C326 X427 (wd139 hw) (wd140 hw) (by decide) (wd142 hw) (wd141 hw) (ctAt hw X427.2.1 b326 t326 k326 (((((((((((((([] : List Int32) ++ [(123 : Int32)]) ++ [ma]) ++ [(61 : Int32)]) ++ [(34 : Int32)]) ++ (own_escL (own_val i3))) ++ [(34 : Int32)]) ++ [(44 : Int32)]) ++ [mb]) ++ [(61 : Int32)]) ++ [(34 : Int32)]) ++ (own_escL (own_val i4))) ++ [(34 : Int32)]) ++ [(125 : Int32)]) a356 k356 (13 : Int32) cz fmt f410 f411 f412 Vy V407 (by decide) (by decide) hXb hLA Sf hfm f413 S2 hcz) (lenOf pd40 rfl) rfl at_438 rfl rfl (by decide) (nQ rfl) rfl rfl (by decide) (by decide) (fun v428 T428 h428 Q428 X428 z428 => ?_)
    obtain ⟨hv428, hh428⟩ := Q428
    subst hv428; rw [hh428] at X428
    refine G.k 444 C326 X428 at_441 rfl (feq (by decide : ¬ (1 : Int32) = 0)).1 <| G.d 446 C326 X428 at_444 rfl rfl rfl <| G.d 448 C326 X428 at_446 rfl rfl rfl <| G.j 450 (z := 14) C326 X428 at_448 rfl (by decide) <| G.i 453 (cells' := 61) (slots' := 1208) (argsL := [(.ref b326), (.ref a356), (.int 14)]) (St := []) C326 X428 (wd139 hw) (wd140 hw) (by decide) (wd142 hw) (wd141 hw) (ctAt hw X428.2.1 b326 t326 k326 (((((((((((((([] : List Int32) ++ [(123 : Int32)]) ++ [ma]) ++ [(61 : Int32)]) ++ [(34 : Int32)]) ++ (own_escL (own_val i3))) ++ [(34 : Int32)]) ++ [(44 : Int32)]) ++ [mb]) ++ [(61 : Int32)]) ++ [(34 : Int32)]) ++ (own_escL (own_val i4))) ++ [(34 : Int32)]) ++ [(125 : Int32)]) a356 k356 (14 : Int32) cz fmt f410 f411 f412 Vy V407 (by decide) (by decide) hXb hLA Sf hfm f413 S2 hcz) (lenOf pd40 rfl) rfl at_450 rfl rfl (by decide) (nQ rfl) rfl rfl (by decide) (by decide) (fun v429 T429 h429 Q429 X429 z429 => ?_)
    obtain ⟨hv429, hh429⟩ := Q429
    subst hv429; rw [hh429] at X429
    refine G.k 456 C326 X429 at_453 rfl (feq (by decide : ¬ (1 : Int32) = 0)).1 <| G.d 458 C326 X429 at_456 rfl rfl rfl <| G.d 460 C326 X429 at_458 rfl rfl rfl <| G.j 462 (z := 15) C326 X429 at_460 rfl (by decide) <| G.i 465 (cells' := 61) (slots' := 1208) (argsL := [(.ref b326), (.ref a356), (.int 15)]) (St := []) C326 X429 (wd139 hw) (wd140 hw) (by decide) (wd142 hw) (wd141 hw) (ctAt hw X429.2.1 b326 t326 k326 (((((((((((((([] : List Int32) ++ [(123 : Int32)]) ++ [ma]) ++ [(61 : Int32)]) ++ [(34 : Int32)]) ++ (own_escL (own_val i3))) ++ [(34 : Int32)]) ++ [(44 : Int32)]) ++ [mb]) ++ [(61 : Int32)]) ++ [(34 : Int32)]) ++ (own_escL (own_val i4))) ++ [(34 : Int32)]) ++ [(125 : Int32)]) a356 k356 (15 : Int32) cz fmt f410 f411 f412 Vy V407 (by decide) (by decide) hXb hLA Sf hfm f413 S2 hcz) (lenOf pd40 rfl) rfl at_462 rfl rfl (by decide) (nQ rfl) rfl rfl (by decide) (by decide) (fun v430 T430 h430 Q430 X430 z430 => ?_)
    obtain ⟨hv430, hh430⟩ := Q430
    subst hv430; rw [hh430] at X430
    refine G.k 468 C326 X430 at_465 rfl (feq (by decide : ¬ (1 : Int32) = 0)).1 <| G.d 470 C326 X430 at_468 rfl rfl rfl <| G.d 472 C326 X430 at_470 rfl rfl rfl <| G.j 474 (z := 16) C326 X430 at_472 rfl (by decide) <| G.i 477 (cells' := 61) (slots' := 1208) (argsL := [(.ref b326), (.ref a356), (.int 16)]) (St := []) C326 X430 (wd139 hw) (wd140 hw) (by decide) (wd142 hw) (wd141 hw) (ctAt hw X430.2.1 b326 t326 k326 (((((((((((((([] : List Int32) ++ [(123 : Int32)]) ++ [ma]) ++ [(61 : Int32)]) ++ [(34 : Int32)]) ++ (own_escL (own_val i3))) ++ [(34 : Int32)]) ++ [(44 : Int32)]) ++ [mb]) ++ [(61 : Int32)]) ++ [(34 : Int32)]) ++ (own_escL (own_val i4))) ++ [(34 : Int32)]) ++ [(125 : Int32)]) a356 k356 (16 : Int32) cz fmt f410 f411 f412 Vy V407 (by decide) (by decide) hXb hLA Sf hfm f413 S2 hcz) (lenOf pd40 rfl) rfl at_474 rfl rfl (by decide) (nQ rfl) rfl rfl (by decide) (by decide) (fun v431 T431 h431 Q431 X431 z431 => ?_)
    obtain ⟨hv431, hh431⟩ := Q431
    subst hv431; rw [hh431] at X431
    refine G.k 480 C326 X431 at_477 rfl (feq (by decide : ¬ (1 : Int32) = 0)).1 <| G.d 482 C326 X431 at_480 rfl rfl rfl <| G.d 484 C326 X431 at_482 rfl rfl rfl <| G.j 486 (z := 17) C326 X431 at_484 rfl (by decide) <| G.i 489 (cells' := 61) (slots' := 1208) (argsL := [(.ref b326), (.ref a356), (.int 17)]) (St := []) C326 X431 (wd139 hw) (wd140 hw) (by decide) (wd142 hw) (wd141 hw) (ctAt hw X431.2.1 b326 t326 k326 (((((((((((((([] : List Int32) ++ [(123 : Int32)]) ++ [ma]) ++ [(61 : Int32)]) ++ [(34 : Int32)]) ++ (own_escL (own_val i3))) ++ [(34 : Int32)]) ++ [(44 : Int32)]) ++ [mb]) ++ [(61 : Int32)]) ++ [(34 : Int32)]) ++ (own_escL (own_val i4))) ++ [(34 : Int32)]) ++ [(125 : Int32)]) a356 k356 (17 : Int32) cz fmt f410 f411 f412 Vy V407 (by decide) (by decide) hXb hLA Sf hfm f413 S2 hcz) (lenOf pd40 rfl) rfl at_486 rfl rfl (by decide) (nQ rfl) rfl rfl (by decide) (by decide) (fun v432 T432 h432 Q432 X432 z432 => ?_)
    obtain ⟨hv432, hh432⟩ := Q432
    subst hv432; rw [hh432] at X432
    refine G.k 492 C326 X432 at_489 rfl (feq (by decide : ¬ (1 : Int32) = 0)).1 <| G.d 494 C326 X432 at_492 rfl rfl rfl <| G.d 496 C326 X432 at_494 rfl rfl rfl <| G.j 498 (z := 18) C326 X432 at_496 rfl (by decide) <| G.i 501 (cells' := 61) (slots' := 1208) (argsL := [(.ref b326), (.ref a356), (.int 18)]) (St := []) C326 X432 (wd139 hw) (wd140 hw) (by decide) (wd142 hw) (wd141 hw) (ctAt hw X432.2.1 b326 t326 k326 (((((((((((((([] : List Int32) ++ [(123 : Int32)]) ++ [ma]) ++ [(61 : Int32)]) ++ [(34 : Int32)]) ++ (own_escL (own_val i3))) ++ [(34 : Int32)]) ++ [(44 : Int32)]) ++ [mb]) ++ [(61 : Int32)]) ++ [(34 : Int32)]) ++ (own_escL (own_val i4))) ++ [(34 : Int32)]) ++ [(125 : Int32)]) a356 k356 (18 : Int32) cz fmt f410 f411 f412 Vy V407 (by decide) (by decide) hXb hLA Sf hfm f413 S2 hcz) (lenOf pd40 rfl) rfl at_498 rfl rfl (by decide) (nQ rfl) rfl rfl (by decide) (by decide) (fun v433 T433 h433 Q433 X433 z433 => ?_)
    obtain ⟨hv433, hh433⟩ := Q433
    subst hv433; rw [hh433] at X433
    refine G.k 504 C326 X433 at_501 rfl (feq (by decide : ¬ (1 : Int32) = 0)).1 <| G.f 505 (z := 1) C326 X433 at_504 rfl (by decide) <| G.r 509 C326 X433 at_505 (by decide) (by decide) ?_
    exact G.aA C326 X433 (ew hw) Hd408 at_509 hret (by simp) (z' := (1 : Int32)) (by decide) hlk (fun _ _ => rfl) (by decide) (by decide)
theorem comes_1 {Post : Tables → Env → Array Value → State → Outcome → State → Prop} (hpost : ∀ tb e args s v u, (limb_1_1.after args s (.returned v) u = true ∧ limb_1_2.after args s (.returned v) u = true ∧ True) → FramedW s (.returned v) u (Jvm.fieldLocs frame_1_writes args s ++ Jvm.arrayLocs frame_1_arrays args s ++ Jvm.staticLocs frame_1_statics s) 64 5568 → Post tb e args s (.returned v) u) :
    ArmFor flags0 classFile x code maxLocals ret World_1 tables_1 room_1 Calls_1 rest_1 Pre_1 Post := by
  intro l hfl _ _ p e ha hc hk s m args below hf hA hF happ hP
  obtain ⟨hcalls, hrest, hpre⟩ := hP
  obtain ⟨-, -, -, hnamed, -, -, -, hat⟩ := (Spec.applies_iff hf).mp happ
  obtain ⟨hg, hn⟩ := and_e (Cond.before_iff.mp (show (Jvm.Cond.and given_1 narrow_1).before args s = true from hpre))
  obtain ⟨g1, g2⟩ := and_e hg
  obtain ⟨g3, g4⟩ := and_e g2
  obtain ⟨g5, g6⟩ := and_e g4
  obtain ⟨g7, g8⟩ := and_e g6
  obtain ⟨g9, g10⟩ := and_e g8
  obtain ⟨w0, w1, w2, w3, w4, rfl⟩ : ∃ w0 w1 w2 w3 w4 : Value, args = #[w0, w1, w2, w3, w4] := by
    have hs : args.size = 5 := by simpa [Cond.value, given_1] using g1
    obtain ⟨L⟩ := args
    match L, hs with
    | [w0, w1, w2, w3, w4], _ => exact ⟨w0, w1, w2, w3, w4, rfl⟩
  have hw := fun d (hd : d ∈ tables_1) => atoms_spec (ws := Jvm.Cond.code x code maxLocals ret :: tables_1) hat d (List.mem_cons_of_mem _ hd)
  have hfit : Fit s := fun {y c} hc i hi => by
    obtain ⟨ha, rfl⟩ := Array.getElem?_eq_some_iff.mp hc
    have q := List.all_eq_true.mp ((Array.all_eq_true_iff_forall_mem.mp hF) _ (Array.getElem_mem ha)) i (List.mem_range.mpr hi)
    simpa [Array.getElem?_eq_getElem hi] using q
  obtain ⟨hsets, hown0⟩ := atoms_of _ (rest_1_c_eq ▸ (show rest_1_c.before _ s = true from hrest))
  obtain ⟨i0, ei0⟩ := is_v g3
  obtain rfl : w0 = (.int i0) := Option.some.inj ei0
  obtain ⟨i1, ei1⟩ := is_v g5
  obtain rfl : w1 = (.int i1) := Option.some.inj ei1
  obtain ⟨i2, ei2⟩ := is_v g7
  obtain rfl : w2 = (.int i2) := Option.some.inj ei2
  obtain ⟨i3, ei3⟩ := is_v g9
  obtain rfl : w3 = (.int i3) := Option.some.inj ei3
  obtain ⟨i4, ei4⟩ := is_v g10
  obtain rfl : w4 = (.int i4) := Option.some.inj ei4
  obtain ⟨de, kd, cz, fmt, Sde, Vd, S2, hcz, Sf, hfm⟩ := own_sets hsets hfit (wd2 hw)
  obtain ⟨n, o, h1, h2, h3, _, L, rfl, ⟨⟨rfl, -⟩, N⟩, hC, hq⟩ := ct0 (l := l) (Z := s) hw (n0 := s.heap.size) (h0 := s.heap) (Nat.le_refl _) i0 i1 i2 i3 i4 de kd cz fmt (Old.start s) Sde Vd S2 hcz Sf hfm tables_1 p e ha hc hk s m _ below hf ((Spec.applies_iff_loose hf).mp happ).1 ⟨rfl, State.Warmed39.refl s, rfl, (CHv.start (ew hw) hcalls.1 (hsets _ (List.mem_of_getElem? (i := 11) rfl)) (wd45 hw) (wd75 hw)), fun _ hx => by cases hx⟩ trivial
  refine ⟨n, _, h1, h2, h3, hpost _ _ _ _ _ _ ⟨Cond.after_iff.mpr rfl, Cond.after_iff.mpr (eq_i res_at (Term.int_eval (1)) rfl), trivial⟩ ⟨hq.1, hq.2.1, hq.2.2.1, (hq.2.2.2.sift fun y hy => Or.inr (N y hy)).mono (by decide) (by decide)⟩⟩
theorem main_1_1 : Claimed_1_1 := comes_1 fun _ _ _ _ _ _ h hF => ⟨h.1, hF⟩
theorem main_1_2 : Claimed_1_2 := comes_1 fun _ _ _ _ _ _ h hF => ⟨h.2.1, hF⟩
end Jvm.Pilot.@@N@@
namespace Jvm.Pilot.@@N@@
open Jvm Jvm.ClassFile Sem Op Lib Jvm.Free Jvm.Stand Jvm.Pilot.@@N@@.Jvm.D
/-! MADE BY PROGRAM (witnessworld.py) out of the Statement's table words and the real class files: 36 classes; the members and pool entries that the words name. The judged class is class 1, her method 1. -/
namespace start1
open Jvm.ClassFile
def u (s : String) : CpInfo := .utf8 (stringToUtf16 s)
/-- a pool by its gaps: so many unusable entries, then the entry; so many at the end -/
def gap : Nat → List CpInfo → List CpInfo
  | 0, r => r
  | n + 1, r => .unusable :: gap n r
def poolList (es : List (Nat × CpInfo)) (last : Nat) : List CpInfo := es.foldr (fun e r => gap e.1 (e.2 :: r)) (gap last [])
def pool (es : List (Nat × CpInfo)) (last : Nat) : Array CpInfo := ⟨poolList es last⟩
def fileOf (pool : Array CpInfo) (this : Nat) (attrs : Array Attribute := #[]) (ms : Array MethodInfo := #[]) (fl : Nat := 33) (sup : Nat := 0) (ifs : Array Nat := #[]) (fds : Array FieldInfo := #[]) : ClassFile where
  minorVersion := 0
  majorVersion := 65
  constantPool := pool
  accessFlags := fl
  thisClass := this
  superClass := sup
  interfaces := ifs
  fields := fds
  methods := ms
  attributes := attrs
def plain (name : String) (sup : Option ClassId) : Class where
  name := name
  kind := .ordinary
  loader := none
  accessFlags := 33
  super := sup
  interfaces := #[]
  cf := none
  fields := #[]
  methods := #[]
  instanceTypes := #[]
  staticTypes := #[]
  resolved := #[]
  callSites := []
  init := .initialized
  statics := none
  mirror := none

def pool0 : Array CpInfo := pool [(5, u "<init>"), (0, u "()V"), (1, .class_ 10), (1, u zq3), (85, u "clone"), (0, u "()Ljava/lang/Object;")] 26

def k0c0 : Code := { maxStack := 0, maxLocals := 1, code := object_method_1_code, exceptionTable := #[], attributes := #[] }
def k0m0 : Method := { name := "<init>", desc := "()V", sig := { parameters := [], returnType := none }, accessFlags := 1, code := some k0c0 }
def k0m1 : Method := { name := "clone", desc := "()Ljava/lang/Object;", sig := { parameters := [], returnType := some (.object zq3) }, accessFlags := 260, code := none }
/-- java/lang/Object -/
def k0 : Class := { plain zq3 none with
  accessFlags := 33
  interfaces := #[]
  cf := some (fileOf pool0 8 #[] #[{ accessFlags := 1, nameIndex := 5, descriptorIndex := 6, attributes := #[] }, { accessFlags := 260, nameIndex := 96, descriptorIndex := 97, attributes := #[] }] 33 0 #[] #[])
  fields := #[]
  methods := #[k0m0, k0m1]
  instanceTypes := #[]
  staticTypes := #[]
  resolved := Array.replicate 124 none
  statics := none }

def pool1 : Array CpInfo := pool [(2, .class_ 4), (0, .nameAndType 5 6), (0, u zq3), (0, u "<init>"), (0, u "()V"), (0, .class_ 8), (0, u zq2), (0, .methodref 7 3), (0, .methodref 11 12), (0, .class_ 13), (0, .nameAndType 14 15), (0, u zq0), (0, u "valueOf"), (0, u zq36), (0, .interfaceMethodref 17 18), (0, .class_ 19), (0, .nameAndType 20 21), (0, u zq20), (0, u "add"), (0, u zq21), (0, .methodref 23 24), (0, .class_ 25), (0, .nameAndType 26 27), (0, u zq11), (0, u "value"), (0, u zq46), (0, .methodref 29 30), (0, .class_ 31), (0, .nameAndType 32 33), (0, u zq15), (0, u "labels"), (0, u zq25), (0, .methodref 23 35), (0, .nameAndType 36 37), (0, u zq53), (0, u "([CII)I"), (0, .methodref 11 39), (0, .nameAndType 40 41), (0, u "length"), (0, u "()I"), (0, .methodref 23 43), (0, .nameAndType 44 45), (0, u "at"), (0, u zq45), (0, .string 47), (0, u ""), (0, .methodref 23 49), (0, .nameAndType 50 51), (0, u "pick"), (0, u "(I)C"), (0, .methodref 11 53), (0, .nameAndType 5 54), (0, u "([C)V"), (0, .methodref 23 56), (0, .nameAndType 57 58), (0, u "escapedChar"), (0, u "([CIC)I"), (0, .methodref 11 60), (0, .nameAndType 61 51), (0, u "charAt"), (2, u "law"), (0, u "(IIIII)Z")] 5

def k1m0 : Method := { name := "<init>", desc := "()V", sig := { parameters := [], returnType := none }, accessFlags := 1, code := none }
def k1c1 : Code := { maxStack := 3, maxLocals := 13, code := code, exceptionTable := #[], attributes := #[] }
def k1m1 : Method := { name := "law", desc := "(IIIII)Z", sig := { parameters := [.int, .int, .int, .int, .int], returnType := some .boolean }, accessFlags := 9, code := some k1c1 }
def k1c2 : Code := { maxStack := 2, maxLocals := 2, code := method_3_code, exceptionTable := #[], attributes := #[] }
def k1m2 : Method := { name := "pick", desc := "(I)C", sig := { parameters := [.int], returnType := some .char }, accessFlags := 10, code := some k1c2 }
def k1c3 : Code := { maxStack := 4, maxLocals := 3, code := method_4_code, exceptionTable := #[], attributes := #[] }
def k1m3 : Method := { name := "value", desc := zq46, sig := { parameters := [.int], returnType := some (.object zq0) }, accessFlags := 10, code := some k1c3 }
def k1c4 : Code := { maxStack := 4, maxLocals := 5, code := method_5_code, exceptionTable := #[], attributes := #[] }
def k1m4 : Method := { name := zq53, desc := "([CII)I", sig := { parameters := [(.array .char), .int, .int], returnType := some .int }, accessFlags := 10, code := some k1c4 }
def k1c5 : Code := { maxStack := 3, maxLocals := 3, code := method_6_code, exceptionTable := #[], attributes := #[] }
def k1m5 : Method := { name := "escapedChar", desc := "([CIC)I", sig := { parameters := [(.array .char), .int, .char], returnType := some .int }, accessFlags := 10, code := some k1c5 }
def k1c6 : Code := { maxStack := 3, maxLocals := 3, code := method_7_code, exceptionTable := #[], attributes := #[] }
def k1m6 : Method := { name := "at", desc := zq45, sig := { parameters := [(.object zq0), (.array .char), .int], returnType := some .boolean }, accessFlags := 10, code := some k1c6 }
/-- com/example/txtokd/txtokd/metrics/MetricLabelsPinLaw -/
def k1 : Class := { plain zq11 (some 0) with
  accessFlags := 49
  interfaces := #[]
  cf := some (fileOf pool1 23 #[] #[{ accessFlags := 1, nameIndex := 5, descriptorIndex := 6, attributes := #[] }, { accessFlags := 9, nameIndex := 64, descriptorIndex := 65, attributes := #[] }, { accessFlags := 10, nameIndex := 50, descriptorIndex := 51, attributes := #[] }, { accessFlags := 10, nameIndex := 26, descriptorIndex := 27, attributes := #[] }, { accessFlags := 10, nameIndex := 36, descriptorIndex := 37, attributes := #[] }, { accessFlags := 10, nameIndex := 57, descriptorIndex := 58, attributes := #[] }, { accessFlags := 10, nameIndex := 44, descriptorIndex := 45, attributes := #[] }] 49 2 #[] #[])
  fields := #[]
  methods := #[k1m0, k1m1, k1m2, k1m3, k1m4, k1m5, k1m6]
  instanceTypes := #[]
  staticTypes := #[]
  resolved := Array.replicate 71 none
  statics := none }

def pool2 : Array CpInfo := pool [(8, .class_ 10), (1, u "java/lang/Iterable"), (24, .class_ 36), (0, u zq3)] 25

/-- java/lang/Iterable -/
def k2 : Class := { plain "java/lang/Iterable" (some 0) with
  accessFlags := 1537
  interfaces := #[]
  cf := some (fileOf pool2 8 #[] #[] 1537 35 #[] #[])
  fields := #[]
  methods := #[]
  instanceTypes := #[]
  staticTypes := #[]
  resolved := Array.replicate 62 none
  statics := none }

def pool3 : Array CpInfo := pool [(10, .class_ 12), (1, u zq56), (47, .class_ 61), (0, u zq3), (0, .class_ 63), (0, u "java/lang/Iterable")] 51

/-- java/util/Collection -/
def k3 : Class := { plain zq56 (some 0) with
  accessFlags := 1537
  interfaces := #[2]
  cf := some (fileOf pool3 10 #[] #[] 1537 60 #[62] #[])
  fields := #[]
  methods := #[]
  instanceTypes := #[]
  staticTypes := #[]
  resolved := Array.replicate 115 none
  statics := none }

def pool4 : Array CpInfo := pool [(1, .methodref 2 3), (0, .class_ 4), (0, .nameAndType 5 6), (0, u zq3), (0, u "<init>"), (0, u "()V"), (1, .class_ 10), (1, u zq48), (66, .class_ 78), (0, u zq56)] 81

def k4c0 : Code := { maxStack := 1, maxLocals := 1, code := jdk_22_method_1_code, exceptionTable := #[], attributes := #[] }
def k4m0 : Method := { name := "<init>", desc := "()V", sig := { parameters := [], returnType := none }, accessFlags := 4, code := some k4c0 }
/-- java/util/AbstractCollection -/
def k4 : Class := { plain zq48 (some 0) with
  accessFlags := 1057
  interfaces := #[3]
  cf := some (fileOf pool4 8 #[] #[{ accessFlags := 4, nameIndex := 5, descriptorIndex := 6, attributes := #[] }] 1057 2 #[77] #[])
  fields := #[]
  methods := #[k4m0]
  instanceTypes := #[]
  staticTypes := #[]
  resolved := Array.replicate 160 none
  statics := none }

def pool5 : Array CpInfo := pool [(8, .class_ 10), (1, u zq62), (15, .class_ 27), (0, u zq3), (0, .class_ 29), (0, u zq56)] 27

/-- java/util/SequencedCollection -/
def k5 : Class := { plain zq62 (some 0) with
  accessFlags := 1537
  interfaces := #[3]
  cf := some (fileOf pool5 8 #[] #[] 1537 26 #[28] #[])
  fields := #[]
  methods := #[]
  instanceTypes := #[]
  staticTypes := #[]
  resolved := Array.replicate 57 none
  statics := none }

def pool6 : Array CpInfo := pool [(8, .class_ 10), (1, u zq20), (7, u "()Z"), (41, u "add"), (3, u zq21), (2, u "isEmpty"), (7, u "get"), (0, u zq13), (2, u "size"), (0, u "()I"), (22, .class_ 104), (0, u zq3), (15, .class_ 121), (0, u zq62)] 129

def k6m0 : Method := { name := "size", desc := "()I", sig := { parameters := [], returnType := some .int }, accessFlags := 1025, code := none }
def k6m1 : Method := { name := "isEmpty", desc := "()Z", sig := { parameters := [], returnType := some .boolean }, accessFlags := 1025, code := none }
def k6m2 : Method := { name := "add", desc := zq21, sig := { parameters := [(.object zq3)], returnType := some .boolean }, accessFlags := 1025, code := none }
def k6m3 : Method := { name := "get", desc := zq13, sig := { parameters := [.int], returnType := some (.object zq3) }, accessFlags := 1025, code := none }
/-- java/util/List -/
def k6 : Class := { plain zq20 (some 0) with
  accessFlags := 1537
  interfaces := #[5]
  cf := some (fileOf pool6 8 #[] #[{ accessFlags := 1025, nameIndex := 79, descriptorIndex := 80, attributes := #[] }, { accessFlags := 1025, nameIndex := 67, descriptorIndex := 18, attributes := #[] }, { accessFlags := 1025, nameIndex := 60, descriptorIndex := 64, attributes := #[] }, { accessFlags := 1025, nameIndex := 75, descriptorIndex := 76, attributes := #[] }] 1537 103 #[120] #[])
  fields := #[]
  methods := #[k6m0, k6m1, k6m2, k6m3]
  instanceTypes := #[]
  staticTypes := #[]
  resolved := Array.replicate 251 none
  statics := none }

def pool7 : Array CpInfo := pool [(1, .methodref 2 3), (0, .class_ 4), (0, .nameAndType 5 6), (0, u zq48), (0, u "<init>"), (0, u "()V"), (0, .fieldref 8 9), (0, .class_ 10), (0, .nameAndType 11 12), (0, u zq8), (0, u "modCount"), (0, u "I"), (64, .class_ 78), (0, u "java/util/AbstractList$Itr"), (3, .class_ 83), (0, u "java/util/AbstractList$ListItr"), (9, .class_ 94), (0, u "java/util/AbstractList$RandomAccessSubList"), (3, .class_ 99), (0, u "java/util/AbstractList$SubList"), (33, .class_ 134), (0, u zq20), (73, .class_ 209), (0, u "java/util/AbstractList$SubList$1"), (0, .class_ 211), (0, u "java/util/AbstractList$RandomAccessSpliterator")] 6

def k7c0 : Code := { maxStack := 2, maxLocals := 1, code := jdk_39_method_1_code, exceptionTable := #[], attributes := #[] }
def k7m0 : Method := { name := "<init>", desc := "()V", sig := { parameters := [], returnType := none }, accessFlags := 4, code := some k7c0 }
/-- java/util/AbstractList -/
def k7 : Class := { plain zq8 (some 4) with
  accessFlags := 1057
  interfaces := #[6]
  cf := some (fileOf pool7 8 #[.nestMembers #[93, 98, 208, 210, 82, 77]] #[{ accessFlags := 4, nameIndex := 5, descriptorIndex := 6, attributes := #[] }] 1057 2 #[133] #[{ accessFlags := 132, nameIndex := 11, descriptorIndex := 12, attributes := #[] }])
  fields := #[{ name := "modCount", type := .int, accessFlags := 132, slot := 0, constantValue := 0 }]
  methods := #[k7m0]
  instanceTypes := #[.int]
  staticTypes := #[]
  resolved := Array.replicate 218 none
  statics := none }

def pool8 : Array CpInfo := pool [(1, .class_ 2), (0, u "java/util/RandomAccess"), (0, .class_ 4), (0, u zq3)] 2

/-- java/util/RandomAccess -/
def k8 : Class := { plain "java/util/RandomAccess" (some 0) with
  accessFlags := 1537
  interfaces := #[]
  cf := some (fileOf pool8 1 #[] #[] 1537 3 #[] #[])
  fields := #[]
  methods := #[]
  instanceTypes := #[]
  staticTypes := #[]
  resolved := Array.replicate 7 none
  statics := none }

def pool9 : Array CpInfo := pool [(1, .class_ 2), (0, u "java/lang/Cloneable"), (0, .class_ 4), (0, u zq3)] 2

/-- java/lang/Cloneable -/
def k9 : Class := { plain "java/lang/Cloneable" (some 0) with
  accessFlags := 1537
  interfaces := #[]
  cf := some (fileOf pool9 1 #[] #[] 1537 3 #[] #[])
  fields := #[]
  methods := #[]
  instanceTypes := #[]
  staticTypes := #[]
  resolved := Array.replicate 7 none
  statics := none }

def pool10 : Array CpInfo := pool [(1, .class_ 2), (0, u zq54), (0, .class_ 4), (0, u zq3)] 2

/-- java/io/Serializable -/
def k10 : Class := { plain zq54 (some 0) with
  accessFlags := 1537
  interfaces := #[]
  cf := some (fileOf pool10 1 #[] #[] 1537 3 #[] #[])
  fields := #[]
  methods := #[]
  instanceTypes := #[]
  staticTypes := #[]
  resolved := Array.replicate 7 none
  statics := none }

def pool11 : Array CpInfo := pool [(1, .methodref 2 3), (0, .class_ 4), (0, .nameAndType 5 6), (0, u zq8), (0, u "<init>"), (0, u "()V"), (0, .class_ 8), (0, u zq3), (0, .fieldref 10 11), (0, .class_ 12), (0, .nameAndType 13 14), (0, u zq2), (0, u zq7), (0, u zq6), (2, u "EMPTY_ELEMENTDATA"), (21, .fieldref 10 40), (0, .nameAndType 41 14), (0, u zq26), (5, u zq43), (0, .fieldref 10 49), (0, .nameAndType 50 51), (0, u "size"), (0, u "I"), (11, .fieldref 10 64), (0, .nameAndType 65 51), (0, u "modCount"), (3, .methodref 10 70), (0, .nameAndType 71 72), (0, u "grow"), (0, u zq42), (6, .methodref 80 81), (0, .class_ 82), (0, .nameAndType 83 84), (0, u zq17), (0, u "max"), (0, u "(II)I"), (11, u zq21), (21, .methodref 119 120), (0, .class_ 121), (0, .nameAndType 122 84), (0, u zq29), (0, u "checkIndex"), (0, .methodref 10 124), (0, .nameAndType 13 125), (0, u zq13), (3, .methodref 10 130), (0, .nameAndType 71 47), (0, .methodref 10 132), (0, .nameAndType 133 134), (0, u "add"), (0, u zq33), (13, .class_ 149), (0, u zq20), (23, u "()Z"), (12, u "()I"), (75, .class_ 263), (0, u "java/util/ArrayList$ListItr"), (3, .class_ 268), (0, u "java/util/ArrayList$Itr"), (7, .class_ 277), (0, u "java/util/ArrayList$SubList"), (12, .class_ 291), (0, u "java/util/ArrayList$ArrayListSpliterator"), (37, .class_ 330), (0, u "java/util/RandomAccess"), (0, .class_ 332), (0, u "java/lang/Cloneable"), (0, .class_ 334), (0, u zq54), (0, u zq49), (0, u "J"), (3, u "DEFAULT_CAPACITY"), (22, u "isEmpty"), (17, u "get"), (118, .class_ 501), (0, u "java/util/ArrayList$SubList$2"), (0, .class_ 503), (0, u "java/util/ArrayList$SubList$1")] 5

def k11c0 : Code := { maxStack := 2, maxLocals := 1, code := jdk_38_method_2_code, exceptionTable := #[], attributes := #[] }
def k11m0 : Method := { name := "<init>", desc := "()V", sig := { parameters := [], returnType := none }, accessFlags := 1, code := some k11c0 }
def k11c1 : Code := { maxStack := 4, maxLocals := 4, code := jdk_38_method_6_code, exceptionTable := #[], attributes := #[] }
def k11m1 : Method := { name := "grow", desc := zq42, sig := { parameters := [.int], returnType := some (.array (.object zq3)) }, accessFlags := 2, code := some k11c1 }
def k11c2 : Code := { maxStack := 3, maxLocals := 1, code := jdk_38_method_7_code, exceptionTable := #[], attributes := #[] }
def k11m2 : Method := { name := "grow", desc := zq43, sig := { parameters := [], returnType := some (.array (.object zq3)) }, accessFlags := 2, code := some k11c2 }
def k11c3 : Code := { maxStack := 1, maxLocals := 1, code := jdk_38_method_8_code, exceptionTable := #[], attributes := #[] }
def k11m3 : Method := { name := "size", desc := "()I", sig := { parameters := [], returnType := some .int }, accessFlags := 1, code := some k11c3 }
def k11c4 : Code := { maxStack := 1, maxLocals := 1, code := jdk_38_method_9_code, exceptionTable := #[], attributes := #[] }
def k11m4 : Method := { name := "isEmpty", desc := "()Z", sig := { parameters := [], returnType := some .boolean }, accessFlags := 1, code := some k11c4 }
def k11c5 : Code := { maxStack := 2, maxLocals := 2, code := jdk_38_method_18_code, exceptionTable := #[], attributes := #[] }
def k11m5 : Method := { name := zq7, desc := zq13, sig := { parameters := [.int], returnType := some (.object zq3) }, accessFlags := 0, code := some k11c5 }
def k11c6 : Code := { maxStack := 2, maxLocals := 2, code := jdk_38_method_20_code, exceptionTable := #[], attributes := #[] }
def k11m6 : Method := { name := "get", desc := zq13, sig := { parameters := [.int], returnType := some (.object zq3) }, accessFlags := 1, code := some k11c6 }
def k11c7 : Code := { maxStack := 3, maxLocals := 4, code := jdk_38_method_24_code, exceptionTable := #[], attributes := #[] }
def k11m7 : Method := { name := "add", desc := zq33, sig := { parameters := [(.object zq3), (.array (.object zq3)), .int], returnType := none }, accessFlags := 2, code := some k11c7 }
def k11c8 : Code := { maxStack := 4, maxLocals := 2, code := jdk_38_method_25_code, exceptionTable := #[], attributes := #[] }
def k11m8 : Method := { name := "add", desc := zq21, sig := { parameters := [(.object zq3)], returnType := some .boolean }, accessFlags := 1, code := some k11c8 }
/-- java/util/ArrayList -/
def k11 : Class := { plain zq2 (some 7) with
  accessFlags := 33
  interfaces := #[6, 8, 9, 10]
  cf := some (fileOf pool11 10 #[.nestMembers #[290, 276, 500, 502, 262, 267]] #[{ accessFlags := 1, nameIndex := 5, descriptorIndex := 6, attributes := #[] }, { accessFlags := 2, nameIndex := 71, descriptorIndex := 72, attributes := #[] }, { accessFlags := 2, nameIndex := 71, descriptorIndex := 47, attributes := #[] }, { accessFlags := 1, nameIndex := 50, descriptorIndex := 186, attributes := #[] }, { accessFlags := 1, nameIndex := 363, descriptorIndex := 173, attributes := #[] }, { accessFlags := 0, nameIndex := 13, descriptorIndex := 125, attributes := #[] }, { accessFlags := 1, nameIndex := 381, descriptorIndex := 125, attributes := #[] }, { accessFlags := 2, nameIndex := 133, descriptorIndex := 134, attributes := #[] }, { accessFlags := 1, nameIndex := 133, descriptorIndex := 96, attributes := #[] }] 33 2 #[148, 329, 331, 333] #[{ accessFlags := 26, nameIndex := 335, descriptorIndex := 336, attributes := #[] }, { accessFlags := 26, nameIndex := 340, descriptorIndex := 51, attributes := #[] }, { accessFlags := 26, nameIndex := 17, descriptorIndex := 14, attributes := #[] }, { accessFlags := 26, nameIndex := 41, descriptorIndex := 14, attributes := #[] }, { accessFlags := 128, nameIndex := 13, descriptorIndex := 14, attributes := #[] }, { accessFlags := 2, nameIndex := 50, descriptorIndex := 51, attributes := #[] }])
  fields := #[{ name := zq49, type := .long, accessFlags := 26, slot := 0, constantValue := 0 }, { name := "DEFAULT_CAPACITY", type := .int, accessFlags := 26, slot := 1, constantValue := 0 }, { name := "EMPTY_ELEMENTDATA", type := (.array (.object zq3)), accessFlags := 26, slot := 2, constantValue := 0 }, { name := zq26, type := (.array (.object zq3)), accessFlags := 26, slot := 3, constantValue := 0 }, { name := zq7, type := (.array (.object zq3)), accessFlags := 128, slot := 1, constantValue := 0 }, { name := "size", type := .int, accessFlags := 2, slot := 2, constantValue := 0 }]
  methods := #[k11m0, k11m1, k11m2, k11m3, k11m4, k11m5, k11m6, k11m7, k11m8]
  instanceTypes := #[.int, (.array (.object zq3)), .int]
  staticTypes := #[.long, .int, (.array (.object zq3)), (.array (.object zq3))]
  resolved := Array.replicate 509 none
  statics := some 0 }

def pool12 : Array CpInfo := pool [(2, .class_ 4), (0, .nameAndType 5 6), (0, u zq3), (0, u "<init>"), (0, u "()V"), (1, .class_ 10), (1, u zq15), (0, u "mName"), (0, u "Ljava/lang/String;"), (2, u "mHelp"), (2, u "mType"), (2, .methodref 22 23), (0, .class_ 24), (0, .nameAndType 25 26), (0, u zq4), (0, u "append"), (0, u zq34), (0, .methodref 22 28), (0, .nameAndType 25 29), (0, u zq35), (0, .methodref 8 31), (0, .nameAndType 32 33), (0, u "escaped"), (0, u zq24), (6, .methodref 22 3), (0, .interfaceMethodref 42 43), (0, .class_ 44), (0, .nameAndType 45 46), (0, u zq20), (0, u "size"), (0, u "()I"), (0, .interfaceMethodref 42 48), (0, .nameAndType 49 50), (0, u "get"), (0, u zq13), (0, .class_ 52), (0, u zq0), (0, .string 54), (0, u "=\""), (0, .interfaceMethodref 42 56), (0, .nameAndType 57 58), (0, u "isEmpty"), (0, u "()Z"), (0, .methodref 22 60), (0, .nameAndType 61 62), (0, u "toString"), (0, u "()Ljava/lang/String;"), (0, .methodref 51 64), (0, .nameAndType 65 46), (0, u "length"), (0, .methodref 51 67), (0, .nameAndType 68 69), (0, u "charAt"), (0, u "(I)C"), (0, .string 71), (0, u "\\\\"), (0, .string 73), (0, u "\\n"), (0, .string 75), (0, u "\\\""), (5, u "labels"), (0, u zq25)] 5

def k12c0 : Code := { maxStack := 3, maxLocals := 4, code := prog_35_method_5_code, exceptionTable := #[], attributes := #[] }
def k12m0 : Method := { name := "labels", desc := zq25, sig := { parameters := [(.object zq20), (.object zq20)], returnType := some (.object zq0) }, accessFlags := 8, code := some k12c0 }
def k12c1 : Code := { maxStack := 2, maxLocals := 5, code := prog_35_method_6_code, exceptionTable := #[], attributes := #[] }
def k12m1 : Method := { name := "escaped", desc := zq24, sig := { parameters := [(.object zq0), .boolean, (.object zq4)], returnType := none }, accessFlags := 10, code := some k12c1 }
/-- com/example/txtokd/txtokd/metrics/Metric -/
def k12 : Class := { plain zq15 (some 0) with
  accessFlags := 1056
  interfaces := #[]
  cf := some (fileOf pool12 8 #[] #[{ accessFlags := 8, nameIndex := 81, descriptorIndex := 82, attributes := #[] }, { accessFlags := 10, nameIndex := 32, descriptorIndex := 33, attributes := #[] }] 1056 2 #[] #[{ accessFlags := 18, nameIndex := 11, descriptorIndex := 12, attributes := #[] }, { accessFlags := 18, nameIndex := 15, descriptorIndex := 12, attributes := #[] }, { accessFlags := 18, nameIndex := 18, descriptorIndex := 12, attributes := #[] }])
  fields := #[{ name := "mName", type := (.object zq0), accessFlags := 18, slot := 0, constantValue := 0 }, { name := "mHelp", type := (.object zq0), accessFlags := 18, slot := 1, constantValue := 0 }, { name := "mType", type := (.object zq0), accessFlags := 18, slot := 2, constantValue := 0 }]
  methods := #[k12m0, k12m1]
  instanceTypes := #[(.object zq0), (.object zq0), (.object zq0)]
  staticTypes := #[]
  resolved := Array.replicate 88 none
  statics := none }

def pool13 : Array CpInfo := pool [(1, .class_ 2), (0, u zq57), (0, .class_ 4), (0, u zq3)] 9

/-- java/lang/Appendable -/
def k13 : Class := { plain zq57 (some 0) with
  accessFlags := 1537
  interfaces := #[]
  cf := some (fileOf pool13 1 #[] #[] 1537 3 #[] #[])
  fields := #[]
  methods := #[]
  instanceTypes := #[]
  staticTypes := #[]
  resolved := Array.replicate 14 none
  statics := none }

def pool14 : Array CpInfo := pool [(2, .class_ 4), (1, u zq55), (42, .class_ 48), (0, u "java/lang/CharSequence$1CodePointIterator"), (10, .class_ 60), (0, u "java/lang/CharSequence$1CharIterator"), (5, .class_ 67), (0, u zq3)] 63

/-- java/lang/CharSequence -/
def k14 : Class := { plain zq55 (some 0) with
  accessFlags := 1537
  interfaces := #[]
  cf := some (fileOf pool14 2 #[.nestMembers #[47, 59]] #[] 1537 66 #[] #[])
  fields := #[]
  methods := #[]
  instanceTypes := #[]
  staticTypes := #[]
  resolved := Array.replicate 131 none
  statics := none }

def pool15 : Array CpInfo := pool [(1, .class_ 2), (0, u zq0), (0, .methodref 4 5), (0, .class_ 6), (0, .nameAndType 7 8), (0, u zq3), (0, u "<init>"), (0, u "()V"), (1, .class_ 12), (1, u zq1), (0, u "EMPTYVALUE"), (0, u "[B"), (0, .fieldref 10 16), (0, .nameAndType 17 14), (0, u "value"), (0, .fieldref 1 19), (0, .nameAndType 20 21), (0, u zq5), (0, u "Z"), (0, .fieldref 10 23), (0, .nameAndType 24 25), (0, u "coder"), (0, u "B"), (6, .methodref 1 33), (0, .nameAndType 34 35), (0, u "length"), (0, u "()I"), (3, .integer 2147483647), (0, .methodref 1 41), (0, .nameAndType 24 42), (0, u "()B"), (2, u "append"), (0, u zq22), (1, .class_ 49), (0, u zq55), (19, u zq39), (5, u "maybeLatin1"), (3, .fieldref 10 80), (0, .nameAndType 81 82), (0, u "count"), (0, u "I"), (0, .methodref 10 84), (0, .nameAndType 85 86), (0, u "isLatin1"), (0, u "()Z"), (1, .class_ 90), (1, u zq18), (9, .methodref 10 101), (0, .nameAndType 102 103), (0, u zq47), (0, u "(I)V"), (0, .methodref 10 105), (0, .nameAndType 106 107), (0, u "newCapacity"), (0, u "(I)I"), (0, .methodref 109 110), (0, .class_ 111), (0, .nameAndType 112 113), (0, u zq10), (0, u "copyOf"), (0, u "([BI)[B"), (0, .methodref 115 116), (0, .class_ 117), (0, .nameAndType 118 119), (0, u zq37), (0, u "newLength"), (0, u "(III)I"), (71, .methodref 88 192), (0, .nameAndType 193 194), (0, u "canEncode"), (0, u "(C)Z"), (13, .methodref 10 209), (0, .nameAndType 210 211), (0, u "putStringAt"), (0, u zq40), (5, u zq51), (2, .nameAndType 221 222), (0, u "getBytes"), (0, u "([BIB)V"), (69, u zq23), (104, .methodref 10 398), (0, .nameAndType 217 69), (0, .methodref 1 220), (3, u "()[B"), (40, .class_ 445), (0, u zq57), (106, u "getValue")] 56

def k15m0 : Method := { name := "<init>", desc := "()V", sig := { parameters := [], returnType := none }, accessFlags := 0, code := none }
def k15c1 : Code := { maxStack := 2, maxLocals := 2, code := jdk_68_method_2_code, exceptionTable := #[], attributes := #[] }
def k15m1 : Method := { name := "<init>", desc := "(I)V", sig := { parameters := [.int], returnType := none }, accessFlags := 0, code := some k15c1 }
def k15c2 : Code := { maxStack := 1, maxLocals := 1, code := jdk_68_method_6_code, exceptionTable := #[], attributes := #[] }
def k15m2 : Method := { name := "length", desc := "()I", sig := { parameters := [], returnType := some .int }, accessFlags := 1, code := some k15c2 }
def k15c3 : Code := { maxStack := 4, maxLocals := 3, code := jdk_68_method_9_code, exceptionTable := #[], attributes := #[] }
def k15m3 : Method := { name := zq47, desc := "(I)V", sig := { parameters := [.int], returnType := none }, accessFlags := 2, code := some k15c3 }
def k15c4 : Code := { maxStack := 5, maxLocals := 6, code := jdk_68_method_10_code, exceptionTable := #[], attributes := #[] }
def k15m4 : Method := { name := "newCapacity", desc := "(I)I", sig := { parameters := [.int], returnType := some .int }, accessFlags := 2, code := some k15c4 }
def k15c5 : Code := { maxStack := 3, maxLocals := 3, code := jdk_68_method_22_code, exceptionTable := #[], attributes := #[] }
def k15m5 : Method := { name := "append", desc := zq22, sig := { parameters := [(.object zq0)], returnType := some (.object zq1) }, accessFlags := 1, code := some k15c5 }
def k15c6 : Code := { maxStack := 5, maxLocals := 2, code := jdk_68_method_31_code, exceptionTable := #[], attributes := #[] }
def k15m6 : Method := { name := "append", desc := zq23, sig := { parameters := [.char], returnType := some (.object zq1) }, accessFlags := 1, code := some k15c6 }
def k15c7 : Code := { maxStack := 1, maxLocals := 1, code := jdk_68_method_64_code, exceptionTable := #[], attributes := #[] }
def k15m7 : Method := { name := "getValue", desc := "()[B", sig := { parameters := [], returnType := some (.array .byte) }, accessFlags := 16, code := some k15c7 }
def k15c8 : Code := { maxStack := 1, maxLocals := 1, code := jdk_68_method_68_code, exceptionTable := #[], attributes := #[] }
def k15m8 : Method := { name := "isLatin1", desc := "()Z", sig := { parameters := [], returnType := some .boolean }, accessFlags := 16, code := some k15c8 }
def k15c9 : Code := { maxStack := 2, maxLocals := 2, code := jdk_68_method_71_code, exceptionTable := #[], attributes := #[] }
def k15m9 : Method := { name := zq51, desc := zq39, sig := { parameters := [(.object zq0)], returnType := none }, accessFlags := 2, code := some k15c9 }
def k15c10 : Code := { maxStack := 4, maxLocals := 3, code := jdk_68_method_73_code, exceptionTable := #[], attributes := #[] }
def k15m10 : Method := { name := "putStringAt", desc := zq40, sig := { parameters := [.int, (.object zq0)], returnType := none }, accessFlags := 2, code := some k15c10 }
/-- java/lang/AbstractStringBuilder -/
def k15 : Class := { plain zq1 (some 0) with
  accessFlags := 1056
  interfaces := #[13, 14]
  cf := some (fileOf pool15 10 #[] #[{ accessFlags := 0, nameIndex := 7, descriptorIndex := 8, attributes := #[] }, { accessFlags := 0, nameIndex := 7, descriptorIndex := 103, attributes := #[] }, { accessFlags := 1, nameIndex := 34, descriptorIndex := 35, attributes := #[] }, { accessFlags := 2, nameIndex := 102, descriptorIndex := 103, attributes := #[] }, { accessFlags := 2, nameIndex := 106, descriptorIndex := 107, attributes := #[] }, { accessFlags := 1, nameIndex := 45, descriptorIndex := 46, attributes := #[] }, { accessFlags := 1, nameIndex := 45, descriptorIndex := 292, attributes := #[] }, { accessFlags := 16, nameIndex := 552, descriptorIndex := 403, attributes := #[] }, { accessFlags := 16, nameIndex := 85, descriptorIndex := 86, attributes := #[] }, { accessFlags := 2, nameIndex := 217, descriptorIndex := 69, attributes := #[] }, { accessFlags := 2, nameIndex := 210, descriptorIndex := 211, attributes := #[] }] 1056 4 #[444, 48] #[{ accessFlags := 0, nameIndex := 17, descriptorIndex := 14, attributes := #[] }, { accessFlags := 0, nameIndex := 24, descriptorIndex := 25, attributes := #[] }, { accessFlags := 0, nameIndex := 75, descriptorIndex := 21, attributes := #[] }, { accessFlags := 0, nameIndex := 81, descriptorIndex := 82, attributes := #[] }, { accessFlags := 26, nameIndex := 13, descriptorIndex := 14, attributes := #[] }])
  fields := #[{ name := "value", type := (.array .byte), accessFlags := 0, slot := 0, constantValue := 0 }, { name := "coder", type := .byte, accessFlags := 0, slot := 1, constantValue := 0 }, { name := "maybeLatin1", type := .boolean, accessFlags := 0, slot := 2, constantValue := 0 }, { name := "count", type := .int, accessFlags := 0, slot := 3, constantValue := 0 }, { name := "EMPTYVALUE", type := (.array .byte), accessFlags := 26, slot := 0, constantValue := 0 }]
  methods := #[k15m0, k15m1, k15m2, k15m3, k15m4, k15m5, k15m6, k15m7, k15m8, k15m9, k15m10]
  instanceTypes := #[(.array .byte), .byte, .boolean, .int]
  staticTypes := #[(.array .byte)]
  resolved := Array.replicate 609 none
  statics := none }

def pool16 : Array CpInfo := pool [(1, .class_ 2), (0, u zq58), (0, .class_ 4), (0, u zq3)] 7

/-- java/lang/Comparable -/
def k16 : Class := { plain zq58 (some 0) with
  accessFlags := 1537
  interfaces := #[]
  cf := some (fileOf pool16 1 #[] #[] 1537 3 #[] #[])
  fields := #[]
  methods := #[]
  instanceTypes := #[]
  staticTypes := #[]
  resolved := Array.replicate 12 none
  statics := none }

def pool17 : Array CpInfo := pool [(1, .methodref 2 3), (0, .class_ 4), (0, .nameAndType 5 6), (0, u zq1), (0, u "<init>"), (0, u "(I)V"), (11, .class_ 20), (1, u zq0), (3, .class_ 26), (1, u zq4), (0, u "append"), (0, u zq34), (0, .methodref 2 30), (0, .nameAndType 27 31), (0, u zq22), (18, .methodref 2 51), (0, .nameAndType 27 52), (0, u zq23), (84, .methodref 18 138), (0, .nameAndType 5 139), (0, u zq31), (5, u "()V"), (10, u "()I"), (129, u zq35), (56, .methodref 2 344), (0, .nameAndType 345 156), (0, u "length"), (3, .class_ 350), (0, u zq57), (0, .class_ 352), (0, u zq54), (0, .class_ 354), (0, u zq58), (0, .class_ 356), (0, u zq55), (0, u zq49), (0, u "J"), (40, u "toString"), (0, u zq44)] 21

def k17c0 : Code := { maxStack := 2, maxLocals := 1, code := jdk_67_method_1_code, exceptionTable := #[], attributes := #[] }
def k17m0 : Method := { name := "<init>", desc := "()V", sig := { parameters := [], returnType := none }, accessFlags := 1, code := some k17c0 }
def k17c1 : Code := { maxStack := 2, maxLocals := 2, code := jdk_67_method_7_code, exceptionTable := #[], attributes := #[] }
def k17m1 : Method := { name := "append", desc := zq34, sig := { parameters := [(.object zq0)], returnType := some (.object zq4) }, accessFlags := 1, code := some k17c1 }
def k17c2 : Code := { maxStack := 2, maxLocals := 2, code := jdk_67_method_14_code, exceptionTable := #[], attributes := #[] }
def k17m2 : Method := { name := "append", desc := zq35, sig := { parameters := [.char], returnType := some (.object zq4) }, accessFlags := 1, code := some k17c2 }
def k17c3 : Code := { maxStack := 3, maxLocals := 1, code := jdk_67_method_42_code, exceptionTable := #[], attributes := #[] }
def k17m3 : Method := { name := "toString", desc := zq44, sig := { parameters := [], returnType := some (.object zq0) }, accessFlags := 1, code := some k17c3 }
def k17c4 : Code := { maxStack := 1, maxLocals := 1, code := jdk_67_method_93_code, exceptionTable := #[], attributes := #[] }
def k17m4 : Method := { name := "length", desc := "()I", sig := { parameters := [], returnType := some .int }, accessFlags := 4161, code := some k17c4 }
/-- java/lang/StringBuilder -/
def k17 : Class := { plain zq4 (some 15) with
  accessFlags := 49
  interfaces := #[13, 10, 16, 14]
  cf := some (fileOf pool17 24 #[] #[{ accessFlags := 1, nameIndex := 5, descriptorIndex := 145, attributes := #[] }, { accessFlags := 1, nameIndex := 27, descriptorIndex := 28, attributes := #[] }, { accessFlags := 1, nameIndex := 27, descriptorIndex := 286, attributes := #[] }, { accessFlags := 1, nameIndex := 399, descriptorIndex := 400, attributes := #[] }, { accessFlags := 4161, nameIndex := 345, descriptorIndex := 156, attributes := #[] }] 49 2 #[349, 351, 353, 355] #[{ accessFlags := 24, nameIndex := 357, descriptorIndex := 358, attributes := #[] }])
  fields := #[{ name := zq49, type := .long, accessFlags := 24, slot := 0, constantValue := 0 }]
  methods := #[k17m0, k17m1, k17m2, k17m3, k17m4]
  instanceTypes := #[(.array .byte), .byte, .boolean, .int]
  staticTypes := #[.long]
  resolved := Array.replicate 422 none
  statics := none }

def pool18 : Array CpInfo := pool [(1, .class_ 2), (0, u zq63), (0, .class_ 4), (0, u zq3)] 6

/-- java/lang/constant/Constable -/
def k18 : Class := { plain zq63 (some 0) with
  accessFlags := 1537
  interfaces := #[]
  cf := some (fileOf pool18 1 #[] #[] 1537 3 #[] #[])
  fields := #[]
  methods := #[]
  instanceTypes := #[]
  staticTypes := #[]
  resolved := Array.replicate 11 none
  statics := none }

def pool19 : Array CpInfo := pool [(1, .class_ 2), (0, u zq64), (0, .class_ 4), (0, u zq3)] 32

/-- java/lang/constant/ConstantDesc -/
def k19 : Class := { plain zq64 (some 0) with
  accessFlags := 1537
  interfaces := #[]
  cf := some (fileOf pool19 1 #[] #[] 1537 3 #[] #[])
  fields := #[]
  methods := #[]
  instanceTypes := #[]
  staticTypes := #[]
  resolved := Array.replicate 37 none
  statics := none }

def pool20 : Array CpInfo := pool [(1, .methodref 2 3), (0, .class_ 4), (0, .nameAndType 5 6), (0, u zq3), (0, u "<init>"), (0, u "()V"), (2, .fieldref 10 11), (0, .class_ 12), (0, .nameAndType 13 14), (0, u zq0), (0, u "value"), (0, u "[B"), (0, .fieldref 10 16), (0, .nameAndType 17 18), (0, u "coder"), (0, u "B"), (2, u "hash"), (0, u "I"), (2, u "hashIsZero"), (0, u "Z"), (0, .methodref 10 28), (0, .nameAndType 5 29), (0, u zq32), (8, .fieldref 10 39), (0, .nameAndType 40 26), (0, u zq5), (1, .class_ 44), (1, u zq16), (0, u "compress"), (1, .methodref 42 48), (0, .nameAndType 49 50), (0, u zq38), (0, u "([BI)B"), (2, u "toBytes"), (0, .methodref 55 56), (0, .class_ 57), (0, .nameAndType 58 59), (0, u zq10), (0, u zq28), (0, u "([BII)[B"), (47, .class_ 109), (1, u zq18), (32, u "()Z"), (34, .methodref 42 178), (0, .nameAndType 45 179), (0, u "([CII)[B"), (13, .class_ 195), (1, u zq59), (13, .methodref 10 210), (0, .nameAndType 5 211), (0, u "([BB)V"), (0, .methodref 193 213), (0, .nameAndType 214 215), (0, u "arraycopy"), (0, u zq60), (118, u "()I"), (0, .methodref 10 336), (0, .nameAndType 17 337), (0, u "()B"), (2, u "()[B"), (22, u "([BI)C"), (5, u "(C)Z"), (21, u "(II)V"), (35, u "(I)C"), (61, .methodref 10 490), (0, .nameAndType 5 491), (0, u zq41), (0, .methodref 10 493), (0, .nameAndType 494 142), (0, u "isLatin1"), (0, .methodref 107 496), (0, .nameAndType 497 363), (0, u "charAt"), (3, u "checkIndex"), (4, .nameAndType 507 334), (0, u "length"), (24, u "getBytes"), (16, .methodref 550 506), (0, .class_ 551), (0, u zq1), (0, .methodref 550 553), (0, .nameAndType 554 340), (0, u "getValue"), (20, .class_ 576), (0, u zq55), (22, u "CASE_INSENSITIVE_ORDER"), (0, u "Ljava/util/Comparator;"), (181, u "valueOf"), (0, u zq36), (37, u "([BIB)V"), (188, u "([C)V"), (4, .methodref 107 1016), (0, .nameAndType 1017 369), (0, u "canEncode"), (0, .methodref 107 1019), (0, .nameAndType 53 1020), (0, u "(C)[B"), (26, .methodref 550 493), (5, .fieldref 1054 1055), (0, .class_ 1056), (0, .nameAndType 1057 1058), (0, u zq9), (0, u zq12), (0, u zq14), (0, .methodref 1054 1060), (0, .nameAndType 501 1061), (0, u zq19), (39, u "serialPersistentFields"), (0, u "[Ljava/io/ObjectStreamField;"), (0, .class_ 1104), (0, u "java/lang/String$CaseInsensitiveComparator"), (1, .class_ 1107), (0, u zq54), (0, .class_ 1109), (0, u zq58), (0, .class_ 1111), (0, u zq63), (0, .class_ 1113), (0, u zq64), (2, u zq49), (0, u "J"), (3, u "REPL"), (0, u "C"), (2, u "LATIN1"), (1, u "UTF16"), (105, u zq31)] 217

def k20m0 : Method := { name := "<init>", desc := "()V", sig := { parameters := [], returnType := none }, accessFlags := 1, code := none }
def k20c1 : Code := { maxStack := 5, maxLocals := 2, code := jdk_42_method_3_code, exceptionTable := #[], attributes := #[] }
def k20m1 : Method := { name := "<init>", desc := "([C)V", sig := { parameters := [(.array .char)], returnType := none }, accessFlags := 1, code := some k20c1 }
def k20c2 : Code := { maxStack := 3, maxLocals := 2, code := jdk_42_method_53_code, exceptionTable := #[], attributes := #[] }
def k20m2 : Method := { name := "<init>", desc := zq31, sig := { parameters := [(.object zq4)], returnType := none }, accessFlags := 1, code := some k20c2 }
def k20c3 : Code := { maxStack := 2, maxLocals := 1, code := jdk_42_method_54_code, exceptionTable := #[], attributes := #[] }
def k20m3 : Method := { name := "length", desc := "()I", sig := { parameters := [], returnType := some .int }, accessFlags := 1, code := some k20c3 }
def k20c4 : Code := { maxStack := 2, maxLocals := 2, code := jdk_42_method_56_code, exceptionTable := #[], attributes := #[] }
def k20m4 : Method := { name := "charAt", desc := "(I)C", sig := { parameters := [.int], returnType := some .char }, accessFlags := 1, code := some k20c4 }
def k20c5 : Code := { maxStack := 4, maxLocals := 1, code := jdk_42_method_139_code, exceptionTable := #[], attributes := #[] }
def k20m5 : Method := { name := "valueOf", desc := zq36, sig := { parameters := [.char], returnType := some (.object zq0) }, accessFlags := 9, code := some k20c5 }
def k20c6 : Code := { maxStack := 5, maxLocals := 4, code := jdk_42_method_147_code, exceptionTable := #[], attributes := #[] }
def k20m6 : Method := { name := "getBytes", desc := "([BIB)V", sig := { parameters := [(.array .byte), .int, .byte], returnType := none }, accessFlags := 0, code := some k20c6 }
def k20c7 : Code := { maxStack := 4, maxLocals := 6, code := jdk_42_method_149_code, exceptionTable := #[], attributes := #[] }
def k20m7 : Method := { name := "<init>", desc := zq32, sig := { parameters := [(.array .char), .int, .int, (.object "java/lang/Void")], returnType := none }, accessFlags := 2, code := some k20c7 }
def k20c8 : Code := { maxStack := 5, maxLocals := 5, code := jdk_42_method_150_code, exceptionTable := #[], attributes := #[] }
def k20m8 : Method := { name := "<init>", desc := zq41, sig := { parameters := [(.object zq1), (.object "java/lang/Void")], returnType := none }, accessFlags := 0, code := some k20c8 }
def k20c9 : Code := { maxStack := 2, maxLocals := 3, code := jdk_42_method_151_code, exceptionTable := #[], attributes := #[] }
def k20m9 : Method := { name := "<init>", desc := "([BB)V", sig := { parameters := [(.array .byte), .byte], returnType := none }, accessFlags := 0, code := some k20c9 }
def k20c10 : Code := { maxStack := 1, maxLocals := 1, code := jdk_42_method_152_code, exceptionTable := #[], attributes := #[] }
def k20m10 : Method := { name := "coder", desc := "()B", sig := { parameters := [], returnType := some .byte }, accessFlags := 0, code := some k20c10 }
def k20c11 : Code := { maxStack := 1, maxLocals := 1, code := jdk_42_method_154_code, exceptionTable := #[], attributes := #[] }
def k20m11 : Method := { name := "isLatin1", desc := "()Z", sig := { parameters := [], returnType := some .boolean }, accessFlags := 0, code := some k20c11 }
def k20c12 : Code := { maxStack := 3, maxLocals := 2, code := jdk_42_method_155_code, exceptionTable := #[], attributes := #[] }
def k20m12 : Method := { name := "checkIndex", desc := "(II)V", sig := { parameters := [.int, .int], returnType := none }, accessFlags := 8, code := some k20c12 }
/-- java/lang/String -/
def k20 : Class := { plain zq0 (some 0) with
  accessFlags := 49
  interfaces := #[10, 16, 14, 18, 19]
  cf := some (fileOf pool20 10 #[.nestMembers #[1103]] #[{ accessFlags := 1, nameIndex := 5, descriptorIndex := 6, attributes := #[] }, { accessFlags := 1, nameIndex := 5, descriptorIndex := 1010, attributes := #[] }, { accessFlags := 1, nameIndex := 5, descriptorIndex := 1233, attributes := #[] }, { accessFlags := 1, nameIndex := 507, descriptorIndex := 334, attributes := #[] }, { accessFlags := 1, nameIndex := 497, descriptorIndex := 427, attributes := #[] }, { accessFlags := 9, nameIndex := 782, descriptorIndex := 783, attributes := #[] }, { accessFlags := 0, nameIndex := 532, descriptorIndex := 821, attributes := #[] }, { accessFlags := 2, nameIndex := 5, descriptorIndex := 29, attributes := #[] }, { accessFlags := 0, nameIndex := 5, descriptorIndex := 491, attributes := #[] }, { accessFlags := 0, nameIndex := 5, descriptorIndex := 211, attributes := #[] }, { accessFlags := 0, nameIndex := 17, descriptorIndex := 337, attributes := #[] }, { accessFlags := 0, nameIndex := 494, descriptorIndex := 142, attributes := #[] }, { accessFlags := 8, nameIndex := 501, descriptorIndex := 391, attributes := #[] }] 49 2 #[1106, 1108, 575, 1110, 1112] #[{ accessFlags := 18, nameIndex := 13, descriptorIndex := 14, attributes := #[] }, { accessFlags := 18, nameIndex := 17, descriptorIndex := 18, attributes := #[] }, { accessFlags := 2, nameIndex := 21, descriptorIndex := 22, attributes := #[] }, { accessFlags := 2, nameIndex := 25, descriptorIndex := 26, attributes := #[] }, { accessFlags := 26, nameIndex := 1116, descriptorIndex := 1117, attributes := #[] }, { accessFlags := 24, nameIndex := 40, descriptorIndex := 26, attributes := #[] }, { accessFlags := 26, nameIndex := 1101, descriptorIndex := 1102, attributes := #[] }, { accessFlags := 26, nameIndex := 1121, descriptorIndex := 1122, attributes := #[] }, { accessFlags := 25, nameIndex := 599, descriptorIndex := 600, attributes := #[] }, { accessFlags := 24, nameIndex := 1125, descriptorIndex := 18, attributes := #[] }, { accessFlags := 24, nameIndex := 1127, descriptorIndex := 18, attributes := #[] }])
  fields := #[{ name := "value", type := (.array .byte), accessFlags := 18, slot := 0, constantValue := 0 }, { name := "coder", type := .byte, accessFlags := 18, slot := 1, constantValue := 0 }, { name := "hash", type := .int, accessFlags := 2, slot := 2, constantValue := 0 }, { name := "hashIsZero", type := .boolean, accessFlags := 2, slot := 3, constantValue := 0 }, { name := zq49, type := .long, accessFlags := 26, slot := 0, constantValue := 0 }, { name := zq5, type := .boolean, accessFlags := 24, slot := 1, constantValue := 0 }, { name := "serialPersistentFields", type := (.array (.object "java/io/ObjectStreamField")), accessFlags := 26, slot := 2, constantValue := 0 }, { name := "REPL", type := .char, accessFlags := 26, slot := 3, constantValue := 0 }, { name := "CASE_INSENSITIVE_ORDER", type := (.object "java/util/Comparator"), accessFlags := 25, slot := 4, constantValue := 0 }, { name := "LATIN1", type := .byte, accessFlags := 24, slot := 5, constantValue := 0 }, { name := "UTF16", type := .byte, accessFlags := 24, slot := 6, constantValue := 0 }]
  methods := #[k20m0, k20m1, k20m2, k20m3, k20m4, k20m5, k20m6, k20m7, k20m8, k20m9, k20m10, k20m11, k20m12]
  instanceTypes := #[(.array .byte), .byte, .int, .boolean]
  staticTypes := #[.long, .boolean, (.array (.object "java/io/ObjectStreamField")), .char, (.object "java/util/Comparator"), .byte, .byte]
  resolved := Array.replicate 1451 none
  statics := some 1 }

def pool21 : Array CpInfo := pool [(2, .class_ 4), (1, u zq3), (0, u "<init>"), (0, u "()V"), (7, .class_ 16), (1, u zq10), (57, .class_ 76), (1, u "java/util/Arrays$NaturalOrder"), (32, u "()Ljava/lang/Object;"), (3, .class_ 115), (1, u "java/util/Arrays$LegacyMergeSort"), (1, u "Z"), (10, .nameAndType 129 109), (0, u "clone"), (9, u zq28), (10, .methodref 151 152), (0, .class_ 153), (0, .nameAndType 154 155), (0, u zq59), (0, u "arraycopy"), (0, u zq60), (146, u "copyOf"), (1, .methodref 305 306), (0, .class_ 307), (0, .nameAndType 308 309), (0, u zq17), (0, u "min"), (0, u "(II)I"), (0, .methodref 311 128), (0, .class_ 312), (0, u "[B"), (26, .methodref 14 340), (0, .nameAndType 341 342), (0, u zq52), (0, u "([BII)[B"), (0, .methodref 14 344), (0, .nameAndType 345 346), (0, u "checkLength"), (0, u "(II)V"), (28, .class_ 376), (0, u "java/util/Arrays$ArrayList"), (68, u zq30), (269, u "MIN_ARRAY_SORT_GRAN"), (0, u "I"), (2, u "INSERTIONSORT_THRESHOLD"), (149, u "([BI)[B"), (105, .class_ 976), (0, u "java/util/Arrays$ArrayItr")] 52

def k21m0 : Method := { name := "<init>", desc := "()V", sig := { parameters := [], returnType := none }, accessFlags := 2, code := none }
def k21c1 : Code := { maxStack := 6, maxLocals := 3, code := jdk_65_method_121_code, exceptionTable := #[], attributes := #[] }
def k21m1 : Method := { name := "copyOf", desc := "([BI)[B", sig := { parameters := [(.array .byte), .int], returnType := some (.array .byte) }, accessFlags := 9, code := some k21c1 }
def k21c2 : Code := { maxStack := 4, maxLocals := 2, code := jdk_65_method_131_code, exceptionTable := #[], attributes := #[] }
def k21m2 : Method := { name := "checkLength", desc := "(II)V", sig := { parameters := [.int, .int], returnType := none }, accessFlags := 10, code := some k21c2 }
def k21c3 : Code := { maxStack := 3, maxLocals := 3, code := jdk_65_method_132_code, exceptionTable := #[], attributes := #[] }
def k21m3 : Method := { name := zq28, desc := "([BII)[B", sig := { parameters := [(.array .byte), .int, .int], returnType := some (.array .byte) }, accessFlags := 9, code := some k21c3 }
def k21c4 : Code := { maxStack := 6, maxLocals := 5, code := jdk_65_method_133_code, exceptionTable := #[], attributes := #[] }
def k21m4 : Method := { name := zq52, desc := "([BII)[B", sig := { parameters := [(.array .byte), .int, .int], returnType := some (.array .byte) }, accessFlags := 10, code := some k21c4 }
/-- java/util/Arrays -/
def k21 : Class := { plain zq10 (some 0) with
  accessFlags := 49
  interfaces := #[]
  cf := some (fileOf pool21 14 #[.nestMembers #[975, 375, 113, 74]] #[{ accessFlags := 2, nameIndex := 5, descriptorIndex := 6, attributes := #[] }, { accessFlags := 9, nameIndex := 302, descriptorIndex := 869, attributes := #[] }, { accessFlags := 10, nameIndex := 345, descriptorIndex := 346, attributes := #[] }, { accessFlags := 9, nameIndex := 139, descriptorIndex := 342, attributes := #[] }, { accessFlags := 10, nameIndex := 341, descriptorIndex := 342, attributes := #[] }] 49 2 #[] #[{ accessFlags := 26, nameIndex := 715, descriptorIndex := 716, attributes := #[] }, { accessFlags := 26, nameIndex := 719, descriptorIndex := 716, attributes := #[] }, { accessFlags := 4120, nameIndex := 445, descriptorIndex := 117, attributes := #[] }])
  fields := #[{ name := "MIN_ARRAY_SORT_GRAN", type := .int, accessFlags := 26, slot := 0, constantValue := 0 }, { name := "INSERTIONSORT_THRESHOLD", type := .int, accessFlags := 26, slot := 1, constantValue := 0 }, { name := zq30, type := .boolean, accessFlags := 4120, slot := 2, constantValue := 0 }]
  methods := #[k21m0, k21m1, k21m2, k21m3, k21m4]
  instanceTypes := #[]
  staticTypes := #[.int, .int, .boolean]
  resolved := Array.replicate 1029 none
  statics := none }

def pool22 : Array CpInfo := pool [(1, .class_ 2), (0, u zq17), (1, .class_ 6), (1, u zq3), (0, u "<init>"), (0, u "()V"), (89, .class_ 100), (1, u "java/lang/Math$RandomNumberGeneratorHolder"), (71, u "negativeZeroFloatBits"), (0, u "J"), (2, u "negativeZeroDoubleBits"), (21, u "max"), (2, u "min"), (43, u zq30), (0, u "Z"), (88, u "(II)I"), (2, u "twoToTheDoubleScaleDown"), (0, u "D"), (4, u "twoToTheDoubleScaleUp"), (9, u "E"), (3, u "PI"), (2, u "TAU"), (2, u "DEGREES_TO_RADIANS"), (0, u "RADIANS_TO_DEGREES")] 94

def k22m0 : Method := { name := "<init>", desc := "()V", sig := { parameters := [], returnType := none }, accessFlags := 2, code := none }
def k22c1 : Code := { maxStack := 2, maxLocals := 2, code := jdk_29_method_65_code, exceptionTable := #[], attributes := #[] }
def k22m1 : Method := { name := "max", desc := "(II)I", sig := { parameters := [.int, .int], returnType := some .int }, accessFlags := 9, code := some k22c1 }
def k22c2 : Code := { maxStack := 2, maxLocals := 2, code := jdk_29_method_69_code, exceptionTable := #[], attributes := #[] }
def k22m2 : Method := { name := "min", desc := "(II)I", sig := { parameters := [.int, .int], returnType := some .int }, accessFlags := 9, code := some k22c2 }
/-- java/lang/Math -/
def k22 : Class := { plain zq17 (some 0) with
  accessFlags := 49
  interfaces := #[]
  cf := some (fileOf pool22 1 #[.nestMembers #[98]] #[{ accessFlags := 2, nameIndex := 7, descriptorIndex := 8, attributes := #[] }, { accessFlags := 9, nameIndex := 198, descriptorIndex := 335, attributes := #[] }, { accessFlags := 9, nameIndex := 201, descriptorIndex := 335, attributes := #[] }] 49 4 #[] #[{ accessFlags := 25, nameIndex := 354, descriptorIndex := 339, attributes := #[] }, { accessFlags := 25, nameIndex := 358, descriptorIndex := 339, attributes := #[] }, { accessFlags := 25, nameIndex := 361, descriptorIndex := 339, attributes := #[] }, { accessFlags := 26, nameIndex := 364, descriptorIndex := 339, attributes := #[] }, { accessFlags := 26, nameIndex := 365, descriptorIndex := 339, attributes := #[] }, { accessFlags := 26, nameIndex := 172, descriptorIndex := 173, attributes := #[] }, { accessFlags := 26, nameIndex := 176, descriptorIndex := 173, attributes := #[] }, { accessFlags := 8, nameIndex := 344, descriptorIndex := 339, attributes := #[] }, { accessFlags := 8, nameIndex := 338, descriptorIndex := 339, attributes := #[] }, { accessFlags := 4120, nameIndex := 245, descriptorIndex := 246, attributes := #[] }])
  fields := #[{ name := "E", type := .double, accessFlags := 25, slot := 0, constantValue := 0 }, { name := "PI", type := .double, accessFlags := 25, slot := 1, constantValue := 0 }, { name := "TAU", type := .double, accessFlags := 25, slot := 2, constantValue := 0 }, { name := "DEGREES_TO_RADIANS", type := .double, accessFlags := 26, slot := 3, constantValue := 0 }, { name := "RADIANS_TO_DEGREES", type := .double, accessFlags := 26, slot := 4, constantValue := 0 }, { name := "negativeZeroFloatBits", type := .long, accessFlags := 26, slot := 5, constantValue := 0 }, { name := "negativeZeroDoubleBits", type := .long, accessFlags := 26, slot := 6, constantValue := 0 }, { name := "twoToTheDoubleScaleUp", type := .double, accessFlags := 8, slot := 7, constantValue := 0 }, { name := "twoToTheDoubleScaleDown", type := .double, accessFlags := 8, slot := 8, constantValue := 0 }, { name := zq30, type := .boolean, accessFlags := 4120, slot := 9, constantValue := 0 }]
  methods := #[k22m0, k22m1, k22m2]
  instanceTypes := #[]
  staticTypes := #[.double, .double, .double, .double, .double, .long, .long, .double, .double, .boolean]
  resolved := Array.replicate 460 none
  statics := none }

def pool23 : Array CpInfo := pool [(2, .class_ 4), (1, u zq3), (0, u "<init>"), (0, u "()V"), (1, .class_ 10), (1, u zq59), (0, u "allowSecurityManager"), (0, u "I"), (16, u "cons"), (0, u "Ljava/io/Console;"), (77, .class_ 110), (1, u "java/lang/System$CallersHolder"), (43, u "initialErrStream"), (0, u "Ljava/io/PrintStream;"), (19, u "security"), (0, u "Ljava/lang/SecurityManager;"), (31, .class_ 209), (0, u "java/lang/System$1"), (7, u "props"), (0, u "Ljava/util/Properties;"), (2, u "lineSeparator"), (0, u "Ljava/lang/String;"), (96, .class_ 321), (1, u "java/lang/System$LoggerFinder"), (5, .class_ 328), (0, u "java/lang/System$Logger"), (67, u "err"), (2, u "out"), (91, u "notSupportedJnuEncoding"), (15, u "in"), (17, u "initialIn"), (0, u "Ljava/io/InputStream;"), (35, u "bootLayer"), (0, u "Ljava/lang/ModuleLayer;"), (99, .class_ 664), (0, u "java/lang/System$2"), (9, u "NEVER"), (2, u "MAYBE"), (49, u "arraycopy"), (0, u zq60), (72, .class_ 802), (0, u "java/lang/System$Logger$Level")] 31

def k23m0 : Method := { name := "<init>", desc := "()V", sig := { parameters := [], returnType := none }, accessFlags := 2, code := none }
def k23m1 : Method := { name := "arraycopy", desc := zq60, sig := { parameters := [(.object zq3), .int, (.object zq3), .int, .int], returnType := none }, accessFlags := 265, code := none }
/-- java/lang/System -/
def k23 : Class := { plain zq59 (some 0) with
  accessFlags := 49
  interfaces := #[]
  cf := some (fileOf pool23 8 #[.nestMembers #[319, 327, 801, 108, 663, 208]] #[{ accessFlags := 2, nameIndex := 5, descriptorIndex := 6, attributes := #[] }, { accessFlags := 265, nameIndex := 727, descriptorIndex := 728, attributes := #[] }] 49 2 #[] #[{ accessFlags := 25, nameIndex := 507, descriptorIndex := 526, attributes := #[] }, { accessFlags := 25, nameIndex := 399, descriptorIndex := 155, attributes := #[] }, { accessFlags := 25, nameIndex := 396, descriptorIndex := 155, attributes := #[] }, { accessFlags := 10, nameIndex := 525, descriptorIndex := 526, attributes := #[] }, { accessFlags := 26, nameIndex := 674, descriptorIndex := 12, attributes := #[] }, { accessFlags := 26, nameIndex := 677, descriptorIndex := 12, attributes := #[] }, { accessFlags := 10, nameIndex := 11, descriptorIndex := 12, attributes := #[] }, { accessFlags := 74, nameIndex := 175, descriptorIndex := 176, attributes := #[] }, { accessFlags := 10, nameIndex := 491, descriptorIndex := 222, attributes := #[] }, { accessFlags := 74, nameIndex := 29, descriptorIndex := 30, attributes := #[] }, { accessFlags := 74, nameIndex := 154, descriptorIndex := 155, attributes := #[] }, { accessFlags := 10, nameIndex := 217, descriptorIndex := 218, attributes := #[] }, { accessFlags := 10, nameIndex := 221, descriptorIndex := 222, attributes := #[] }, { accessFlags := 8, nameIndex := 562, descriptorIndex := 563, attributes := #[] }])
  fields := #[{ name := "in", type := (.object zq61), accessFlags := 25, slot := 0, constantValue := 0 }, { name := "out", type := (.object zq50), accessFlags := 25, slot := 1, constantValue := 0 }, { name := "err", type := (.object zq50), accessFlags := 25, slot := 2, constantValue := 0 }, { name := "initialIn", type := (.object zq61), accessFlags := 10, slot := 3, constantValue := 0 }, { name := "NEVER", type := .int, accessFlags := 26, slot := 4, constantValue := 0 }, { name := "MAYBE", type := .int, accessFlags := 26, slot := 5, constantValue := 0 }, { name := "allowSecurityManager", type := .int, accessFlags := 10, slot := 6, constantValue := 0 }, { name := "security", type := (.object "java/lang/SecurityManager"), accessFlags := 74, slot := 7, constantValue := 0 }, { name := "notSupportedJnuEncoding", type := (.object zq0), accessFlags := 10, slot := 8, constantValue := 0 }, { name := "cons", type := (.object "java/io/Console"), accessFlags := 74, slot := 9, constantValue := 0 }, { name := "initialErrStream", type := (.object zq50), accessFlags := 74, slot := 10, constantValue := 0 }, { name := "props", type := (.object "java/util/Properties"), accessFlags := 10, slot := 11, constantValue := 0 }, { name := "lineSeparator", type := (.object zq0), accessFlags := 10, slot := 12, constantValue := 0 }, { name := "bootLayer", type := (.object "java/lang/ModuleLayer"), accessFlags := 8, slot := 13, constantValue := 0 }]
  methods := #[k23m0, k23m1]
  instanceTypes := #[]
  staticTypes := #[(.object zq61), (.object zq50), (.object zq50), (.object zq61), .int, .int, .int, (.object "java/lang/SecurityManager"), (.object zq0), (.object "java/io/Console"), (.object zq50), (.object "java/util/Properties"), (.object zq0), (.object "java/lang/ModuleLayer")]
  resolved := Array.replicate 834 none
  statics := none }

def pool24 : Array CpInfo := pool [(1, .class_ 2), (0, u zq0), (1, .class_ 6), (1, u zq3), (0, u "<init>"), (0, u "()V"), (0, .methodref 1 10), (0, .nameAndType 11 12), (0, u "checkIndex"), (0, u "(II)V"), (1, .class_ 16), (1, u zq18), (36, u "([BI)C"), (36, u "canEncode"), (14, u "(C)Z"), (15, u zq30), (0, u "Z"), (98, .class_ 223), (1, u "java/lang/StringLatin1$LinesSpliterator"), (28, u "charAt"), (127, u "toBytes"), (1, u "(C)[B"), (7, .class_ 391), (0, u "java/lang/StringLatin1$CharsSpliterator")] 3

def k24m0 : Method := { name := "<init>", desc := "()V", sig := { parameters := [], returnType := none }, accessFlags := 0, code := none }
def k24c1 : Code := { maxStack := 2, maxLocals := 2, code := jdk_43_method_2_code, exceptionTable := #[], attributes := #[] }
def k24m1 : Method := { name := "charAt", desc := "([BI)C", sig := { parameters := [(.array .byte), .int], returnType := some .char }, accessFlags := 9, code := some k24c1 }
def k24c2 : Code := { maxStack := 2, maxLocals := 1, code := jdk_43_method_3_code, exceptionTable := #[], attributes := #[] }
def k24m2 : Method := { name := "canEncode", desc := "(C)Z", sig := { parameters := [.char], returnType := some .boolean }, accessFlags := 9, code := some k24c2 }
def k24c3 : Code := { maxStack := 4, maxLocals := 1, code := jdk_43_method_46_code, exceptionTable := #[], attributes := #[] }
def k24m3 : Method := { name := "toBytes", desc := "(C)[B", sig := { parameters := [.char], returnType := some (.array .byte) }, accessFlags := 9, code := some k24c3 }
/-- java/lang/StringLatin1 -/
def k24 : Class := { plain zq18 (some 0) with
  accessFlags := 48
  interfaces := #[]
  cf := some (fileOf pool24 14 #[.nestMembers #[390, 221]] #[{ accessFlags := 0, nameIndex := 7, descriptorIndex := 8, attributes := #[] }, { accessFlags := 9, nameIndex := 252, descriptorIndex := 53, attributes := #[] }, { accessFlags := 9, nameIndex := 90, descriptorIndex := 105, attributes := #[] }, { accessFlags := 9, nameIndex := 380, descriptorIndex := 382, attributes := #[] }] 48 4 #[] #[{ accessFlags := 4120, nameIndex := 121, descriptorIndex := 122, attributes := #[] }])
  fields := #[{ name := zq30, type := .boolean, accessFlags := 4120, slot := 0, constantValue := 0 }]
  methods := #[k24m0, k24m1, k24m2, k24m3]
  instanceTypes := #[]
  staticTypes := #[.boolean]
  resolved := Array.replicate 395 none
  statics := none }

def pool25 : Array CpInfo := pool [(6, .class_ 8), (1, u zq3), (0, u "<init>"), (0, u "()V"), (1, .class_ 14), (1, u zq16), (31, u zq30), (0, u "Z"), (13, u "HI_BYTE_SHIFT"), (0, u "I"), (2, u "LO_BYTE_SHIFT"), (49, .methodref 12 116), (0, .nameAndType 117 118), (0, u "compress"), (0, u "([CI[BII)I"), (3, u "([CII)[B"), (138, u zq38), (0, u "([BI)B"), (106, .class_ 371), (1, u "java/lang/StringUTF16$LinesSpliterator"), (58, u "MAX_LENGTH"), (196, .class_ 628), (0, u "java/lang/StringUTF16$CodePointsSpliterator"), (0, .class_ 630), (0, u "java/lang/StringUTF16$CharsSpliterator")] 4

def k25m0 : Method := { name := "<init>", desc := "()V", sig := { parameters := [], returnType := none }, accessFlags := 0, code := none }
def k25c1 : Code := { maxStack := 2, maxLocals := 2, code := jdk_52_method_15_code, exceptionTable := #[], attributes := #[] }
def k25m1 : Method := { name := zq38, desc := "([BI)B", sig := { parameters := [(.array .byte), .int], returnType := some .byte }, accessFlags := 8, code := some k25c1 }
def k25c2 : Code := { maxStack := 5, maxLocals := 6, code := jdk_52_method_16_code, exceptionTable := #[], attributes := #[] }
def k25m2 : Method := { name := "compress", desc := "([CII)[B", sig := { parameters := [(.array .char), .int, .int], returnType := some (.array .byte) }, accessFlags := 9, code := some k25c2 }
def k25c3 : Code := { maxStack := 3, maxLocals := 7, code := jdk_52_method_21_code, exceptionTable := #[], attributes := #[] }
def k25m3 : Method := { name := "compress", desc := "([CI[BII)I", sig := { parameters := [(.array .char), .int, (.array .byte), .int, .int], returnType := some .int }, accessFlags := 9, code := some k25c3 }
/-- java/lang/StringUTF16 -/
def k25 : Class := { plain zq16 (some 0) with
  accessFlags := 48
  interfaces := #[]
  cf := some (fileOf pool25 12 #[.nestMembers #[627, 629, 369]] #[{ accessFlags := 0, nameIndex := 9, descriptorIndex := 10, attributes := #[] }, { accessFlags := 8, nameIndex := 261, descriptorIndex := 262, attributes := #[] }, { accessFlags := 9, nameIndex := 117, descriptorIndex := 122, attributes := #[] }, { accessFlags := 9, nameIndex := 117, descriptorIndex := 118, attributes := #[] }] 48 6 #[] #[{ accessFlags := 26, nameIndex := 61, descriptorIndex := 62, attributes := #[] }, { accessFlags := 26, nameIndex := 65, descriptorIndex := 62, attributes := #[] }, { accessFlags := 24, nameIndex := 430, descriptorIndex := 62, attributes := #[] }, { accessFlags := 4120, nameIndex := 46, descriptorIndex := 47, attributes := #[] }])
  fields := #[{ name := "HI_BYTE_SHIFT", type := .int, accessFlags := 26, slot := 0, constantValue := 0 }, { name := "LO_BYTE_SHIFT", type := .int, accessFlags := 26, slot := 1, constantValue := 0 }, { name := "MAX_LENGTH", type := .int, accessFlags := 24, slot := 2, constantValue := 0 }, { name := zq30, type := .boolean, accessFlags := 4120, slot := 3, constantValue := 0 }]
  methods := #[k25m0, k25m1, k25m2, k25m3]
  instanceTypes := #[]
  staticTypes := #[.int, .int, .int, .boolean]
  resolved := Array.replicate 635 none
  statics := none }

def pool26 : Array CpInfo := pool [(2, .class_ 4), (1, u zq3), (0, u "<init>"), (0, u "()V"), (35, .class_ 44), (1, u zq29), (60, .methodref 106 107), (0, .class_ 108), (0, .nameAndType 109 110), (0, u zq9), (0, u "checkIndex"), (0, u zq19), (60, u "(II)I")] 12

def k26m0 : Method := { name := "<init>", desc := "()V", sig := { parameters := [], returnType := none }, accessFlags := 2, code := none }
def k26c1 : Code := { maxStack := 3, maxLocals := 2, code := jdk_31_method_17_code, exceptionTable := #[], attributes := #[] }
def k26m1 : Method := { name := "checkIndex", desc := "(II)I", sig := { parameters := [.int, .int], returnType := some .int }, accessFlags := 9, code := some k26c1 }
/-- java/util/Objects -/
def k26 : Class := { plain zq29 (some 0) with
  accessFlags := 49
  interfaces := #[]
  cf := some (fileOf pool26 42 #[] #[{ accessFlags := 2, nameIndex := 5, descriptorIndex := 6, attributes := #[] }, { accessFlags := 9, nameIndex := 109, descriptorIndex := 171, attributes := #[] }] 49 2 #[] #[])
  fields := #[]
  methods := #[k26m0, k26m1]
  instanceTypes := #[]
  staticTypes := #[]
  resolved := Array.replicate 184 none
  statics := none }

def pool27 : Array CpInfo := pool [(2, .class_ 4), (1, u zq3), (0, u "<init>"), (0, u "()V"), (17, .class_ 26), (1, u zq9), (6, u "checkIndex"), (21, .class_ 56), (0, u "jdk/internal/util/Preconditions$4"), (57, .class_ 115), (0, u "jdk/internal/util/Preconditions$1"), (7, u zq12), (0, u zq14), (0, .class_ 126), (0, u "jdk/internal/util/Preconditions$2"), (3, u "AIOOBE_FORMATTER"), (0, .class_ 132), (0, u "jdk/internal/util/Preconditions$3"), (3, u "IOOBE_FORMATTER"), (41, u zq19)] 15

def k27m0 : Method := { name := "<init>", desc := "()V", sig := { parameters := [], returnType := none }, accessFlags := 1, code := none }
def k27c1 : Code := { maxStack := 3, maxLocals := 3, code := jdk_41_method_11_code, exceptionTable := #[], attributes := #[] }
def k27m1 : Method := { name := "checkIndex", desc := zq19, sig := { parameters := [.int, .int, (.object zq27)], returnType := some .int }, accessFlags := 9, code := some k27c1 }
/-- jdk/internal/util/Preconditions -/
def k27 : Class := { plain zq9 (some 0) with
  accessFlags := 33
  interfaces := #[]
  cf := some (fileOf pool27 24 #[.nestMembers #[55, 131, 125, 114]] #[{ accessFlags := 1, nameIndex := 5, descriptorIndex := 6, attributes := #[] }, { accessFlags := 9, nameIndex := 33, descriptorIndex := 178, attributes := #[] }] 33 2 #[] #[{ accessFlags := 25, nameIndex := 123, descriptorIndex := 124, attributes := #[] }, { accessFlags := 25, nameIndex := 130, descriptorIndex := 124, attributes := #[] }, { accessFlags := 25, nameIndex := 136, descriptorIndex := 124, attributes := #[] }])
  fields := #[{ name := zq12, type := (.object zq27), accessFlags := 25, slot := 0, constantValue := 0 }, { name := "AIOOBE_FORMATTER", type := (.object zq27), accessFlags := 25, slot := 1, constantValue := 0 }, { name := "IOOBE_FORMATTER", type := (.object zq27), accessFlags := 25, slot := 2, constantValue := 0 }]
  methods := #[k27m0, k27m1]
  instanceTypes := #[]
  staticTypes := #[(.object zq27), (.object zq27), (.object zq27)]
  resolved := Array.replicate 194 none
  statics := some 2 }

def pool28 : Array CpInfo := pool [(9, u "<init>"), (6, .class_ 18), (1, u zq3), (0, u "()V"), (1, .class_ 23), (1, u zq37), (0, u "LOG2_ARRAY_LONG_INDEX_SCALE"), (0, u "I"), (2, u "U"), (0, u "Ljdk/internal/misc/Unsafe;"), (8, u "BIG_ENDIAN"), (0, u "Z"), (8, u "LOG2_BYTE_BIT_SIZE"), (4, u "LOG2_ARRAY_INT_INDEX_SCALE"), (54, u "JLA"), (0, u "Ljdk/internal/access/JavaLangAccess;"), (11, u "LOG2_ARRAY_BOOLEAN_INDEX_SCALE"), (9, u "LOG2_ARRAY_BYTE_INDEX_SCALE"), (5, u "LOG2_ARRAY_CHAR_INDEX_SCALE"), (5, u "LOG2_ARRAY_SHORT_INDEX_SCALE"), (18, u "LOG2_ARRAY_FLOAT_INDEX_SCALE"), (24, u "LOG2_ARRAY_DOUBLE_INDEX_SCALE"), (6, .methodref 195 196), (0, .class_ 197), (0, .nameAndType 198 199), (0, u zq17), (0, u "max"), (0, u "(II)I"), (0, .integer 2147483639), (76, u "T_BOOLEAN"), (2, u "T_CHAR"), (1, u "T_FLOAT"), (1, u "T_DOUBLE"), (1, u "T_BYTE"), (1, u "T_SHORT"), (1, u "T_INT"), (1, u "T_LONG"), (1, u "SOFT_MAX_ARRAY_LENGTH"), (56, u "newLength"), (0, u "(III)I")] 25

def k28m0 : Method := { name := "<init>", desc := "()V", sig := { parameters := [], returnType := none }, accessFlags := 2, code := none }
def k28c1 : Code := { maxStack := 3, maxLocals := 4, code := jdk_48_method_27_code, exceptionTable := #[], attributes := #[] }
def k28m1 : Method := { name := "newLength", desc := "(III)I", sig := { parameters := [.int, .int, .int], returnType := some .int }, accessFlags := 9, code := some k28c1 }
/-- jdk/internal/util/ArraysSupport -/
def k28 : Class := { plain zq37 (some 0) with
  accessFlags := 33
  interfaces := #[]
  cf := some (fileOf pool28 21 #[] #[{ accessFlags := 2, nameIndex := 9, descriptorIndex := 19, attributes := #[] }, { accessFlags := 9, nameIndex := 351, descriptorIndex := 352, attributes := #[] }] 33 16 #[] #[{ accessFlags := 24, nameIndex := 28, descriptorIndex := 29, attributes := #[] }, { accessFlags := 26, nameIndex := 38, descriptorIndex := 39, attributes := #[] }, { accessFlags := 25, nameIndex := 121, descriptorIndex := 25, attributes := #[] }, { accessFlags := 25, nameIndex := 131, descriptorIndex := 25, attributes := #[] }, { accessFlags := 25, nameIndex := 137, descriptorIndex := 25, attributes := #[] }, { accessFlags := 25, nameIndex := 143, descriptorIndex := 25, attributes := #[] }, { accessFlags := 25, nameIndex := 53, descriptorIndex := 25, attributes := #[] }, { accessFlags := 25, nameIndex := 24, descriptorIndex := 25, attributes := #[] }, { accessFlags := 25, nameIndex := 162, descriptorIndex := 25, attributes := #[] }, { accessFlags := 25, nameIndex := 187, descriptorIndex := 25, attributes := #[] }, { accessFlags := 26, nameIndex := 48, descriptorIndex := 25, attributes := #[] }, { accessFlags := 25, nameIndex := 277, descriptorIndex := 25, attributes := #[] }, { accessFlags := 25, nameIndex := 280, descriptorIndex := 25, attributes := #[] }, { accessFlags := 25, nameIndex := 282, descriptorIndex := 25, attributes := #[] }, { accessFlags := 25, nameIndex := 284, descriptorIndex := 25, attributes := #[] }, { accessFlags := 25, nameIndex := 286, descriptorIndex := 25, attributes := #[] }, { accessFlags := 25, nameIndex := 288, descriptorIndex := 25, attributes := #[] }, { accessFlags := 25, nameIndex := 290, descriptorIndex := 25, attributes := #[] }, { accessFlags := 25, nameIndex := 292, descriptorIndex := 25, attributes := #[] }, { accessFlags := 26, nameIndex := 108, descriptorIndex := 109, attributes := #[] }, { accessFlags := 25, nameIndex := 294, descriptorIndex := 25, attributes := #[] }])
  fields := #[{ name := "U", type := (.object "jdk/internal/misc/Unsafe"), accessFlags := 24, slot := 0, constantValue := 0 }, { name := "BIG_ENDIAN", type := .boolean, accessFlags := 26, slot := 1, constantValue := 0 }, { name := "LOG2_ARRAY_BOOLEAN_INDEX_SCALE", type := .int, accessFlags := 25, slot := 2, constantValue := 0 }, { name := "LOG2_ARRAY_BYTE_INDEX_SCALE", type := .int, accessFlags := 25, slot := 3, constantValue := 0 }, { name := "LOG2_ARRAY_CHAR_INDEX_SCALE", type := .int, accessFlags := 25, slot := 4, constantValue := 0 }, { name := "LOG2_ARRAY_SHORT_INDEX_SCALE", type := .int, accessFlags := 25, slot := 5, constantValue := 0 }, { name := "LOG2_ARRAY_INT_INDEX_SCALE", type := .int, accessFlags := 25, slot := 6, constantValue := 0 }, { name := "LOG2_ARRAY_LONG_INDEX_SCALE", type := .int, accessFlags := 25, slot := 7, constantValue := 0 }, { name := "LOG2_ARRAY_FLOAT_INDEX_SCALE", type := .int, accessFlags := 25, slot := 8, constantValue := 0 }, { name := "LOG2_ARRAY_DOUBLE_INDEX_SCALE", type := .int, accessFlags := 25, slot := 9, constantValue := 0 }, { name := "LOG2_BYTE_BIT_SIZE", type := .int, accessFlags := 26, slot := 10, constantValue := 0 }, { name := "T_BOOLEAN", type := .int, accessFlags := 25, slot := 11, constantValue := 0 }, { name := "T_CHAR", type := .int, accessFlags := 25, slot := 12, constantValue := 0 }, { name := "T_FLOAT", type := .int, accessFlags := 25, slot := 13, constantValue := 0 }, { name := "T_DOUBLE", type := .int, accessFlags := 25, slot := 14, constantValue := 0 }, { name := "T_BYTE", type := .int, accessFlags := 25, slot := 15, constantValue := 0 }, { name := "T_SHORT", type := .int, accessFlags := 25, slot := 16, constantValue := 0 }, { name := "T_INT", type := .int, accessFlags := 25, slot := 17, constantValue := 0 }, { name := "T_LONG", type := .int, accessFlags := 25, slot := 18, constantValue := 0 }, { name := "JLA", type := (.object "jdk/internal/access/JavaLangAccess"), accessFlags := 26, slot := 19, constantValue := 0 }, { name := "SOFT_MAX_ARRAY_LENGTH", type := .int, accessFlags := 25, slot := 20, constantValue := 0 }]
  methods := #[k28m0, k28m1]
  instanceTypes := #[]
  staticTypes := #[(.object "jdk/internal/misc/Unsafe"), .boolean, .int, .int, .int, .int, .int, .int, .int, .int, .int, .int, .int, .int, .int, .int, .int, .int, .int, (.object "jdk/internal/access/JavaLangAccess"), .int]
  resolved := Array.replicate 378 none
  statics := none }

/-- the primitive byte -/
def k29 : Class := { plain "byte" none with kind := .primitive 'B', accessFlags := 0x411 }
/-- [B -/
def k30 : Class := { plain "[B" (some 0) with kind := .array 29 .byte, interfaces := #[9, 10], accessFlags := 1041 }

/-- the primitive char -/
def k31 : Class := { plain "char" none with kind := .primitive 'C', accessFlags := 0x411 }
/-- [C -/
def k32 : Class := { plain "[C" (some 0) with kind := .array 31 .char, interfaces := #[9, 10], accessFlags := 1041 }

/-- the primitive int -/
def k33 : Class := { plain "int" none with kind := .primitive 'I', accessFlags := 0x411 }
/-- [I -/
def k34 : Class := { plain "[I" (some 0) with kind := .array 33 .int, interfaces := #[9, 10], accessFlags := 1041 }

/-- [Ljava/lang/Object; -/
def k35 : Class := { plain zq6 (some 0) with kind := .array 0 (.object zq3), interfaces := #[9, 10], accessFlags := 1041 }

def heap : Heap := #[{ cls := 11, slots := #[.long 0, .int 0, .ref 3, .ref 4], vm := .statics 11 },
  { cls := 20, slots := #[.long 0, .int 1, .null, .int 0, .null, .int 0, .int 0], vm := .statics 20 },
  { cls := 27, slots := #[.null, .null, .null], vm := .statics 27 },
  { cls := 35, slots := #[], vm := .none },
  { cls := 35, slots := #[], vm := .none }]
def classes : Array Class := #[k0, k1, k2, k3, k4, k5, k6, k7, k8, k9, k10, k11, k12, k13, k14, k15, k16, k17, k18, k19, k20, k21, k22, k23, k24, k25, k26, k27, k28, k29, k30, k31, k32, k33, k34, k35]
def interned : List (Array UInt16 × Addr) := []
def slotsUsed : Nat := 14
def theMethod : MethodId := ⟨1, 1⟩
def args0 : Array Value := #[.int 2, .int 65, .int 66, .int 5, .int 9]
def aboutOver (below : List Frame) : State where
  vm := { classes := classes, interned := interned.toArray }
  heap := heap
  slotsUsed := slotsUsed
  threads := #[{ frames := .invoking theMethod args0 :: below }]
def below0 : List Frame := [.native { method := ⟨0, 0⟩, args := #[] }]
def about1 : State := aboutOver below0
def p0 : Program := .bare "" "" ""
def e0 : Env := launch0.env 0 0 0
theorem w_frames : about1.frames = Frame.invoking theMethod args0 :: below0 := rfl
set_option maxRecDepth 65536 in
theorem w_args : argsFit about1.vm theMethod args0 = true := by decide +kernel
set_option maxRecDepth 65536 in
theorem w_heap : heapFits about1 = true := by decide +kernel
set_option maxRecDepth 65536 in
theorem w_runnable : about1.curStatus? = some .runnable := by decide +kernel
set_option maxRecDepth 65536 in
theorem w_alone : about1.alone = true := by decide +kernel
set_option maxRecDepth 65536 in
theorem w_named : about1.methodNamed? x = some theMethod := by decide +kernel
set_option maxRecDepth 65536 in
theorem w_hears : about1.hears theMethod below0 = true := by decide +kernel
set_option maxRecDepth 65536 in
theorem w_ripe : about1.ripe theMethod args0 below0 = true := by decide +kernel
theorem w_running : about1.status = .running := rfl
set_option maxRecDepth 65536 in
theorem w_room : about1.hasRoom e0.platform room_1 = true :=
  launch0.hasRoom_least _ room_1 (by decide +kernel) (by decide +kernel) (by decide +kernel) (by decide +kernel) (by decide +kernel) (by decide +kernel)
theorem allAtoms_all (ts : List Jvm.Cond) (a : Array Jvm.Value) (st : Jvm.State) : (allAtoms ts).before a st = ts.all (fun c => c.before a st) := by
  induction ts with
  | nil => rfl
  | cons c t ih =>
    show (Jvm.Cond.and c (allAtoms t)).before a st = _
    rw [Jvm.Cond.before_and, ih, List.all_cons]
def words1 : List Jvm.Cond := Jvm.Cond.code x code maxLocals ret :: tables_1
/-- a 'code' word, met by the world's own term for the bytes: nothing is compared byte by byte -/
theorem code_word {y : MethodName} {bytes : ByteArray} {mx : Nat} {rt : Option FieldType} {a : Array Value} {s : State} {m : MethodId} {meth : Method} {c : Code} (h1 : s.methodNamed? y = some m) (h2 : s.vm.method? m = some meth) (h3 : meth.code = some c) (h4 : c.code = bytes)
    (h5 : (c.maxLocals == mx && c.exceptionTable.isEmpty && decide (c.maxStack ≤ mostOperands) && decide (meth.sig.returnType = rt) && !meth.locks && decide (parseMethodDescriptor y.desc = some meth.sig)) = true) : (Jvm.Cond.code y bytes mx rt).before a s = true := by
  simp only [Bool.and_eq_true, beq_iff_eq, Bool.not_eq_true', decide_eq_true_eq] at h5
  obtain ⟨⟨⟨⟨⟨g1, g2⟩, g3⟩, g4⟩, g5⟩, g6⟩ := h5
  simp [Cond.before, Cond.holds, Cond.value, h1, h2, h3, h4, g1, g2, g3, g4, g5, g6]
def isCode : Jvm.Cond → Bool
  | .code _ _ _ _ => true
  | _ => false
theorem all_split {L : List Jvm.Cond} {P : Jvm.Cond → Bool} (h1 : L.all (fun c => isCode c || P c) = true) (h2 : ∀ c ∈ L.filter isCode, P c = true) : L.all P = true := by
  refine List.all_eq_true.mpr fun c hc => ?_
  have h := List.all_eq_true.mp h1 c hc
  rcases Bool.eq_false_or_eq_true (isCode c) with hi | hi
  · exact h2 c (List.mem_filter.mpr ⟨hc, hi⟩)
  · simpa [hi] using h
set_option maxRecDepth 65536 in
theorem w_c0 : (Jvm.Cond.code x code maxLocals ret).before args0 about1 = true := code_word (m := ⟨1, 1⟩) (meth := k1m1) (c := k1c1) (by decide +kernel) rfl rfl rfl (by decide +kernel)
set_option maxRecDepth 65536 in
theorem w_c1 : (Jvm.Cond.code ({ cls := zq2, name := "<init>", desc := "()V" } : Jvm.MethodName) jdk_38_method_2_code (1 : Nat) (Option.none : Option Jvm.ClassFile.FieldType)).before args0 about1 = true := code_word (m := ⟨11, 0⟩) (meth := k11m0) (c := k11c0) (by decide +kernel) rfl rfl rfl (by decide +kernel)
set_option maxRecDepth 65536 in
theorem w_c2 : (Jvm.Cond.code ({ cls := zq8, name := "<init>", desc := "()V" } : Jvm.MethodName) jdk_39_method_1_code (1 : Nat) (Option.none : Option Jvm.ClassFile.FieldType)).before args0 about1 = true := code_word (m := ⟨7, 0⟩) (meth := k7m0) (c := k7c0) (by decide +kernel) rfl rfl rfl (by decide +kernel)
set_option maxRecDepth 65536 in
theorem w_c3 : (Jvm.Cond.code ({ cls := zq48, name := "<init>", desc := "()V" } : Jvm.MethodName) jdk_22_method_1_code (1 : Nat) (Option.none : Option Jvm.ClassFile.FieldType)).before args0 about1 = true := code_word (m := ⟨4, 0⟩) (meth := k4m0) (c := k4c0) (by decide +kernel) rfl rfl rfl (by decide +kernel)
set_option maxRecDepth 65536 in
theorem w_c4 : (Jvm.Cond.code ({ cls := zq3, name := "<init>", desc := "()V" } : Jvm.MethodName) object_method_1_code (1 : Nat) (Option.none : Option Jvm.ClassFile.FieldType)).before args0 about1 = true := code_word (m := ⟨0, 0⟩) (meth := k0m0) (c := k0c0) (by decide +kernel) rfl rfl rfl (by decide +kernel)
set_option maxRecDepth 65536 in
theorem w_c5 : (Jvm.Cond.code ({ cls := zq15, name := "labels", desc := zq25 } : Jvm.MethodName) prog_35_method_5_code (4 : Nat) (Option.some (Jvm.ClassFile.FieldType.object zq0))).before args0 about1 = true := code_word (m := ⟨12, 0⟩) (meth := k12m0) (c := k12c0) (by decide +kernel) rfl rfl rfl (by decide +kernel)
set_option maxRecDepth 65536 in
theorem w_c6 : (Jvm.Cond.code ({ cls := zq4, name := "<init>", desc := "()V" } : Jvm.MethodName) jdk_67_method_1_code (1 : Nat) (Option.none : Option Jvm.ClassFile.FieldType)).before args0 about1 = true := code_word (m := ⟨17, 0⟩) (meth := k17m0) (c := k17c0) (by decide +kernel) rfl rfl rfl (by decide +kernel)
set_option maxRecDepth 65536 in
theorem w_c7 : (Jvm.Cond.code ({ cls := zq1, name := "<init>", desc := "(I)V" } : Jvm.MethodName) jdk_68_method_2_code (2 : Nat) (Option.none : Option Jvm.ClassFile.FieldType)).before args0 about1 = true := code_word (m := ⟨15, 1⟩) (meth := k15m1) (c := k15c1) (by decide +kernel) rfl rfl rfl (by decide +kernel)
set_option maxRecDepth 65536 in
theorem w_c8 : (Jvm.Cond.code ({ cls := zq2, name := "size", desc := "()I" } : Jvm.MethodName) jdk_38_method_8_code (1 : Nat) (Option.some Jvm.ClassFile.FieldType.int)).before args0 about1 = true := code_word (m := ⟨11, 3⟩) (meth := k11m3) (c := k11c3) (by decide +kernel) rfl rfl rfl (by decide +kernel)
set_option maxRecDepth 65536 in
theorem w_c9 : (Jvm.Cond.code ({ cls := zq2, name := "isEmpty", desc := "()Z" } : Jvm.MethodName) jdk_38_method_9_code (1 : Nat) (Option.some Jvm.ClassFile.FieldType.boolean)).before args0 about1 = true := code_word (m := ⟨11, 4⟩) (meth := k11m4) (c := k11c4) (by decide +kernel) rfl rfl rfl (by decide +kernel)
set_option maxRecDepth 65536 in
theorem w_c10 : (Jvm.Cond.code ({ cls := zq4, name := "toString", desc := zq44 } : Jvm.MethodName) jdk_67_method_42_code (1 : Nat) (Option.some (Jvm.ClassFile.FieldType.object zq0))).before args0 about1 = true := code_word (m := ⟨17, 3⟩) (meth := k17m3) (c := k17c3) (by decide +kernel) rfl rfl rfl (by decide +kernel)
set_option maxRecDepth 65536 in
theorem w_c11 : (Jvm.Cond.code ({ cls := zq0, name := "<init>", desc := zq31 } : Jvm.MethodName) jdk_42_method_53_code (2 : Nat) (Option.none : Option Jvm.ClassFile.FieldType)).before args0 about1 = true := code_word (m := ⟨20, 2⟩) (meth := k20m2) (c := k20c2) (by decide +kernel) rfl rfl rfl (by decide +kernel)
set_option maxRecDepth 65536 in
theorem w_c12 : (Jvm.Cond.code ({ cls := zq0, name := "<init>", desc := zq41 } : Jvm.MethodName) jdk_42_method_150_code (5 : Nat) (Option.none : Option Jvm.ClassFile.FieldType)).before args0 about1 = true := code_word (m := ⟨20, 8⟩) (meth := k20m8) (c := k20c8) (by decide +kernel) rfl rfl rfl (by decide +kernel)
set_option maxRecDepth 65536 in
theorem w_c13 : (Jvm.Cond.code ({ cls := zq1, name := "getValue", desc := "()[B" } : Jvm.MethodName) jdk_68_method_64_code (1 : Nat) (Option.some (Jvm.ClassFile.FieldType.array Jvm.ClassFile.FieldType.byte))).before args0 about1 = true := code_word (m := ⟨15, 7⟩) (meth := k15m7) (c := k15c7) (by decide +kernel) rfl rfl rfl (by decide +kernel)
set_option maxRecDepth 65536 in
theorem w_c14 : (Jvm.Cond.code ({ cls := zq4, name := "length", desc := "()I" } : Jvm.MethodName) jdk_67_method_93_code (1 : Nat) (Option.some Jvm.ClassFile.FieldType.int)).before args0 about1 = true := code_word (m := ⟨17, 4⟩) (meth := k17m4) (c := k17c4) (by decide +kernel) rfl rfl rfl (by decide +kernel)
set_option maxRecDepth 65536 in
theorem w_c15 : (Jvm.Cond.code ({ cls := zq1, name := "length", desc := "()I" } : Jvm.MethodName) jdk_68_method_6_code (1 : Nat) (Option.some Jvm.ClassFile.FieldType.int)).before args0 about1 = true := code_word (m := ⟨15, 2⟩) (meth := k15m2) (c := k15c2) (by decide +kernel) rfl rfl rfl (by decide +kernel)
set_option maxRecDepth 65536 in
theorem w_c16 : (Jvm.Cond.code ({ cls := zq1, name := "isLatin1", desc := "()Z" } : Jvm.MethodName) jdk_68_method_68_code (1 : Nat) (Option.some Jvm.ClassFile.FieldType.boolean)).before args0 about1 = true := code_word (m := ⟨15, 8⟩) (meth := k15m8) (c := k15c8) (by decide +kernel) rfl rfl rfl (by decide +kernel)
set_option maxRecDepth 65536 in
theorem w_c17 : (Jvm.Cond.code ({ cls := zq10, name := zq28, desc := "([BII)[B" } : Jvm.MethodName) jdk_65_method_132_code (3 : Nat) (Option.some (Jvm.ClassFile.FieldType.array Jvm.ClassFile.FieldType.byte))).before args0 about1 = true := code_word (m := ⟨21, 3⟩) (meth := k21m3) (c := k21c3) (by decide +kernel) rfl rfl rfl (by decide +kernel)
set_option maxRecDepth 65536 in
theorem w_c18 : (Jvm.Cond.code ({ cls := zq10, name := zq52, desc := "([BII)[B" } : Jvm.MethodName) jdk_65_method_133_code (5 : Nat) (Option.some (Jvm.ClassFile.FieldType.array Jvm.ClassFile.FieldType.byte))).before args0 about1 = true := code_word (m := ⟨21, 4⟩) (meth := k21m4) (c := k21c4) (by decide +kernel) rfl rfl rfl (by decide +kernel)
set_option maxRecDepth 65536 in
theorem w_c19 : (Jvm.Cond.code ({ cls := zq10, name := "checkLength", desc := "(II)V" } : Jvm.MethodName) jdk_65_method_131_code (2 : Nat) (Option.none : Option Jvm.ClassFile.FieldType)).before args0 about1 = true := code_word (m := ⟨21, 2⟩) (meth := k21m2) (c := k21c2) (by decide +kernel) rfl rfl rfl (by decide +kernel)
set_option maxRecDepth 65536 in
theorem w_c20 : (Jvm.Cond.code ({ cls := zq17, name := "min", desc := "(II)I" } : Jvm.MethodName) jdk_29_method_69_code (2 : Nat) (Option.some Jvm.ClassFile.FieldType.int)).before args0 about1 = true := code_word (m := ⟨22, 2⟩) (meth := k22m2) (c := k22c2) (by decide +kernel) rfl rfl rfl (by decide +kernel)
set_option maxRecDepth 65536 in
theorem w_c21 : (Jvm.Cond.code ({ cls := zq0, name := "length", desc := "()I" } : Jvm.MethodName) jdk_42_method_54_code (1 : Nat) (Option.some Jvm.ClassFile.FieldType.int)).before args0 about1 = true := code_word (m := ⟨20, 3⟩) (meth := k20m3) (c := k20c3) (by decide +kernel) rfl rfl rfl (by decide +kernel)
set_option maxRecDepth 65536 in
theorem w_c22 : (Jvm.Cond.code ({ cls := zq0, name := "coder", desc := "()B" } : Jvm.MethodName) jdk_42_method_152_code (1 : Nat) (Option.some Jvm.ClassFile.FieldType.byte)).before args0 about1 = true := code_word (m := ⟨20, 10⟩) (meth := k20m10) (c := k20c10) (by decide +kernel) rfl rfl rfl (by decide +kernel)
set_option maxRecDepth 65536 in
theorem w_c23 : (Jvm.Cond.code ({ cls := zq11, name := "at", desc := zq45 } : Jvm.MethodName) method_7_code (3 : Nat) (Option.some Jvm.ClassFile.FieldType.boolean)).before args0 about1 = true := code_word (m := ⟨1, 6⟩) (meth := k1m6) (c := k1c6) (by decide +kernel) rfl rfl rfl (by decide +kernel)
set_option maxRecDepth 65536 in
theorem w_c24 : (Jvm.Cond.code ({ cls := zq0, name := "valueOf", desc := zq36 } : Jvm.MethodName) jdk_42_method_139_code (1 : Nat) (Option.some (Jvm.ClassFile.FieldType.object zq0))).before args0 about1 = true := code_word (m := ⟨20, 5⟩) (meth := k20m5) (c := k20c5) (by decide +kernel) rfl rfl rfl (by decide +kernel)
set_option maxRecDepth 65536 in
theorem w_c25 : (Jvm.Cond.code ({ cls := zq18, name := "canEncode", desc := "(C)Z" } : Jvm.MethodName) jdk_43_method_3_code (1 : Nat) (Option.some Jvm.ClassFile.FieldType.boolean)).before args0 about1 = true := code_word (m := ⟨24, 2⟩) (meth := k24m2) (c := k24c2) (by decide +kernel) rfl rfl rfl (by decide +kernel)
set_option maxRecDepth 65536 in
theorem w_c26 : (Jvm.Cond.code ({ cls := zq18, name := "toBytes", desc := "(C)[B" } : Jvm.MethodName) jdk_43_method_46_code (1 : Nat) (Option.some (Jvm.ClassFile.FieldType.array Jvm.ClassFile.FieldType.byte))).before args0 about1 = true := code_word (m := ⟨24, 3⟩) (meth := k24m3) (c := k24c3) (by decide +kernel) rfl rfl rfl (by decide +kernel)
set_option maxRecDepth 65536 in
theorem w_c27 : (Jvm.Cond.code ({ cls := zq0, name := "<init>", desc := "([BB)V" } : Jvm.MethodName) jdk_42_method_151_code (3 : Nat) (Option.none : Option Jvm.ClassFile.FieldType)).before args0 about1 = true := code_word (m := ⟨20, 9⟩) (meth := k20m9) (c := k20c9) (by decide +kernel) rfl rfl rfl (by decide +kernel)
set_option maxRecDepth 65536 in
theorem w_c28 : (Jvm.Cond.code ({ cls := zq2, name := "add", desc := zq21 } : Jvm.MethodName) jdk_38_method_25_code (2 : Nat) (Option.some Jvm.ClassFile.FieldType.boolean)).before args0 about1 = true := code_word (m := ⟨11, 8⟩) (meth := k11m8) (c := k11c8) (by decide +kernel) rfl rfl rfl (by decide +kernel)
set_option maxRecDepth 65536 in
theorem w_c29 : (Jvm.Cond.code ({ cls := zq2, name := "add", desc := zq33 } : Jvm.MethodName) jdk_38_method_24_code (4 : Nat) (Option.none : Option Jvm.ClassFile.FieldType)).before args0 about1 = true := code_word (m := ⟨11, 7⟩) (meth := k11m7) (c := k11c7) (by decide +kernel) rfl rfl rfl (by decide +kernel)
set_option maxRecDepth 65536 in
theorem w_c30 : (Jvm.Cond.code ({ cls := zq2, name := "grow", desc := zq43 } : Jvm.MethodName) jdk_38_method_7_code (1 : Nat) (Option.some (Jvm.ClassFile.FieldType.array (Jvm.ClassFile.FieldType.object zq3)))).before args0 about1 = true := code_word (m := ⟨11, 2⟩) (meth := k11m2) (c := k11c2) (by decide +kernel) rfl rfl rfl (by decide +kernel)
set_option maxRecDepth 65536 in
theorem w_c31 : (Jvm.Cond.code ({ cls := zq2, name := "grow", desc := zq42 } : Jvm.MethodName) jdk_38_method_6_code (4 : Nat) (Option.some (Jvm.ClassFile.FieldType.array (Jvm.ClassFile.FieldType.object zq3)))).before args0 about1 = true := code_word (m := ⟨11, 1⟩) (meth := k11m1) (c := k11c1) (by decide +kernel) rfl rfl rfl (by decide +kernel)
set_option maxRecDepth 65536 in
theorem w_c32 : (Jvm.Cond.code ({ cls := zq17, name := "max", desc := "(II)I" } : Jvm.MethodName) jdk_29_method_65_code (2 : Nat) (Option.some Jvm.ClassFile.FieldType.int)).before args0 about1 = true := code_word (m := ⟨22, 1⟩) (meth := k22m1) (c := k22c1) (by decide +kernel) rfl rfl rfl (by decide +kernel)
set_option maxRecDepth 65536 in
theorem w_c33 : (Jvm.Cond.code ({ cls := zq11, name := "value", desc := zq46 } : Jvm.MethodName) method_4_code (3 : Nat) (Option.some (Jvm.ClassFile.FieldType.object zq0))).before args0 about1 = true := code_word (m := ⟨1, 3⟩) (meth := k1m3) (c := k1c3) (by decide +kernel) rfl rfl rfl (by decide +kernel)
set_option maxRecDepth 65536 in
theorem w_c34 : (Jvm.Cond.code ({ cls := zq11, name := "pick", desc := "(I)C" } : Jvm.MethodName) method_3_code (2 : Nat) (Option.some Jvm.ClassFile.FieldType.char)).before args0 about1 = true := code_word (m := ⟨1, 2⟩) (meth := k1m2) (c := k1c2) (by decide +kernel) rfl rfl rfl (by decide +kernel)
set_option maxRecDepth 65536 in
theorem w_c35 : (Jvm.Cond.code ({ cls := zq0, name := "<init>", desc := "([C)V" } : Jvm.MethodName) jdk_42_method_3_code (2 : Nat) (Option.none : Option Jvm.ClassFile.FieldType)).before args0 about1 = true := code_word (m := ⟨20, 1⟩) (meth := k20m1) (c := k20c1) (by decide +kernel) rfl rfl rfl (by decide +kernel)
set_option maxRecDepth 65536 in
theorem w_c36 : (Jvm.Cond.code ({ cls := zq0, name := "<init>", desc := zq32 } : Jvm.MethodName) jdk_42_method_149_code (6 : Nat) (Option.none : Option Jvm.ClassFile.FieldType)).before args0 about1 = true := code_word (m := ⟨20, 7⟩) (meth := k20m7) (c := k20c7) (by decide +kernel) rfl rfl rfl (by decide +kernel)
set_option maxRecDepth 65536 in
theorem w_c37 : (Jvm.Cond.code ({ cls := zq16, name := "compress", desc := "([CII)[B" } : Jvm.MethodName) jdk_52_method_16_code (6 : Nat) (Option.some (Jvm.ClassFile.FieldType.array Jvm.ClassFile.FieldType.byte))).before args0 about1 = true := code_word (m := ⟨25, 2⟩) (meth := k25m2) (c := k25c2) (by decide +kernel) rfl rfl rfl (by decide +kernel)
set_option maxRecDepth 65536 in
theorem w_c38 : (Jvm.Cond.code ({ cls := zq16, name := "compress", desc := "([CI[BII)I" } : Jvm.MethodName) jdk_52_method_21_code (7 : Nat) (Option.some Jvm.ClassFile.FieldType.int)).before args0 about1 = true := code_word (m := ⟨25, 3⟩) (meth := k25m3) (c := k25c3) (by decide +kernel) rfl rfl rfl (by decide +kernel)
set_option maxRecDepth 65536 in
theorem w_c39 : (Jvm.Cond.code ({ cls := zq16, name := zq38, desc := "([BI)B" } : Jvm.MethodName) jdk_52_method_15_code (2 : Nat) (Option.some Jvm.ClassFile.FieldType.byte)).before args0 about1 = true := code_word (m := ⟨25, 1⟩) (meth := k25m1) (c := k25c1) (by decide +kernel) rfl rfl rfl (by decide +kernel)
set_option maxRecDepth 65536 in
theorem w_c40 : (Jvm.Cond.code ({ cls := zq4, name := "append", desc := zq35 } : Jvm.MethodName) jdk_67_method_14_code (2 : Nat) (Option.some (Jvm.ClassFile.FieldType.object zq4))).before args0 about1 = true := code_word (m := ⟨17, 2⟩) (meth := k17m2) (c := k17c2) (by decide +kernel) rfl rfl rfl (by decide +kernel)
set_option maxRecDepth 65536 in
theorem w_c41 : (Jvm.Cond.code ({ cls := zq1, name := "append", desc := zq23 } : Jvm.MethodName) jdk_68_method_31_code (2 : Nat) (Option.some (Jvm.ClassFile.FieldType.object zq1))).before args0 about1 = true := code_word (m := ⟨15, 6⟩) (meth := k15m6) (c := k15c6) (by decide +kernel) rfl rfl rfl (by decide +kernel)
set_option maxRecDepth 65536 in
theorem w_c42 : (Jvm.Cond.code ({ cls := zq1, name := zq47, desc := "(I)V" } : Jvm.MethodName) jdk_68_method_9_code (3 : Nat) (Option.none : Option Jvm.ClassFile.FieldType)).before args0 about1 = true := code_word (m := ⟨15, 3⟩) (meth := k15m3) (c := k15c3) (by decide +kernel) rfl rfl rfl (by decide +kernel)
set_option maxRecDepth 65536 in
theorem w_c43 : (Jvm.Cond.code ({ cls := zq2, name := "get", desc := zq13 } : Jvm.MethodName) jdk_38_method_20_code (2 : Nat) (Option.some (Jvm.ClassFile.FieldType.object zq3))).before args0 about1 = true := code_word (m := ⟨11, 6⟩) (meth := k11m6) (c := k11c6) (by decide +kernel) rfl rfl rfl (by decide +kernel)
set_option maxRecDepth 65536 in
theorem w_c44 : (Jvm.Cond.code ({ cls := zq29, name := "checkIndex", desc := "(II)I" } : Jvm.MethodName) jdk_31_method_17_code (2 : Nat) (Option.some Jvm.ClassFile.FieldType.int)).before args0 about1 = true := code_word (m := ⟨26, 1⟩) (meth := k26m1) (c := k26c1) (by decide +kernel) rfl rfl rfl (by decide +kernel)
set_option maxRecDepth 65536 in
theorem w_c45 : (Jvm.Cond.code ({ cls := zq9, name := "checkIndex", desc := zq19 } : Jvm.MethodName) jdk_41_method_11_code (3 : Nat) (Option.some Jvm.ClassFile.FieldType.int)).before args0 about1 = true := code_word (m := ⟨27, 1⟩) (meth := k27m1) (c := k27c1) (by decide +kernel) rfl rfl rfl (by decide +kernel)
set_option maxRecDepth 65536 in
theorem w_c46 : (Jvm.Cond.code ({ cls := zq2, name := zq7, desc := zq13 } : Jvm.MethodName) jdk_38_method_18_code (2 : Nat) (Option.some (Jvm.ClassFile.FieldType.object zq3))).before args0 about1 = true := code_word (m := ⟨11, 5⟩) (meth := k11m5) (c := k11c5) (by decide +kernel) rfl rfl rfl (by decide +kernel)
set_option maxRecDepth 65536 in
theorem w_c47 : (Jvm.Cond.code ({ cls := zq4, name := "append", desc := zq34 } : Jvm.MethodName) jdk_67_method_7_code (2 : Nat) (Option.some (Jvm.ClassFile.FieldType.object zq4))).before args0 about1 = true := code_word (m := ⟨17, 1⟩) (meth := k17m1) (c := k17c1) (by decide +kernel) rfl rfl rfl (by decide +kernel)
set_option maxRecDepth 65536 in
theorem w_c48 : (Jvm.Cond.code ({ cls := zq1, name := "append", desc := zq22 } : Jvm.MethodName) jdk_68_method_22_code (3 : Nat) (Option.some (Jvm.ClassFile.FieldType.object zq1))).before args0 about1 = true := code_word (m := ⟨15, 5⟩) (meth := k15m5) (c := k15c5) (by decide +kernel) rfl rfl rfl (by decide +kernel)
set_option maxRecDepth 65536 in
theorem w_c49 : (Jvm.Cond.code ({ cls := zq1, name := "putStringAt", desc := zq40 } : Jvm.MethodName) jdk_68_method_73_code (3 : Nat) (Option.none : Option Jvm.ClassFile.FieldType)).before args0 about1 = true := code_word (m := ⟨15, 10⟩) (meth := k15m10) (c := k15c10) (by decide +kernel) rfl rfl rfl (by decide +kernel)
set_option maxRecDepth 65536 in
theorem w_c50 : (Jvm.Cond.code ({ cls := zq1, name := zq51, desc := zq39 } : Jvm.MethodName) jdk_68_method_71_code (2 : Nat) (Option.none : Option Jvm.ClassFile.FieldType)).before args0 about1 = true := code_word (m := ⟨15, 9⟩) (meth := k15m9) (c := k15c9) (by decide +kernel) rfl rfl rfl (by decide +kernel)
set_option maxRecDepth 65536 in
theorem w_c51 : (Jvm.Cond.code ({ cls := zq0, name := "getBytes", desc := "([BIB)V" } : Jvm.MethodName) jdk_42_method_147_code (4 : Nat) (Option.none : Option Jvm.ClassFile.FieldType)).before args0 about1 = true := code_word (m := ⟨20, 6⟩) (meth := k20m6) (c := k20c6) (by decide +kernel) rfl rfl rfl (by decide +kernel)
set_option maxRecDepth 65536 in
theorem w_c52 : (Jvm.Cond.code ({ cls := zq15, name := "escaped", desc := zq24 } : Jvm.MethodName) prog_35_method_6_code (5 : Nat) (Option.none : Option Jvm.ClassFile.FieldType)).before args0 about1 = true := code_word (m := ⟨12, 1⟩) (meth := k12m1) (c := k12c1) (by decide +kernel) rfl rfl rfl (by decide +kernel)
set_option maxRecDepth 65536 in
theorem w_c53 : (Jvm.Cond.code ({ cls := zq0, name := "charAt", desc := "(I)C" } : Jvm.MethodName) jdk_42_method_56_code (2 : Nat) (Option.some Jvm.ClassFile.FieldType.char)).before args0 about1 = true := code_word (m := ⟨20, 4⟩) (meth := k20m4) (c := k20c4) (by decide +kernel) rfl rfl rfl (by decide +kernel)
set_option maxRecDepth 65536 in
theorem w_c54 : (Jvm.Cond.code ({ cls := zq0, name := "isLatin1", desc := "()Z" } : Jvm.MethodName) jdk_42_method_154_code (1 : Nat) (Option.some Jvm.ClassFile.FieldType.boolean)).before args0 about1 = true := code_word (m := ⟨20, 11⟩) (meth := k20m11) (c := k20c11) (by decide +kernel) rfl rfl rfl (by decide +kernel)
set_option maxRecDepth 65536 in
theorem w_c55 : (Jvm.Cond.code ({ cls := zq18, name := "charAt", desc := "([BI)C" } : Jvm.MethodName) jdk_43_method_2_code (2 : Nat) (Option.some Jvm.ClassFile.FieldType.char)).before args0 about1 = true := code_word (m := ⟨24, 1⟩) (meth := k24m1) (c := k24c1) (by decide +kernel) rfl rfl rfl (by decide +kernel)
set_option maxRecDepth 65536 in
theorem w_c56 : (Jvm.Cond.code ({ cls := zq0, name := "checkIndex", desc := "(II)V" } : Jvm.MethodName) jdk_42_method_155_code (2 : Nat) (Option.none : Option Jvm.ClassFile.FieldType)).before args0 about1 = true := code_word (m := ⟨20, 12⟩) (meth := k20m12) (c := k20c12) (by decide +kernel) rfl rfl rfl (by decide +kernel)
set_option maxRecDepth 65536 in
theorem w_c57 : (Jvm.Cond.code ({ cls := zq11, name := zq53, desc := "([CII)I" } : Jvm.MethodName) method_5_code (5 : Nat) (Option.some Jvm.ClassFile.FieldType.int)).before args0 about1 = true := code_word (m := ⟨1, 4⟩) (meth := k1m4) (c := k1c4) (by decide +kernel) rfl rfl rfl (by decide +kernel)
set_option maxRecDepth 65536 in
theorem w_c58 : (Jvm.Cond.code ({ cls := zq11, name := "escapedChar", desc := "([CIC)I" } : Jvm.MethodName) method_6_code (3 : Nat) (Option.some Jvm.ClassFile.FieldType.int)).before args0 about1 = true := code_word (m := ⟨1, 5⟩) (meth := k1m5) (c := k1c5) (by decide +kernel) rfl rfl rfl (by decide +kernel)
set_option maxRecDepth 65536 in
theorem w_c59 : (Jvm.Cond.code ({ cls := zq1, name := "newCapacity", desc := "(I)I" } : Jvm.MethodName) jdk_68_method_10_code (6 : Nat) (Option.some Jvm.ClassFile.FieldType.int)).before args0 about1 = true := code_word (m := ⟨15, 4⟩) (meth := k15m4) (c := k15c4) (by decide +kernel) rfl rfl rfl (by decide +kernel)
set_option maxRecDepth 65536 in
theorem w_c60 : (Jvm.Cond.code ({ cls := zq37, name := "newLength", desc := "(III)I" } : Jvm.MethodName) jdk_48_method_27_code (4 : Nat) (Option.some Jvm.ClassFile.FieldType.int)).before args0 about1 = true := code_word (m := ⟨28, 1⟩) (meth := k28m1) (c := k28c1) (by decide +kernel) rfl rfl rfl (by decide +kernel)
set_option maxRecDepth 65536 in
theorem w_c61 : (Jvm.Cond.code ({ cls := zq10, name := "copyOf", desc := "([BI)[B" } : Jvm.MethodName) jdk_65_method_121_code (3 : Nat) (Option.some (Jvm.ClassFile.FieldType.array Jvm.ClassFile.FieldType.byte))).before args0 about1 = true := code_word (m := ⟨21, 1⟩) (meth := k21m1) (c := k21c1) (by decide +kernel) rfl rfl rfl (by decide +kernel)
def codes1 : List Jvm.Cond := [Jvm.Cond.code x code maxLocals ret, Jvm.Cond.code ({ cls := zq2, name := "<init>", desc := "()V" } : Jvm.MethodName) jdk_38_method_2_code (1 : Nat) (Option.none : Option Jvm.ClassFile.FieldType), Jvm.Cond.code ({ cls := zq8, name := "<init>", desc := "()V" } : Jvm.MethodName) jdk_39_method_1_code (1 : Nat) (Option.none : Option Jvm.ClassFile.FieldType), Jvm.Cond.code ({ cls := zq48, name := "<init>", desc := "()V" } : Jvm.MethodName) jdk_22_method_1_code (1 : Nat) (Option.none : Option Jvm.ClassFile.FieldType), Jvm.Cond.code ({ cls := zq3, name := "<init>", desc := "()V" } : Jvm.MethodName) object_method_1_code (1 : Nat) (Option.none : Option Jvm.ClassFile.FieldType), Jvm.Cond.code ({ cls := zq15, name := "labels", desc := zq25 } : Jvm.MethodName) prog_35_method_5_code (4 : Nat) (Option.some (Jvm.ClassFile.FieldType.object zq0)), Jvm.Cond.code ({ cls := zq4, name := "<init>", desc := "()V" } : Jvm.MethodName) jdk_67_method_1_code (1 : Nat) (Option.none : Option Jvm.ClassFile.FieldType), Jvm.Cond.code ({ cls := zq1, name := "<init>", desc := "(I)V" } : Jvm.MethodName) jdk_68_method_2_code (2 : Nat) (Option.none : Option Jvm.ClassFile.FieldType), Jvm.Cond.code ({ cls := zq2, name := "size", desc := "()I" } : Jvm.MethodName) jdk_38_method_8_code (1 : Nat) (Option.some Jvm.ClassFile.FieldType.int), Jvm.Cond.code ({ cls := zq2, name := "isEmpty", desc := "()Z" } : Jvm.MethodName) jdk_38_method_9_code (1 : Nat) (Option.some Jvm.ClassFile.FieldType.boolean), Jvm.Cond.code ({ cls := zq4, name := "toString", desc := zq44 } : Jvm.MethodName) jdk_67_method_42_code (1 : Nat) (Option.some (Jvm.ClassFile.FieldType.object zq0)), Jvm.Cond.code ({ cls := zq0, name := "<init>", desc := zq31 } : Jvm.MethodName) jdk_42_method_53_code (2 : Nat) (Option.none : Option Jvm.ClassFile.FieldType), Jvm.Cond.code ({ cls := zq0, name := "<init>", desc := zq41 } : Jvm.MethodName) jdk_42_method_150_code (5 : Nat) (Option.none : Option Jvm.ClassFile.FieldType), Jvm.Cond.code ({ cls := zq1, name := "getValue", desc := "()[B" } : Jvm.MethodName) jdk_68_method_64_code (1 : Nat) (Option.some (Jvm.ClassFile.FieldType.array Jvm.ClassFile.FieldType.byte)), Jvm.Cond.code ({ cls := zq4, name := "length", desc := "()I" } : Jvm.MethodName) jdk_67_method_93_code (1 : Nat) (Option.some Jvm.ClassFile.FieldType.int), Jvm.Cond.code ({ cls := zq1, name := "length", desc := "()I" } : Jvm.MethodName) jdk_68_method_6_code (1 : Nat) (Option.some Jvm.ClassFile.FieldType.int), Jvm.Cond.code ({ cls := zq1, name := "isLatin1", desc := "()Z" } : Jvm.MethodName) jdk_68_method_68_code (1 : Nat) (Option.some Jvm.ClassFile.FieldType.boolean), Jvm.Cond.code ({ cls := zq10, name := zq28, desc := "([BII)[B" } : Jvm.MethodName) jdk_65_method_132_code (3 : Nat) (Option.some (Jvm.ClassFile.FieldType.array Jvm.ClassFile.FieldType.byte)), Jvm.Cond.code ({ cls := zq10, name := zq52, desc := "([BII)[B" } : Jvm.MethodName) jdk_65_method_133_code (5 : Nat) (Option.some (Jvm.ClassFile.FieldType.array Jvm.ClassFile.FieldType.byte)), Jvm.Cond.code ({ cls := zq10, name := "checkLength", desc := "(II)V" } : Jvm.MethodName) jdk_65_method_131_code (2 : Nat) (Option.none : Option Jvm.ClassFile.FieldType), Jvm.Cond.code ({ cls := zq17, name := "min", desc := "(II)I" } : Jvm.MethodName) jdk_29_method_69_code (2 : Nat) (Option.some Jvm.ClassFile.FieldType.int), Jvm.Cond.code ({ cls := zq0, name := "length", desc := "()I" } : Jvm.MethodName) jdk_42_method_54_code (1 : Nat) (Option.some Jvm.ClassFile.FieldType.int), Jvm.Cond.code ({ cls := zq0, name := "coder", desc := "()B" } : Jvm.MethodName) jdk_42_method_152_code (1 : Nat) (Option.some Jvm.ClassFile.FieldType.byte), Jvm.Cond.code ({ cls := zq11, name := "at", desc := zq45 } : Jvm.MethodName) method_7_code (3 : Nat) (Option.some Jvm.ClassFile.FieldType.boolean), Jvm.Cond.code ({ cls := zq0, name := "valueOf", desc := zq36 } : Jvm.MethodName) jdk_42_method_139_code (1 : Nat) (Option.some (Jvm.ClassFile.FieldType.object zq0)), Jvm.Cond.code ({ cls := zq18, name := "canEncode", desc := "(C)Z" } : Jvm.MethodName) jdk_43_method_3_code (1 : Nat) (Option.some Jvm.ClassFile.FieldType.boolean), Jvm.Cond.code ({ cls := zq18, name := "toBytes", desc := "(C)[B" } : Jvm.MethodName) jdk_43_method_46_code (1 : Nat) (Option.some (Jvm.ClassFile.FieldType.array Jvm.ClassFile.FieldType.byte)), Jvm.Cond.code ({ cls := zq0, name := "<init>", desc := "([BB)V" } : Jvm.MethodName) jdk_42_method_151_code (3 : Nat) (Option.none : Option Jvm.ClassFile.FieldType), Jvm.Cond.code ({ cls := zq2, name := "add", desc := zq21 } : Jvm.MethodName) jdk_38_method_25_code (2 : Nat) (Option.some Jvm.ClassFile.FieldType.boolean), Jvm.Cond.code ({ cls := zq2, name := "add", desc := zq33 } : Jvm.MethodName) jdk_38_method_24_code (4 : Nat) (Option.none : Option Jvm.ClassFile.FieldType), Jvm.Cond.code ({ cls := zq2, name := "grow", desc := zq43 } : Jvm.MethodName) jdk_38_method_7_code (1 : Nat) (Option.some (Jvm.ClassFile.FieldType.array (Jvm.ClassFile.FieldType.object zq3))), Jvm.Cond.code ({ cls := zq2, name := "grow", desc := zq42 } : Jvm.MethodName) jdk_38_method_6_code (4 : Nat) (Option.some (Jvm.ClassFile.FieldType.array (Jvm.ClassFile.FieldType.object zq3))), Jvm.Cond.code ({ cls := zq17, name := "max", desc := "(II)I" } : Jvm.MethodName) jdk_29_method_65_code (2 : Nat) (Option.some Jvm.ClassFile.FieldType.int), Jvm.Cond.code ({ cls := zq11, name := "value", desc := zq46 } : Jvm.MethodName) method_4_code (3 : Nat) (Option.some (Jvm.ClassFile.FieldType.object zq0)), Jvm.Cond.code ({ cls := zq11, name := "pick", desc := "(I)C" } : Jvm.MethodName) method_3_code (2 : Nat) (Option.some Jvm.ClassFile.FieldType.char), Jvm.Cond.code ({ cls := zq0, name := "<init>", desc := "([C)V" } : Jvm.MethodName) jdk_42_method_3_code (2 : Nat) (Option.none : Option Jvm.ClassFile.FieldType), Jvm.Cond.code ({ cls := zq0, name := "<init>", desc := zq32 } : Jvm.MethodName) jdk_42_method_149_code (6 : Nat) (Option.none : Option Jvm.ClassFile.FieldType), Jvm.Cond.code ({ cls := zq16, name := "compress", desc := "([CII)[B" } : Jvm.MethodName) jdk_52_method_16_code (6 : Nat) (Option.some (Jvm.ClassFile.FieldType.array Jvm.ClassFile.FieldType.byte)), Jvm.Cond.code ({ cls := zq16, name := "compress", desc := "([CI[BII)I" } : Jvm.MethodName) jdk_52_method_21_code (7 : Nat) (Option.some Jvm.ClassFile.FieldType.int), Jvm.Cond.code ({ cls := zq16, name := zq38, desc := "([BI)B" } : Jvm.MethodName) jdk_52_method_15_code (2 : Nat) (Option.some Jvm.ClassFile.FieldType.byte), Jvm.Cond.code ({ cls := zq4, name := "append", desc := zq35 } : Jvm.MethodName) jdk_67_method_14_code (2 : Nat) (Option.some (Jvm.ClassFile.FieldType.object zq4)), Jvm.Cond.code ({ cls := zq1, name := "append", desc := zq23 } : Jvm.MethodName) jdk_68_method_31_code (2 : Nat) (Option.some (Jvm.ClassFile.FieldType.object zq1)), Jvm.Cond.code ({ cls := zq1, name := zq47, desc := "(I)V" } : Jvm.MethodName) jdk_68_method_9_code (3 : Nat) (Option.none : Option Jvm.ClassFile.FieldType), Jvm.Cond.code ({ cls := zq2, name := "get", desc := zq13 } : Jvm.MethodName) jdk_38_method_20_code (2 : Nat) (Option.some (Jvm.ClassFile.FieldType.object zq3)), Jvm.Cond.code ({ cls := zq29, name := "checkIndex", desc := "(II)I" } : Jvm.MethodName) jdk_31_method_17_code (2 : Nat) (Option.some Jvm.ClassFile.FieldType.int), Jvm.Cond.code ({ cls := zq9, name := "checkIndex", desc := zq19 } : Jvm.MethodName) jdk_41_method_11_code (3 : Nat) (Option.some Jvm.ClassFile.FieldType.int), Jvm.Cond.code ({ cls := zq2, name := zq7, desc := zq13 } : Jvm.MethodName) jdk_38_method_18_code (2 : Nat) (Option.some (Jvm.ClassFile.FieldType.object zq3)), Jvm.Cond.code ({ cls := zq4, name := "append", desc := zq34 } : Jvm.MethodName) jdk_67_method_7_code (2 : Nat) (Option.some (Jvm.ClassFile.FieldType.object zq4)), Jvm.Cond.code ({ cls := zq1, name := "append", desc := zq22 } : Jvm.MethodName) jdk_68_method_22_code (3 : Nat) (Option.some (Jvm.ClassFile.FieldType.object zq1)), Jvm.Cond.code ({ cls := zq1, name := "putStringAt", desc := zq40 } : Jvm.MethodName) jdk_68_method_73_code (3 : Nat) (Option.none : Option Jvm.ClassFile.FieldType), Jvm.Cond.code ({ cls := zq1, name := zq51, desc := zq39 } : Jvm.MethodName) jdk_68_method_71_code (2 : Nat) (Option.none : Option Jvm.ClassFile.FieldType), Jvm.Cond.code ({ cls := zq0, name := "getBytes", desc := "([BIB)V" } : Jvm.MethodName) jdk_42_method_147_code (4 : Nat) (Option.none : Option Jvm.ClassFile.FieldType), Jvm.Cond.code ({ cls := zq15, name := "escaped", desc := zq24 } : Jvm.MethodName) prog_35_method_6_code (5 : Nat) (Option.none : Option Jvm.ClassFile.FieldType), Jvm.Cond.code ({ cls := zq0, name := "charAt", desc := "(I)C" } : Jvm.MethodName) jdk_42_method_56_code (2 : Nat) (Option.some Jvm.ClassFile.FieldType.char), Jvm.Cond.code ({ cls := zq0, name := "isLatin1", desc := "()Z" } : Jvm.MethodName) jdk_42_method_154_code (1 : Nat) (Option.some Jvm.ClassFile.FieldType.boolean), Jvm.Cond.code ({ cls := zq18, name := "charAt", desc := "([BI)C" } : Jvm.MethodName) jdk_43_method_2_code (2 : Nat) (Option.some Jvm.ClassFile.FieldType.char), Jvm.Cond.code ({ cls := zq0, name := "checkIndex", desc := "(II)V" } : Jvm.MethodName) jdk_42_method_155_code (2 : Nat) (Option.none : Option Jvm.ClassFile.FieldType), Jvm.Cond.code ({ cls := zq11, name := zq53, desc := "([CII)I" } : Jvm.MethodName) method_5_code (5 : Nat) (Option.some Jvm.ClassFile.FieldType.int), Jvm.Cond.code ({ cls := zq11, name := "escapedChar", desc := "([CIC)I" } : Jvm.MethodName) method_6_code (3 : Nat) (Option.some Jvm.ClassFile.FieldType.int), Jvm.Cond.code ({ cls := zq1, name := "newCapacity", desc := "(I)I" } : Jvm.MethodName) jdk_68_method_10_code (6 : Nat) (Option.some Jvm.ClassFile.FieldType.int), Jvm.Cond.code ({ cls := zq37, name := "newLength", desc := "(III)I" } : Jvm.MethodName) jdk_48_method_27_code (4 : Nat) (Option.some Jvm.ClassFile.FieldType.int), Jvm.Cond.code ({ cls := zq10, name := "copyOf", desc := "([BI)[B" } : Jvm.MethodName) jdk_65_method_121_code (3 : Nat) (Option.some (Jvm.ClassFile.FieldType.array Jvm.ClassFile.FieldType.byte))]
set_option maxRecDepth 65536 in
theorem codes_eq : words1.filter isCode = codes1 := rfl
theorem w_codes : ∀ c ∈ words1.filter isCode, c.before args0 about1 = true := by
  rw [codes_eq]
  intro c hc
  simp only [codes1, List.mem_cons, List.not_mem_nil, or_false] at hc
  rcases hc with rfl | rfl | rfl | rfl | rfl | rfl | rfl | rfl | rfl | rfl | rfl | rfl | rfl | rfl | rfl | rfl | rfl | rfl | rfl | rfl | rfl | rfl | rfl | rfl | rfl | rfl | rfl | rfl | rfl | rfl | rfl | rfl | rfl | rfl | rfl | rfl | rfl | rfl | rfl | rfl | rfl | rfl | rfl | rfl | rfl | rfl | rfl | rfl | rfl | rfl | rfl | rfl | rfl | rfl | rfl | rfl | rfl | rfl | rfl | rfl | rfl | rfl
  · exact w_c0
  · exact w_c1
  · exact w_c2
  · exact w_c3
  · exact w_c4
  · exact w_c5
  · exact w_c6
  · exact w_c7
  · exact w_c8
  · exact w_c9
  · exact w_c10
  · exact w_c11
  · exact w_c12
  · exact w_c13
  · exact w_c14
  · exact w_c15
  · exact w_c16
  · exact w_c17
  · exact w_c18
  · exact w_c19
  · exact w_c20
  · exact w_c21
  · exact w_c22
  · exact w_c23
  · exact w_c24
  · exact w_c25
  · exact w_c26
  · exact w_c27
  · exact w_c28
  · exact w_c29
  · exact w_c30
  · exact w_c31
  · exact w_c32
  · exact w_c33
  · exact w_c34
  · exact w_c35
  · exact w_c36
  · exact w_c37
  · exact w_c38
  · exact w_c39
  · exact w_c40
  · exact w_c41
  · exact w_c42
  · exact w_c43
  · exact w_c44
  · exact w_c45
  · exact w_c46
  · exact w_c47
  · exact w_c48
  · exact w_c49
  · exact w_c50
  · exact w_c51
  · exact w_c52
  · exact w_c53
  · exact w_c54
  · exact w_c55
  · exact w_c56
  · exact w_c57
  · exact w_c58
  · exact w_c59
  · exact w_c60
  · exact w_c61
set_option maxRecDepth 65536 in
theorem w_t1 : (words1.take 24).all (fun c => isCode c || c.before args0 about1) = true := by decide +kernel
set_option maxRecDepth 65536 in
theorem w_t2 : ((words1.drop 24).take 24).all (fun c => isCode c || c.before args0 about1) = true := by decide +kernel
set_option maxRecDepth 65536 in
theorem w_t3 : (((words1.drop 24).drop 24).take 24).all (fun c => isCode c || c.before args0 about1) = true := by decide +kernel
set_option maxRecDepth 65536 in
theorem w_t4 : ((((words1.drop 24).drop 24).drop 24).take 24).all (fun c => isCode c || c.before args0 about1) = true := by decide +kernel
set_option maxRecDepth 65536 in
theorem w_t5 : (((((words1.drop 24).drop 24).drop 24).drop 24).take 24).all (fun c => isCode c || c.before args0 about1) = true := by decide +kernel
set_option maxRecDepth 65536 in
theorem w_t6 : ((((((words1.drop 24).drop 24).drop 24).drop 24).drop 24).take 24).all (fun c => isCode c || c.before args0 about1) = true := by decide +kernel
set_option maxRecDepth 65536 in
theorem w_t7 : (((((((words1.drop 24).drop 24).drop 24).drop 24).drop 24).drop 24).take 24).all (fun c => isCode c || c.before args0 about1) = true := by decide +kernel
set_option maxRecDepth 65536 in
theorem w_t8 : ((((((((words1.drop 24).drop 24).drop 24).drop 24).drop 24).drop 24).drop 24).take 24).all (fun c => isCode c || c.before args0 about1) = true := by decide +kernel
set_option maxRecDepth 65536 in
theorem w_t9 : (((((((((words1.drop 24).drop 24).drop 24).drop 24).drop 24).drop 24).drop 24).drop 24).take 24).all (fun c => isCode c || c.before args0 about1) = true := by decide +kernel
set_option maxRecDepth 65536 in
theorem w_t10 : ((((((((((words1.drop 24).drop 24).drop 24).drop 24).drop 24).drop 24).drop 24).drop 24).drop 24).take 24).all (fun c => isCode c || c.before args0 about1) = true := by decide +kernel
set_option maxRecDepth 65536 in
theorem w_t11 : (((((((((((words1.drop 24).drop 24).drop 24).drop 24).drop 24).drop 24).drop 24).drop 24).drop 24).drop 24).take 24).all (fun c => isCode c || c.before args0 about1) = true := by decide +kernel
set_option maxRecDepth 65536 in
theorem w_t12 : ((((((((((((words1.drop 24).drop 24).drop 24).drop 24).drop 24).drop 24).drop 24).drop 24).drop 24).drop 24).drop 24).take 24).all (fun c => isCode c || c.before args0 about1) = true := by decide +kernel
set_option maxRecDepth 65536 in
theorem w_t13 : (((((((((((((words1.drop 24).drop 24).drop 24).drop 24).drop 24).drop 24).drop 24).drop 24).drop 24).drop 24).drop 24).drop 24).take 24).all (fun c => isCode c || c.before args0 about1) = true := by decide +kernel
set_option maxRecDepth 65536 in
theorem w_t14 : ((((((((((((((words1.drop 24).drop 24).drop 24).drop 24).drop 24).drop 24).drop 24).drop 24).drop 24).drop 24).drop 24).drop 24).drop 24).take 24).all (fun c => isCode c || c.before args0 about1) = true := by decide +kernel
set_option maxRecDepth 65536 in
theorem w_t15 : ((((((((((((((words1.drop 24).drop 24).drop 24).drop 24).drop 24).drop 24).drop 24).drop 24).drop 24).drop 24).drop 24).drop 24).drop 24).drop 24).all (fun c => isCode c || c.before args0 about1) = true := by decide +kernel
theorem w_tables : (allAtoms (Jvm.Cond.code x code maxLocals ret :: tables_1)).before args0 about1 = true := by
  rw [allAtoms_all]
  show words1.all (fun c => c.before args0 about1) = true
  refine all_split ?_ w_codes
  rw [← List.take_append_drop 24 words1, List.all_append, w_t1, ← List.take_append_drop 24 (words1.drop 24), List.all_append, w_t2, ← List.take_append_drop 24 ((words1.drop 24).drop 24), List.all_append, w_t3, ← List.take_append_drop 24 (((words1.drop 24).drop 24).drop 24), List.all_append, w_t4, ← List.take_append_drop 24 ((((words1.drop 24).drop 24).drop 24).drop 24), List.all_append, w_t5, ← List.take_append_drop 24 (((((words1.drop 24).drop 24).drop 24).drop 24).drop 24), List.all_append, w_t6, ← List.take_append_drop 24 ((((((words1.drop 24).drop 24).drop 24).drop 24).drop 24).drop 24), List.all_append, w_t7, ← List.take_append_drop 24 (((((((words1.drop 24).drop 24).drop 24).drop 24).drop 24).drop 24).drop 24), List.all_append, w_t8, ← List.take_append_drop 24 ((((((((words1.drop 24).drop 24).drop 24).drop 24).drop 24).drop 24).drop 24).drop 24), List.all_append, w_t9, ← List.take_append_drop 24 (((((((((words1.drop 24).drop 24).drop 24).drop 24).drop 24).drop 24).drop 24).drop 24).drop 24), List.all_append, w_t10, ← List.take_append_drop 24 ((((((((((words1.drop 24).drop 24).drop 24).drop 24).drop 24).drop 24).drop 24).drop 24).drop 24).drop 24), List.all_append, w_t11, ← List.take_append_drop 24 (((((((((((words1.drop 24).drop 24).drop 24).drop 24).drop 24).drop 24).drop 24).drop 24).drop 24).drop 24).drop 24), List.all_append, w_t12, ← List.take_append_drop 24 ((((((((((((words1.drop 24).drop 24).drop 24).drop 24).drop 24).drop 24).drop 24).drop 24).drop 24).drop 24).drop 24).drop 24), List.all_append, w_t13, ← List.take_append_drop 24 (((((((((((((words1.drop 24).drop 24).drop 24).drop 24).drop 24).drop 24).drop 24).drop 24).drop 24).drop 24).drop 24).drop 24).drop 24), List.all_append, w_t14, w_t15]
  rfl
set_option maxRecDepth 65536 in
theorem w_rest : rest_1_c.before args0 about1 = true := by decide +kernel
set_option maxRecDepth 65536 in
theorem w_case : (Jvm.Cond.and given_1 narrow_1).before args0 about1 = true := by decide +kernel
set_option maxRecDepth 65536 in
theorem w_consts : constsHeld consts_1 about1 := Jvm.Lit.constsHeldB_iff.mp (by decide +kernel)
theorem w_applies : (headSpec (Jvm.Cond.code x code maxLocals ret :: tables_1) room_1).applies x e0.platform about1 = true :=
  (Spec.applies_iff w_frames).mpr ⟨w_running, w_runnable, w_alone, w_named, w_hears, w_ripe, w_room, w_tables⟩
theorem atStart : AtStart classFile x code maxLocals ret World_1 tables_1 room_1 Calls_1 rest_1 Pre_1 launch0 p0 e0 about1 theMethod args0 below0 :=
  ⟨lists_1, trivial, launch0.admits_env _ _ _, launch0.least_env, fairChoices_fair.cas, fairChoices_fair.clock, w_frames, w_args, w_heap, w_applies, ⟨w_consts, trivial⟩, w_rest, w_case⟩
end start1
theorem witness_1 : WitnessClaimed_1 := ⟨start1.p0, start1.e0, start1.about1, start1.theMethod, start1.args0, start1.below0, start1.atStart⟩
end Jvm.Pilot.@@N@@
