import JvmDerived
import JvmDerived.Pilot.@@N@@Statement
import JvmDerived.Pilot.@@N@@Code
set_option linter.unusedVariables false
set_option linter.unusedSimpArgs false
namespace Jvm.Pilot.@@N@@
open Jvm Jvm.ClassFile Sem Op Lib Jvm.Free Jvm.Stand Jvm.LawKit Jvm.RoadKit Bundle Jvm.Pilot.@@N@@.Jvm.D
section OwnGo
variable {p : Program} {l : Launch} {e : Env} {R : Room} {s : State} {m : MethodId} {args : Array Value} {below : List Frame} {meth : Method} {c : Code} {T : State} {n0 cells slots cells' slots' : Nat} {Z : State} {a0 : Array Value} {h : Heap} {K : State → Outcome → Prop} {pc pc' : Nat} {Ls : Array Slot} {St : List Value} {own : String} {by0 : ByteArray} {ml : Nat}
/-- from state T with the frame g on top the run comes to an end of which K holds -/
def OGo (p : Program) (e : Env) (below : List Frame) (K : State → Outcome → Prop) (T : State) (g : JFrame) : Prop := ∃ t o, Steps p.tables e below (T.setTop g) t ∧ K t o
/-- what does not change during one body's walk -/
def Cx (p : Program) (s : State) (m : MethodId) (c : Code) (Z : State) (own : String) (by0 : ByteArray) (ml : Nat) : Prop := p.tables.exec = Jvm.exec ∧ Z.Warmed39 s.vm ∧ s.vm.findClass own = some m.cls ∧ c.code = by0 ∧ c.maxLocals = ml
/-- where the walk stands: heap h, only cells from n0 on written -/
def Sd (p : Program) (l : Launch) (e : Env) (R : Room) (s : State) (m : MethodId) (args : Array Value) (below : List Frame) (meth : Method) (c : Code) (n0 : Nat) (T : State) (h : Heap) (cells slots : Nat) : Prop := T.heap = h ∧ n0 ≤ h.size ∧ ∃ locs, Stand p l e R s m args below meth c T locs cells slots ∧ Fr n0 locs
/-- what a body owes at its end -/
def Kk (s : State) (below : List Frame) (n0 : Nat) (Q : Option Value → Heap → Prop) (nc ns : Nat) : State → Outcome → Prop := fun t o => t.status = .running ∧ Ended t below o ∧ ∃ v L, o = .returned v ∧ (Q v t.heap ∧ Fr n0 L) ∧ FrameEnd s o t L nc ns
/-- a body's contract -/
def Ctr (l : Launch) (Z : State) (y : MethodName) (by0 : ByteArray) (ml : Nat) (ret : Option FieldType) (rm : Room) (n0 : Nat) (as' : Array Value) (h : Heap) (Q : Option Value → Heap → Prop) : Prop :=
  ∀ ws, MetFree l y (head1 (Jvm.Cond.code y by0 ml ret :: ws) rm) (fun a U => a = as' ∧ Z.Warmed39 U.vm ∧ U.heap = h) (fun _ _ _ _ _ => True) (fun _ U o U' => ∃ v L, o = .returned v ∧ ((Q v U'.heap ∧ h.size ≤ U'.heap.size) ∧ Fr n0 L) ∧ FrameEnd U o U' L rm.cells rm.slots)
theorem OGo.st {T T' : State} {g g' : JFrame} (st : ∀ target, Steps p.tables e below (T'.setTop g') target → Steps p.tables e below (T.setTop g) target) (hr : OGo p e below K T' g') : OGo p e below K T g := by
  obtain ⟨t, o, h1, h2⟩ := hr
  exact ⟨t, o, st t h1, h2⟩
theorem OGo.tr {T T' : State} {g g' : JFrame} (st : Steps p.tables e below (T.setTop g) (T'.setTop g')) (hr : OGo p e below K T' g') : OGo p e below K T g := by
  obtain ⟨t, o, h1, h2⟩ := hr
  exact ⟨t, o, st.trans h1, h2⟩
theorem Ctr.of {y : MethodName} {ret : Option FieldType} {rm : Room} {as' : Array Value} {Q : Option Value → Heap → Prop} (hpl : plainFor y = true) (hn : n0 ≤ h.size)
    (body : ∀ p e s m below meth c T, Cx p s m c Z y.cls by0 ml → meth.name = y.name → meth.sig.returnType = ret → meth.locks = false → Sd p l e rm s m as' below meth c n0 T h 0 0 → OGo p e below (Kk s below n0 Q rm.cells rm.slots) T (entryFrame m as' ml)) :
    Ctr l Z y by0 ml ret rm n0 as' h Q := by
  intro ws
  refine MetFree.of_bodySF hpl hisR ?_
  intro p e s m args below meth c s₁ Bd hml0 hP hK
  obtain ⟨rfl, hZ, hh⟩ := hP
  have hown : s.vm.findClass y.cls = some m.cls := findClass_of_methodNamed Bd.named
  have hnm := (name_of_methodNamed Bd.named Bd.method).1
  have X0 := Stand.of_body Bd
  have e0 : s₁.heap = h := by rw [← hh, Bd.state]; rfl
  obtain ⟨t, o, h1, h2, h3, v, L, h4, ⟨h5, h6⟩, h7⟩ := body p e s m below meth c s₁ ⟨Bd.exec, hZ, hown, Bd.bytes, hml0⟩ hnm Bd.returns (BodyLoose.notSynchronized Bd) ⟨e0, hn, [], X0, Fr.nil n0⟩
  exact ⟨t, o, h1, h2, h3, v, L, h4, ⟨⟨h5, by rw [← hh]; exact h7.2.2.2.1⟩, h6⟩, h7⟩
theorem Ctr.mono {y : MethodName} {ret : Option FieldType} {rm : Room} {as' : Array Value} {Q Q' : Option Value → Heap → Prop} (hM : Ctr l Z y by0 ml ret rm n0 as' h Q) (hq : ∀ v h', Q v h' → Q' v h') : Ctr l Z y by0 ml ret rm n0 as' h Q' := by
  intro ws p e ha hc hk s m args below hf happ hP hK
  obtain ⟨n, o, h1, h2, h3, v, L, h4, ⟨⟨h5, h8⟩, h6⟩, h7⟩ := hM ws p e ha hc hk s m args below hf happ hP hK
  exact ⟨n, o, h1, h2, h3, v, L, h4, ⟨⟨hq _ _ h5, h8⟩, h6⟩, h7⟩
theorem Sd.up (X : Sd p l e R s m args below meth c n0 T h cells slots) (hc : cells ≤ cells') (hs : slots ≤ slots') : Sd p l e R s m args below meth c n0 T h cells' slots' := by
  obtain ⟨h1, h2, locs, Y, N⟩ := X
  exact ⟨h1, h2, locs, { Y with same := Y.same.mono hc hs }, N⟩
theorem OGo.iload (C : Cx p s m c Z own by0 ml) (X : Sd p l e R s m args below meth c n0 T h cells slots) {k : Nat} {v : Int32} (hd : decode by0 pc = .ok (.iload k, 2)) (hp : pc + 2 = pc') (hl : Ls[k]? = some (.val (.int v))) (hr : OGo p e below K T (mkF m pc' Ls (.int v :: St))) : OGo p e below K T (mkF m pc Ls (St)) := by
  subst hp
  obtain ⟨-, -, locs, Y, -⟩ := X
  exact OGo.st (fun t k => XS.iload Y.here C.1 rfl (hb C.2.2.2.1 hd) hl k) hr
theorem OGo.iloadN (C : Cx p s m c Z own by0 ml) (X : Sd p l e R s m args below meth c n0 T h cells slots) {k : Fin 4} {v : Int32} (hd : decode by0 pc = .ok (.iload_n k, 1)) (hp : pc + 1 = pc') (hl : Ls[k.val]? = some (.val (.int v))) (hr : OGo p e below K T (mkF m pc' Ls (.int v :: St))) : OGo p e below K T (mkF m pc Ls (St)) := by
  subst hp
  obtain ⟨-, -, locs, Y, -⟩ := X
  exact OGo.st (fun t k => XS.iloadN Y.here C.1 rfl (hb C.2.2.2.1 hd) hl k) hr
theorem OGo.lload (C : Cx p s m c Z own by0 ml) (X : Sd p l e R s m args below meth c n0 T h cells slots) {k : Nat} {v : Int64} (hd : decode by0 pc = .ok (.lload k, 2)) (hp : pc + 2 = pc') (hl : Ls[k]? = some (.val (.long v))) (hr : OGo p e below K T (mkF m pc' Ls (.long v :: St))) : OGo p e below K T (mkF m pc Ls (St)) := by
  subst hp
  obtain ⟨-, -, locs, Y, -⟩ := X
  exact OGo.st (fun t k => XS.lload Y.here C.1 rfl (hb C.2.2.2.1 hd) hl k) hr
theorem OGo.lloadN (C : Cx p s m c Z own by0 ml) (X : Sd p l e R s m args below meth c n0 T h cells slots) {k : Fin 4} {v : Int64} (hd : decode by0 pc = .ok (.lload_n k, 1)) (hp : pc + 1 = pc') (hl : Ls[k.val]? = some (.val (.long v))) (hr : OGo p e below K T (mkF m pc' Ls (.long v :: St))) : OGo p e below K T (mkF m pc Ls (St)) := by
  subst hp
  obtain ⟨-, -, locs, Y, -⟩ := X
  exact OGo.st (fun t k => XS.lloadN Y.here C.1 rfl (hb C.2.2.2.1 hd) hl k) hr
theorem OGo.dload (C : Cx p s m c Z own by0 ml) (X : Sd p l e R s m args below meth c n0 T h cells slots) {k : Nat} {v : UInt64} (hd : decode by0 pc = .ok (.dload k, 2)) (hp : pc + 2 = pc') (hl : Ls[k]? = some (.val (.double v))) (hr : OGo p e below K T (mkF m pc' Ls (.double v :: St))) : OGo p e below K T (mkF m pc Ls (St)) := by
  subst hp
  obtain ⟨-, -, locs, Y, -⟩ := X
  exact OGo.st (fun t k => XS.dload Y.here C.1 rfl (hb C.2.2.2.1 hd) hl k) hr
theorem OGo.dloadN (C : Cx p s m c Z own by0 ml) (X : Sd p l e R s m args below meth c n0 T h cells slots) {k : Fin 4} {v : UInt64} (hd : decode by0 pc = .ok (.dload_n k, 1)) (hp : pc + 1 = pc') (hl : Ls[k.val]? = some (.val (.double v))) (hr : OGo p e below K T (mkF m pc' Ls (.double v :: St))) : OGo p e below K T (mkF m pc Ls (St)) := by
  subst hp
  obtain ⟨-, -, locs, Y, -⟩ := X
  exact OGo.st (fun t k => XS.dloadN Y.here C.1 rfl (hb C.2.2.2.1 hd) hl k) hr
theorem OGo.aload (C : Cx p s m c Z own by0 ml) (X : Sd p l e R s m args below meth c n0 T h cells slots) {k : Nat} {v : Value} (hd : decode by0 pc = .ok (.aload k, 2)) (hp : pc + 2 = pc') (hl : Ls[k]? = some (.val v)) (hv : v.isRef = true) (hr : OGo p e below K T (mkF m pc' Ls (v :: St))) : OGo p e below K T (mkF m pc Ls (St)) := by
  subst hp
  obtain ⟨-, -, locs, Y, -⟩ := X
  exact OGo.st (fun t k => XS.aload Y.here C.1 rfl (hb C.2.2.2.1 hd) hl hv k) hr
theorem OGo.aloadN (C : Cx p s m c Z own by0 ml) (X : Sd p l e R s m args below meth c n0 T h cells slots) {k : Fin 4} {v : Value} (hd : decode by0 pc = .ok (.aload_n k, 1)) (hp : pc + 1 = pc') (hl : Ls[k.val]? = some (.val v)) (hv : v.isRef = true) (hr : OGo p e below K T (mkF m pc' Ls (v :: St))) : OGo p e below K T (mkF m pc Ls (St)) := by
  subst hp
  obtain ⟨-, -, locs, Y, -⟩ := X
  exact OGo.st (fun t k => XS.aloadN Y.here C.1 rfl (hb C.2.2.2.1 hd) hl hv k) hr
theorem OGo.istore (C : Cx p s m c Z own by0 ml) (X : Sd p l e R s m args below meth c n0 T h cells slots) {k : Nat} {x : Int32} {l' : Array Slot} (hd : decode by0 pc = .ok (.istore k, 2)) (hp : pc + 2 = pc') (hl : storeLocals Ls k (.int x) = some l') (hr : OGo p e below K T (mkF m pc' l' (St))) : OGo p e below K T (mkF m pc Ls (.int x :: St)) := by
  subst hp
  obtain ⟨-, -, locs, Y, -⟩ := X
  exact OGo.st (fun t k => XS.istore Y.here C.1 rfl (hb C.2.2.2.1 hd) rfl hl k) hr
theorem OGo.istoreN (C : Cx p s m c Z own by0 ml) (X : Sd p l e R s m args below meth c n0 T h cells slots) {k : Fin 4} {x : Int32} {l' : Array Slot} (hd : decode by0 pc = .ok (.istore_n k, 1)) (hp : pc + 1 = pc') (hl : storeLocals Ls k.val (.int x) = some l') (hr : OGo p e below K T (mkF m pc' l' (St))) : OGo p e below K T (mkF m pc Ls (.int x :: St)) := by
  subst hp
  obtain ⟨-, -, locs, Y, -⟩ := X
  exact OGo.st (fun t k => XS.istoreN Y.here C.1 rfl (hb C.2.2.2.1 hd) rfl hl k) hr
theorem OGo.lstore (C : Cx p s m c Z own by0 ml) (X : Sd p l e R s m args below meth c n0 T h cells slots) {k : Nat} {x : Int64} {l' : Array Slot} (hd : decode by0 pc = .ok (.lstore k, 2)) (hp : pc + 2 = pc') (hl : storeLocals Ls k (.long x) = some l') (hr : OGo p e below K T (mkF m pc' l' (St))) : OGo p e below K T (mkF m pc Ls (.long x :: St)) := by
  subst hp
  obtain ⟨-, -, locs, Y, -⟩ := X
  exact OGo.st (fun t k => XS.lstore Y.here C.1 rfl (hb C.2.2.2.1 hd) rfl hl k) hr
theorem OGo.lstoreN (C : Cx p s m c Z own by0 ml) (X : Sd p l e R s m args below meth c n0 T h cells slots) {k : Fin 4} {x : Int64} {l' : Array Slot} (hd : decode by0 pc = .ok (.lstore_n k, 1)) (hp : pc + 1 = pc') (hl : storeLocals Ls k.val (.long x) = some l') (hr : OGo p e below K T (mkF m pc' l' (St))) : OGo p e below K T (mkF m pc Ls (.long x :: St)) := by
  subst hp
  obtain ⟨-, -, locs, Y, -⟩ := X
  exact OGo.st (fun t k => XS.lstoreN Y.here C.1 rfl (hb C.2.2.2.1 hd) rfl hl k) hr
theorem OGo.dstore (C : Cx p s m c Z own by0 ml) (X : Sd p l e R s m args below meth c n0 T h cells slots) {k : Nat} {x : UInt64} {l' : Array Slot} (hd : decode by0 pc = .ok (.dstore k, 2)) (hp : pc + 2 = pc') (hl : storeLocals Ls k (.double x) = some l') (hr : OGo p e below K T (mkF m pc' l' (St))) : OGo p e below K T (mkF m pc Ls (.double x :: St)) := by
  subst hp
  obtain ⟨-, -, locs, Y, -⟩ := X
  exact OGo.st (fun t k => XS.dstore Y.here C.1 rfl (hb C.2.2.2.1 hd) rfl hl k) hr
theorem OGo.dstoreN (C : Cx p s m c Z own by0 ml) (X : Sd p l e R s m args below meth c n0 T h cells slots) {k : Fin 4} {x : UInt64} {l' : Array Slot} (hd : decode by0 pc = .ok (.dstore_n k, 1)) (hp : pc + 1 = pc') (hl : storeLocals Ls k.val (.double x) = some l') (hr : OGo p e below K T (mkF m pc' l' (St))) : OGo p e below K T (mkF m pc Ls (.double x :: St)) := by
  subst hp
  obtain ⟨-, -, locs, Y, -⟩ := X
  exact OGo.st (fun t k => XS.dstoreN Y.here C.1 rfl (hb C.2.2.2.1 hd) rfl hl k) hr
theorem OGo.astore (C : Cx p s m c Z own by0 ml) (X : Sd p l e R s m args below meth c n0 T h cells slots) {k : Nat} {x : Value} {l' : Array Slot} (hd : decode by0 pc = .ok (.astore k, 2)) (hp : pc + 2 = pc') (hv : x.isRef = true) (hl : storeLocals Ls k x = some l') (hr : OGo p e below K T (mkF m pc' l' (St))) : OGo p e below K T (mkF m pc Ls (x :: St)) := by
  subst hp
  obtain ⟨-, -, locs, Y, -⟩ := X
  exact OGo.st (fun t k => XS.astore Y.here C.1 rfl (hb C.2.2.2.1 hd) rfl hv hl k) hr
theorem OGo.astoreN (C : Cx p s m c Z own by0 ml) (X : Sd p l e R s m args below meth c n0 T h cells slots) {k : Fin 4} {x : Value} {l' : Array Slot} (hd : decode by0 pc = .ok (.astore_n k, 1)) (hp : pc + 1 = pc') (hv : x.isRef = true) (hl : storeLocals Ls k.val x = some l') (hr : OGo p e below K T (mkF m pc' l' (St))) : OGo p e below K T (mkF m pc Ls (x :: St)) := by
  subst hp
  obtain ⟨-, -, locs, Y, -⟩ := X
  exact OGo.st (fun t k => XS.astoreN Y.here C.1 rfl (hb C.2.2.2.1 hd) rfl hv hl k) hr
theorem OGo.iconst (C : Cx p s m c Z own by0 ml) (X : Sd p l e R s m args below meth c n0 T h cells slots) {i : Int} {z : Int32} (hd : decode by0 pc = .ok (.iconst i, 1)) (hp : pc + 1 = pc') (hz : Int32.ofInt i = z) (hr : OGo p e below K T (mkF m pc' Ls (.int z :: St))) : OGo p e below K T (mkF m pc Ls (St)) := by
  subst hp
  subst hz
  obtain ⟨-, -, locs, Y, -⟩ := X
  exact OGo.st (fun t k => XS.iconst Y.here C.1 rfl (hb C.2.2.2.1 hd)  k) hr
theorem OGo.bipush (C : Cx p s m c Z own by0 ml) (X : Sd p l e R s m args below meth c n0 T h cells slots) {i : Int} {z : Int32} (hd : decode by0 pc = .ok (.bipush i, 2)) (hp : pc + 2 = pc') (hz : (Int8.ofInt i).toInt32 = z) (hr : OGo p e below K T (mkF m pc' Ls (.int z :: St))) : OGo p e below K T (mkF m pc Ls (St)) := by
  subst hp
  subst hz
  obtain ⟨-, -, locs, Y, -⟩ := X
  exact OGo.st (fun t k => XS.bipush Y.here C.1 rfl (hb C.2.2.2.1 hd)  k) hr
theorem OGo.sipush (C : Cx p s m c Z own by0 ml) (X : Sd p l e R s m args below meth c n0 T h cells slots) {i : Int} {z : Int32} (hd : decode by0 pc = .ok (.sipush i, 3)) (hp : pc + 3 = pc') (hz : (Int16.ofInt i).toInt32 = z) (hr : OGo p e below K T (mkF m pc' Ls (.int z :: St))) : OGo p e below K T (mkF m pc Ls (St)) := by
  subst hp
  subst hz
  obtain ⟨-, -, locs, Y, -⟩ := X
  exact OGo.st (fun t k => XS.sipush Y.here C.1 rfl (hb C.2.2.2.1 hd)  k) hr
theorem OGo.lconst (C : Cx p s m c Z own by0 ml) (X : Sd p l e R s m args below meth c n0 T h cells slots) {k : Fin 2} {z : Int64} (hd : decode by0 pc = .ok (.lconst k, 1)) (hp : pc + 1 = pc') (hz : Int64.ofNat k = z) (hr : OGo p e below K T (mkF m pc' Ls (.long z :: St))) : OGo p e below K T (mkF m pc Ls (St)) := by
  subst hp
  subst hz
  obtain ⟨-, -, locs, Y, -⟩ := X
  exact OGo.st (fun t k => XS.lconst Y.here C.1 rfl (hb C.2.2.2.1 hd)  k) hr
theorem OGo.dconst0 (C : Cx p s m c Z own by0 ml) (X : Sd p l e R s m args below meth c n0 T h cells slots) {v : UInt64} (hd : decode by0 pc = .ok (.dconst 0, 1)) (hp : pc + 1 = pc') (hz : FP.dconst0 = v) (hr : OGo p e below K T (mkF m pc' Ls (.double v :: St))) : OGo p e below K T (mkF m pc Ls (St)) := by
  subst hp
  obtain ⟨-, -, locs, Y, -⟩ := X
  exact OGo.st (fun t k => XS.dconst0 Y.here C.1 rfl (hb C.2.2.2.1 hd) hz k) hr
theorem OGo.dconst1 (C : Cx p s m c Z own by0 ml) (X : Sd p l e R s m args below meth c n0 T h cells slots) {v : UInt64} (hd : decode by0 pc = .ok (.dconst 1, 1)) (hp : pc + 1 = pc') (hz : FP.dconst1 = v) (hr : OGo p e below K T (mkF m pc' Ls (.double v :: St))) : OGo p e below K T (mkF m pc Ls (St)) := by
  subst hp
  obtain ⟨-, -, locs, Y, -⟩ := X
  exact OGo.st (fun t k => XS.dconst1 Y.here C.1 rfl (hb C.2.2.2.1 hd) hz k) hr
theorem OGo.aconst_null (C : Cx p s m c Z own by0 ml) (X : Sd p l e R s m args below meth c n0 T h cells slots)  (hd : decode by0 pc = .ok (.aconst_null, 1)) (hp : pc + 1 = pc')  (hr : OGo p e below K T (mkF m pc' Ls (.null :: St))) : OGo p e below K T (mkF m pc Ls (St)) := by
  subst hp
  obtain ⟨-, -, locs, Y, -⟩ := X
  exact OGo.st (fun t k => XS.aconstNull Y.here C.1 rfl (hb C.2.2.2.1 hd)  k) hr
theorem OGo.iadd (C : Cx p s m c Z own by0 ml) (X : Sd p l e R s m args below meth c n0 T h cells slots) {x y z : Int32} (hd : decode by0 pc = .ok (.iadd, 1)) (hp : pc + 1 = pc') (hz : x + y = z) (hr : OGo p e below K T (mkF m pc' Ls (.int z :: St))) : OGo p e below K T (mkF m pc Ls (.int y :: .int x :: St)) := by
  subst hp
  subst hz
  obtain ⟨-, -, locs, Y, -⟩ := X
  exact OGo.st (fun t k => XS.iadd Y.here C.1 rfl (hb C.2.2.2.1 hd) rfl k) hr
theorem OGo.isub (C : Cx p s m c Z own by0 ml) (X : Sd p l e R s m args below meth c n0 T h cells slots) {x y z : Int32} (hd : decode by0 pc = .ok (.isub, 1)) (hp : pc + 1 = pc') (hz : x - y = z) (hr : OGo p e below K T (mkF m pc' Ls (.int z :: St))) : OGo p e below K T (mkF m pc Ls (.int y :: .int x :: St)) := by
  subst hp
  subst hz
  obtain ⟨-, -, locs, Y, -⟩ := X
  exact OGo.st (fun t k => XS.isub Y.here C.1 rfl (hb C.2.2.2.1 hd) rfl k) hr
theorem OGo.imul (C : Cx p s m c Z own by0 ml) (X : Sd p l e R s m args below meth c n0 T h cells slots) {x y z : Int32} (hd : decode by0 pc = .ok (.imul, 1)) (hp : pc + 1 = pc') (hz : x * y = z) (hr : OGo p e below K T (mkF m pc' Ls (.int z :: St))) : OGo p e below K T (mkF m pc Ls (.int y :: .int x :: St)) := by
  subst hp
  subst hz
  obtain ⟨-, -, locs, Y, -⟩ := X
  exact OGo.st (fun t k => XS.imul Y.here C.1 rfl (hb C.2.2.2.1 hd) rfl k) hr
theorem OGo.iand (C : Cx p s m c Z own by0 ml) (X : Sd p l e R s m args below meth c n0 T h cells slots) {x y z : Int32} (hd : decode by0 pc = .ok (.iand, 1)) (hp : pc + 1 = pc') (hz : x &&& y = z) (hr : OGo p e below K T (mkF m pc' Ls (.int z :: St))) : OGo p e below K T (mkF m pc Ls (.int y :: .int x :: St)) := by
  subst hp
  subst hz
  obtain ⟨-, -, locs, Y, -⟩ := X
  exact OGo.st (fun t k => XS.iand Y.here C.1 rfl (hb C.2.2.2.1 hd) rfl k) hr
theorem OGo.ior (C : Cx p s m c Z own by0 ml) (X : Sd p l e R s m args below meth c n0 T h cells slots) {x y z : Int32} (hd : decode by0 pc = .ok (.ior, 1)) (hp : pc + 1 = pc') (hz : x ||| y = z) (hr : OGo p e below K T (mkF m pc' Ls (.int z :: St))) : OGo p e below K T (mkF m pc Ls (.int y :: .int x :: St)) := by
  subst hp
  subst hz
  obtain ⟨-, -, locs, Y, -⟩ := X
  exact OGo.st (fun t k => XS.ior Y.here C.1 rfl (hb C.2.2.2.1 hd) rfl k) hr
theorem OGo.ixor (C : Cx p s m c Z own by0 ml) (X : Sd p l e R s m args below meth c n0 T h cells slots) {x y z : Int32} (hd : decode by0 pc = .ok (.ixor, 1)) (hp : pc + 1 = pc') (hz : x ^^^ y = z) (hr : OGo p e below K T (mkF m pc' Ls (.int z :: St))) : OGo p e below K T (mkF m pc Ls (.int y :: .int x :: St)) := by
  subst hp
  subst hz
  obtain ⟨-, -, locs, Y, -⟩ := X
  exact OGo.st (fun t k => XS.ixor Y.here C.1 rfl (hb C.2.2.2.1 hd) rfl k) hr
theorem OGo.ishl (C : Cx p s m c Z own by0 ml) (X : Sd p l e R s m args below meth c n0 T h cells slots) {x y z : Int32} (hd : decode by0 pc = .ok (.ishl, 1)) (hp : pc + 1 = pc') (hz : x <<< (y &&& 31) = z) (hr : OGo p e below K T (mkF m pc' Ls (.int z :: St))) : OGo p e below K T (mkF m pc Ls (.int y :: .int x :: St)) := by
  subst hp
  subst hz
  obtain ⟨-, -, locs, Y, -⟩ := X
  exact OGo.st (fun t k => XS.ishl Y.here C.1 rfl (hb C.2.2.2.1 hd) rfl k) hr
theorem OGo.ishr (C : Cx p s m c Z own by0 ml) (X : Sd p l e R s m args below meth c n0 T h cells slots) {x y z : Int32} (hd : decode by0 pc = .ok (.ishr, 1)) (hp : pc + 1 = pc') (hz : x >>> (y &&& 31) = z) (hr : OGo p e below K T (mkF m pc' Ls (.int z :: St))) : OGo p e below K T (mkF m pc Ls (.int y :: .int x :: St)) := by
  subst hp
  subst hz
  obtain ⟨-, -, locs, Y, -⟩ := X
  exact OGo.st (fun t k => XS.ishr Y.here C.1 rfl (hb C.2.2.2.1 hd) rfl k) hr
theorem OGo.iushr (C : Cx p s m c Z own by0 ml) (X : Sd p l e R s m args below meth c n0 T h cells slots) {x y z : Int32} (hd : decode by0 pc = .ok (.iushr, 1)) (hp : pc + 1 = pc') (hz : (x.toUInt32 >>> (y &&& 31).toUInt32).toInt32 = z) (hr : OGo p e below K T (mkF m pc' Ls (.int z :: St))) : OGo p e below K T (mkF m pc Ls (.int y :: .int x :: St)) := by
  subst hp
  subst hz
  obtain ⟨-, -, locs, Y, -⟩ := X
  exact OGo.st (fun t k => XS.iushr Y.here C.1 rfl (hb C.2.2.2.1 hd) rfl k) hr
theorem OGo.idiv (C : Cx p s m c Z own by0 ml) (X : Sd p l e R s m args below meth c n0 T h cells slots) {x y z : Int32} (hd : decode by0 pc = .ok (.idiv, 1)) (hp : pc + 1 = pc') (hy : y ≠ 0) (hz : x / y = z) (hr : OGo p e below K T (mkF m pc' Ls (.int z :: St))) : OGo p e below K T (mkF m pc Ls (.int y :: .int x :: St)) := by
  subst hp
  subst hz
  obtain ⟨-, -, locs, Y, -⟩ := X
  exact OGo.st (fun t k => XS.idiv Y.here C.1 rfl (hb C.2.2.2.1 hd) rfl hy k) hr
theorem OGo.irem (C : Cx p s m c Z own by0 ml) (X : Sd p l e R s m args below meth c n0 T h cells slots) {x y z : Int32} (hd : decode by0 pc = .ok (.irem, 1)) (hp : pc + 1 = pc') (hy : y ≠ 0) (hz : x % y = z) (hr : OGo p e below K T (mkF m pc' Ls (.int z :: St))) : OGo p e below K T (mkF m pc Ls (.int y :: .int x :: St)) := by
  subst hp
  subst hz
  obtain ⟨-, -, locs, Y, -⟩ := X
  exact OGo.st (fun t k => iremM Y C.1 rfl (hb C.2.2.2.1 hd) rfl hy k) hr
theorem OGo.ineg (C : Cx p s m c Z own by0 ml) (X : Sd p l e R s m args below meth c n0 T h cells slots) {x z : Int32} (hd : decode by0 pc = .ok (.ineg, 1)) (hp : pc + 1 = pc') (hz : -x = z) (hr : OGo p e below K T (mkF m pc' Ls (.int z :: St))) : OGo p e below K T (mkF m pc Ls (.int x :: St)) := by
  subst hp
  subst hz
  obtain ⟨-, -, locs, Y, -⟩ := X
  exact OGo.st (fun t k => XS.ineg Y.here C.1 rfl (hb C.2.2.2.1 hd) rfl k) hr
theorem OGo.iinc (C : Cx p s m c Z own by0 ml) (X : Sd p l e R s m args below meth c n0 T h cells slots) {k : Nat} {cst : Int} {x z : Int32} {l' : Array Slot} (hd : decode by0 pc = .ok (.iinc k cst, 3)) (hp : pc + 3 = pc') (hl : Ls[k]? = some (.val (.int x))) (hz : x + Int32.ofInt cst = z) (hl' : storeLocals Ls k (.int z) = some l') (hr : OGo p e below K T (mkF m pc' l' (St))) : OGo p e below K T (mkF m pc Ls (St)) := by
  subst hp
  subst hz
  obtain ⟨-, -, locs, Y, -⟩ := X
  exact OGo.st (fun t k => XS.iinc Y.here C.1 rfl (hb C.2.2.2.1 hd) hl hl' k) hr
theorem OGo.ladd (C : Cx p s m c Z own by0 ml) (X : Sd p l e R s m args below meth c n0 T h cells slots) {x y z : Int64} (hd : decode by0 pc = .ok (.ladd, 1)) (hp : pc + 1 = pc') (hz : x + y = z) (hr : OGo p e below K T (mkF m pc' Ls (.long z :: St))) : OGo p e below K T (mkF m pc Ls (.long y :: .long x :: St)) := by
  subst hp
  subst hz
  obtain ⟨-, -, locs, Y, -⟩ := X
  exact OGo.st (fun t k => XS.ladd Y.here C.1 rfl (hb C.2.2.2.1 hd) rfl k) hr
theorem OGo.lsub (C : Cx p s m c Z own by0 ml) (X : Sd p l e R s m args below meth c n0 T h cells slots) {x y z : Int64} (hd : decode by0 pc = .ok (.lsub, 1)) (hp : pc + 1 = pc') (hz : x - y = z) (hr : OGo p e below K T (mkF m pc' Ls (.long z :: St))) : OGo p e below K T (mkF m pc Ls (.long y :: .long x :: St)) := by
  subst hp
  subst hz
  obtain ⟨-, -, locs, Y, -⟩ := X
  exact OGo.st (fun t k => XS.lsub Y.here C.1 rfl (hb C.2.2.2.1 hd) rfl k) hr
theorem OGo.lmul (C : Cx p s m c Z own by0 ml) (X : Sd p l e R s m args below meth c n0 T h cells slots) {x y z : Int64} (hd : decode by0 pc = .ok (.lmul, 1)) (hp : pc + 1 = pc') (hz : x * y = z) (hr : OGo p e below K T (mkF m pc' Ls (.long z :: St))) : OGo p e below K T (mkF m pc Ls (.long y :: .long x :: St)) := by
  subst hp
  subst hz
  obtain ⟨-, -, locs, Y, -⟩ := X
  exact OGo.st (fun t k => XS.lmul Y.here C.1 rfl (hb C.2.2.2.1 hd) rfl k) hr
theorem OGo.land (C : Cx p s m c Z own by0 ml) (X : Sd p l e R s m args below meth c n0 T h cells slots) {x y z : Int64} (hd : decode by0 pc = .ok (.land, 1)) (hp : pc + 1 = pc') (hz : x &&& y = z) (hr : OGo p e below K T (mkF m pc' Ls (.long z :: St))) : OGo p e below K T (mkF m pc Ls (.long y :: .long x :: St)) := by
  subst hp
  subst hz
  obtain ⟨-, -, locs, Y, -⟩ := X
  exact OGo.st (fun t k => XS.land Y.here C.1 rfl (hb C.2.2.2.1 hd) rfl k) hr
theorem OGo.lor (C : Cx p s m c Z own by0 ml) (X : Sd p l e R s m args below meth c n0 T h cells slots) {x y z : Int64} (hd : decode by0 pc = .ok (.lor, 1)) (hp : pc + 1 = pc') (hz : x ||| y = z) (hr : OGo p e below K T (mkF m pc' Ls (.long z :: St))) : OGo p e below K T (mkF m pc Ls (.long y :: .long x :: St)) := by
  subst hp
  subst hz
  obtain ⟨-, -, locs, Y, -⟩ := X
  exact OGo.st (fun t k => XS.lor Y.here C.1 rfl (hb C.2.2.2.1 hd) rfl k) hr
theorem OGo.lxor (C : Cx p s m c Z own by0 ml) (X : Sd p l e R s m args below meth c n0 T h cells slots) {x y z : Int64} (hd : decode by0 pc = .ok (.lxor, 1)) (hp : pc + 1 = pc') (hz : x ^^^ y = z) (hr : OGo p e below K T (mkF m pc' Ls (.long z :: St))) : OGo p e below K T (mkF m pc Ls (.long y :: .long x :: St)) := by
  subst hp
  subst hz
  obtain ⟨-, -, locs, Y, -⟩ := X
  exact OGo.st (fun t k => XS.lxor Y.here C.1 rfl (hb C.2.2.2.1 hd) rfl k) hr
theorem OGo.lshl (C : Cx p s m c Z own by0 ml) (X : Sd p l e R s m args below meth c n0 T h cells slots) {x z : Int64} {y : Int32} (hd : decode by0 pc = .ok (.lshl, 1)) (hp : pc + 1 = pc') (hz : x <<< (y &&& 0x3f).toInt64 = z) (hr : OGo p e below K T (mkF m pc' Ls (.long z :: St))) : OGo p e below K T (mkF m pc Ls (.int y :: .long x :: St)) := by
  subst hp
  subst hz
  obtain ⟨-, -, locs, Y, -⟩ := X
  exact OGo.st (fun t k => XS.lshl Y.here C.1 rfl (hb C.2.2.2.1 hd) rfl k) hr
theorem OGo.lshr (C : Cx p s m c Z own by0 ml) (X : Sd p l e R s m args below meth c n0 T h cells slots) {x z : Int64} {y : Int32} (hd : decode by0 pc = .ok (.lshr, 1)) (hp : pc + 1 = pc') (hz : x >>> (y &&& 0x3f).toInt64 = z) (hr : OGo p e below K T (mkF m pc' Ls (.long z :: St))) : OGo p e below K T (mkF m pc Ls (.int y :: .long x :: St)) := by
  subst hp
  subst hz
  obtain ⟨-, -, locs, Y, -⟩ := X
  exact OGo.st (fun t k => XS.lshr Y.here C.1 rfl (hb C.2.2.2.1 hd) rfl k) hr
theorem OGo.lushr (C : Cx p s m c Z own by0 ml) (X : Sd p l e R s m args below meth c n0 T h cells slots) {x z : Int64} {y : Int32} (hd : decode by0 pc = .ok (.lushr, 1)) (hp : pc + 1 = pc') (hz : (x.toUInt64 >>> (y &&& 0x3f).toInt64.toUInt64).toInt64 = z) (hr : OGo p e below K T (mkF m pc' Ls (.long z :: St))) : OGo p e below K T (mkF m pc Ls (.int y :: .long x :: St)) := by
  subst hp
  subst hz
  obtain ⟨-, -, locs, Y, -⟩ := X
  exact OGo.st (fun t k => XS.lushr Y.here C.1 rfl (hb C.2.2.2.1 hd) rfl k) hr
theorem OGo.ldiv (C : Cx p s m c Z own by0 ml) (X : Sd p l e R s m args below meth c n0 T h cells slots) {x y z : Int64} (hd : decode by0 pc = .ok (.ldiv, 1)) (hp : pc + 1 = pc') (hy : y ≠ 0) (hz : x / y = z) (hr : OGo p e below K T (mkF m pc' Ls (.long z :: St))) : OGo p e below K T (mkF m pc Ls (.long y :: .long x :: St)) := by
  subst hp
  subst hz
  obtain ⟨-, -, locs, Y, -⟩ := X
  exact OGo.st (fun t k => XS.ldiv Y.here C.1 rfl (hb C.2.2.2.1 hd) rfl hy k) hr
theorem OGo.lrem (C : Cx p s m c Z own by0 ml) (X : Sd p l e R s m args below meth c n0 T h cells slots) {x y z : Int64} (hd : decode by0 pc = .ok (.lrem, 1)) (hp : pc + 1 = pc') (hy : y ≠ 0) (hz : x - (x / y) * y = z) (hr : OGo p e below K T (mkF m pc' Ls (.long z :: St))) : OGo p e below K T (mkF m pc Ls (.long y :: .long x :: St)) := by
  subst hp
  subst hz
  obtain ⟨-, -, locs, Y, -⟩ := X
  exact OGo.st (fun t k => XS.lrem Y.here C.1 rfl (hb C.2.2.2.1 hd) rfl hy k) hr
theorem OGo.lneg (C : Cx p s m c Z own by0 ml) (X : Sd p l e R s m args below meth c n0 T h cells slots) {x z : Int64} (hd : decode by0 pc = .ok (.lneg, 1)) (hp : pc + 1 = pc') (hz : -x = z) (hr : OGo p e below K T (mkF m pc' Ls (.long z :: St))) : OGo p e below K T (mkF m pc Ls (.long x :: St)) := by
  subst hp
  subst hz
  obtain ⟨-, -, locs, Y, -⟩ := X
  exact OGo.st (fun t k => XS.lneg Y.here C.1 rfl (hb C.2.2.2.1 hd) rfl k) hr
theorem OGo.i2l (C : Cx p s m c Z own by0 ml) (X : Sd p l e R s m args below meth c n0 T h cells slots) {x : Int32} {z : Int64} (hd : decode by0 pc = .ok (.i2l, 1)) (hp : pc + 1 = pc') (hz : x.toInt64 = z) (hr : OGo p e below K T (mkF m pc' Ls (.long z :: St))) : OGo p e below K T (mkF m pc Ls (.int x :: St)) := by
  subst hp
  subst hz
  obtain ⟨-, -, locs, Y, -⟩ := X
  exact OGo.st (fun t k => XS.i2l Y.here C.1 rfl (hb C.2.2.2.1 hd) rfl k) hr
theorem OGo.l2i (C : Cx p s m c Z own by0 ml) (X : Sd p l e R s m args below meth c n0 T h cells slots) {x : Int64} {z : Int32} (hd : decode by0 pc = .ok (.l2i, 1)) (hp : pc + 1 = pc') (hz : x.toInt32 = z) (hr : OGo p e below K T (mkF m pc' Ls (.int z :: St))) : OGo p e below K T (mkF m pc Ls (.long x :: St)) := by
  subst hp
  subst hz
  obtain ⟨-, -, locs, Y, -⟩ := X
  exact OGo.st (fun t k => XS.l2i Y.here C.1 rfl (hb C.2.2.2.1 hd) rfl k) hr
theorem OGo.i2b (C : Cx p s m c Z own by0 ml) (X : Sd p l e R s m args below meth c n0 T h cells slots) {x : Int32} {z : Int32} (hd : decode by0 pc = .ok (.i2b, 1)) (hp : pc + 1 = pc') (hz : x.toInt8.toInt32 = z) (hr : OGo p e below K T (mkF m pc' Ls (.int z :: St))) : OGo p e below K T (mkF m pc Ls (.int x :: St)) := by
  subst hp
  subst hz
  obtain ⟨-, -, locs, Y, -⟩ := X
  exact OGo.st (fun t k => XS.i2b Y.here C.1 rfl (hb C.2.2.2.1 hd) rfl k) hr
theorem OGo.i2c (C : Cx p s m c Z own by0 ml) (X : Sd p l e R s m args below meth c n0 T h cells slots) {x : Int32} {z : Int32} (hd : decode by0 pc = .ok (.i2c, 1)) (hp : pc + 1 = pc') (hz : x.toUInt32.toUInt16.toUInt32.toInt32 = z) (hr : OGo p e below K T (mkF m pc' Ls (.int z :: St))) : OGo p e below K T (mkF m pc Ls (.int x :: St)) := by
  subst hp
  subst hz
  obtain ⟨-, -, locs, Y, -⟩ := X
  exact OGo.st (fun t k => XS.i2c Y.here C.1 rfl (hb C.2.2.2.1 hd) rfl k) hr
theorem OGo.i2s (C : Cx p s m c Z own by0 ml) (X : Sd p l e R s m args below meth c n0 T h cells slots) {x : Int32} {z : Int32} (hd : decode by0 pc = .ok (.i2s, 1)) (hp : pc + 1 = pc') (hz : x.toInt16.toInt32 = z) (hr : OGo p e below K T (mkF m pc' Ls (.int z :: St))) : OGo p e below K T (mkF m pc Ls (.int x :: St)) := by
  subst hp
  subst hz
  obtain ⟨-, -, locs, Y, -⟩ := X
  exact OGo.st (fun t k => XS.i2s Y.here C.1 rfl (hb C.2.2.2.1 hd) rfl k) hr
theorem OGo.lcmp (C : Cx p s m c Z own by0 ml) (X : Sd p l e R s m args below meth c n0 T h cells slots) {x y : Int64} {z : Int32} (hd : decode by0 pc = .ok (.lcmp, 1)) (hp : pc + 1 = pc') (hz : lcmpW x y = z) (hr : OGo p e below K T (mkF m pc' Ls (.int z :: St))) : OGo p e below K T (mkF m pc Ls (.long y :: .long x :: St)) := by
  subst hp
  subst hz
  obtain ⟨-, -, locs, Y, -⟩ := X
  exact OGo.st (fun t k => XS.lcmp Y.here C.1 rfl (hb C.2.2.2.1 hd) rfl k) hr
theorem OGo.i2d (C : Cx p s m c Z own by0 ml) (X : Sd p l e R s m args below meth c n0 T h cells slots) {x : Int32} {v : UInt64} (hd : decode by0 pc = .ok (.i2d, 1)) (hp : pc + 1 = pc') (hz : FP.i2d x = v) (hr : OGo p e below K T (mkF m pc' Ls (.double v :: St))) : OGo p e below K T (mkF m pc Ls (.int x :: St)) := by
  subst hp
  obtain ⟨-, -, locs, Y, -⟩ := X
  exact OGo.st (fun t k => XS.i2dS Y.here C.1 rfl (hb C.2.2.2.1 hd) rfl hz k) hr
theorem OGo.l2d (C : Cx p s m c Z own by0 ml) (X : Sd p l e R s m args below meth c n0 T h cells slots) {x : Int64} {v : UInt64} (hd : decode by0 pc = .ok (.l2d, 1)) (hp : pc + 1 = pc') (hz : FP.l2d x = v) (hr : OGo p e below K T (mkF m pc' Ls (.double v :: St))) : OGo p e below K T (mkF m pc Ls (.long x :: St)) := by
  subst hp
  obtain ⟨-, -, locs, Y, -⟩ := X
  exact OGo.st (fun t k => XS.l2dS Y.here C.1 rfl (hb C.2.2.2.1 hd) rfl hz k) hr
theorem OGo.d2i (C : Cx p s m c Z own by0 ml) (X : Sd p l e R s m args below meth c n0 T h cells slots) {x : UInt64} {v : Int32} (hd : decode by0 pc = .ok (.d2i, 1)) (hp : pc + 1 = pc') (hz : FP.d2i x = v) (hr : OGo p e below K T (mkF m pc' Ls (.int v :: St))) : OGo p e below K T (mkF m pc Ls (.double x :: St)) := by
  subst hp
  obtain ⟨-, -, locs, Y, -⟩ := X
  exact OGo.st (fun t k => XS.d2iS Y.here C.1 rfl (hb C.2.2.2.1 hd) rfl hz k) hr
theorem OGo.d2l (C : Cx p s m c Z own by0 ml) (X : Sd p l e R s m args below meth c n0 T h cells slots) {x : UInt64} {v : Int64} (hd : decode by0 pc = .ok (.d2l, 1)) (hp : pc + 1 = pc') (hz : FP.d2l x = v) (hr : OGo p e below K T (mkF m pc' Ls (.long v :: St))) : OGo p e below K T (mkF m pc Ls (.double x :: St)) := by
  subst hp
  obtain ⟨-, -, locs, Y, -⟩ := X
  exact OGo.st (fun t k => XS.d2lS Y.here C.1 rfl (hb C.2.2.2.1 hd) rfl hz k) hr
theorem OGo.dneg (C : Cx p s m c Z own by0 ml) (X : Sd p l e R s m args below meth c n0 T h cells slots) {x : UInt64} {v : UInt64} (hd : decode by0 pc = .ok (.dneg, 1)) (hp : pc + 1 = pc') (hz : FP.dneg x = v) (hr : OGo p e below K T (mkF m pc' Ls (.double v :: St))) : OGo p e below K T (mkF m pc Ls (.double x :: St)) := by
  subst hp
  obtain ⟨-, -, locs, Y, -⟩ := X
  exact OGo.st (fun t k => XS.dnegS Y.here C.1 rfl (hb C.2.2.2.1 hd) rfl hz k) hr
theorem OGo.dcmp (C : Cx p s m c Z own by0 ml) (X : Sd p l e R s m args below meth c n0 T h cells slots) {o : CmpOp} {x y : UInt64} {v : Int32} (hd : decode by0 pc = .ok (.dcmp o, 1)) (hp : pc + 1 = pc') (hz : cmpValue (FP.dcmp x y) o = v) (hr : OGo p e below K T (mkF m pc' Ls (.int v :: St))) : OGo p e below K T (mkF m pc Ls (.double y :: .double x :: St)) := by
  subst hp
  obtain ⟨-, -, locs, Y, -⟩ := X
  exact OGo.st (fun t k => XS.dcmpS Y.here C.1 rfl (hb C.2.2.2.1 hd) rfl hz k) hr
theorem OGo.dadd (C : Cx p s m c Z own by0 ml) (X : Sd p l e R s m args below meth c n0 T h cells slots) {x y v : UInt64} (hd : decode by0 pc = .ok (.dadd, 1)) (hp : pc + 1 = pc') (hn : Jvm.Free.Fl.NoNaN64 (FP.dadd x y)) (hz : FP.dadd x y = v) (hr : OGo p e below K T (mkF m pc' Ls (.double v :: St))) : OGo p e below K T (mkF m pc Ls (.double y :: .double x :: St)) := by
  subst hp
  obtain ⟨-, -, locs, Y, -⟩ := X
  exact OGo.st (fun t k => XS.daddS Y.here C.1 rfl (hb C.2.2.2.1 hd) rfl hn hz k) hr
theorem OGo.dsub (C : Cx p s m c Z own by0 ml) (X : Sd p l e R s m args below meth c n0 T h cells slots) {x y v : UInt64} (hd : decode by0 pc = .ok (.dsub, 1)) (hp : pc + 1 = pc') (hn : Jvm.Free.Fl.NoNaN64 (FP.dsub x y)) (hz : FP.dsub x y = v) (hr : OGo p e below K T (mkF m pc' Ls (.double v :: St))) : OGo p e below K T (mkF m pc Ls (.double y :: .double x :: St)) := by
  subst hp
  obtain ⟨-, -, locs, Y, -⟩ := X
  exact OGo.st (fun t k => XS.dsubS Y.here C.1 rfl (hb C.2.2.2.1 hd) rfl hn hz k) hr
theorem OGo.dmul (C : Cx p s m c Z own by0 ml) (X : Sd p l e R s m args below meth c n0 T h cells slots) {x y v : UInt64} (hd : decode by0 pc = .ok (.dmul, 1)) (hp : pc + 1 = pc') (hn : Jvm.Free.Fl.NoNaN64 (FP.dmul x y)) (hz : FP.dmul x y = v) (hr : OGo p e below K T (mkF m pc' Ls (.double v :: St))) : OGo p e below K T (mkF m pc Ls (.double y :: .double x :: St)) := by
  subst hp
  obtain ⟨-, -, locs, Y, -⟩ := X
  exact OGo.st (fun t k => XS.dmulS Y.here C.1 rfl (hb C.2.2.2.1 hd) rfl hn hz k) hr
theorem OGo.ddiv (C : Cx p s m c Z own by0 ml) (X : Sd p l e R s m args below meth c n0 T h cells slots) {x y v : UInt64} (hd : decode by0 pc = .ok (.ddiv, 1)) (hp : pc + 1 = pc') (hn : Jvm.Free.Fl.NoNaN64 (FP.ddiv x y)) (hz : FP.ddiv x y = v) (hr : OGo p e below K T (mkF m pc' Ls (.double v :: St))) : OGo p e below K T (mkF m pc Ls (.double y :: .double x :: St)) := by
  subst hp
  obtain ⟨-, -, locs, Y, -⟩ := X
  exact OGo.st (fun t k => XS.ddivS Y.here C.1 rfl (hb C.2.2.2.1 hd) rfl hn hz k) hr
theorem OGo.dup (C : Cx p s m c Z own by0 ml) (X : Sd p l e R s m args below meth c n0 T h cells slots) {x : Value} (hd : decode by0 pc = .ok (.dup, 1)) (hp : pc + 1 = pc') (hc : x.category = 1) (hr : OGo p e below K T (mkF m pc' Ls (x :: x :: St))) : OGo p e below K T (mkF m pc Ls (x :: St)) := by
  subst hp
  obtain ⟨-, -, locs, Y, -⟩ := X
  exact OGo.st (fun t k => XS.dup Y.here C.1 rfl (hb C.2.2.2.1 hd) rfl hc k) hr
theorem OGo.pop (C : Cx p s m c Z own by0 ml) (X : Sd p l e R s m args below meth c n0 T h cells slots) {x : Value} (hd : decode by0 pc = .ok (.pop, 1)) (hp : pc + 1 = pc') (hc : x.category = 1) (hr : OGo p e below K T (mkF m pc' Ls (St))) : OGo p e below K T (mkF m pc Ls (x :: St)) := by
  subst hp
  obtain ⟨-, -, locs, Y, -⟩ := X
  exact OGo.st (fun t k => XS.pop Y.here C.1 rfl (hb C.2.2.2.1 hd) rfl hc k) hr
theorem OGo.dup_x1 (C : Cx p s m c Z own by0 ml) (X : Sd p l e R s m args below meth c n0 T h cells slots) {x y : Value} (hd : decode by0 pc = .ok (.dup_x1, 1)) (hp : pc + 1 = pc') (hc : x.category = 1) (hc' : y.category = 1) (hr : OGo p e below K T (mkF m pc' Ls (x :: y :: x :: St))) : OGo p e below K T (mkF m pc Ls (x :: y :: St)) := by
  subst hp
  obtain ⟨-, -, locs, Y, -⟩ := X
  exact OGo.st (fun t k => XS.dupX1 Y.here C.1 rfl (hb C.2.2.2.1 hd) rfl hc hc' k) hr
theorem OGo.dup2 (C : Cx p s m c Z own by0 ml) (X : Sd p l e R s m args below meth c n0 T h cells slots) {x y : Value} (hd : decode by0 pc = .ok (.dup2, 1)) (hp : pc + 1 = pc') (hc : x.category = 1) (hc' : y.category = 1) (hr : OGo p e below K T (mkF m pc' Ls (x :: y :: x :: y :: St))) : OGo p e below K T (mkF m pc Ls (x :: y :: St)) := by
  subst hp
  obtain ⟨-, -, locs, Y, -⟩ := X
  exact OGo.st (fun t k => XT.dup2 Y.here C.1 rfl (hb C.2.2.2.1 hd) rfl hc hc' k) hr
theorem OGo.goto (C : Cx p s m c Z own by0 ml) (X : Sd p l e R s m args below meth c n0 T h cells slots)  {o : Int} (hd : decode by0 pc = .ok (.goto o, 3))  (ho : 0 ≤ (pc : Int) + o) (hp : ((pc : Int) + o).toNat = pc') (hr : OGo p e below K T (mkF m pc' Ls (St))) : OGo p e below K T (mkF m pc Ls (St)) := by
  obtain ⟨-, -, locs, Y, -⟩ := X
  exact OGo.st (fun t k => XS.goto Y.here C.1 rfl (pc0 := pc) rfl (hb C.2.2.2.1 hd)  ho hp k) hr
theorem OGo.ifYes (C : Cx p s m c Z own by0 ml) (X : Sd p l e R s m args below meth c n0 T h cells slots) {cd : ClassFile.Cond} {x : Int32} {o : Int} (hd : decode by0 pc = .ok (.ifCond cd o, 3)) (hc : if_icmp.holds cd x 0 = true) (ho : 0 ≤ (pc : Int) + o) (hp : ((pc : Int) + o).toNat = pc') (hr : OGo p e below K T (mkF m pc' Ls (St))) : OGo p e below K T (mkF m pc Ls (.int x :: St)) := by
  obtain ⟨-, -, locs, Y, -⟩ := X
  exact OGo.st (fun t k => XS.ifYes Y.here C.1 rfl (pc0 := pc) rfl (hb C.2.2.2.1 hd) rfl ((if0 _ _).trans hc) ho hp k) hr
theorem OGo.ifNo (C : Cx p s m c Z own by0 ml) (X : Sd p l e R s m args below meth c n0 T h cells slots) {cd : ClassFile.Cond} {x : Int32} {o : Int} (hd : decode by0 pc = .ok (.ifCond cd o, 3)) (hp : pc + 3 = pc') (hc : if_icmp.holds cd x 0 = false) (hr : OGo p e below K T (mkF m pc' Ls (St))) : OGo p e below K T (mkF m pc Ls (.int x :: St)) := by
  subst hp
  obtain ⟨-, -, locs, Y, -⟩ := X
  exact OGo.st (fun t k => XS.ifNo Y.here C.1 rfl (hb C.2.2.2.1 hd) rfl ((if0 _ _).trans hc) k) hr
theorem OGo.icmpYes (C : Cx p s m c Z own by0 ml) (X : Sd p l e R s m args below meth c n0 T h cells slots) {cd : ClassFile.Cond} {x y : Int32} {o : Int} (hd : decode by0 pc = .ok (.if_icmp cd o, 3)) (hc : if_icmp.holds cd x y = true) (ho : 0 ≤ (pc : Int) + o) (hp : ((pc : Int) + o).toNat = pc') (hr : OGo p e below K T (mkF m pc' Ls (St))) : OGo p e below K T (mkF m pc Ls (.int y :: .int x :: St)) := by
  obtain ⟨-, -, locs, Y, -⟩ := X
  exact OGo.st (fun t k => XS.icmpYes Y.here C.1 rfl (pc0 := pc) rfl (hb C.2.2.2.1 hd) rfl hc ho hp k) hr
theorem OGo.icmpNo (C : Cx p s m c Z own by0 ml) (X : Sd p l e R s m args below meth c n0 T h cells slots) {cd : ClassFile.Cond} {x y : Int32} {o : Int} (hd : decode by0 pc = .ok (.if_icmp cd o, 3)) (hp : pc + 3 = pc') (hc : if_icmp.holds cd x y = false) (hr : OGo p e below K T (mkF m pc' Ls (St))) : OGo p e below K T (mkF m pc Ls (.int y :: .int x :: St)) := by
  subst hp
  obtain ⟨-, -, locs, Y, -⟩ := X
  exact OGo.st (fun t k => XS.icmpNo Y.here C.1 rfl (hb C.2.2.2.1 hd) rfl hc k) hr
theorem OGo.ifnullYes (C : Cx p s m c Z own by0 ml) (X : Sd p l e R s m args below meth c n0 T h cells slots)  {o : Int} (hd : decode by0 pc = .ok (.ifnull o, 3))  (ho : 0 ≤ (pc : Int) + o) (hp : ((pc : Int) + o).toNat = pc') (hr : OGo p e below K T (mkF m pc' Ls (St))) : OGo p e below K T (mkF m pc Ls (.null :: St)) := by
  obtain ⟨-, -, locs, Y, -⟩ := X
  exact OGo.st (fun t k => XS.ifnullYes Y.here C.1 rfl (pc0 := pc) rfl (hb C.2.2.2.1 hd) rfl ho hp k) hr
theorem OGo.ifnullNo (C : Cx p s m c Z own by0 ml) (X : Sd p l e R s m args below meth c n0 T h cells slots) {b : Addr} {o : Int} (hd : decode by0 pc = .ok (.ifnull o, 3)) (hp : pc + 3 = pc')  (hr : OGo p e below K T (mkF m pc' Ls (St))) : OGo p e below K T (mkF m pc Ls (.ref b :: St)) := by
  subst hp
  obtain ⟨-, -, locs, Y, -⟩ := X
  exact OGo.st (fun t k => XS.ifnullNo Y.here C.1 rfl (hb C.2.2.2.1 hd) rfl k) hr
theorem OGo.ifnonnullYes (C : Cx p s m c Z own by0 ml) (X : Sd p l e R s m args below meth c n0 T h cells slots) {b : Addr} {o : Int} (hd : decode by0 pc = .ok (.ifnonnull o, 3))  (ho : 0 ≤ (pc : Int) + o) (hp : ((pc : Int) + o).toNat = pc') (hr : OGo p e below K T (mkF m pc' Ls (St))) : OGo p e below K T (mkF m pc Ls (.ref b :: St)) := by
  obtain ⟨-, -, locs, Y, -⟩ := X
  exact OGo.st (fun t k => XS.ifnonnullYes Y.here C.1 rfl (pc0 := pc) rfl (hb C.2.2.2.1 hd) rfl ho hp k) hr
theorem OGo.ifnonnullNo (C : Cx p s m c Z own by0 ml) (X : Sd p l e R s m args below meth c n0 T h cells slots)  {o : Int} (hd : decode by0 pc = .ok (.ifnonnull o, 3)) (hp : pc + 3 = pc')  (hr : OGo p e below K T (mkF m pc' Ls (St))) : OGo p e below K T (mkF m pc Ls (.null :: St)) := by
  subst hp
  obtain ⟨-, -, locs, Y, -⟩ := X
  exact OGo.st (fun t k => XS.ifnonnullNo Y.here C.1 rfl (hb C.2.2.2.1 hd) rfl k) hr
theorem OGo.acmp (C : Cx p s m c Z own by0 ml) (X : Sd p l e R s m args below meth c n0 T h cells slots) {cd : ACond} {x y : Value} (h1 : x.isRef = true) (h2 : y.isRef = true) {o : Int} {same : Bool} (hd : decode by0 pc = .ok (.if_acmp cd o, 3)) (hq : decide (x = y) = same) (ho : 0 ≤ (pc : Int) + o) (hp : pc' = if acV cd same = true then ((pc : Int) + o).toNat else pc + 3) (hr : OGo p e below K T (mkF m pc' Ls (St))) : OGo p e below K T (mkF m pc Ls (y :: x :: St)) := by
  obtain ⟨-, -, locs, Y, -⟩ := X
  exact OGo.st (fun t k => RoadKit.acmp Y C.1 rfl h1 h2 (pc0 := pc) rfl (hb C.2.2.2.1 hd) rfl hq ho hp k) hr
theorem OGo.ldcInt (C : Cx p s m c Z own by0 ml) (X : Sd p l e R s m args below meth c n0 T h cells slots) {idx : Nat} {v : Int32} (w : (Jvm.Cond.constant own idx v).before a0 Z = true) (hd : decode by0 pc = .ok (.ldc idx, 2)) (hp : pc + 2 = pc') (hr : OGo p e below K T (mkF m pc' Ls (.int v :: St))) : OGo p e below K T (mkF m pc Ls (St)) := by
  subst hp
  obtain ⟨-, -, locs, Y, -⟩ := X
  exact OGo.st (fun t k => Y.ldcInt C.1 C.2.2.1 (mvT C.2.1 w) (g := mkF m pc Ls St) rfl (hb C.2.2.2.1 hd) t k) hr
theorem OGo.ldc2Long (C : Cx p s m c Z own by0 ml) (X : Sd p l e R s m args below meth c n0 T h cells slots) {idx : Nat} {v : Int64} (w : (Jvm.Cond.constantLong own idx v).before a0 Z = true) (hd : decode by0 pc = .ok (.ldc2_w idx, 3)) (hp : pc + 3 = pc') (hr : OGo p e below K T (mkF m pc' Ls (.long v :: St))) : OGo p e below K T (mkF m pc Ls (St)) := by
  subst hp
  obtain ⟨-, -, locs, Y, -⟩ := X
  exact OGo.st (fun t k => Y.ldc2Long C.1 C.2.2.1 (mvT C.2.1 w) (g := mkF m pc Ls St) rfl (hb C.2.2.2.1 hd) t k) hr
theorem OGo.ldc2Double (C : Cx p s m c Z own by0 ml) (X : Sd p l e R s m args below meth c n0 T h cells slots) {idx : Nat} {v : UInt64} (w : (Jvm.Cond.constantDouble own idx v).before a0 Z = true) (hd : decode by0 pc = .ok (.ldc2_w idx, 3)) (hp : pc + 3 = pc') (hr : OGo p e below K T (mkF m pc' Ls (.double v :: St))) : OGo p e below K T (mkF m pc Ls (St)) := by
  subst hp
  obtain ⟨-, -, locs, Y, -⟩ := X
  exact OGo.st (fun t k => Y.ldc2DoubleC C.1 C.2.2.1 (mvT C.2.1 w) (g := mkF m pc Ls St) rfl (hb C.2.2.2.1 hd) t k) hr
theorem OGo.ldcStr (C : Cx p s m c Z own by0 ml) (X : Sd p l e R s m args below meth c n0 T h cells slots) {idx : Nat} {text : String} {a : Addr} (w : (Jvm.Cond.stringRef own idx text).before a0 Z = true) (L : RoadKit.Lit Z own idx a) (hd : decode by0 pc = .ok (.ldc idx, 2)) (hp : pc + 2 = pc') (hr : OGo p e below K T (mkF m pc' Ls (.ref a :: St))) : OGo p e below K T (mkF m pc Ls (St)) := by
  subst hp
  obtain ⟨-, -, locs, Y, -⟩ := X
  exact OGo.st (fun t k => ldcR Y C.1 C.2.1 C.2.2.1 w L (g := mkF m pc Ls St) rfl (hb C.2.2.2.1 hd) t k) hr
theorem OGo.arraylength (C : Cx p s m c Z own by0 ml) (X : Sd p l e R s m args below meth c n0 T h cells slots) {a : Addr} {k : ClassId} {ty : FieldType} {z : Int32} {vs : List Value} {dv : Value} (V : Arv Z h a k ty z vs dv) (hd : decode by0 pc = .ok (.arraylength, 1)) (hp : pc + 1 = pc') (hr : OGo p e below K T (mkF m pc' Ls (.int z :: St))) : OGo p e below K T (mkF m pc Ls (.ref a :: St)) := by
  subst hp
  obtain ⟨eT, -, locs, Y, -⟩ := X
  obtain ⟨cl, A, -, S, q, -⟩ := V
  refine OGo.st (fun t k => Y.arraylength C.1 (by rw [eT]; exact A.1) (State.isArrayOf_alike C.2.1.alike A.2.1) (g := mkF m pc Ls (.ref a :: St)) rfl rfl (hb C.2.2.2.1 hd) t ?_) hr
  rw [len_of S q]; exact k
theorem OGo.iaload (C : Cx p s m c Z own by0 ml) (X : Sd p l e R s m args below meth c n0 T h cells slots) {a : Addr} {k : ClassId} {z : Int32} {vs : List Value} {dv : Value} (V : Arv Z h a k .int z vs dv) {j : Int32} {v : Int32} (hd : decode by0 pc = .ok (.iaload, 1)) (hp : pc + 1 = pc') (hj : ¬ j < 0 ∧ j < z) (hv : vs.getD j.toNatClampNeg dv = .int v) (hr : OGo p e below K T (mkF m pc' Ls (.int v :: St))) : OGo p e below K T (mkF m pc Ls (.int j :: .ref a :: St)) := by
  subst hp
  obtain ⟨eT, -, locs, Y, -⟩ := X
  obtain ⟨cl, A, -, S, q, H, -⟩ := V
  exact OGo.st (fun t k => Y.iaload C.1 (by rw [eT]; exact A.1) (State.isArrayOf_alike C.2.1.alike A.2.1) A.2.2 (inb_of S hj) (Has.at H (inb_of S hj) hv) (g := mkF m pc Ls (.int j :: .ref a :: St)) rfl rfl (hb C.2.2.2.1 hd) t k) hr
theorem OGo.laload (C : Cx p s m c Z own by0 ml) (X : Sd p l e R s m args below meth c n0 T h cells slots) {a : Addr} {k : ClassId} {z : Int32} {vs : List Value} {dv : Value} (V : Arv Z h a k .long z vs dv) {j : Int32} {v : Int64} (hd : decode by0 pc = .ok (.laload, 1)) (hp : pc + 1 = pc') (hj : ¬ j < 0 ∧ j < z) (hv : vs.getD j.toNatClampNeg dv = .long v) (hr : OGo p e below K T (mkF m pc' Ls (.long v :: St))) : OGo p e below K T (mkF m pc Ls (.int j :: .ref a :: St)) := by
  subst hp
  obtain ⟨eT, -, locs, Y, -⟩ := X
  obtain ⟨cl, A, -, S, q, H, -⟩ := V
  exact OGo.st (fun t k => Y.laload C.1 (by rw [eT]; exact A.1) (State.isArrayOf_alike C.2.1.alike A.2.1) A.2.2 (inb_of S hj) (Has.at H (inb_of S hj) hv) (g := mkF m pc Ls (.int j :: .ref a :: St)) rfl rfl (hb C.2.2.2.1 hd) t k) hr
theorem OGo.daload (C : Cx p s m c Z own by0 ml) (X : Sd p l e R s m args below meth c n0 T h cells slots) {a : Addr} {k : ClassId} {z : Int32} {vs : List Value} {dv : Value} (V : Arv Z h a k .double z vs dv) {j : Int32} {v : UInt64} (hd : decode by0 pc = .ok (.daload, 1)) (hp : pc + 1 = pc') (hj : ¬ j < 0 ∧ j < z) (hv : vs.getD j.toNatClampNeg dv = .double v) (hr : OGo p e below K T (mkF m pc' Ls (.double v :: St))) : OGo p e below K T (mkF m pc Ls (.int j :: .ref a :: St)) := by
  subst hp
  obtain ⟨eT, -, locs, Y, -⟩ := X
  obtain ⟨cl, A, -, S, q, H, -⟩ := V
  exact OGo.st (fun t k => Y.daload C.1 (by rw [eT]; exact A.1) (State.isArrayOf_alike C.2.1.alike A.2.1) A.2.2 (inb_of S hj) (Has.at H (inb_of S hj) hv) (g := mkF m pc Ls (.int j :: .ref a :: St)) rfl rfl (hb C.2.2.2.1 hd) t k) hr
theorem OGo.caload (C : Cx p s m c Z own by0 ml) (X : Sd p l e R s m args below meth c n0 T h cells slots) {a : Addr} {k : ClassId} {z : Int32} {vs : List Value} {dv : Value} (V : Arv Z h a k .char z vs dv) {j : Int32} {v : Int32} (hd : decode by0 pc = .ok (.caload, 1)) (hp : pc + 1 = pc') (hj : ¬ j < 0 ∧ j < z) (hv : vs.getD j.toNatClampNeg dv = .int v) (hr : OGo p e below K T (mkF m pc' Ls (.int v :: St))) : OGo p e below K T (mkF m pc Ls (.int j :: .ref a :: St)) := by
  subst hp
  obtain ⟨eT, -, locs, Y, -⟩ := X
  obtain ⟨cl, A, -, S, q, H, -⟩ := V
  exact OGo.st (fun t k => Y.caload C.1 (by rw [eT]; exact A.1) (State.isArrayOf_alike C.2.1.alike A.2.1) A.2.2 (inb_of S hj) (Has.at H (inb_of S hj) hv) (g := mkF m pc Ls (.int j :: .ref a :: St)) rfl rfl (hb C.2.2.2.1 hd) t k) hr
theorem OGo.baloadB (C : Cx p s m c Z own by0 ml) (X : Sd p l e R s m args below meth c n0 T h cells slots) {a : Addr} {k : ClassId} {z : Int32} {vs : List Value} {dv : Value} (V : Arv Z h a k .byte z vs dv) {j : Int32} {v : Int32} (hd : decode by0 pc = .ok (.baload, 1)) (hp : pc + 1 = pc') (hj : ¬ j < 0 ∧ j < z) (hv : vs.getD j.toNatClampNeg dv = .int v) (hr : OGo p e below K T (mkF m pc' Ls (.int v :: St))) : OGo p e below K T (mkF m pc Ls (.int j :: .ref a :: St)) := by
  subst hp
  obtain ⟨eT, -, locs, Y, -⟩ := X
  obtain ⟨cl, A, -, S, q, H, -⟩ := V
  exact OGo.st (fun t k => Y.baloadBytes C.1 (by rw [eT]; exact A.1) (State.isArrayOf_alike C.2.1.alike A.2.1) A.2.2 (inb_of S hj) (Has.at H (inb_of S hj) hv) (g := mkF m pc Ls (.int j :: .ref a :: St)) rfl rfl (hb C.2.2.2.1 hd) t k) hr
theorem OGo.baloadZ (C : Cx p s m c Z own by0 ml) (X : Sd p l e R s m args below meth c n0 T h cells slots) {a : Addr} {k : ClassId} {z : Int32} {vs : List Value} {dv : Value} (V : Arv Z h a k .boolean z vs dv) {j : Int32} {v : Int32} (hd : decode by0 pc = .ok (.baload, 1)) (hp : pc + 1 = pc') (hj : ¬ j < 0 ∧ j < z) (hv : vs.getD j.toNatClampNeg dv = .int v) (hr : OGo p e below K T (mkF m pc' Ls (.int v :: St))) : OGo p e below K T (mkF m pc Ls (.int j :: .ref a :: St)) := by
  subst hp
  obtain ⟨eT, -, locs, Y, -⟩ := X
  obtain ⟨cl, A, -, S, q, H, -⟩ := V
  exact OGo.st (fun t k => Y.baloadBooleans C.1 (by rw [eT]; exact A.1) (State.isArrayOf_alike C.2.1.alike A.2.1) A.2.2 (inb_of S hj) (Has.at H (inb_of S hj) hv) (g := mkF m pc Ls (.int j :: .ref a :: St)) rfl rfl (hb C.2.2.2.1 hd) t k) hr
theorem OGo.iastore (C : Cx p s m c Z own by0 ml) (X : Sd p l e R s m args below meth c n0 T h cells slots) {a : Addr} {k : ClassId} {z : Int32} {vs : List Value} {dv : Value} (V : Arv Z h a k .int z vs dv) (ga : n0 ≤ a) {j : Int32} {x : Int32} {i : Nat} (hd : decode by0 pc = .ok (.iastore, 1)) (hp : pc + 1 = pc') (hj : ¬ j < 0 ∧ j < z) (hi : j.toNatClampNeg = i) (hl : i < vs.length)
    (hr : ∀ T' h', Sd p l e R s m args below meth c n0 T' h' cells slots → Wr h h' a i (.int x) → Arv Z h' a k .int z (vs.set i (.int x)) dv → OGo p e below K T' (mkF m pc' Ls St)) : OGo p e below K T (mkF m pc Ls (.int x :: .int j :: .ref a :: St)) := by
  subst hp hi
  obtain ⟨eT, hn, locs, Y, N⟩ := X
  obtain ⟨cl, A, q1, S, q, H, Gt⟩ := V
  obtain ⟨T', h', Y', e', W, st⟩ := stI Y C.1 C.2.1 eT A (inb_of S hj) (g := mkF m pc Ls (.int x :: .int j :: .ref a :: St)) rfl rfl (hb C.2.2.2.1 hd)
  exact OGo.st st (hr T' h' ⟨e', by rw [W.size]; exact hn, _, Y', Fr.snoc Y' N ga⟩ W (Arv.set A q1 S q H Gt rfl W _ rfl hl))
theorem OGo.lastore (C : Cx p s m c Z own by0 ml) (X : Sd p l e R s m args below meth c n0 T h cells slots) {a : Addr} {k : ClassId} {z : Int32} {vs : List Value} {dv : Value} (V : Arv Z h a k .long z vs dv) (ga : n0 ≤ a) {j : Int32} {x : Int64} {i : Nat} (hd : decode by0 pc = .ok (.lastore, 1)) (hp : pc + 1 = pc') (hj : ¬ j < 0 ∧ j < z) (hi : j.toNatClampNeg = i) (hl : i < vs.length)
    (hr : ∀ T' h', Sd p l e R s m args below meth c n0 T' h' cells slots → Wr h h' a i (.long x) → Arv Z h' a k .long z (vs.set i (.long x)) dv → OGo p e below K T' (mkF m pc' Ls St)) : OGo p e below K T (mkF m pc Ls (.long x :: .int j :: .ref a :: St)) := by
  subst hp hi
  obtain ⟨eT, hn, locs, Y, N⟩ := X
  obtain ⟨cl, A, q1, S, q, H, Gt⟩ := V
  obtain ⟨T', h', Y', e', W, st⟩ := stJ Y C.1 C.2.1 eT A (inb_of S hj) (g := mkF m pc Ls (.long x :: .int j :: .ref a :: St)) rfl rfl (hb C.2.2.2.1 hd)
  exact OGo.st st (hr T' h' ⟨e', by rw [W.size]; exact hn, _, Y', Fr.snoc Y' N ga⟩ W (Arv.set A q1 S q H Gt rfl W _ rfl hl))
theorem OGo.dastore (C : Cx p s m c Z own by0 ml) (X : Sd p l e R s m args below meth c n0 T h cells slots) {a : Addr} {k : ClassId} {z : Int32} {vs : List Value} {dv : Value} (V : Arv Z h a k .double z vs dv) (ga : n0 ≤ a) {j : Int32} {x : UInt64} {i : Nat} (hd : decode by0 pc = .ok (.dastore, 1)) (hp : pc + 1 = pc') (hj : ¬ j < 0 ∧ j < z) (hi : j.toNatClampNeg = i) (hl : i < vs.length)
    (hr : ∀ T' h', Sd p l e R s m args below meth c n0 T' h' cells slots → Wr h h' a i (.double x) → Arv Z h' a k .double z (vs.set i (.double x)) dv → OGo p e below K T' (mkF m pc' Ls St)) : OGo p e below K T (mkF m pc Ls (.double x :: .int j :: .ref a :: St)) := by
  subst hp hi
  obtain ⟨eT, hn, locs, Y, N⟩ := X
  obtain ⟨cl, A, q1, S, q, H, Gt⟩ := V
  obtain ⟨T', h', Y', e', W, st⟩ := stD Y C.1 C.2.1 eT A (inb_of S hj) (g := mkF m pc Ls (.double x :: .int j :: .ref a :: St)) rfl rfl (hb C.2.2.2.1 hd)
  exact OGo.st st (hr T' h' ⟨e', by rw [W.size]; exact hn, _, Y', Fr.snoc Y' N ga⟩ W (Arv.set A q1 S q H Gt rfl W _ rfl hl))
theorem OGo.castore (C : Cx p s m c Z own by0 ml) (X : Sd p l e R s m args below meth c n0 T h cells slots) {a : Addr} {k : ClassId} {z : Int32} {vs : List Value} {dv : Value} (V : Arv Z h a k .char z vs dv) (ga : n0 ≤ a) {j : Int32} {x : Int32} {i : Nat} (hd : decode by0 pc = .ok (.castore, 1)) (hp : pc + 1 = pc') (hj : ¬ j < 0 ∧ j < z) (hi : j.toNatClampNeg = i) (hl : i < vs.length)
    (hr : ∀ T' h', Sd p l e R s m args below meth c n0 T' h' cells slots → Wr h h' a i (.int (nar .char x)) → Arv Z h' a k .char z (vs.set i (.int (nar .char x))) dv → OGo p e below K T' (mkF m pc' Ls St)) : OGo p e below K T (mkF m pc Ls (.int x :: .int j :: .ref a :: St)) := by
  subst hp hi
  obtain ⟨eT, hn, locs, Y, N⟩ := X
  obtain ⟨cl, A, q1, S, q, H, Gt⟩ := V
  obtain ⟨T', h', Y', e', W, st⟩ := stC Y C.1 C.2.1 eT A (inb_of S hj) (g := mkF m pc Ls (.int x :: .int j :: .ref a :: St)) rfl rfl (hb C.2.2.2.1 hd)
  exact OGo.st st (hr T' h' ⟨e', by rw [W.size]; exact hn, _, Y', Fr.snoc Y' N ga⟩ W (Arv.set A q1 S q H Gt (fits_nar_char x) W _ rfl hl))
theorem OGo.bastoreB (C : Cx p s m c Z own by0 ml) (X : Sd p l e R s m args below meth c n0 T h cells slots) {a : Addr} {k : ClassId} {z : Int32} {vs : List Value} {dv : Value} (V : Arv Z h a k .byte z vs dv) (ga : n0 ≤ a) {j : Int32} {x : Int32} {i : Nat} (hd : decode by0 pc = .ok (.bastore, 1)) (hp : pc + 1 = pc') (hj : ¬ j < 0 ∧ j < z) (hi : j.toNatClampNeg = i) (hl : i < vs.length)
    (hr : ∀ T' h', Sd p l e R s m args below meth c n0 T' h' cells slots → Wr h h' a i (.int (nar .byte x)) → Arv Z h' a k .byte z (vs.set i (.int (nar .byte x))) dv → OGo p e below K T' (mkF m pc' Ls St)) : OGo p e below K T (mkF m pc Ls (.int x :: .int j :: .ref a :: St)) := by
  subst hp hi
  obtain ⟨eT, hn, locs, Y, N⟩ := X
  obtain ⟨cl, A, q1, S, q, H, Gt⟩ := V
  obtain ⟨T', h', Y', e', W, st⟩ := stB Y C.1 C.2.1 eT A (inb_of S hj) (g := mkF m pc Ls (.int x :: .int j :: .ref a :: St)) rfl rfl (hb C.2.2.2.1 hd)
  exact OGo.st st (hr T' h' ⟨e', by rw [W.size]; exact hn, _, Y', Fr.snoc Y' N ga⟩ W (Arv.set A q1 S q H Gt (fits_nar_byte x) W _ rfl hl))
theorem OGo.bastoreZ (C : Cx p s m c Z own by0 ml) (X : Sd p l e R s m args below meth c n0 T h cells slots) {a : Addr} {k : ClassId} {z : Int32} {vs : List Value} {dv : Value} (V : Arv Z h a k .boolean z vs dv) (ga : n0 ≤ a) {j : Int32} {x : Int32} {i : Nat} (hd : decode by0 pc = .ok (.bastore, 1)) (hp : pc + 1 = pc') (hj : ¬ j < 0 ∧ j < z) (hi : j.toNatClampNeg = i) (hl : i < vs.length)
    (hr : ∀ T' h', Sd p l e R s m args below meth c n0 T' h' cells slots → Wr h h' a i (.int (nar .boolean x)) → Arv Z h' a k .boolean z (vs.set i (.int (nar .boolean x))) dv → OGo p e below K T' (mkF m pc' Ls St)) : OGo p e below K T (mkF m pc Ls (.int x :: .int j :: .ref a :: St)) := by
  subst hp hi
  obtain ⟨eT, hn, locs, Y, N⟩ := X
  obtain ⟨cl, A, q1, S, q, H, Gt⟩ := V
  obtain ⟨T', h', Y', e', W, st⟩ := stZ Y C.1 C.2.1 eT A (inb_of S hj) (g := mkF m pc Ls (.int x :: .int j :: .ref a :: St)) rfl rfl (hb C.2.2.2.1 hd)
  exact OGo.st st (hr T' h' ⟨e', by rw [W.size]; exact hn, _, Y', Fr.snoc Y' N ga⟩ W (Arv.set A q1 S q H Gt (fits_nar_bool x) W _ rfl hl))
theorem OGo.newarray (C : Cx p s m c Z own by0 ml) (X : Sd p l e R s m args below meth c n0 T h cells slots) {aty : ArrayType} {ty : FieldType} {n : Int32} {cap : Nat} {d0 : Value} (w : (Jvm.Cond.arrayClass ty).before a0 Z = true) (hty : newarray.typeOf aty = ty) (hd : decode by0 pc = .ok (.newarray aty, 2)) (hp : pc + 2 = pc') (hn : ¬ n < 0) (hcap : n.toNatClampNeg ≤ cap) (hb8 : cap * 8 ≤ 536870912) (hdv : defaultValue ty = d0) (hc' : cells + 1 = cells') (hs' : slots + cap = slots') (hc : cells' ≤ R.cells) (hl : slots' ≤ R.slots)
    (hr : ∀ T' h' a k, Sd p l e R s m args below meth c n0 T' h' cells' slots' → a = h.size → n0 ≤ a → Ext h h' → Arv Z h' a k ty n [] d0 → OGo p e below K T' (mkF m pc' Ls (.ref a :: St))) : OGo p e below K T (mkF m pc Ls (.int n :: St)) := by
  subst hp hc' hs' hty hdv
  obtain ⟨eT, hn0, locs, Y, N⟩ := X
  obtain ⟨T', h', cA, Y', e', E, A, st⟩ := newP Y C.1 C.2.1 w eT (g := mkF m pc Ls (.int n :: St)) rfl (hb C.2.2.2.1 hd) rfl hn hcap hb8 hc hl
  exact OGo.st st (hr T' h' _ cA ⟨e', Nat.le_trans hn0 E.1, _, Y', N⟩ rfl hn0 E (Arv.new A hn))
theorem OGo.newarrayE (C : Cx p s m c Z own by0 ml) (X : Sd p l e R s m args below meth c n0 T h cells slots) {aty : ArrayType} {ty : FieldType} {n : Int32} {cap : Nat} {d0 : Value} {ad : String} (w : (Jvm.Cond.arrayClass ty).before a0 Z = true) (hty : newarray.typeOf aty = ty) (had : "[" ++ ty.toString = ad) (hd : decode by0 pc = .ok (.newarray aty, 2)) (hp : pc + 2 = pc') (hn : ¬ n < 0) (hcap : n.toNatClampNeg ≤ cap) (hb8 : cap * 8 ≤ 536870912) (hdv : defaultValue ty = d0) (hc' : cells + 1 = cells') (hs' : slots + cap = slots') (hc : cells' ≤ R.cells) (hl : slots' ≤ R.slots)
    (hr : ∀ T' h' a k, Sd p l e R s m args below meth c n0 T' h' cells' slots' → a = h.size → n0 ≤ a → Ext h h' → Arv Z h' a k ty n [] d0 → Exa Z h' a ad → OGo p e below K T' (mkF m pc' Ls (.ref a :: St))) : OGo p e below K T (mkF m pc Ls (.int n :: St)) := by
  subst hp hc' hs' hty hdv
  obtain ⟨eT, hn0, locs, Y, N⟩ := X
  obtain ⟨T', h', cA, Y', e', E, A, EE, st⟩ := newPE Y C.1 C.2.1 w eT (g := mkF m pc Ls (.int n :: St)) rfl (hb C.2.2.2.1 hd) rfl hn hcap hb8 hc hl had
  exact OGo.st st (hr T' h' _ cA ⟨e', Nat.le_trans hn0 E.1, _, Y', N⟩ rfl hn0 E (Arv.new A hn) EE)
theorem OGo.new (C : Cx p s m c Z own by0 ml) (X : Sd p l e R s m args below meth c n0 T h cells slots) {Cn : String} {idx n : Nat} (w : (Jvm.Cond.classLink own idx Cn).before a0 Z = true) (wi : (Jvm.Cond.instantiable Cn n).before a0 Z = true) (wz : (Jvm.Cond.initialized Cn).before a0 Z = true) (hd : decode by0 pc = .ok (.new idx, 3)) (hp : pc + 3 = pc') (hc' : cells + 1 = cells') (hs' : slots + n = slots') (hc : cells' ≤ R.cells) (hl : slots' ≤ R.slots)
    (hr : ∀ T' h' a, Sd p l e R s m args below meth c n0 T' h' cells' slots' → a = h.size → n0 ≤ a → Ext h h' → Exa Z h' a Cn → (∀ {O nm d : String} {ty : FieldType}, Laid Z a0 Cn O nm d → parseFieldDescriptor d = some ty → Fld Z h' a O nm d (defaultValue ty)) → Unt h' a → OGo p e below K T' (mkF m pc' Ls (.ref a :: St))) : OGo p e below K T (mkF m pc Ls (St)) := by
  subst hp hc' hs'
  obtain ⟨eT, hn0, locs, Y, N⟩ := X
  obtain ⟨T', h', Y', e', E, A, D, U, st⟩ := newO Y C.1 C.2.1 C.2.2.1 w wi wz eT (g := mkF m pc Ls St) rfl (hb C.2.2.2.1 hd) hc hl
  exact OGo.st st (hr T' h' _ ⟨e', Nat.le_trans hn0 E.1, _, Y', N⟩ rfl hn0 E A D U)
theorem OGo.getfield (C : Cx p s m c Z own by0 ml) (X : Sd p l e R s m args below meth c n0 T h cells slots) {R0 O n d host : String} {idx : Nat} {a : Addr} {v : Value} (w : (Jvm.Cond.fieldLink own idx R0 n d).before a0 Z = true ∨ (Jvm.Cond.fieldLinkNest own idx R0 n d host).before a0 Z = true) (via : Via Z R0 O n d) (F : Fld Z h a O n d v) (hd : decode by0 pc = .ok (.getfield idx, 3)) (hp : pc + 3 = pc')
    (hr : ∀ T', Sd p l e R s m args below meth c n0 T' h cells slots → OGo p e below K T' (mkF m pc' Ls (v :: St))) : OGo p e below K T (mkF m pc Ls (.ref a :: St)) := by
  subst hp
  obtain ⟨eT, hn0, locs, Y, N⟩ := X
  obtain ⟨T', Y', e', st⟩ := getF Y C.1 C.2.1 C.2.2.1 w via eT F (g := mkF m pc Ls (.ref a :: St)) rfl rfl (hb C.2.2.2.1 hd)
  exact OGo.st st (hr T' ⟨e', hn0, _, Y', N⟩)
theorem OGo.putfield (C : Cx p s m c Z own by0 ml) (X : Sd p l e R s m args below meth c n0 T h cells slots) {R0 O n d host Cn : String} {idx kk : Nat} {ty : FieldType} {a : Addr} {v old : Value} (w : (Jvm.Cond.fieldLink own idx R0 n d).before a0 Z = true ∨ (Jvm.Cond.fieldLinkNest own idx R0 n d host).before a0 Z = true) (via : Via Z R0 O n d) (F : Fld Z h a O n d old) (E : Exa Z h a Cn) (ga : n0 ≤ a)
    (L : (Jvm.Cond.lays Cn O n d).before a0 Z = true ∨ ((Jvm.Cond.laysFinal Cn O n d).before a0 Z = true ∧ own = O ∧ meth.name = "<init>")) (wi : (Jvm.Cond.instantiable Cn kk).before a0 Z = true) (hty : parseFieldDescriptor d = some ty) (hnn : narrow ty v = v) (hf : fits ty v = true) (hd : decode by0 pc = .ok (.putfield idx, 3)) (hp : pc + 3 = pc')
    (hr : ∀ T' h', Sd p l e R s m args below meth c n0 T' h' cells slots → Wr h h' a (RoadKit.slotOf Z O n d) v → Fld Z h' a O n d v → OGo p e below K T' (mkF m pc' Ls St)) : OGo p e below K T (mkF m pc Ls (v :: .ref a :: St)) := by
  subst hp
  obtain ⟨eT, hn0, locs, Y, N⟩ := X
  obtain ⟨T', h', Y', e', W, st⟩ := putF Y C.1 C.2.1 C.2.2.1 w via eT F E L wi hty hnn hf (g := mkF m pc Ls (v :: .ref a :: St)) rfl rfl (hb C.2.2.2.1 hd)
  exact OGo.st st (hr T' h' ⟨e', by rw [W.size]; exact hn0, _, Y', Fr.snoc Y' N ga⟩ W (F.same W))
theorem OGo.putfieldN (C : Cx p s m c Z own by0 ml) (X : Sd p l e R s m args below meth c n0 T h cells slots) {R0 O n d Cn : String} {idx kk : Nat} {ty : FieldType} {a : Addr} {v v' old : Value} (w : (Jvm.Cond.fieldLink own idx R0 n d).before a0 Z = true) (via : Via Z R0 O n d) (F : Fld Z h a O n d old) (E : Exa Z h a Cn) (ga : n0 ≤ a)
    (L : (Jvm.Cond.lays Cn O n d).before a0 Z = true ∨ ((Jvm.Cond.laysFinal Cn O n d).before a0 Z = true ∧ own = O ∧ meth.name = "<init>")) (wi : (Jvm.Cond.instantiable Cn kk).before a0 Z = true) (hty : parseFieldDescriptor d = some ty) (hnn : narrow ty v = v') (hf : fits ty v' = true) (hd : decode by0 pc = .ok (.putfield idx, 3)) (hp : pc + 3 = pc')
    (hr : ∀ T' h', Sd p l e R s m args below meth c n0 T' h' cells slots → Wr h h' a (RoadKit.slotOf Z O n d) v' → Fld Z h' a O n d v' → OGo p e below K T' (mkF m pc' Ls St)) : OGo p e below K T (mkF m pc Ls (v :: .ref a :: St)) := by
  subst hp
  obtain ⟨eT, hn0, locs, Y, N⟩ := X
  obtain ⟨T', h', Y', e', W, st⟩ := putFN Y C.1 C.2.1 C.2.2.1 w via eT F E L wi hty hnn hf (g := mkF m pc Ls (v :: .ref a :: St)) rfl rfl (hb C.2.2.2.1 hd)
  exact OGo.st st (hr T' h' ⟨e', by rw [W.size]; exact hn0, _, Y', Fr.snoc Y' N ga⟩ W (F.same W))
theorem OGo.getstatic (C : Cx p s m c Z own by0 ml) (X : Sd p l e R s m args below meth c n0 T h cells slots) {R0 O n d host : String} {idx : Nat} {v : Value} (w : (Jvm.Cond.fieldLink own idx R0 n d).before a0 Z = true ∨ (Jvm.Cond.fieldLinkNest own idx R0 n d host).before a0 Z = true) (via : Via Z R0 O n d) (F : Sta Z h O n d v) (hd : decode by0 pc = .ok (.getstatic idx, 3)) (hp : pc + 3 = pc')
    (hr : ∀ T', Sd p l e R s m args below meth c n0 T' h cells slots → OGo p e below K T' (mkF m pc' Ls (v :: St))) : OGo p e below K T (mkF m pc Ls (St)) := by
  subst hp
  obtain ⟨eT, hn0, locs, Y, N⟩ := X
  obtain ⟨T', Y', e', st⟩ := getS2 Y C.1 C.2.1 C.2.2.1 w via eT F (g := mkF m pc Ls St) rfl (hb C.2.2.2.1 hd)
  exact OGo.st st (hr T' ⟨e', hn0, _, Y', N⟩)
theorem OGo.checkcast (C : Cx p s m c Z own by0 ml) (X : Sd p l e R s m args below meth c n0 T h cells slots) {Kn : String} {idx : Nat} {a : Addr} (w : (Jvm.Cond.classLink own idx Kn).before a0 Z = true) (F : Ins Z h a Kn true) (hd : decode by0 pc = .ok (.checkcast idx, 3)) (hp : pc + 3 = pc')
    (hr : ∀ T', Sd p l e R s m args below meth c n0 T' h cells slots → OGo p e below K T' (mkF m pc' Ls (.ref a :: St))) : OGo p e below K T (mkF m pc Ls (.ref a :: St)) := by
  subst hp
  obtain ⟨eT, hn0, locs, Y, N⟩ := X
  obtain ⟨T', Y', e', st⟩ := castY Y C.1 C.2.1 C.2.2.1 w eT F (g := mkF m pc Ls (.ref a :: St)) rfl rfl (hb C.2.2.2.1 hd)
  exact OGo.st st (hr T' ⟨e', hn0, _, Y', N⟩)
theorem OGo.instYes (C : Cx p s m c Z own by0 ml) (X : Sd p l e R s m args below meth c n0 T h cells slots) {Kn : String} {idx : Nat} {a : Addr} (w : (Jvm.Cond.classLink own idx Kn).before a0 Z = true) (F : Ins Z h a Kn true) (hd : decode by0 pc = .ok (.instanceof idx, 3)) (hp : pc + 3 = pc')
    (hr : ∀ T', Sd p l e R s m args below meth c n0 T' h cells slots → OGo p e below K T' (mkF m pc' Ls (.int 1 :: St))) : OGo p e below K T (mkF m pc Ls (.ref a :: St)) := by
  subst hp
  obtain ⟨eT, hn0, locs, Y, N⟩ := X
  obtain ⟨T', Y', e', st⟩ := instY Y C.1 C.2.1 C.2.2.1 w eT F (g := mkF m pc Ls (.ref a :: St)) rfl rfl (hb C.2.2.2.1 hd)
  exact OGo.st st (hr T' ⟨e', hn0, _, Y', N⟩)
theorem OGo.instNo (C : Cx p s m c Z own by0 ml) (X : Sd p l e R s m args below meth c n0 T h cells slots) {Kn Cn : String} {idx : Nat} {a : Addr} (w : (Jvm.Cond.classLink own idx Kn).before a0 Z = true) (E : Exa Z h a Cn) (F : ∃ c t, Z.vm.findClass Cn = some c ∧ Z.vm.findClass Kn = some t ∧ Z.vm.assignable c t = false) (hd : decode by0 pc = .ok (.instanceof idx, 3)) (hp : pc + 3 = pc')
    (hr : ∀ T', Sd p l e R s m args below meth c n0 T' h cells slots → OGo p e below K T' (mkF m pc' Ls (.int 0 :: St))) : OGo p e below K T (mkF m pc Ls (.ref a :: St)) := by
  subst hp
  obtain ⟨eT, hn0, locs, Y, N⟩ := X
  obtain ⟨T', Y', e', st⟩ := RoadKit.instNo Y C.1 C.2.1 C.2.2.1 w eT E F (g := mkF m pc Ls (.ref a :: St)) rfl rfl (hb C.2.2.2.1 hd)
  exact OGo.st st (hr T' ⟨e', hn0, _, Y', N⟩)
theorem OGo.initObj (C : Cx p s m c Z own by0 ml) (X : Sd p l e R s m args below meth c n0 T h cells slots) {idx : Nat} {a : Addr} (w1 : (Jvm.Cond.methodLink own idx Lib.objectInit).before a0 Z = true) (w2 : (Jvm.Cond.instanceMethod Lib.objectInit).before a0 Z = true) (w3 : (Jvm.Cond.code Lib.objectInit ⟨#[0xb1]⟩ 1 none).before a0 Z = true) (hd : decode by0 pc = .ok (.invokespecial idx, 3)) (hp : pc + 3 = pc') (hsz : Ls.size = ml) (hf : 1 ≤ R.frames) (hl : (St.map fun v => v.category).sum + 12 ≤ R.locals)
    (hr : ∀ T', Sd p l e R s m args below meth c n0 T' h cells slots → OGo p e below K T' (mkF m pc' Ls St)) : OGo p e below K T (mkF m pc Ls (.ref a :: St)) := by
  subst hp
  obtain ⟨eT, hn0, locs, Y, N⟩ := X
  obtain ⟨T', Y', e', st⟩ := initO Y C.1 C.2.1 C.2.2.1 w1 w2 w3 eT (g := mkF m pc Ls (.ref a :: St)) rfl (by rw [C.2.2.2.2]; exact hsz) rfl (hb C.2.2.2.1 hd) hf (W := (St.map fun v => v.category).sum) (by show 2 * 0 + _ ≤ _; omega) hl
  exact OGo.st st (hr T' ⟨e', hn0, _, Y', N⟩)
theorem OGo.ret (C : Cx p s m c Z own by0 ml) (X : Sd p l e R s m args below meth c n0 T h cells slots)  {Q : Option Value → Heap → Prop} {nc ns : Nat} (hd : decode by0 pc = .ok (.return_, 1)) (hret : meth.sig.returnType = none) (hlk : meth.locks = false) (hQ : Q (none) h) (hc : cells ≤ nc) (hs : slots ≤ ns) : OGo p e below (Kk s below n0 Q nc ns) T (mkF m pc Ls ([])) := by
  obtain ⟨eT, hn0, locs, Y, N⟩ := X
  obtain ⟨fs, hr, hrun, hended, hW, hsame⟩ := Y.leave (v := none) (fun hh => by rfl) hlk
  exact ⟨_, _, Y.returnOut C.1 hret (hb C.2.2.2.1 hd) hr, hrun, hended, _, locs, rfl, ⟨by show Q _ T.heap; rw [eT]; exact hQ, N⟩, ⟨_, rfl⟩, hW, hsame.mono hc hs⟩
theorem OGo.retInt (C : Cx p s m c Z own by0 ml) (X : Sd p l e R s m args below meth c n0 T h cells slots) {z : Int32} {rest : List Value} {Q : Option Value → Heap → Prop} {nc ns : Nat} (hd : decode by0 pc = .ok (.ireturn, 1)) (hret : meth.sig.returnType = some .int) (hlk : meth.locks = false) (hQ : Q (some (.int z)) h) (hc : cells ≤ nc) (hs : slots ≤ ns) : OGo p e below (Kk s below n0 Q nc ns) T (mkF m pc Ls (.int z :: rest)) := by
  obtain ⟨eT, hn0, locs, Y, N⟩ := X
  obtain ⟨fs, hr, hrun, hended, hW, hsame⟩ := Y.leave (v := some (.int z)) (fun hh => by rw [hret] at hh; cases hh) hlk
  exact ⟨_, _, retOut Y C.1 (i := .ireturn) hret rfl (Or.inl ⟨rfl, Or.inl rfl, _, rfl⟩) (hb C.2.2.2.1 hd) hr, hrun, hended, _, locs, rfl, ⟨by show Q _ T.heap; rw [eT]; exact hQ, N⟩, ⟨_, rfl⟩, hW, hsame.mono hc hs⟩
theorem OGo.retN (C : Cx p s m c Z own by0 ml) (X : Sd p l e R s m args below meth c n0 T h cells slots) {z z' : Int32} {rest : List Value} {t : FieldType} {Q : Option Value → Heap → Prop} {nc ns : Nat} (hd : decode by0 pc = .ok (.ireturn, 1)) (hret : meth.sig.returnType = some t) (ht : t = .boolean ∨ t = .byte ∨ t = .char ∨ t = .short) (hz : nar t z = z') (hlk : meth.locks = false) (hQ : Q (some (.int z')) h) (hc : cells ≤ nc) (hs : slots ≤ ns) : OGo p e below (Kk s below n0 Q nc ns) T (mkF m pc Ls (.int z :: rest)) := by
  subst hz
  obtain ⟨eT, hn0, locs, Y, N⟩ := X
  obtain ⟨fs, hr, hrun, hended, hW, hsame⟩ := Y.leave (v := some (.int (nar t z))) (fun hh => by rw [hret] at hh; cases hh) hlk
  exact ⟨_, _, RoadKit.retN Y C.1 hret ht (hb C.2.2.2.1 hd) hr, hrun, hended, _, locs, rfl, ⟨by show Q _ T.heap; rw [eT]; exact hQ, N⟩, ⟨_, rfl⟩, hW, hsame.mono hc hs⟩
theorem OGo.retD (C : Cx p s m c Z own by0 ml) (X : Sd p l e R s m args below meth c n0 T h cells slots) {z : UInt64} {rest : List Value} {Q : Option Value → Heap → Prop} {nc ns : Nat} (hd : decode by0 pc = .ok (.dreturn, 1)) (hret : meth.sig.returnType = some .double) (hlk : meth.locks = false) (hQ : Q (some (.double z)) h) (hc : cells ≤ nc) (hs : slots ≤ ns) : OGo p e below (Kk s below n0 Q nc ns) T (mkF m pc Ls (.double z :: rest)) := by
  obtain ⟨eT, hn0, locs, Y, N⟩ := X
  obtain ⟨fs, hr, hrun, hended, hW, hsame⟩ := Y.leave (v := some (.double z)) (fun hh => by rw [hret] at hh; cases hh) hlk
  exact ⟨_, _, retOut Y C.1 (i := .dreturn) hret rfl (Or.inr (Or.inr (Or.inl ⟨rfl, rfl, _, rfl⟩))) (hb C.2.2.2.1 hd) hr, hrun, hended, _, locs, rfl, ⟨by show Q _ T.heap; rw [eT]; exact hQ, N⟩, ⟨_, rfl⟩, hW, hsame.mono hc hs⟩
theorem OGo.retL (C : Cx p s m c Z own by0 ml) (X : Sd p l e R s m args below meth c n0 T h cells slots) {z : Int64} {rest : List Value} {Q : Option Value → Heap → Prop} {nc ns : Nat} (hd : decode by0 pc = .ok (.lreturn, 1)) (hret : meth.sig.returnType = some .long) (hlk : meth.locks = false) (hQ : Q (some (.long z)) h) (hc : cells ≤ nc) (hs : slots ≤ ns) : OGo p e below (Kk s below n0 Q nc ns) T (mkF m pc Ls (.long z :: rest)) := by
  obtain ⟨eT, hn0, locs, Y, N⟩ := X
  obtain ⟨fs, hr, hrun, hended, hW, hsame⟩ := Y.leave (v := some (.long z)) (fun hh => by rw [hret] at hh; cases hh) hlk
  exact ⟨_, _, retOut Y C.1 (i := .lreturn) hret rfl (Or.inr (Or.inl ⟨rfl, rfl, _, rfl⟩)) (hb C.2.2.2.1 hd) hr, hrun, hended, _, locs, rfl, ⟨by show Q _ T.heap; rw [eT]; exact hQ, N⟩, ⟨_, rfl⟩, hW, hsame.mono hc hs⟩
theorem OGo.retA (C : Cx p s m c Z own by0 ml) (X : Sd p l e R s m args below meth c n0 T h cells slots) {z : Value} {rest : List Value} {t : FieldType} {Q : Option Value → Heap → Prop} {nc ns : Nat} (hd : decode by0 pc = .ok (.areturn, 1)) (hret : meth.sig.returnType = some t) (ht : t.isReference = true) (hz : z.isRef = true) (hlk : meth.locks = false) (hQ : Q (some z) h) (hc : cells ≤ nc) (hs : slots ≤ ns) : OGo p e below (Kk s below n0 Q nc ns) T (mkF m pc Ls (z :: rest)) := by
  obtain ⟨eT, hn0, locs, Y, N⟩ := X
  obtain ⟨fs, hr, hrun, hended, hW, hsame⟩ := Y.leave (v := some z) (fun hh => by rw [hret] at hh; cases hh) hlk
  exact ⟨_, _, retOut Y C.1 (i := .areturn) hret (by rcases ref_cases hz with rfl | ⟨b, rfl⟩ <;> cases t <;> first | rfl | cases ht) (Or.inr (Or.inr (Or.inr (Or.inr ⟨rfl, ht, hz⟩)))) (hb C.2.2.2.1 hd) hr, hrun, hended, _, locs, rfl, ⟨by show Q _ T.heap; rw [eT]; exact hQ, N⟩, ⟨_, rfl⟩, hW, hsame.mono hc hs⟩
theorem backC {y : MethodName} {cb : ByteArray} {cml : Nat} {ret : Option FieldType} {rm : Room} {as' : Array Value} {Q : Option Value → Heap → Prop} {len W : Nat} (hM : Ctr l Z y cb cml ret rm n0 as' h Q) (hZ : Z.Warmed39 s.vm) (wc : (Jvm.Cond.code y cb cml ret).before a0 Z = true) (wz : (Jvm.Cond.initialized y.cls).before a0 Z = true) (hf : rm.frames + 1 ≤ R.frames) (hl : W + (cml + 11) + rm.locals ≤ R.locals) :
    Back l R p e below s args y len W (fun A a => a = as' ∧ A.U.heap = h ∧ A.cells + rm.cells ≤ R.cells ∧ A.slots + rm.slots ≤ R.slots) (fun A _ v B => ∃ L, ((Q v B.U.heap ∧ h.size ≤ B.U.heap.size) ∧ Fr n0 L) ∧ B.locs = A.locs ++ L ∧ B.cells = A.cells + rm.cells ∧ B.slots = A.slots + rm.slots) :=
  backOf (Q := fun v h' L => (Q v h' ∧ h.size ≤ h'.size) ∧ Fr n0 L) (hM []) hZ wc wz hf hl
theorem OGo.callS (C : Cx p s m c Z own by0 ml) (X : Sd p l e R s m args below meth c n0 T h cells slots) {y : MethodName} {cb : ByteArray} {cml : Nat} {ret : Option FieldType} {rm : Room} {as' : Array Value} {Q : Option Value → Heap → Prop} {idx : Nat}  (w1 : (Jvm.Cond.methodLink own idx y).before a0 Z = true) (w2 : (Jvm.Cond.static y).before a0 Z = true) (hy : y.cls ≠ "java/lang/invoke/MethodHandle" ∧ y.cls ≠ "java/lang/invoke/VarHandle") (w4 : (Jvm.Cond.code y cb cml ret).before a0 Z = true) (w5 : (Jvm.Cond.initialized y.cls).before a0 Z = true) (hM : Ctr l Z y cb cml ret rm n0 as' h Q) {argsL : List Value} (hlen : ∀ sig, parseMethodDescriptor y.desc = some sig → argsL.length = sig.parameters.length) (has : argsL.toArray = as') (hd : decode by0 pc = .ok (.invokestatic idx, 3)) (hp : pc + 3 = pc') (hsz : Ls.size = ml) (hf : rm.frames + 1 ≤ R.frames) (hl : (St.map fun v => v.category).sum + (cml + 11) + rm.locals ≤ R.locals) (hc' : cells + rm.cells = cells') (hs' : slots + rm.slots = slots') (hc : cells' ≤ R.cells) (hs : slots' ≤ R.slots)
    (hr : ∀ v T' h', Q v h' → Sd p l e R s m args below meth c n0 T' h' cells' slots' → h.size ≤ h'.size → OGo p e below K T' (mkF m pc' Ls (v.toList ++ St))) : OGo p e below K T (mkF m pc Ls (argsL.reverse ++ St)) := by
  subst hp hc' hs' has
  obtain ⟨eT, hn0, locs, Y, N⟩ := X
  have hK := backC (args := args) (p := p) (e := e) (below := below) (R := R) (len := 3) (W := (St.map fun v => v.category).sum) hM C.2.1 w4 w5 hf hl
  obtain ⟨v, _, ⟨B, L2, k2, n2⟩, -, Y', ⟨L, hQ, l1, y1, z1⟩, st⟩ := Jvm.LawKit.callS Y C.1 (y := y) C.2.2.1 (mvT C.2.1 w1) (mvT C.2.1 w2) (mvT C.2.1 w5) (mvT C.2.1 w4) hy hK (g := mkF m pc Ls (argsL.reverse ++ St)) rfl (by rw [C.2.2.2.2]; exact hsz) (argsL := argsL) (rest := St) hlen rfl (by show 2 * 0 + _ ≤ _; omega) (hb C.2.2.2.1 hd) (fun _ _ => ⟨rfl, eT, hc, hs⟩)
  dsimp only [Pt.U, Pt.locs, Pt.cells, Pt.slots] at Y' l1 y1 z1 st hQ
  subst l1 y1 z1
  obtain ⟨⟨hQ, hge⟩, hF⟩ := hQ
  exact OGo.st st (hr v B B.heap hQ ⟨rfl, Nat.le_trans hn0 hge, _, Y', N.app hF⟩ hge)
theorem OGo.callInit (C : Cx p s m c Z own by0 ml) (X : Sd p l e R s m args below meth c n0 T h cells slots) {y : MethodName} {cb : ByteArray} {cml : Nat} {ret : Option FieldType} {rm : Room} {as' : Array Value} {Q : Option Value → Heap → Prop} {idx : Nat} {a : Addr} (hy1 : y.name = "<init>") (hrn : ret = none) (w1 : (Jvm.Cond.methodLink own idx y).before a0 Z = true) (w2 : (Jvm.Cond.instanceMethod y).before a0 Z = true) (hy : y.cls ≠ "java/lang/invoke/MethodHandle" ∧ y.cls ≠ "java/lang/invoke/VarHandle") (w4 : (Jvm.Cond.code y cb cml ret).before a0 Z = true) (w5 : (Jvm.Cond.initialized y.cls).before a0 Z = true) (hM : Ctr l Z y cb cml ret rm n0 as' h Q) {argsL : List Value} (hlen : ∀ sig, parseMethodDescriptor y.desc = some sig → argsL.length = sig.parameters.length) (has : (Value.ref a :: argsL).toArray = as') (hd : decode by0 pc = .ok (.invokespecial idx, 3)) (hp : pc + 3 = pc') (hsz : Ls.size = ml) (hf : rm.frames + 1 ≤ R.frames) (hl : (St.map fun v => v.category).sum + (cml + 11) + rm.locals ≤ R.locals) (hc' : cells + rm.cells = cells') (hs' : slots + rm.slots = slots') (hc : cells' ≤ R.cells) (hs : slots' ≤ R.slots)
    (hr : ∀ v T' h', Q v h' → Sd p l e R s m args below meth c n0 T' h' cells' slots' → h.size ≤ h'.size → OGo p e below K T' (mkF m pc' Ls (v.toList ++ St))) : OGo p e below K T (mkF m pc Ls (argsL.reverse ++ Value.ref a :: St)) := by
  subst hp hc' hs' has
  obtain ⟨eT, hn0, locs, Y, N⟩ := X
  have hK := backC (args := args) (p := p) (e := e) (below := below) (R := R) (len := 3) (W := (St.map fun v => v.category).sum) hM C.2.1 w4 w5 hf hl
  obtain ⟨v, _, ⟨B, L2, k2, n2⟩, -, Y', ⟨L, hQ, l1, y1, z1⟩, st⟩ := Y.specialBack C.1 (y := y) hy1 C.2.2.1 (mvT C.2.1 w1) (mvT C.2.1 w2) (mvT C.2.1 (hrn ▸ w4)) hy hK (g := mkF m pc Ls (argsL.reverse ++ Value.ref a :: St)) rfl (by rw [C.2.2.2.2]; exact hsz) (Steps.refl _) (a := a) (argsL := argsL) (rest := St) hlen rfl (by show 2 * 0 + _ ≤ _; omega) (hb C.2.2.2.1 hd) (fun _ _ => ⟨rfl, eT, hc, hs⟩)
  dsimp only [Pt.U, Pt.locs, Pt.cells, Pt.slots] at Y' l1 y1 z1 st hQ
  subst l1 y1 z1
  obtain ⟨⟨hQ, hge⟩, hF⟩ := hQ
  exact OGo.tr st (hr v B B.heap hQ ⟨rfl, Nat.le_trans hn0 hge, _, Y', N.app hF⟩ hge)
theorem OGo.callV (C : Cx p s m c Z own by0 ml) (X : Sd p l e R s m args below meth c n0 T h cells slots) {y : MethodName} {cb : ByteArray} {cml : Nat} {ret : Option FieldType} {rm : Room} {as' : Array Value} {Q : Option Value → Heap → Prop} {idx : Nat} {a : Addr} {Cn : String} (w1 : (Jvm.Cond.methodLink own idx y).before a0 Z = true) (w2 : (Jvm.Cond.declares y).before a0 Z = true) (w3 : (Jvm.Cond.selects Cn y y).before a0 Z = true) (w6 : (Jvm.Cond.instanceMethod y).before a0 Z = true) (hy : y.cls ≠ "java/lang/invoke/MethodHandle" ∧ y.cls ≠ "java/lang/invoke/VarHandle") (E : Exa Z h a Cn) (w4 : (Jvm.Cond.code y cb cml ret).before a0 Z = true) (w5 : (Jvm.Cond.initialized y.cls).before a0 Z = true) (hM : Ctr l Z y cb cml ret rm n0 as' h Q) {argsL : List Value} (hlen : ∀ sig, parseMethodDescriptor y.desc = some sig → argsL.length = sig.parameters.length) (has : (Value.ref a :: argsL).toArray = as') (hd : decode by0 pc = .ok (.invokevirtual idx, 3)) (hp : pc + 3 = pc') (hsz : Ls.size = ml) (hf : rm.frames + 1 ≤ R.frames) (hl : (St.map fun v => v.category).sum + (cml + 11) + rm.locals ≤ R.locals) (hc' : cells + rm.cells = cells') (hs' : slots + rm.slots = slots') (hc : cells' ≤ R.cells) (hs : slots' ≤ R.slots)
    (hr : ∀ v T' h', Q v h' → Sd p l e R s m args below meth c n0 T' h' cells' slots' → h.size ≤ h'.size → OGo p e below K T' (mkF m pc' Ls (v.toList ++ St))) : OGo p e below K T (mkF m pc Ls (argsL.reverse ++ Value.ref a :: St)) := by
  subst hp hc' hs' has
  obtain ⟨eT, hn0, locs, Y, N⟩ := X
  have hK := backC (args := args) (p := p) (e := e) (below := below) (R := R) (len := 3) (W := (St.map fun v => v.category).sum) hM C.2.1 w4 w5 hf hl
  obtain ⟨v, _, ⟨B, L2, k2, n2⟩, -, Y', ⟨L, hQ, l1, y1, z1⟩, st⟩ := (let ⟨_, _, q1, _, q3⟩ := isOf C.2.1 eT E; Y.virtualBack C.1 (y := y) (z := y) C.2.2.1 (mvT C.2.1 w1) (mvT C.2.1 w2) (notFace_of_selects (args := #[]) (mvT C.2.1 w3)) (mvT C.2.1 w3) (mvT C.2.1 w6) hy hK q1 q3 (g := mkF m pc Ls (argsL.reverse ++ Value.ref a :: St)) rfl (by rw [C.2.2.2.2]; exact hsz) (Steps.refl _) (argsL := argsL) (rest := St) hlen rfl (by show 2 * 0 + _ ≤ _; omega) (hb C.2.2.2.1 hd) (fun _ _ => ⟨rfl, eT, hc, hs⟩))
  dsimp only [Pt.U, Pt.locs, Pt.cells, Pt.slots] at Y' l1 y1 z1 st hQ
  subst l1 y1 z1
  obtain ⟨⟨hQ, hge⟩, hF⟩ := hQ
  exact OGo.tr st (hr v B B.heap hQ ⟨rfl, Nat.le_trans hn0 hge, _, Y', N.app hF⟩ hge)
theorem OGo.callV2 (C : Cx p s m c Z own by0 ml) (X : Sd p l e R s m args below meth c n0 T h cells slots) {y : MethodName} {cb : ByteArray} {cml : Nat} {ret : Option FieldType} {rm : Room} {as' : Array Value} {Q : Option Value → Heap → Prop} {idx : Nat} {yr : MethodName} {a : Addr} {Cn : String} (w1 : (Jvm.Cond.methodLink own idx yr).before a0 Z = true) (w2 : (Jvm.Cond.declares yr).before a0 Z = true) (hnf : NotFace s yr) (w3 : (Jvm.Cond.selects Cn yr y).before a0 Z = true) (w6 : (Jvm.Cond.instanceMethod y).before a0 Z = true) (hy : yr.cls ≠ "java/lang/invoke/MethodHandle" ∧ yr.cls ≠ "java/lang/invoke/VarHandle") (hds : yr.desc = y.desc) (E : Exa Z h a Cn) (w4 : (Jvm.Cond.code y cb cml ret).before a0 Z = true) (w5 : (Jvm.Cond.initialized y.cls).before a0 Z = true) (hM : Ctr l Z y cb cml ret rm n0 as' h Q) {argsL : List Value} (hlen : ∀ sig, parseMethodDescriptor y.desc = some sig → argsL.length = sig.parameters.length) (has : (Value.ref a :: argsL).toArray = as') (hd : decode by0 pc = .ok (.invokevirtual idx, 3)) (hp : pc + 3 = pc') (hsz : Ls.size = ml) (hf : rm.frames + 1 ≤ R.frames) (hl : (St.map fun v => v.category).sum + (cml + 11) + rm.locals ≤ R.locals) (hc' : cells + rm.cells = cells') (hs' : slots + rm.slots = slots') (hc : cells' ≤ R.cells) (hs : slots' ≤ R.slots)
    (hr : ∀ v T' h', Q v h' → Sd p l e R s m args below meth c n0 T' h' cells' slots' → h.size ≤ h'.size → OGo p e below K T' (mkF m pc' Ls (v.toList ++ St))) : OGo p e below K T (mkF m pc Ls (argsL.reverse ++ Value.ref a :: St)) := by
  subst hp hc' hs' has
  obtain ⟨eT, hn0, locs, Y, N⟩ := X
  have hK := backC (args := args) (p := p) (e := e) (below := below) (R := R) (len := 3) (W := (St.map fun v => v.category).sum) hM C.2.1 w4 w5 hf hl
  obtain ⟨v, _, ⟨B, L2, k2, n2⟩, -, Y', ⟨L, hQ, l1, y1, z1⟩, st⟩ := (let ⟨_, _, q1, _, q3⟩ := isOf C.2.1 eT E; Y.virtualBack C.1 (y := yr) (z := y) C.2.2.1 (mvT C.2.1 w1) (mvT C.2.1 w2) hnf (mvT C.2.1 w3) (mvT C.2.1 w6) hy hK q1 q3 (g := mkF m pc Ls (argsL.reverse ++ Value.ref a :: St)) rfl (by rw [C.2.2.2.2]; exact hsz) (Steps.refl _) (argsL := argsL) (rest := St) (hds ▸ hlen) rfl (by show 2 * 0 + _ ≤ _; omega) (hb C.2.2.2.1 hd) (fun _ _ => ⟨rfl, eT, hc, hs⟩))
  dsimp only [Pt.U, Pt.locs, Pt.cells, Pt.slots] at Y' l1 y1 z1 st hQ
  subst l1 y1 z1
  obtain ⟨⟨hQ, hge⟩, hF⟩ := hQ
  exact OGo.tr st (hr v B B.heap hQ ⟨rfl, Nat.le_trans hn0 hge, _, Y', N.app hF⟩ hge)
theorem OGo.clone (C : Cx p s m c Z own by0 ml) (X : Sd p l e R s m args below meth c n0 T h cells slots) {ad : String} {idx : Nat} {a : Addr} {k : ClassId} {ty : FieldType} {z : Int32} {vs : List Value} {dv : Value} {cap : Nat} (w1 : (Jvm.Cond.methodLink own idx ⟨ad, "clone", "()Ljava/lang/Object;"⟩).before a0 Z = true) (w2 : (Jvm.Cond.sameMethod ad "java/lang/Object" "clone" "()Ljava/lang/Object;").before a0 Z = true) (w3 : (Jvm.Cond.native ⟨"java/lang/Object", "clone", "()Ljava/lang/Object;"⟩).before a0 Z = true)
    (w4 : (Jvm.Cond.instanceMethod ⟨"java/lang/Object", "clone", "()Ljava/lang/Object;"⟩).before a0 Z = true) (w5 : (Jvm.Cond.selects ad ⟨ad, "clone", "()Ljava/lang/Object;"⟩ ⟨"java/lang/Object", "clone", "()Ljava/lang/Object;"⟩).before a0 Z = true) (w6 : (Jvm.Cond.castable ad "java/lang/Cloneable").before a0 Z = true) (V : Arv Z h a k ty z vs dv) (E : Exa Z h a ad)
    (hd : decode by0 pc = .ok (.invokevirtual idx, 3)) (hp : pc + 3 = pc') (hsz : Ls.size = ml) (hf : 1 ≤ R.frames) (hl : (St.map fun v => v.category).sum + 14 ≤ R.locals) (hcap : z.toNatClampNeg ≤ cap) (hc' : cells + 1 = cells') (hs' : slots + cap = slots') (hc : cells' ≤ R.cells) (hs : slots' ≤ R.slots)
    (hr : ∀ T' h' b, Sd p l e R s m args below meth c n0 T' h' cells' slots' → b = h.size → n0 ≤ b → Ext h h' → Arv Z h' b k ty z vs dv → Exa Z h' b ad → OGo p e below K T' (mkF m pc' Ls (.ref b :: St))) : OGo p e below K T (mkF m pc Ls (.ref a :: St)) := by
  subst hp hc' hs'
  obtain ⟨eT, hn0, locs, Y, N⟩ := X
  obtain ⟨T', h', Y', e', Ex, A, EE, st⟩ := cloneH Y C.1 C.2.1 C.2.2.1 w1 w2 w3 w4 w5 w6 eT (Arv.arh V) E (g := mkF m pc Ls (.ref a :: St)) rfl (by rw [C.2.2.2.2]; exact hsz) rfl (hb C.2.2.2.1 hd) hf (W := (St.map fun v => v.category).sum) (by show 2 * 0 + _ ≤ _; omega) hl hcap hc hs
  exact OGo.st st (hr T' h' _ ⟨e', Nat.le_trans hn0 Ex.1, _, Y', N⟩ rfl hn0 Ex A EE)
theorem priv_selects {y : MethodName} {k : Nat} (hZ : Z.Warmed39 s.vm) (w2 : (Jvm.Cond.instanceMethod y).before a0 Z = true) (w3 : (Jvm.Cond.privateMethod y).before a0 Z = true) (wi : (Jvm.Cond.instantiable y.cls k).before a0 Z = true) (hy : y.cls ≠ "java/lang/invoke/MethodHandle" ∧ y.cls ≠ "java/lang/invoke/VarHandle") : (Jvm.Cond.selects y.cls y y).before args s = true := by
  obtain ⟨c, k, h1, h2, -, h4, -⟩ := Cond.instantiable_spec (show (Jvm.Cond.instantiable y.cls k).before args s = true from mvT hZ wi)
  have h5 : k.isInterface = false := by
    cases hq : k.isInterface
    · rfl
    · rw [hq] at h4; cases h4
  exact selects_self_of_private h1 h2 h5 (Cond.privateMethod_at (mvP hZ w3 (args := #[]))) (mvT hZ w2) hy
theorem OGo.callPriv (C : Cx p s m c Z own by0 ml) (X : Sd p l e R s m args below meth c n0 T h cells slots) {y : MethodName} {cb : ByteArray} {cml : Nat} {ret : Option FieldType} {rm : Room} {as' : Array Value} {Q : Option Value → Heap → Prop} {idx : Nat} {a : Addr} {Cn : String} {kk : Nat} (w1 : (Jvm.Cond.methodLink own idx y).before a0 Z = true) (w2 : (Jvm.Cond.instanceMethod y).before a0 Z = true) (w3 : (Jvm.Cond.privateMethod y).before a0 Z = true) (wi : (Jvm.Cond.instantiable y.cls kk).before a0 Z = true) (hy : y.cls ≠ "java/lang/invoke/MethodHandle" ∧ y.cls ≠ "java/lang/invoke/VarHandle") (E : Exa Z h a Cn) (w4 : (Jvm.Cond.code y cb cml ret).before a0 Z = true) (w5 : (Jvm.Cond.initialized y.cls).before a0 Z = true) (hM : Ctr l Z y cb cml ret rm n0 as' h Q) {argsL : List Value} (hlen : ∀ sig, parseMethodDescriptor y.desc = some sig → argsL.length = sig.parameters.length) (has : (Value.ref a :: argsL).toArray = as') (hd : decode by0 pc = .ok (.invokevirtual idx, 3)) (hp : pc + 3 = pc') (hsz : Ls.size = ml) (hf : rm.frames + 1 ≤ R.frames) (hl : (St.map fun v => v.category).sum + (cml + 11) + rm.locals ≤ R.locals) (hc' : cells + rm.cells = cells') (hs' : slots + rm.slots = slots') (hc : cells' ≤ R.cells) (hs : slots' ≤ R.slots)
    (hr : ∀ v T' h', Q v h' → Sd p l e R s m args below meth c n0 T' h' cells' slots' → h.size ≤ h'.size → OGo p e below K T' (mkF m pc' Ls (v.toList ++ St))) : OGo p e below K T (mkF m pc Ls (argsL.reverse ++ Value.ref a :: St)) := by
  subst hp hc' hs' has
  obtain ⟨eT, hn0, locs, Y, N⟩ := X
  have hK := backC (args := args) (p := p) (e := e) (below := below) (R := R) (len := 3) (W := (St.map fun v => v.category).sum) hM C.2.1 w4 w5 hf hl
  obtain ⟨v, _, ⟨B, L2, k2, n2⟩, -, Y', ⟨L, hQ, l1, y1, z1⟩, st⟩ := (let ⟨_, q1, q2⟩ := E.cell; Y.privateBack C.1 (y := y) C.2.2.1 (mvT C.2.1 w1) (mvT C.2.1 w2) (priv_selects C.2.1 w2 w3 wi hy) (Cond.privateMethod_at (mvP C.2.1 w3 (args := #[]))) (mvT C.2.1 w4) hy hK (g := mkF m pc Ls (argsL.reverse ++ Value.ref a :: St)) rfl (by rw [C.2.2.2.2]; exact hsz) (Steps.refl _) (a := a) (by rw [eT]; exact q1) q2 (argsL := argsL) (rest := St) hlen rfl (by show 2 * 0 + _ ≤ _; omega) (hb C.2.2.2.1 hd) (fun _ _ => ⟨rfl, eT, hc, hs⟩))
  dsimp only [Pt.U, Pt.locs, Pt.cells, Pt.slots] at Y' l1 y1 z1 st hQ
  subst l1 y1 z1
  obtain ⟨⟨hQ, hge⟩, hF⟩ := hQ
  exact OGo.tr st (hr v B B.heap hQ ⟨rfl, Nat.le_trans hn0 hge, _, Y', N.app hF⟩ hge)
theorem OGo.callI (C : Cx p s m c Z own by0 ml) (X : Sd p l e R s m args below meth c n0 T h cells slots) {y : MethodName} {cb : ByteArray} {cml : Nat} {ret : Option FieldType} {rm : Room} {as' : Array Value} {Q : Option Value → Heap → Prop} {idx : Nat} {xi : MethodName} {a : Addr} {Cn : String} {cnt : Nat} (w1 : (Jvm.Cond.methodLink own idx xi).before a0 Z = true) (w2 : (Jvm.Cond.declares xi).before a0 Z = true) (w3 : (Jvm.Cond.interfaceMethod xi.cls xi.cls xi.name xi.desc).before a0 Z = true) (w6 : (Jvm.Cond.selects Cn xi y).before a0 Z = true) (w7 : (Jvm.Cond.instanceMethod y).before a0 Z = true) (w8 : (Jvm.Cond.publicMethod y).before a0 Z = true) (w9 : (Jvm.Cond.unhidden Cn xi.name xi.desc).before a0 Z = true) (w10 : (Jvm.Cond.castable Cn xi.cls).before a0 Z = true) (hy : xi.cls ≠ "java/lang/invoke/MethodHandle" ∧ xi.cls ≠ "java/lang/invoke/VarHandle") (hds : xi.desc = y.desc) (E : Exa Z h a Cn) (w4 : (Jvm.Cond.code y cb cml ret).before a0 Z = true) (w5 : (Jvm.Cond.initialized y.cls).before a0 Z = true) (hM : Ctr l Z y cb cml ret rm n0 as' h Q) {argsL : List Value} (hlen : ∀ sig, parseMethodDescriptor y.desc = some sig → argsL.length = sig.parameters.length) (has : (Value.ref a :: argsL).toArray = as') (hd : decode by0 pc = .ok (.invokeinterface idx cnt, 5)) (hp : pc + 5 = pc') (hsz : Ls.size = ml) (hf : rm.frames + 1 ≤ R.frames) (hl : (St.map fun v => v.category).sum + (cml + 11) + rm.locals ≤ R.locals) (hc' : cells + rm.cells = cells') (hs' : slots + rm.slots = slots') (hc : cells' ≤ R.cells) (hs : slots' ≤ R.slots)
    (hr : ∀ v T' h', Q v h' → Sd p l e R s m args below meth c n0 T' h' cells' slots' → h.size ≤ h'.size → OGo p e below K T' (mkF m pc' Ls (v.toList ++ St))) : OGo p e below K T (mkF m pc Ls (argsL.reverse ++ Value.ref a :: St)) := by
  subst hp hc' hs' has
  obtain ⟨eT, hn0, locs, Y, N⟩ := X
  have hK := backC (args := args) (p := p) (e := e) (below := below) (R := R) (len := 5) (W := (St.map fun v => v.category).sum) hM C.2.1 w4 w5 hf hl
  obtain ⟨v, _, ⟨B, L2, k2, n2⟩, -, Y', ⟨L, hQ, l1, y1, z1⟩, st⟩ := (let ⟨_, _, q1, q2, q3⟩ := isOf C.2.1 eT E; Y.interfaceBack C.1 (xi := xi) (y := y) C.2.2.1 (mvT C.2.1 w1) (mvT C.2.1 w2) (mvT C.2.1 w3 (by simp [Cond.onTables, Cond.keepsFace, Cond.faceAtom, Cond.keeps, Cond.steady, hy.1, hy.2])) (mvT C.2.1 w6) (mvT C.2.1 w7) (mvT C.2.1 w8) (mvT C.2.1 w9) (mvT C.2.1 w10) hy hK q1 q2 q3 (g := mkF m pc Ls (argsL.reverse ++ Value.ref a :: St)) rfl (by rw [C.2.2.2.2]; exact hsz) (Steps.refl _) (argsL := argsL) (rest := St) (hds ▸ hlen) rfl (by show 2 * 0 + _ ≤ _; omega) (hb C.2.2.2.1 hd) (fun _ _ => ⟨rfl, eT, hc, hs⟩))
  dsimp only [Pt.U, Pt.locs, Pt.cells, Pt.slots] at Y' l1 y1 z1 st hQ
  subst l1 y1 z1
  obtain ⟨⟨hQ, hge⟩, hF⟩ := hQ
  exact OGo.tr st (hr v B B.heap hQ ⟨rfl, Nat.le_trans hn0 hge, _, Y', N.app hF⟩ hge)
theorem sameM {y yw : MethodName} {Cn : String} (w3 : (Jvm.Cond.instanceMethod y).before a0 Z = true) (ws : (Jvm.Cond.selects Cn yw yw).before a0 Z = true) (hc : yw.cls = y.cls) (hy : y.cls ≠ "java/lang/invoke/MethodHandle" ∧ y.cls ≠ "java/lang/invoke/VarHandle") : (Jvm.Cond.sameMethod y.cls y.cls y.name y.desc).before a0 Z = true := by
  obtain ⟨mk, methM, hnamed, -, -, -⟩ := Cond.instanceMethod_spec w3
  have hf := State.methodFound?_of_named hnamed hy
  have hcn := findClass_of_methodNamed hnamed
  obtain ⟨c2, r2, m2, q1, q2, q3, q4, kP, hkP, hkPi⟩ := Cond.selects_spec ws
  have h2 := findClass_of_methodNamed q3
  rw [hc] at h2
  have e : mk.cls = m2.cls := Option.some.inj (hcn.symm.trans h2)
  have hn' : Z.methodNamed? ⟨y.cls, y.name, y.desc⟩ = some mk := hnamed
  simp [Cond.before, Cond.holds, Cond.value, hcn, hf, hn', e, hkP, hkPi]
theorem OGo.callSuper (C : Cx p s m c Z own by0 ml) (X : Sd p l e R s m args below meth c n0 T h cells slots) {y : MethodName} {cb : ByteArray} {cml : Nat} {ret : Option FieldType} {rm : Room} {as' : Array Value} {Q : Option Value → Heap → Prop} {idx : Nat} {a : Addr} {Kn Cn : String} {yw : MethodName} (w1 : (Jvm.Cond.methodLink own idx y).before a0 Z = true) (w2 : (Jvm.Cond.instanceMethod y).before a0 Z = true) (ws : (Jvm.Cond.selects Cn yw yw).before a0 Z = true) (hcl : yw.cls = y.cls) (wsup : (Jvm.Cond.superclass own y.cls).before a0 Z = true) (hn : y.name ≠ "<init>") (hy : y.cls ≠ "java/lang/invoke/MethodHandle" ∧ y.cls ≠ "java/lang/invoke/VarHandle") (F : Ins Z h a Kn true) (w4 : (Jvm.Cond.code y cb cml ret).before a0 Z = true) (w5 : (Jvm.Cond.initialized y.cls).before a0 Z = true) (hM : Ctr l Z y cb cml ret rm n0 as' h Q) {argsL : List Value} (hlen : ∀ sig, parseMethodDescriptor y.desc = some sig → argsL.length = sig.parameters.length) (has : (Value.ref a :: argsL).toArray = as') (hd : decode by0 pc = .ok (.invokespecial idx, 3)) (hp : pc + 3 = pc') (hsz : Ls.size = ml) (hf : rm.frames + 1 ≤ R.frames) (hl : (St.map fun v => v.category).sum + (cml + 11) + rm.locals ≤ R.locals) (hc' : cells + rm.cells = cells') (hs' : slots + rm.slots = slots') (hc : cells' ≤ R.cells) (hs : slots' ≤ R.slots)
    (hr : ∀ v T' h', Q v h' → Sd p l e R s m args below meth c n0 T' h' cells' slots' → h.size ≤ h'.size → OGo p e below K T' (mkF m pc' Ls (v.toList ++ St))) : OGo p e below K T (mkF m pc Ls (argsL.reverse ++ Value.ref a :: St)) := by
  subst hp hc' hs' has
  obtain ⟨eT, hn0, locs, Y, N⟩ := X
  have hK := backC (args := args) (p := p) (e := e) (below := below) (R := R) (len := 3) (W := (St.map fun v => v.category).sum) hM C.2.1 w4 w5 hf hl
  obtain ⟨v, _, ⟨B, L2, k2, n2⟩, -, Y', ⟨L, hQ, l1, y1, z1⟩, st⟩ := superBack Y C.1 C.2.1 C.2.2.1 w1 (sameM w2 ws hcl hy) w2 wsup hn hK eT F (g := mkF m pc Ls (argsL.reverse ++ Value.ref a :: St)) rfl (by rw [C.2.2.2.2]; exact hsz) w4 (argsL := argsL) (rest := St) hlen rfl (by show 2 * 0 + _ ≤ _; omega) (hb C.2.2.2.1 hd) (fun _ _ => ⟨rfl, eT, hc, hs⟩)
  dsimp only [Pt.U, Pt.locs, Pt.cells, Pt.slots] at Y' l1 y1 z1 st hQ
  subst l1 y1 z1
  obtain ⟨⟨hQ, hge⟩, hF⟩ := hQ
  exact OGo.tr st (hr v B B.heap hQ ⟨rfl, Nat.le_trans hn0 hge, _, Y', N.app hF⟩ hge)
theorem priv_selects2 {y yw : MethodName} {Cn : String} (hZ : Z.Warmed39 s.vm) (w2 : (Jvm.Cond.instanceMethod y).before a0 Z = true) (w3 : (Jvm.Cond.privateMethod y).before a0 Z = true) (ws : (Jvm.Cond.selects Cn yw yw).before a0 Z = true) (hcl : yw.cls = y.cls) (hy : y.cls ≠ "java/lang/invoke/MethodHandle" ∧ y.cls ≠ "java/lang/invoke/VarHandle") : (Jvm.Cond.selects y.cls y y).before args s = true := by
  obtain ⟨c2, r2, m2, q1, q2, q3, q4, kP, hkP, hkPi⟩ := Cond.selects_spec (show (Jvm.Cond.selects Cn yw yw).before args s = true from mvT hZ ws)
  have h2 := findClass_of_methodNamed q3
  rw [hcl] at h2
  exact selects_self_of_private h2 hkP hkPi (Cond.privateMethod_at (mvP hZ w3 (args := #[]))) (mvT hZ w2) hy
theorem OGo.callPriv2 (C : Cx p s m c Z own by0 ml) (X : Sd p l e R s m args below meth c n0 T h cells slots) {y : MethodName} {cb : ByteArray} {cml : Nat} {ret : Option FieldType} {rm : Room} {as' : Array Value} {Q : Option Value → Heap → Prop} {idx : Nat} {a : Addr} {Cn Dn : String} {yw : MethodName} (w1 : (Jvm.Cond.methodLink own idx y).before a0 Z = true) (w2 : (Jvm.Cond.instanceMethod y).before a0 Z = true) (w3 : (Jvm.Cond.privateMethod y).before a0 Z = true) (ws : (Jvm.Cond.selects Dn yw yw).before a0 Z = true) (hcl : yw.cls = y.cls) (hy : y.cls ≠ "java/lang/invoke/MethodHandle" ∧ y.cls ≠ "java/lang/invoke/VarHandle") (E : Exa Z h a Cn) (w4 : (Jvm.Cond.code y cb cml ret).before a0 Z = true) (w5 : (Jvm.Cond.initialized y.cls).before a0 Z = true) (hM : Ctr l Z y cb cml ret rm n0 as' h Q) {argsL : List Value} (hlen : ∀ sig, parseMethodDescriptor y.desc = some sig → argsL.length = sig.parameters.length) (has : (Value.ref a :: argsL).toArray = as') (hd : decode by0 pc = .ok (.invokevirtual idx, 3)) (hp : pc + 3 = pc') (hsz : Ls.size = ml) (hf : rm.frames + 1 ≤ R.frames) (hl : (St.map fun v => v.category).sum + (cml + 11) + rm.locals ≤ R.locals) (hc' : cells + rm.cells = cells') (hs' : slots + rm.slots = slots') (hc : cells' ≤ R.cells) (hs : slots' ≤ R.slots)
    (hr : ∀ v T' h', Q v h' → Sd p l e R s m args below meth c n0 T' h' cells' slots' → h.size ≤ h'.size → OGo p e below K T' (mkF m pc' Ls (v.toList ++ St))) : OGo p e below K T (mkF m pc Ls (argsL.reverse ++ Value.ref a :: St)) := by
  subst hp hc' hs' has
  obtain ⟨eT, hn0, locs, Y, N⟩ := X
  have hK := backC (args := args) (p := p) (e := e) (below := below) (R := R) (len := 3) (W := (St.map fun v => v.category).sum) hM C.2.1 w4 w5 hf hl
  obtain ⟨v, _, ⟨B, L2, k2, n2⟩, -, Y', ⟨L, hQ, l1, y1, z1⟩, st⟩ := (let ⟨_, q1, q2⟩ := E.cell; Y.privateBack C.1 (y := y) C.2.2.1 (mvT C.2.1 w1) (mvT C.2.1 w2) (priv_selects2 C.2.1 w2 w3 ws hcl hy) (Cond.privateMethod_at (mvP C.2.1 w3 (args := #[]))) (mvT C.2.1 w4) hy hK (g := mkF m pc Ls (argsL.reverse ++ Value.ref a :: St)) rfl (by rw [C.2.2.2.2]; exact hsz) (Steps.refl _) (a := a) (by rw [eT]; exact q1) q2 (argsL := argsL) (rest := St) hlen rfl (by show 2 * 0 + _ ≤ _; omega) (hb C.2.2.2.1 hd) (fun _ _ => ⟨rfl, eT, hc, hs⟩))
  dsimp only [Pt.U, Pt.locs, Pt.cells, Pt.slots] at Y' l1 y1 z1 st hQ
  subst l1 y1 z1
  obtain ⟨⟨hQ, hge⟩, hF⟩ := hQ
  exact OGo.tr st (hr v B B.heap hQ ⟨rfl, Nat.le_trans hn0 hge, _, Y', N.app hF⟩ hge)
theorem notface_of {y yw : MethodName} {Cn : String} (hZ : Z.Warmed39 s.vm) (ws : (Jvm.Cond.selects Cn yw yw).before a0 Z = true) (hcl : yw.cls = y.cls) : NotFace s y := fun r0 h0 => by
  obtain ⟨c2, r2, m2, q1, q2, q3, q4, kP, hkP, hkPi⟩ := Cond.selects_spec (show (Jvm.Cond.selects Cn yw yw).before (#[] : Array Value) s = true from mvT hZ ws)
  have h2 := findClass_of_methodNamed q3
  have h1 := findClass_of_methodNamed h0
  rw [hcl] at h2
  have e : r0.cls = m2.cls := Option.some.inj (h1.symm.trans h2)
  exact ⟨kP, by rw [e]; exact hkP, hkPi⟩
theorem OGo.natS (C : Cx p s m c Z own by0 ml) (X : Sd p l e R s m args below meth c n0 T h cells slots) {y : MethodName} {cb : ByteArray} {cml : Nat} {rt : Option FieldType} {idx : Nat} {val : Value} {F : Array Value → Prop} (w1 : (Jvm.Cond.methodLink own idx y).before a0 Z = true) (w2 : (Jvm.Cond.static y).before a0 Z = true) (w3 : (Jvm.Cond.initialized y.cls).before a0 Z = true) (w4 : (Jvm.Cond.code y cb cml rt).before a0 Z = true) (hy : y.cls ≠ "java/lang/invoke/MethodHandle" ∧ y.cls ≠ "java/lang/invoke/VarHandle")
    {argsL : List Value} (hlen : ∀ sig, parseMethodDescriptor y.desc = some sig → argsL.length = sig.parameters.length) (hd : decode by0 pc = .ok (.invokestatic idx, 3)) (hp : pc + 3 = pc') (hsz : Ls.size = ml) (hc : cells ≤ R.cells) (hs : slots ≤ R.slots)
    (hK : (Jvm.Cond.code y cb cml rt).before args s = true → Back l R p e below s args y 3 ((St.map fun v => v.category).sum) (fun A a' => A.cells ≤ R.cells ∧ A.slots ≤ R.slots ∧ F a') (fun A _ v B => v = some val ∧ B = A)) (hF : F argsL.toArray)
    (hr : ∀ T', Sd p l e R s m args below meth c n0 T' h cells slots → OGo p e below K T' (mkF m pc' Ls (val :: St))) : OGo p e below K T (mkF m pc Ls (argsL.reverse ++ St)) := by
  subst hp
  obtain ⟨eT, hn0, locs, Y, N⟩ := X
  obtain ⟨T', Y', e', st⟩ := RoadKit.natS Y C.1 C.2.1 C.2.2.1 w1 w2 w3 w4 hy eT hK (g := mkF m pc Ls (argsL.reverse ++ St)) rfl (by rw [C.2.2.2.2]; exact hsz) hlen rfl (by show 2 * 0 + _ ≤ _; omega) (hb C.2.2.2.1 hd) hc hs hF rfl
  exact OGo.st st (hr T' ⟨e', hn0, _, Y', N⟩)
theorem OGo.instNull (C : Cx p s m c Z own by0 ml) (X : Sd p l e R s m args below meth c n0 T h cells slots) {idx : Nat} (hd : decode by0 pc = .ok (.instanceof idx, 3)) (hp : pc + 3 = pc') (hr : OGo p e below K T (mkF m pc' Ls (.int 0 :: St))) : OGo p e below K T (mkF m pc Ls (.null :: St)) := by
  subst hp
  obtain ⟨eT, hn0, locs, Y, N⟩ := X
  exact OGo.st (Y.instanceofNull C.1 (g := mkF m pc Ls (.null :: St)) rfl rfl (hb C.2.2.2.1 hd)) hr
theorem OGo.checkNull (C : Cx p s m c Z own by0 ml) (X : Sd p l e R s m args below meth c n0 T h cells slots) {idx : Nat} (hd : decode by0 pc = .ok (.checkcast idx, 3)) (hp : pc + 3 = pc') (hr : OGo p e below K T (mkF m pc' Ls (.null :: St))) : OGo p e below K T (mkF m pc Ls (.null :: St)) := by
  subst hp
  obtain ⟨eT, hn0, locs, Y, N⟩ := X
  exact OGo.st (Y.checkcastNull C.1 (g := mkF m pc Ls (.null :: St)) rfl rfl (hb C.2.2.2.1 hd)) hr
theorem OGo.aaload (C : Cx p s m c Z own by0 ml) (X : Sd p l e R s m args below meth c n0 T h cells slots) {a : Addr} {cl : Cell} {ty : FieldType} (A : Arr Z h a cl ty) (hty : ty.isReference = true) {j : Int32} {v : Value} (hin : ¬ (j < 0 ∨ cl.slots.size ≤ j.toNatClampNeg)) (hv : cl.slots[j.toNatClampNeg]? = some v) (hd : decode by0 pc = .ok (.aaload, 1)) (hp : pc + 1 = pc') (hr : OGo p e below K T (mkF m pc' Ls (v :: St))) : OGo p e below K T (mkF m pc Ls (.int j :: .ref a :: St)) := by
  subst hp
  obtain ⟨eT, hn0, locs, Y, N⟩ := X
  exact OGo.st (fun t k => Y.aaload C.1 (by rw [eT]; exact A.1) (State.isArrayOf_alike C.2.1.alike A.2.1) hty A.2.2 hin hv (g := mkF m pc Ls (.int j :: .ref a :: St)) rfl rfl (hb C.2.2.2.1 hd) t k) hr
theorem OGo.rawBits (C : Cx p s m c Z own by0 ml) (X : Sd p l e R s m args below meth c n0 T h cells slots) {idx : Nat} {b : UInt64} (w1 : (Jvm.Cond.methodLink own idx doubleToRawLongBitsName).before a0 Z = true) (w2 : (Jvm.Cond.native doubleToRawLongBitsName).before a0 Z = true) (w3 : (Jvm.Cond.static doubleToRawLongBitsName).before a0 Z = true) (w4 : (Jvm.Cond.initialized "java/lang/Double").before a0 Z = true) (hd : decode by0 pc = .ok (.invokestatic idx, 3)) (hp : pc + 3 = pc') (hsz : Ls.size = ml) (hf : 1 ≤ R.frames) (hl : (St.map fun v => v.category).sum + 15 ≤ R.locals)
    (hr : ∀ T', Sd p l e R s m args below meth c n0 T' h cells slots → OGo p e below K T' (mkF m pc' Ls (.long b.toInt64 :: St))) : OGo p e below K T (mkF m pc Ls (.double b :: St)) := by
  subst hp
  obtain ⟨eT, hn0, locs, Y, N⟩ := X
  obtain ⟨vm', Y', st⟩ := Y.doubleToRawLongBits C.1 C.2.2.1 (mvT C.2.1 w1) (mvT C.2.1 w2) (mvT C.2.1 w3) (mvT C.2.1 w4) (g := mkF m pc Ls (.double b :: St)) rfl (by rw [C.2.2.2.2]; exact hsz) rfl (hb C.2.2.2.1 hd) hf (by show 2 * 0 + _ + (4 + 11) ≤ _; omega)
  exact OGo.st st (hr _ ⟨eT, hn0, _, Y', N⟩)
theorem OGo.acopy (C : Cx p s m c Z own by0 ml) (X : Sd p l e R s m args below meth c n0 T h cells slots) {idx : Nat} {a b : Addr} {k k' : ClassId} {ty : FieldType} {z z' sp dp nn : Int32} {vs vd us vr : List Value} {dv dd : Value} (w1 : (Jvm.Cond.methodLink own idx Jvm.Stand.acN).before a0 Z = true) (w2 : (Jvm.Cond.native Jvm.Stand.acN).before a0 Z = true) (w3 : (Jvm.Cond.static Jvm.Stand.acN).before a0 Z = true) (w4 : (Jvm.Cond.initialized "java/lang/System").before a0 Z = true)
    (A : Arv Z h a k ty z vs dv) (B : Arv Z h b k' ty z' vd dd) (hp : refKind ty = false) (h1 : ¬ sp < 0) (h2 : ¬ dp < 0) (h3 : ¬ nn < 0) (h4 : sp.toNatClampNeg + nn.toNatClampNeg ≤ z.toNatClampNeg) (h5 : dp.toNatClampNeg + nn.toNatClampNeg ≤ z'.toNatClampNeg)
    (hus : us = (List.range nn.toNatClampNeg).map fun i => vs.getD (sp.toNatClampNeg + i) dv) (hl : dp.toNatClampNeg + nn.toNatClampNeg ≤ vd.length) (hv : vd.take dp.toNatClampNeg ++ us ++ vd.drop (dp.toNatClampNeg + nn.toNatClampNeg) = vr) (ga : n0 ≤ b) (hd : decode by0 pc = .ok (.invokestatic idx, 3)) (hpc : pc + 3 = pc') (hsz : Ls.size = ml) (hf : 1 ≤ R.frames) (hlo : (St.map fun v => v.category).sum + 18 ≤ R.locals)
    (hr : ∀ T' h', Sd p l e R s m args below meth c n0 T' h' cells slots → Keep h h' [b] → Arv Z h' b k' ty z' vr dd → OGo p e below K T' (mkF m pc' Ls St)) : OGo p e below K T (mkF m pc Ls (.int nn :: .int dp :: .ref b :: .int sp :: .ref a :: St)) := by
  subst hpc hv
  obtain ⟨eT, hn0, locs, Y, N⟩ := X
  obtain ⟨T', h', L, Y', e', N', Kp, V, st⟩ := cpA Y C.1 C.2.1 C.2.2.1 w1 w2 w3 w4 eT A B (Or.inl ⟨rfl, hp⟩) h1 h2 h3 h4 h5 hus hl N ga (g := mkF m pc Ls (.int nn :: .int dp :: .ref b :: .int sp :: .ref a :: St)) rfl (by rw [C.2.2.2.2]; exact hsz) rfl (hb C.2.2.2.1 hd) hf (W := (St.map fun v => v.category).sum) (by show 2 * 0 + _ ≤ _; omega) (by show _ + (7 + 11) ≤ _; omega)
  exact OGo.st st (hr T' h' ⟨e', Nat.le_trans hn0 Kp.1, _, Y', N'⟩ Kp V)
theorem pop2Wide {tb : Tables} [Ours tb] {e : Env} {below : List Frame} {T target : State} {m : MethodId} {c : Code} {g : JFrame} (h : At T m c below) (hx : tb.exec = Jvm.exec) (hg : g.method = m) {x : Value} {rest : List Value} (hd : decode c.code g.pc = .ok (.pop2, 1)) (hs : g.stack = x :: rest) (hc : x.category = 2)
    (k : Steps tb e below (T.setTop { g with pc := g.pc + 1, stack := rest }) target) : Steps tb e below (T.setTop g) target := by
  subst hg
  jvm_step h [hx, hd, pop2.wp_sem, hs, hc]
  exact k
theorem OGo.pop2W (C : Cx p s m c Z own by0 ml) (X : Sd p l e R s m args below meth c n0 T h cells slots) {x : Value} (hd : decode by0 pc = .ok (.pop2, 1)) (hp : pc + 1 = pc') (hc : x.category = 2) (hr : OGo p e below K T (mkF m pc' Ls St)) : OGo p e below K T (mkF m pc Ls (x :: St)) := by
  subst hp
  obtain ⟨-, -, locs, Y, -⟩ := X
  exact OGo.st (fun t k => pop2Wide Y.here C.1 rfl (hb C.2.2.2.1 hd) rfl hc k) hr
theorem OGo.anewarrayO (C : Cx p s m c Z own by0 ml) (X : Sd p l e R s m args below meth c n0 T h cells slots) {Cn : String} {idx : Nat} {n : Int32} {cap : Nat} (w1 : (Jvm.Cond.classLink own idx Cn).before a0 Z = true) (w2 : (Jvm.Cond.arrayOver (.object Cn)).before a0 Z = true) (hd : decode by0 pc = .ok (.anewarray idx, 3)) (hp : pc + 3 = pc') (hn : ¬ n < 0) (hcap : n.toNatClampNeg ≤ cap) (hb8 : cap * 8 ≤ 536870912) (hc' : cells + 1 = cells') (hs' : slots + cap = slots') (hc : cells' ≤ R.cells) (hl : slots' ≤ R.slots)
    (hr : ∀ T' h' a k, Sd p l e R s m args below meth c n0 T' h' cells' slots' → a = h.size → n0 ≤ a → Ext h h' → Arv Z h' a k (.object Cn) n [] .null → Ovr Z k Cn → OGo p e below K T' (mkF m pc' Ls (.ref a :: St))) : OGo p e below K T (mkF m pc Ls (.int n :: St)) := by
  subst hp hc' hs'
  obtain ⟨eT, hn0, locs, Y, N⟩ := X
  obtain ⟨T', h', cA, Y', e', E, A, O, st⟩ := newR Y C.1 C.2.1 C.2.2.1 w1 w2 eT (g := mkF m pc Ls (.int n :: St)) rfl (hb C.2.2.2.1 hd) rfl hn hcap hb8 hc hl
  exact OGo.st st (hr T' h' _ cA ⟨e', Nat.le_trans hn0 E.1, _, Y', N⟩ rfl hn0 E (Arv.new A hn) O)
theorem OGo.aastoreO (C : Cx p s m c Z own by0 ml) (X : Sd p l e R s m args below meth c n0 T h cells slots) {a y : Addr} {k : ClassId} {Cn Kn : String} {z : Int32} {vs : List Value} {dv : Value} (V : Arv Z h a k (.object Cn) z vs dv) (O : Ovr Z k Kn) (I : Ins Z h y Kn true) (ga : n0 ≤ a) {j : Int32} {i : Nat} (hd : decode by0 pc = .ok (.aastore, 1)) (hp : pc + 1 = pc') (hj : ¬ j < 0 ∧ j < z) (hi : j.toNatClampNeg = i) (hl : i < vs.length)
    (hr : ∀ T' h', Sd p l e R s m args below meth c n0 T' h' cells slots → Wr h h' a i (.ref y) → Arv Z h' a k (.object Cn) z (vs.set i (.ref y)) dv → OGo p e below K T' (mkF m pc' Ls St)) : OGo p e below K T (mkF m pc Ls (.ref y :: .int j :: .ref a :: St)) := by
  subst hp hi
  obtain ⟨eT, hn, locs, Y, N⟩ := X
  obtain ⟨cl, A, q1, S, q, H, Gt⟩ := V
  obtain ⟨T', h', Y', e', W, st⟩ := stR Y C.1 C.2.1 eT A (inb_of S hj) rfl (Sto.of A (by rw [q1]; exact O) I) (g := mkF m pc Ls (.ref y :: .int j :: .ref a :: St)) rfl rfl (hb C.2.2.2.1 hd)
  exact OGo.st st (hr T' h' ⟨e', by rw [W.size]; exact hn, _, Y', Fr.snoc Y' N ga⟩ W (Arv.set A q1 S q H Gt rfl W _ rfl hl))
theorem OGo.aaloadV (C : Cx p s m c Z own by0 ml) (X : Sd p l e R s m args below meth c n0 T h cells slots) {a : Addr} {k : ClassId} {ty : FieldType} {z : Int32} {vs : List Value} {dv : Value} (V : Arv Z h a k ty z vs dv) (hty : ty.isReference = true) {j : Int32} {v : Value} (hd : decode by0 pc = .ok (.aaload, 1)) (hp : pc + 1 = pc') (hj : ¬ j < 0 ∧ j < z) (hv : vs.getD j.toNatClampNeg dv = v) (hr : OGo p e below K T (mkF m pc' Ls (v :: St))) : OGo p e below K T (mkF m pc Ls (.int j :: .ref a :: St)) := by
  subst hp
  obtain ⟨eT, hn0, locs, Y, N⟩ := X
  obtain ⟨cl, A, -, S, q, H, -⟩ := V
  exact OGo.st (fun t k => Y.aaload C.1 (by rw [eT]; exact A.1) (State.isArrayOf_alike C.2.1.alike A.2.1) hty A.2.2 (inb_of S hj) (Has.at H (inb_of S hj) hv) (g := mkF m pc Ls (.int j :: .ref a :: St)) rfl rfl (hb C.2.2.2.1 hd) t k) hr
end OwnGo
end Jvm.Pilot.@@N@@
namespace Jvm.Pilot.@@N@@
open Jvm Jvm.ClassFile Sem Op Lib Jvm.Free Jvm.Stand Jvm.LawKit Jvm.RoadKit Bundle Jvm.Pilot.@@N@@.Jvm.D
section OwnCold
variable {p : Program} {l : Launch} {e : Env} {R : Room} {s : State} {m : MethodId} {args : Array Value} {below : List Frame} {meth : Method} {c : Code} {T : State} {n0 cells slots cells' slots' : Nat} {Z : State} {a0 : Array Value} {h h' h0 : Heap} {K : State → Outcome → Prop} {pc pc' : Nat} {Ls : Array Slot} {St : List Value} {own : String} {by0 : ByteArray} {ml : Nat} {EL : List (String × Nat)} {vm : Vm}
/-- from the body's start (tables s.vm, heap h0) to the tables vm and the heap h at hand -/
def Hd (Z : State) (EL : List (String × Nat)) (s : State) (vm : Vm) (h0 h : Heap) : Prop := ∃ k0, s.Since vm k0 ∧ k0 ≤ h.size ∧ CHr Z EL s.vm h0 vm h
theorem Hd.cv (H : Hd Z EL s vm h0 h) : CHv Z EL vm h := by obtain ⟨_, -, -, A⟩ := H; exact A.1
theorem Hd.to (H : Hd Z EL s vm h0 h) (A : CHr Z EL vm h vm h') : Hd Z EL s vm h0 h' := by obtain ⟨k0, h1, h2, B⟩ := H; exact ⟨k0, h1, Nat.le_trans h2 A.2.1, B.trans A⟩
theorem Hd.ext (H : Hd Z EL s vm h0 h) (E : Ext h h') : Hd Z EL s vm h0 h' := H.to (CHr.ext E H.cv)
theorem Hd.wr (H : Hd Z EL s vm h0 h) {a : Addr} {sl : Nat} {v : Value} (W : Wr h h' a sl v) (S : Safe Z EL vm h a) : Hd Z EL s vm h0 h' := H.to (CHr.wr W S H.cv)
theorem Hd.keep (H : Hd Z EL s vm h0 h) {ws : List Addr} (K : Keep h h' ws) (hs : ∀ x ∈ ws, Safe Z EL vm h x) : Hd Z EL s vm h0 h' := H.to (CHr.keep K hs H.cv)
theorem Hd.start (H : CHv Z EL s.vm h) : Hd Z EL s s.vm h h := ⟨0, (State.WarmedH.refl s).since 0, Nat.zero_le _, CHr.refl H⟩
theorem safe_arv {a : Addr} {k : ClassId} {ty : FieldType} {z : Int32} {vs : List Value} {d : Value} (hal : Z.vm.Alike vm) (V : Arv Z h a k ty z vs d) (ht : ty ≠ .byte) : Safe Z EL vm h a := by obtain ⟨c, A, -⟩ := V; exact Safe.arr hal A ht
theorem sfS {P : Addr → Prop} {a : Addr} {l : List Addr} (h : P a) (g : ∀ x ∈ l, P x) : ∀ x ∈ a :: l, P x := fun x hx => (List.mem_cons.mp hx).elim (fun e => e ▸ h) (g x)
/-- what a body that may load constants owes at its end -/
def Kw (Z : State) (EL : List (String × Nat)) (s : State) (below : List Frame) (n0 : Nat) (h0 : Heap) (Q : Option Value → Heap → (Addr → Prop) → Prop) (nc ns : Nat) : State → Outcome → Prop := fun t o => t.status = .running ∧ Ended t below o ∧ ∃ v L, o = .returned v ∧ (Q v t.heap (fun x => Safe Z EL t.vm t.heap x) ∧ Fr n0 L) ∧ CHr Z EL s.vm h0 t.vm t.heap ∧ ReturnedEndW s o t L nc ns
def CtrW (l : Launch) (Z : State) (EL : List (String × Nat)) (sf : List Addr) (y : MethodName) (by0 : ByteArray) (ml : Nat) (ret : Option FieldType) (rm : Room) (n0 : Nat) (as' : Array Value) (h : Heap) (Q : Option Value → Heap → (Addr → Prop) → Prop) : Prop :=
  ∀ ws, MetFree l y (head1 (Jvm.Cond.code y by0 ml ret :: ws) rm) (fun a U => a = as' ∧ Z.Warmed39 U.vm ∧ U.heap = h ∧ CHv Z EL U.vm h ∧ ∀ x ∈ sf, Safe Z EL U.vm h x) (fun _ _ _ _ _ => True) (fun _ U o U' => ∃ v L, o = .returned v ∧ ((Q v U'.heap (fun x => Safe Z EL U'.vm U'.heap x) ∧ h.size ≤ U'.heap.size) ∧ Fr n0 L) ∧ CHr Z EL U.vm U.heap U'.vm U'.heap ∧ ReturnedEndW U o U' L rm.cells rm.slots)
theorem CtrW.of {sf : List Addr} {y : MethodName} {ret : Option FieldType} {rm : Room} {as' : Array Value} {Q : Option Value → Heap → (Addr → Prop) → Prop} (hpl : plainFor y = true) (hn : n0 ≤ h.size)
    (body : ∀ p e s m below meth c T, Cx p (s.setVm s.vm) m c Z y.cls by0 ml → meth.name = y.name → meth.sig.returnType = ret → meth.locks = false → Sd p l e rm (s.setVm s.vm) m as' below meth c n0 T h 0 0 → Hd Z EL s s.vm h h → (∀ x ∈ sf, Safe Z EL s.vm h x) → OGo p e below (Kw Z EL s below n0 h Q rm.cells rm.slots) T (entryFrame m as' ml)) :
    CtrW l Z EL sf y by0 ml ret rm n0 as' h Q := by
  intro ws
  refine MetFree.of_bodySF hpl hisR ?_
  intro p e s m args below meth c s₁ Bd hml0 hP hK
  obtain ⟨rfl, hZ, hh, hC, hSf⟩ := hP
  have hown : s.vm.findClass y.cls = some m.cls := findClass_of_methodNamed Bd.named
  have hnm := (name_of_methodNamed Bd.named Bd.method).1
  have X0 := Stand.of_body Bd
  have e0 : s₁.heap = h := by rw [← hh, Bd.state]; rfl
  obtain ⟨t, o, h1, h2, h3, v, L, h4, ⟨h5, h6⟩, h8, h7⟩ := body p e s m below meth c s₁ ⟨Bd.exec, hZ, hown, Bd.bytes, hml0⟩ hnm Bd.returns (BodyLoose.notSynchronized Bd) ⟨e0, hn, [], X0, Fr.nil n0⟩ (Hd.start hC) hSf
  exact ⟨t, o, h1, h2, h3, v, L, h4, ⟨⟨h5, h8.2.1⟩, h6⟩, by rw [hh]; exact h8, h7⟩
/-- RoadKit.backOfSH, for a callee that is also told of cells that it may write -/
theorem backOfSP {sf : List Addr} {y : MethodName} {bytes : ByteArray} {maxL : Nat} {ret : Option FieldType} {rm : Room} {len W : Nat} {as' : Array Value} {Q : Option Value → Heap → Vm → List Loc → Prop} {vm0 : Vm}
    (hM : MetFree l y (head1 [Jvm.Cond.code y bytes maxL ret] rm) (fun a U => a = as' ∧ Z.Warmed39 U.vm ∧ U.heap = h ∧ CHv Z EL U.vm h ∧ ∀ x ∈ sf, Safe Z EL U.vm h x) (fun _ _ _ _ _ => True) (fun _ U o U' => ∃ v L, o = .returned v ∧ Q v U'.heap U'.vm L ∧ CHr Z EL U.vm U.heap U'.vm U'.heap ∧ ReturnedEndW U o U' L rm.cells rm.slots))
    (hZ : Z.Warmed39 vm0) (wc : (Jvm.Cond.code y bytes maxL ret).before a0 Z = true) (wz : (Jvm.Cond.initialized y.cls).before a0 Z = true) (hf : rm.frames + 1 ≤ R.frames) (hl : W + (maxL + 11) + rm.locals ≤ R.locals) (hEL : EW Z a0 EL) (H : CHv Z EL vm0 h) (hS : ∀ x ∈ sf, x < h.size ∧ Safe Z EL vm0 h x) :
    BackS l R p e below (s.setVm vm0) args y len W (fun A a => a = as' ∧ A.U.heap = h ∧ A.cells + rm.cells ≤ R.cells ∧ A.slots + rm.slots ≤ R.slots)
      (fun A _ v B => ∃ L, Q v B.U.heap B.U.vm L ∧ B.locs = A.locs ++ L ∧ B.cells = A.cells + rm.cells ∧ B.slots = A.slots + rm.slots ∧ CHr Z EL vm0 h B.U.vm B.U.heap) :=
  BackS.of_freeW (bytes := bytes) (maxL := maxL) (ret := ret) (E := fun _ first o t L k n => k = rm.cells ∧ n = rm.slots ∧ (∃ v, o = .returned v ∧ Q v t.heap t.vm L) ∧ CHr Z EL first.vm first.heap t.vm t.heap) hM hf hl
    (fun m meth c A a Y hp => have hU : Z.Warmed39 A.U.vm := wtrans (s := s.setVm vm0) hZ Y.warmed
      ⟨by show (Jvm.Cond.and _ .tt).before a A.U = true; rw [Cond.before_and, mv hU wc]; rfl, mv hU wc, mv hU wz, hp.2.2.1, hp.2.2.2⟩)
    (fun m meth c A a g mk Y hp => ⟨hp.1, wtrans (s := s.setVm vm0) hZ Y.warmed, hp.2.1, (CHv.at Y hZ hEL H).1, fun x hx => (CHv.at Y hZ hEL H).safe (hS x hx).1 (hS x hx).2⟩) (fun _ _ _ _ _ _ _ _ _ => trivial)
    (fun _ _ _ _ ⟨v, L, h1, h2, h3, h4⟩ => ⟨L, _, _, h4, rfl, rfl, ⟨v, h1, h2⟩, h3⟩)
    (fun m meth c A a g mk v t L k n Y hp _ _ ⟨e1, e2, ⟨v', e3, e4⟩, e5⟩ => by
      cases e3; subst e1 e2
      refine ⟨L, e4, rfl, rfl, rfl, (CHv.at Y hZ hEL H).trans ?_⟩
      rw [← hp.2.1]; exact e5)
/-- a String constant, read -/
theorem OGo.ldcC (C : Cx p (s.setVm vm) m c Z own by0 ml) (X : Sd p l e R (s.setVm vm) m args below meth c n0 T h cells slots) (hEL : EW Z a0 EL) (H : Hd Z EL s vm h0 h) {idx : Nat} {text : String} (w : (Jvm.Cond.stringLink own idx text).before a0 Z = true) (wS : ∀ a ∈ Bundle.stringAtoms, a.before a0 Z = true) (hmem : (own, idx) ∈ EL)
    {vs : List Value} {z : Int32} (ht : (∀ c ∈ text.toList, c.toNat < 256) ∧ text.toList.map (fun c => Value.int (Jvm.Lit.byteI c.toNat.toUInt16)) = vs) (hz : ¬ z < 0) (hl : z.toNatClampNeg = vs.length) (hd : decode by0 pc = .ok (.ldc idx, 2)) (hp : pc + 2 = pc') {n : Nat} (hn : 4 * text.toList.length ≤ n) (hbig : n ≤ 536870912) (hc' : cells + 2 = cells') (hs' : slots + (n + 4) = slots') (hc : cells' ≤ R.cells) (hs : slots' ≤ R.slots)
    (hr : ∀ (vm' : Vm) T' h' a b k, Cx p (s.setVm vm') m c Z own by0 ml → Sd p l e R (s.setVm vm') m args below meth c n0 T' h' cells' slots' → Hd Z EL s vm' h0 h' → Ext h h' → CHr Z EL vm h vm' h' → Exa Z h' a "java/lang/String" → Fld Z h' a "java/lang/String" "coder" "B" (.int (0 : Int32)) → Fld Z h' a "java/lang/String" "value" "[B" (.ref b) → Arv Z h' b k .byte z vs (.int (0 : Int32)) → (∀ x, Safe Z EL vm' h' x → x ≠ a ∧ x ≠ b) → OGo p e below K T' (mkF m pc' Ls (.ref a :: St))) : OGo p e below K T (mkF m pc Ls St) := by
  subst hp hc' hs'
  obtain ⟨eT, hn0, locs, Y, N⟩ := X
  obtain ⟨k0, hS, hk, A⟩ := H
  obtain ⟨a, T', h', k1, b, k, Y', e', E, hS', hk', hZ', hf', x1, x2, x3, x4, -, -, B, -, sf, st⟩ := ldcCH Y C.1 C.2.1 C.2.2.1 w wS eT hS hk hEL hmem A.1 ht hz hl (g := mkF m pc Ls St) rfl (hb C.2.2.2.1 hd) hn hbig hc hs
  exact OGo.st st (hr T'.vm T' h' a b k ⟨C.1, hZ', hf', C.2.2.2⟩ ⟨e', Nat.le_trans hn0 E.1, _, Y', N⟩ ⟨k1, hS', hk', A.trans B⟩ E B x1 x2 x3 x4 sf)
theorem OGo.retW (C : Cx p (s.setVm vm) m c Z own by0 ml) (X : Sd p l e R (s.setVm vm) m args below meth c n0 T h cells slots) (hEL : EW Z a0 EL) (H : Hd Z EL s vm h0 h)  {Q : Option Value → Heap → (Addr → Prop) → Prop} {nc ns : Nat} (hd : decode by0 pc = .ok (.return_, 1)) (hret : meth.sig.returnType = none) (hlk : meth.locks = false) (hQ : ∀ S' : Addr → Prop, (∀ x, x < h.size → Safe Z EL vm h x → S' x) → Q (none) h S') (hc : cells ≤ nc) (hs : slots ≤ ns) : OGo p e below (Kw Z EL s below n0 h0 Q nc ns) T (mkF m pc Ls ([])) := by
  obtain ⟨eT, hn0, locs, Y, N⟩ := X
  obtain ⟨k0, hS, hk, A⟩ := H
  obtain ⟨fs, hr, hrun, hended, hEnd⟩ := Y.leaveW hS (by rw [eT]; exact hk) (v := none) (fun hh => by rfl) hlk
  have B := CHv.at Y C.2.1 hEL A.1
  exact ⟨_, _, Y.returnOut C.1 hret (hb C.2.2.2.1 hd) hr, hrun, hended, _, locs, rfl, ⟨by show Q _ T.heap (fun x => Safe Z EL T.vm T.heap x); rw [eT]; exact hQ _ (fun x lt S => CHr.safe B lt S), N⟩, by show CHr Z EL s.vm h0 T.vm T.heap; rw [eT]; exact A.trans B, hEnd.1, hEnd.2.1, hEnd.2.2.1, hEnd.2.2.2.mono hc hs⟩
theorem OGo.retWInt (C : Cx p (s.setVm vm) m c Z own by0 ml) (X : Sd p l e R (s.setVm vm) m args below meth c n0 T h cells slots) (hEL : EW Z a0 EL) (H : Hd Z EL s vm h0 h) {z : Int32} {rest : List Value} {Q : Option Value → Heap → (Addr → Prop) → Prop} {nc ns : Nat} (hd : decode by0 pc = .ok (.ireturn, 1)) (hret : meth.sig.returnType = some .int) (hlk : meth.locks = false) (hQ : ∀ S' : Addr → Prop, (∀ x, x < h.size → Safe Z EL vm h x → S' x) → Q (some (.int z)) h S') (hc : cells ≤ nc) (hs : slots ≤ ns) : OGo p e below (Kw Z EL s below n0 h0 Q nc ns) T (mkF m pc Ls (.int z :: rest)) := by
  obtain ⟨eT, hn0, locs, Y, N⟩ := X
  obtain ⟨k0, hS, hk, A⟩ := H
  obtain ⟨fs, hr, hrun, hended, hEnd⟩ := Y.leaveW hS (by rw [eT]; exact hk) (v := some (.int z)) (fun hh => by rw [hret] at hh; cases hh) hlk
  have B := CHv.at Y C.2.1 hEL A.1
  exact ⟨_, _, retOut Y C.1 (i := .ireturn) hret rfl (Or.inl ⟨rfl, Or.inl rfl, _, rfl⟩) (hb C.2.2.2.1 hd) hr, hrun, hended, _, locs, rfl, ⟨by show Q _ T.heap (fun x => Safe Z EL T.vm T.heap x); rw [eT]; exact hQ _ (fun x lt S => CHr.safe B lt S), N⟩, by show CHr Z EL s.vm h0 T.vm T.heap; rw [eT]; exact A.trans B, hEnd.1, hEnd.2.1, hEnd.2.2.1, hEnd.2.2.2.mono hc hs⟩
theorem OGo.retWN (C : Cx p (s.setVm vm) m c Z own by0 ml) (X : Sd p l e R (s.setVm vm) m args below meth c n0 T h cells slots) (hEL : EW Z a0 EL) (H : Hd Z EL s vm h0 h) {z z' : Int32} {rest : List Value} {t : FieldType} {Q : Option Value → Heap → (Addr → Prop) → Prop} {nc ns : Nat} (hd : decode by0 pc = .ok (.ireturn, 1)) (hret : meth.sig.returnType = some t) (ht : t = .boolean ∨ t = .byte ∨ t = .char ∨ t = .short) (hz : nar t z = z') (hlk : meth.locks = false) (hQ : ∀ S' : Addr → Prop, (∀ x, x < h.size → Safe Z EL vm h x → S' x) → Q (some (.int z')) h S') (hc : cells ≤ nc) (hs : slots ≤ ns) : OGo p e below (Kw Z EL s below n0 h0 Q nc ns) T (mkF m pc Ls (.int z :: rest)) := by
  subst hz; obtain ⟨eT, hn0, locs, Y, N⟩ := X
  obtain ⟨k0, hS, hk, A⟩ := H
  obtain ⟨fs, hr, hrun, hended, hEnd⟩ := Y.leaveW hS (by rw [eT]; exact hk) (v := some (.int (nar t z))) (fun hh => by rw [hret] at hh; cases hh) hlk
  have B := CHv.at Y C.2.1 hEL A.1
  exact ⟨_, _, RoadKit.retN Y C.1 hret ht (hb C.2.2.2.1 hd) hr, hrun, hended, _, locs, rfl, ⟨by show Q _ T.heap (fun x => Safe Z EL T.vm T.heap x); rw [eT]; exact hQ _ (fun x lt S => CHr.safe B lt S), N⟩, by show CHr Z EL s.vm h0 T.vm T.heap; rw [eT]; exact A.trans B, hEnd.1, hEnd.2.1, hEnd.2.2.1, hEnd.2.2.2.mono hc hs⟩
theorem OGo.retWA (C : Cx p (s.setVm vm) m c Z own by0 ml) (X : Sd p l e R (s.setVm vm) m args below meth c n0 T h cells slots) (hEL : EW Z a0 EL) (H : Hd Z EL s vm h0 h) {z : Value} {rest : List Value} {t : FieldType} {Q : Option Value → Heap → (Addr → Prop) → Prop} {nc ns : Nat} (hd : decode by0 pc = .ok (.areturn, 1)) (hret : meth.sig.returnType = some t) (ht : t.isReference = true) (hz : z.isRef = true) (hlk : meth.locks = false) (hQ : ∀ S' : Addr → Prop, (∀ x, x < h.size → Safe Z EL vm h x → S' x) → Q (some z) h S') (hc : cells ≤ nc) (hs : slots ≤ ns) : OGo p e below (Kw Z EL s below n0 h0 Q nc ns) T (mkF m pc Ls (z :: rest)) := by
  obtain ⟨eT, hn0, locs, Y, N⟩ := X
  obtain ⟨k0, hS, hk, A⟩ := H
  obtain ⟨fs, hr, hrun, hended, hEnd⟩ := Y.leaveW hS (by rw [eT]; exact hk) (v := some z) (fun hh => by rw [hret] at hh; cases hh) hlk
  have B := CHv.at Y C.2.1 hEL A.1
  exact ⟨_, _, retOut Y C.1 (i := .areturn) hret (by rcases ref_cases hz with rfl | ⟨b, rfl⟩ <;> cases t <;> first | rfl | cases ht) (Or.inr (Or.inr (Or.inr (Or.inr ⟨rfl, ht, hz⟩)))) (hb C.2.2.2.1 hd) hr, hrun, hended, _, locs, rfl, ⟨by show Q _ T.heap (fun x => Safe Z EL T.vm T.heap x); rw [eT]; exact hQ _ (fun x lt S => CHr.safe B lt S), N⟩, by show CHr Z EL s.vm h0 T.vm T.heap; rw [eT]; exact A.trans B, hEnd.1, hEnd.2.1, hEnd.2.2.1, hEnd.2.2.2.mono hc hs⟩
theorem OGo.callWS (C : Cx p (s.setVm vm) m c Z own by0 ml) (X : Sd p l e R (s.setVm vm) m args below meth c n0 T h cells slots) (hEL : EW Z a0 EL) (H : Hd Z EL s vm h0 h) {sf : List Addr} {y : MethodName} {cb : ByteArray} {cml : Nat} {ret : Option FieldType} {rm : Room} {as' : Array Value} {Q : Option Value → Heap → (Addr → Prop) → Prop} {idx : Nat}  (w1 : (Jvm.Cond.methodLink own idx y).before a0 Z = true) (w2 : (Jvm.Cond.static y).before a0 Z = true) (hy : y.cls ≠ "java/lang/invoke/MethodHandle" ∧ y.cls ≠ "java/lang/invoke/VarHandle") (w4 : (Jvm.Cond.code y cb cml ret).before a0 Z = true) (w5 : (Jvm.Cond.initialized y.cls).before a0 Z = true) (hM : CtrW l Z EL sf y cb cml ret rm n0 as' h Q) (hSf : ∀ x ∈ sf, x < h.size ∧ Safe Z EL vm h x) {argsL : List Value} (hlen : ∀ sig, parseMethodDescriptor y.desc = some sig → argsL.length = sig.parameters.length) (has : argsL.toArray = as') (hd : decode by0 pc = .ok (.invokestatic idx, 3)) (hp : pc + 3 = pc') (hsz : Ls.size = ml) (hf : rm.frames + 1 ≤ R.frames) (hl : (St.map fun v => v.category).sum + (cml + 11) + rm.locals ≤ R.locals) (hc' : cells + rm.cells = cells') (hs' : slots + rm.slots = slots') (hc : cells' ≤ R.cells) (hs : slots' ≤ R.slots)
    (hr : ∀ v (vm' : Vm) T' h', Q v h' (fun x => Safe Z EL vm' h' x) → Cx p (s.setVm vm') m c Z own by0 ml → Sd p l e R (s.setVm vm') m args below meth c n0 T' h' cells' slots' → Hd Z EL s vm' h0 h' → CHr Z EL vm h vm' h' → OGo p e below K T' (mkF m pc' Ls (v.toList ++ St))) : OGo p e below K T (mkF m pc Ls (argsL.reverse ++ St)) := by
  subst hp hc' hs' has
  obtain ⟨eT, hn0, locs, Y, N⟩ := X
  obtain ⟨k0, hS, hk, A⟩ := H
  have hK := backOfSP (Q := fun v h' vm' L => (Q v h' (fun x => Safe Z EL vm' h' x) ∧ h.size ≤ h'.size) ∧ Fr n0 L) (args := args) (p := p) (e := e) (below := below) (R := R) (s := s) (len := 3) (W := (St.map fun v => v.category).sum) (hM []) C.2.1 w4 w5 hf hl hEL A.1 hSf
  obtain ⟨v, _, ⟨B, L2, k2, n2⟩, -, Y', hS2, hg2, ⟨L, hQ, l1, y1, z1, A2⟩, st⟩ := callSS Y C.1 (y := y) C.2.2.1 (mvT C.2.1 w1) (mvT C.2.1 w2) (mvT C.2.1 w5) (mvT C.2.1 w4) hy hK (g := mkF m pc Ls (argsL.reverse ++ St)) rfl (by rw [C.2.2.2.2]; exact hsz) (argsL := argsL) (rest := St) hlen rfl (by show 2 * 0 + _ ≤ _; omega) (hb C.2.2.2.1 hd) (fun _ _ => ⟨rfl, eT, hc, hs⟩)
  dsimp only [Pt.U, Pt.locs, Pt.cells, Pt.slots] at Y' hS2 hg2 l1 y1 z1 st hQ A2
  subst l1 y1 z1
  obtain ⟨⟨hQ, hge⟩, hF⟩ := hQ
  obtain ⟨Y2, hS3, hZ3, hf3⟩ := rebS (own := own) hS (Nat.le_trans hk (by rw [← eT]; exact Nat.le_refl _)) Y' hS2 hg2 C.2.1 C.2.2.1
  exact OGo.tr st (hr v B.vm B B.heap hQ ⟨C.1, hZ3, hf3, C.2.2.2⟩ ⟨rfl, Nat.le_trans hn0 hge, _, Y2, N.app hF⟩ ⟨_, hS3, Nat.le_refl _, A.trans A2⟩ A2)
theorem OGo.callWInit (C : Cx p (s.setVm vm) m c Z own by0 ml) (X : Sd p l e R (s.setVm vm) m args below meth c n0 T h cells slots) (hEL : EW Z a0 EL) (H : Hd Z EL s vm h0 h) {sf : List Addr} {y : MethodName} {cb : ByteArray} {cml : Nat} {ret : Option FieldType} {rm : Room} {as' : Array Value} {Q : Option Value → Heap → (Addr → Prop) → Prop} {idx : Nat} {a : Addr} (hy1 : y.name = "<init>") (hrn : ret = none) (w1 : (Jvm.Cond.methodLink own idx y).before a0 Z = true) (w2 : (Jvm.Cond.instanceMethod y).before a0 Z = true) (hy : y.cls ≠ "java/lang/invoke/MethodHandle" ∧ y.cls ≠ "java/lang/invoke/VarHandle") (w4 : (Jvm.Cond.code y cb cml ret).before a0 Z = true) (w5 : (Jvm.Cond.initialized y.cls).before a0 Z = true) (hM : CtrW l Z EL sf y cb cml ret rm n0 as' h Q) (hSf : ∀ x ∈ sf, x < h.size ∧ Safe Z EL vm h x) {argsL : List Value} (hlen : ∀ sig, parseMethodDescriptor y.desc = some sig → argsL.length = sig.parameters.length) (has : (Value.ref a :: argsL).toArray = as') (hd : decode by0 pc = .ok (.invokespecial idx, 3)) (hp : pc + 3 = pc') (hsz : Ls.size = ml) (hf : rm.frames + 1 ≤ R.frames) (hl : (St.map fun v => v.category).sum + (cml + 11) + rm.locals ≤ R.locals) (hc' : cells + rm.cells = cells') (hs' : slots + rm.slots = slots') (hc : cells' ≤ R.cells) (hs : slots' ≤ R.slots)
    (hr : ∀ v (vm' : Vm) T' h', Q v h' (fun x => Safe Z EL vm' h' x) → Cx p (s.setVm vm') m c Z own by0 ml → Sd p l e R (s.setVm vm') m args below meth c n0 T' h' cells' slots' → Hd Z EL s vm' h0 h' → CHr Z EL vm h vm' h' → OGo p e below K T' (mkF m pc' Ls (v.toList ++ St))) : OGo p e below K T (mkF m pc Ls (argsL.reverse ++ Value.ref a :: St)) := by
  subst hp hc' hs' has
  obtain ⟨eT, hn0, locs, Y, N⟩ := X
  obtain ⟨k0, hS, hk, A⟩ := H
  have hK := backOfSP (Q := fun v h' vm' L => (Q v h' (fun x => Safe Z EL vm' h' x) ∧ h.size ≤ h'.size) ∧ Fr n0 L) (args := args) (p := p) (e := e) (below := below) (R := R) (s := s) (len := 3) (W := (St.map fun v => v.category).sum) (hM []) C.2.1 w4 w5 hf hl hEL A.1 hSf
  obtain ⟨v, _, ⟨B, L2, k2, n2⟩, -, Y', hS2, hg2, ⟨L, hQ, l1, y1, z1, A2⟩, st⟩ := Y.specialBackS C.1 (y := y) hy1 C.2.2.1 (mvT C.2.1 w1) (mvT C.2.1 w2) (mvT C.2.1 (hrn ▸ w4)) hy hK (g := mkF m pc Ls (argsL.reverse ++ Value.ref a :: St)) rfl (by rw [C.2.2.2.2]; exact hsz) (Steps.refl _) (a := a) (argsL := argsL) (rest := St) hlen rfl (by show 2 * 0 + _ ≤ _; omega) (hb C.2.2.2.1 hd) (fun _ _ => ⟨rfl, eT, hc, hs⟩)
  dsimp only [Pt.U, Pt.locs, Pt.cells, Pt.slots] at Y' hS2 hg2 l1 y1 z1 st hQ A2
  subst l1 y1 z1
  obtain ⟨⟨hQ, hge⟩, hF⟩ := hQ
  obtain ⟨Y2, hS3, hZ3, hf3⟩ := rebS (own := own) hS (Nat.le_trans hk (by rw [← eT]; exact Nat.le_refl _)) Y' hS2 hg2 C.2.1 C.2.2.1
  exact OGo.tr st (hr v B.vm B B.heap hQ ⟨C.1, hZ3, hf3, C.2.2.2⟩ ⟨rfl, Nat.le_trans hn0 hge, _, Y2, N.app hF⟩ ⟨_, hS3, Nat.le_refl _, A.trans A2⟩ A2)
theorem OGo.callWV (C : Cx p (s.setVm vm) m c Z own by0 ml) (X : Sd p l e R (s.setVm vm) m args below meth c n0 T h cells slots) (hEL : EW Z a0 EL) (H : Hd Z EL s vm h0 h) {sf : List Addr} {y : MethodName} {cb : ByteArray} {cml : Nat} {ret : Option FieldType} {rm : Room} {as' : Array Value} {Q : Option Value → Heap → (Addr → Prop) → Prop} {idx : Nat} {a : Addr} {Cn : String} (w1 : (Jvm.Cond.methodLink own idx y).before a0 Z = true) (w2 : (Jvm.Cond.declares y).before a0 Z = true) (w3 : (Jvm.Cond.selects Cn y y).before a0 Z = true) (w6 : (Jvm.Cond.instanceMethod y).before a0 Z = true) (hy : y.cls ≠ "java/lang/invoke/MethodHandle" ∧ y.cls ≠ "java/lang/invoke/VarHandle") (E : Exa Z h a Cn) (w4 : (Jvm.Cond.code y cb cml ret).before a0 Z = true) (w5 : (Jvm.Cond.initialized y.cls).before a0 Z = true) (hM : CtrW l Z EL sf y cb cml ret rm n0 as' h Q) (hSf : ∀ x ∈ sf, x < h.size ∧ Safe Z EL vm h x) {argsL : List Value} (hlen : ∀ sig, parseMethodDescriptor y.desc = some sig → argsL.length = sig.parameters.length) (has : (Value.ref a :: argsL).toArray = as') (hd : decode by0 pc = .ok (.invokevirtual idx, 3)) (hp : pc + 3 = pc') (hsz : Ls.size = ml) (hf : rm.frames + 1 ≤ R.frames) (hl : (St.map fun v => v.category).sum + (cml + 11) + rm.locals ≤ R.locals) (hc' : cells + rm.cells = cells') (hs' : slots + rm.slots = slots') (hc : cells' ≤ R.cells) (hs : slots' ≤ R.slots)
    (hr : ∀ v (vm' : Vm) T' h', Q v h' (fun x => Safe Z EL vm' h' x) → Cx p (s.setVm vm') m c Z own by0 ml → Sd p l e R (s.setVm vm') m args below meth c n0 T' h' cells' slots' → Hd Z EL s vm' h0 h' → CHr Z EL vm h vm' h' → OGo p e below K T' (mkF m pc' Ls (v.toList ++ St))) : OGo p e below K T (mkF m pc Ls (argsL.reverse ++ Value.ref a :: St)) := by
  subst hp hc' hs' has
  obtain ⟨eT, hn0, locs, Y, N⟩ := X
  obtain ⟨k0, hS, hk, A⟩ := H
  have hK := backOfSP (Q := fun v h' vm' L => (Q v h' (fun x => Safe Z EL vm' h' x) ∧ h.size ≤ h'.size) ∧ Fr n0 L) (args := args) (p := p) (e := e) (below := below) (R := R) (s := s) (len := 3) (W := (St.map fun v => v.category).sum) (hM []) C.2.1 w4 w5 hf hl hEL A.1 hSf
  obtain ⟨v, _, ⟨B, L2, k2, n2⟩, -, Y', hS2, hg2, ⟨L, hQ, l1, y1, z1, A2⟩, st⟩ := (let ⟨_, _, q1, _, q3⟩ := isOf C.2.1 eT E; Y.virtualBackS C.1 (y := y) (z := y) C.2.2.1 (mvT C.2.1 w1) (mvT C.2.1 w2) (notFace_of_selects (args := #[]) (mvT C.2.1 w3)) (mvT C.2.1 w3) (mvT C.2.1 w6) hy hK q1 q3 (g := mkF m pc Ls (argsL.reverse ++ Value.ref a :: St)) rfl (by rw [C.2.2.2.2]; exact hsz) (Steps.refl _) (argsL := argsL) (rest := St) hlen rfl (by show 2 * 0 + _ ≤ _; omega) (hb C.2.2.2.1 hd) (fun _ _ => ⟨rfl, eT, hc, hs⟩))
  dsimp only [Pt.U, Pt.locs, Pt.cells, Pt.slots] at Y' hS2 hg2 l1 y1 z1 st hQ A2
  subst l1 y1 z1
  obtain ⟨⟨hQ, hge⟩, hF⟩ := hQ
  obtain ⟨Y2, hS3, hZ3, hf3⟩ := rebS (own := own) hS (Nat.le_trans hk (by rw [← eT]; exact Nat.le_refl _)) Y' hS2 hg2 C.2.1 C.2.2.1
  exact OGo.tr st (hr v B.vm B B.heap hQ ⟨C.1, hZ3, hf3, C.2.2.2⟩ ⟨rfl, Nat.le_trans hn0 hge, _, Y2, N.app hF⟩ ⟨_, hS3, Nat.le_refl _, A.trans A2⟩ A2)
end OwnCold
end Jvm.Pilot.@@N@@
namespace Jvm.Pilot.@@N@@
open Jvm Jvm.ClassFile Sem Op Lib Jvm.Free Jvm.Stand Jvm.LawKit Jvm.RoadKit Jvm.Free.Fl Jvm.FP Bundle Jvm.Pilot.@@N@@.Jvm.D
abbrev HW (a0 : Array Value) (Z : State) : Prop := ∀ d ∈ tables_1, d.before a0 Z = true
theorem wd0 {a0 : Array Value} {Z : State} (hw : HW a0 Z) : ((Jvm.Cond.constant "com/example/makespan/makespan/planning/TaskOnTypeWithFeesPinLaw" (7 : Nat) (2147483647 : Int32))).before a0 Z = true := hw _ (List.mem_of_getElem? (i := 0) rfl)
theorem wd1 {a0 : Array Value} {Z : State} (hw : HW a0 Z) : ((Jvm.Cond.arrayClass Jvm.ClassFile.FieldType.double)).before a0 Z = true := hw _ (List.mem_of_getElem? (i := 1) rfl)
theorem wd2 {a0 : Array Value} {Z : State} (hw : HW a0 Z) : ((Jvm.Cond.classLink "com/example/makespan/makespan/planning/TaskOnTypeWithFeesPinLaw" (8 : Nat) "com/example/makespan/makespan/model/VmType")).before a0 Z = true := hw _ (List.mem_of_getElem? (i := 2) rfl)
theorem wd3 {a0 : Array Value} {Z : State} (hw : HW a0 Z) : ((Jvm.Cond.instantiable "com/example/makespan/makespan/model/VmType" (7 : Nat))).before a0 Z = true := hw _ (List.mem_of_getElem? (i := 3) rfl)
theorem wd4 {a0 : Array Value} {Z : State} (hw : HW a0 Z) : ((Jvm.Cond.initialized "com/example/makespan/makespan/model/VmType")).before a0 Z = true := hw _ (List.mem_of_getElem? (i := 4) rfl)
theorem wd5 {a0 : Array Value} {Z : State} (hw : HW a0 Z) : ((Jvm.Cond.stringLink "com/example/makespan/makespan/planning/TaskOnTypeWithFeesPinLaw" (10 : Nat) "t")).before a0 Z = true := hw _ (List.mem_of_getElem? (i := 5) rfl)
theorem wd6 {a0 : Array Value} {Z : State} (hw : HW a0 Z) : ((Jvm.Cond.initialized "java/lang/String")).before a0 Z = true := hw _ (List.mem_of_getElem? (i := 6) rfl)
theorem wd7 {a0 : Array Value} {Z : State} (hw : HW a0 Z) : ((Jvm.Cond.instantiable "java/lang/String" (4 : Nat))).before a0 Z = true := hw _ (List.mem_of_getElem? (i := 7) rfl)
theorem wd8 {a0 : Array Value} {Z : State} (hw : HW a0 Z) : ((Jvm.Cond.arrayClass Jvm.ClassFile.FieldType.byte)).before a0 Z = true := hw _ (List.mem_of_getElem? (i := 8) rfl)
theorem wd9 {a0 : Array Value} {Z : State} (hw : HW a0 Z) : ((Jvm.Cond.laysFinal "java/lang/String" "java/lang/String" "value" "[B")).before a0 Z = true := hw _ (List.mem_of_getElem? (i := 9) rfl)
theorem wd10 {a0 : Array Value} {Z : State} (hw : HW a0 Z) : ((Jvm.Cond.laysFinal "java/lang/String" "java/lang/String" "coder" "B")).before a0 Z = true := hw _ (List.mem_of_getElem? (i := 10) rfl)
theorem wd11 {a0 : Array Value} {Z : State} (hw : HW a0 Z) : ((Jvm.Cond.soleField "java/lang/String" "value")).before a0 Z = true := hw _ (List.mem_of_getElem? (i := 11) rfl)
theorem wd12 {a0 : Array Value} {Z : State} (hw : HW a0 Z) : ((Jvm.Cond.soleField "java/lang/String" "coder")).before a0 Z = true := hw _ (List.mem_of_getElem? (i := 12) rfl)
theorem wd13 {a0 : Array Value} {Z : State} (hw : HW a0 Z) : ((Jvm.Cond.methodLink "com/example/makespan/makespan/planning/TaskOnTypeWithFeesPinLaw" (12 : Nat) ({ cls := "com/example/makespan/makespan/model/VmType", name := "<init>", desc := "(Ljava/lang/String;DDD)V" } : Jvm.MethodName))).before a0 Z = true := hw _ (List.mem_of_getElem? (i := 13) rfl)
theorem wd14 {a0 : Array Value} {Z : State} (hw : HW a0 Z) : ((Jvm.Cond.instanceMethod ({ cls := "com/example/makespan/makespan/model/VmType", name := "<init>", desc := "(Ljava/lang/String;DDD)V" } : Jvm.MethodName))).before a0 Z = true := hw _ (List.mem_of_getElem? (i := 14) rfl)
theorem wd15 {a0 : Array Value} {Z : State} (hw : HW a0 Z) : ((Jvm.Cond.code ({ cls := "com/example/makespan/makespan/model/VmType", name := "<init>", desc := "(Ljava/lang/String;DDD)V" } : Jvm.MethodName) prog_51_method_1_code (8 : Nat) (Option.none : Option Jvm.ClassFile.FieldType))).before a0 Z = true := hw _ (List.mem_of_getElem? (i := 15) rfl)
theorem wd16 {a0 : Array Value} {Z : State} (hw : HW a0 Z) : ((Jvm.Cond.methodLink "com/example/makespan/makespan/model/VmType" (1 : Nat) ({ cls := "com/example/makespan/makespan/model/VmType", name := "<init>", desc := "(Ljava/lang/String;DDDDZD)V" } : Jvm.MethodName))).before a0 Z = true := hw _ (List.mem_of_getElem? (i := 16) rfl)
theorem wd17 {a0 : Array Value} {Z : State} (hw : HW a0 Z) : ((Jvm.Cond.instanceMethod ({ cls := "com/example/makespan/makespan/model/VmType", name := "<init>", desc := "(Ljava/lang/String;DDDDZD)V" } : Jvm.MethodName))).before a0 Z = true := hw _ (List.mem_of_getElem? (i := 17) rfl)
theorem wd18 {a0 : Array Value} {Z : State} (hw : HW a0 Z) : ((Jvm.Cond.code ({ cls := "com/example/makespan/makespan/model/VmType", name := "<init>", desc := "(Ljava/lang/String;DDDDZD)V" } : Jvm.MethodName) prog_51_method_2_code (14 : Nat) (Option.none : Option Jvm.ClassFile.FieldType))).before a0 Z = true := hw _ (List.mem_of_getElem? (i := 18) rfl)
theorem wd19 {a0 : Array Value} {Z : State} (hw : HW a0 Z) : ((Jvm.Cond.methodLink "com/example/makespan/makespan/model/VmType" (7 : Nat) ({ cls := "java/lang/Object", name := "<init>", desc := "()V" } : Jvm.MethodName))).before a0 Z = true := hw _ (List.mem_of_getElem? (i := 19) rfl)
theorem wd20 {a0 : Array Value} {Z : State} (hw : HW a0 Z) : ((Jvm.Cond.instanceMethod ({ cls := "java/lang/Object", name := "<init>", desc := "()V" } : Jvm.MethodName))).before a0 Z = true := hw _ (List.mem_of_getElem? (i := 20) rfl)
theorem wd21 {a0 : Array Value} {Z : State} (hw : HW a0 Z) : ((Jvm.Cond.code ({ cls := "java/lang/Object", name := "<init>", desc := "()V" } : Jvm.MethodName) object_method_1_code (1 : Nat) (Option.none : Option Jvm.ClassFile.FieldType))).before a0 Z = true := hw _ (List.mem_of_getElem? (i := 21) rfl)
theorem wd22 {a0 : Array Value} {Z : State} (hw : HW a0 Z) : ((Jvm.Cond.stringLink "com/example/makespan/makespan/model/VmType" (12 : Nat) "name")).before a0 Z = true := hw _ (List.mem_of_getElem? (i := 22) rfl)
theorem wd23 {a0 : Array Value} {Z : State} (hw : HW a0 Z) : ((Jvm.Cond.methodLink "com/example/makespan/makespan/model/VmType" (14 : Nat) ({ cls := "java/util/Objects", name := "requireNonNull", desc := "(Ljava/lang/Object;Ljava/lang/String;)Ljava/lang/Object;" } : Jvm.MethodName))).before a0 Z = true := hw _ (List.mem_of_getElem? (i := 23) rfl)
theorem wd24 {a0 : Array Value} {Z : State} (hw : HW a0 Z) : ((Jvm.Cond.static ({ cls := "java/util/Objects", name := "requireNonNull", desc := "(Ljava/lang/Object;Ljava/lang/String;)Ljava/lang/Object;" } : Jvm.MethodName))).before a0 Z = true := hw _ (List.mem_of_getElem? (i := 24) rfl)
theorem wd25 {a0 : Array Value} {Z : State} (hw : HW a0 Z) : ((Jvm.Cond.initialized "java/util/Objects")).before a0 Z = true := hw _ (List.mem_of_getElem? (i := 25) rfl)
theorem wd26 {a0 : Array Value} {Z : State} (hw : HW a0 Z) : ((Jvm.Cond.code ({ cls := "java/util/Objects", name := "requireNonNull", desc := "(Ljava/lang/Object;Ljava/lang/String;)Ljava/lang/Object;" } : Jvm.MethodName) jdk_31_method_11_code (2 : Nat) (Option.some (Jvm.ClassFile.FieldType.object "java/lang/Object")))).before a0 Z = true := hw _ (List.mem_of_getElem? (i := 26) rfl)
theorem wd27 {a0 : Array Value} {Z : State} (hw : HW a0 Z) : ((Jvm.Cond.classLink "com/example/makespan/makespan/model/VmType" (20 : Nat) "java/lang/String")).before a0 Z = true := hw _ (List.mem_of_getElem? (i := 27) rfl)
theorem wd29 {a0 : Array Value} {Z : State} (hw : HW a0 Z) : ((Jvm.Cond.fieldLink "com/example/makespan/makespan/model/VmType" (22 : Nat) "com/example/makespan/makespan/model/VmType" "name" "Ljava/lang/String;")).before a0 Z = true := hw _ (List.mem_of_getElem? (i := 29) rfl)
theorem wd30 {a0 : Array Value} {Z : State} (hw : HW a0 Z) : ((Jvm.Cond.laysFinal "com/example/makespan/makespan/model/VmType" "com/example/makespan/makespan/model/VmType" "name" "Ljava/lang/String;")).before a0 Z = true := hw _ (List.mem_of_getElem? (i := 30) rfl)
theorem wd31 {a0 : Array Value} {Z : State} (hw : HW a0 Z) : ((Jvm.Cond.classLink "com/example/makespan/makespan/model/VmType" (25 : Nat) "java/lang/StringBuilder")).before a0 Z = true := hw _ (List.mem_of_getElem? (i := 31) rfl)
theorem wd32 {a0 : Array Value} {Z : State} (hw : HW a0 Z) : ((Jvm.Cond.instantiable "java/lang/StringBuilder" (4 : Nat))).before a0 Z = true := hw _ (List.mem_of_getElem? (i := 32) rfl)
theorem wd33 {a0 : Array Value} {Z : State} (hw : HW a0 Z) : ((Jvm.Cond.initialized "java/lang/StringBuilder")).before a0 Z = true := hw _ (List.mem_of_getElem? (i := 33) rfl)
theorem wd34 {a0 : Array Value} {Z : State} (hw : HW a0 Z) : ((Jvm.Cond.methodLink "com/example/makespan/makespan/model/VmType" (27 : Nat) ({ cls := "java/lang/StringBuilder", name := "<init>", desc := "()V" } : Jvm.MethodName))).before a0 Z = true := hw _ (List.mem_of_getElem? (i := 34) rfl)
theorem wd35 {a0 : Array Value} {Z : State} (hw : HW a0 Z) : ((Jvm.Cond.instanceMethod ({ cls := "java/lang/StringBuilder", name := "<init>", desc := "()V" } : Jvm.MethodName))).before a0 Z = true := hw _ (List.mem_of_getElem? (i := 35) rfl)
theorem wd36 {a0 : Array Value} {Z : State} (hw : HW a0 Z) : ((Jvm.Cond.code ({ cls := "java/lang/StringBuilder", name := "<init>", desc := "()V" } : Jvm.MethodName) jdk_67_method_1_code (1 : Nat) (Option.none : Option Jvm.ClassFile.FieldType))).before a0 Z = true := hw _ (List.mem_of_getElem? (i := 36) rfl)
theorem wd37 {a0 : Array Value} {Z : State} (hw : HW a0 Z) : ((Jvm.Cond.methodLink "java/lang/StringBuilder" (1 : Nat) ({ cls := "java/lang/AbstractStringBuilder", name := "<init>", desc := "(I)V" } : Jvm.MethodName))).before a0 Z = true := hw _ (List.mem_of_getElem? (i := 37) rfl)
theorem wd38 {a0 : Array Value} {Z : State} (hw : HW a0 Z) : ((Jvm.Cond.instanceMethod ({ cls := "java/lang/AbstractStringBuilder", name := "<init>", desc := "(I)V" } : Jvm.MethodName))).before a0 Z = true := hw _ (List.mem_of_getElem? (i := 38) rfl)
theorem wd41 {a0 : Array Value} {Z : State} (hw : HW a0 Z) : ((Jvm.Cond.initialized "java/lang/AbstractStringBuilder")).before a0 Z = true := hw _ (List.mem_of_getElem? (i := 41) rfl)
theorem wd42 {a0 : Array Value} {Z : State} (hw : HW a0 Z) : ((Jvm.Cond.code ({ cls := "java/lang/AbstractStringBuilder", name := "<init>", desc := "(I)V" } : Jvm.MethodName) jdk_68_method_2_code (2 : Nat) (Option.none : Option Jvm.ClassFile.FieldType))).before a0 Z = true := hw _ (List.mem_of_getElem? (i := 42) rfl)
theorem wd43 {a0 : Array Value} {Z : State} (hw : HW a0 Z) : ((Jvm.Cond.methodLink "java/lang/AbstractStringBuilder" (3 : Nat) ({ cls := "java/lang/Object", name := "<init>", desc := "()V" } : Jvm.MethodName))).before a0 Z = true := hw _ (List.mem_of_getElem? (i := 43) rfl)
theorem wd44 {a0 : Array Value} {Z : State} (hw : HW a0 Z) : ((Jvm.Cond.fieldLink "java/lang/AbstractStringBuilder" (18 : Nat) "java/lang/String" "COMPACT_STRINGS" "Z")).before a0 Z = true := hw _ (List.mem_of_getElem? (i := 44) rfl)
theorem wd45 {a0 : Array Value} {Z : State} (hw : HW a0 Z) : ((Jvm.Cond.fieldLink "java/lang/AbstractStringBuilder" (15 : Nat) "java/lang/AbstractStringBuilder" "value" "[B")).before a0 Z = true := hw _ (List.mem_of_getElem? (i := 45) rfl)
theorem wd46 {a0 : Array Value} {Z : State} (hw : HW a0 Z) : ((Jvm.Cond.lays "java/lang/StringBuilder" "java/lang/AbstractStringBuilder" "value" "[B")).before a0 Z = true := hw _ (List.mem_of_getElem? (i := 46) rfl)
theorem wd47 {a0 : Array Value} {Z : State} (hw : HW a0 Z) : ((Jvm.Cond.fieldLink "java/lang/AbstractStringBuilder" (22 : Nat) "java/lang/AbstractStringBuilder" "coder" "B")).before a0 Z = true := hw _ (List.mem_of_getElem? (i := 47) rfl)
theorem wd48 {a0 : Array Value} {Z : State} (hw : HW a0 Z) : ((Jvm.Cond.lays "java/lang/StringBuilder" "java/lang/AbstractStringBuilder" "coder" "B")).before a0 Z = true := hw _ (List.mem_of_getElem? (i := 48) rfl)
theorem wd49 {a0 : Array Value} {Z : State} (hw : HW a0 Z) : ((Jvm.Cond.stringLink "com/example/makespan/makespan/model/VmType" (28 : Nat) "VM type ")).before a0 Z = true := hw _ (List.mem_of_getElem? (i := 49) rfl)
theorem wd50 {a0 : Array Value} {Z : State} (hw : HW a0 Z) : ((Jvm.Cond.methodLink "com/example/makespan/makespan/model/VmType" (30 : Nat) ({ cls := "java/lang/StringBuilder", name := "append", desc := "(Ljava/lang/String;)Ljava/lang/StringBuilder;" } : Jvm.MethodName))).before a0 Z = true := hw _ (List.mem_of_getElem? (i := 50) rfl)
theorem wd51 {a0 : Array Value} {Z : State} (hw : HW a0 Z) : ((Jvm.Cond.declares ({ cls := "java/lang/StringBuilder", name := "append", desc := "(Ljava/lang/String;)Ljava/lang/StringBuilder;" } : Jvm.MethodName))).before a0 Z = true := hw _ (List.mem_of_getElem? (i := 51) rfl)
theorem wd52 {a0 : Array Value} {Z : State} (hw : HW a0 Z) : ((Jvm.Cond.instanceMethod ({ cls := "java/lang/StringBuilder", name := "append", desc := "(Ljava/lang/String;)Ljava/lang/StringBuilder;" } : Jvm.MethodName))).before a0 Z = true := hw _ (List.mem_of_getElem? (i := 52) rfl)
theorem wd53 {a0 : Array Value} {Z : State} (hw : HW a0 Z) : ((Jvm.Cond.selects "java/lang/StringBuilder" ({ cls := "java/lang/StringBuilder", name := "append", desc := "(Ljava/lang/String;)Ljava/lang/StringBuilder;" } : Jvm.MethodName) ({ cls := "java/lang/StringBuilder", name := "append", desc := "(Ljava/lang/String;)Ljava/lang/StringBuilder;" } : Jvm.MethodName))).before a0 Z = true := hw _ (List.mem_of_getElem? (i := 53) rfl)
theorem wd54 {a0 : Array Value} {Z : State} (hw : HW a0 Z) : ((Jvm.Cond.code ({ cls := "java/lang/StringBuilder", name := "append", desc := "(Ljava/lang/String;)Ljava/lang/StringBuilder;" } : Jvm.MethodName) jdk_67_method_7_code (2 : Nat) (Option.some (Jvm.ClassFile.FieldType.object "java/lang/StringBuilder")))).before a0 Z = true := hw _ (List.mem_of_getElem? (i := 54) rfl)
theorem wd55 {a0 : Array Value} {Z : State} (hw : HW a0 Z) : ((Jvm.Cond.methodLink "java/lang/StringBuilder" (29 : Nat) ({ cls := "java/lang/AbstractStringBuilder", name := "append", desc := "(Ljava/lang/String;)Ljava/lang/AbstractStringBuilder;" } : Jvm.MethodName))).before a0 Z = true := hw _ (List.mem_of_getElem? (i := 55) rfl)
theorem wd56 {a0 : Array Value} {Z : State} (hw : HW a0 Z) : ((Jvm.Cond.instanceMethod ({ cls := "java/lang/AbstractStringBuilder", name := "append", desc := "(Ljava/lang/String;)Ljava/lang/AbstractStringBuilder;" } : Jvm.MethodName))).before a0 Z = true := hw _ (List.mem_of_getElem? (i := 56) rfl)
theorem wd57 {a0 : Array Value} {Z : State} (hw : HW a0 Z) : ((Jvm.Cond.superclass "java/lang/StringBuilder" "java/lang/AbstractStringBuilder")).before a0 Z = true := hw _ (List.mem_of_getElem? (i := 57) rfl)
theorem wd59 {a0 : Array Value} {Z : State} (hw : HW a0 Z) : ((Jvm.Cond.code ({ cls := "java/lang/AbstractStringBuilder", name := "append", desc := "(Ljava/lang/String;)Ljava/lang/AbstractStringBuilder;" } : Jvm.MethodName) jdk_68_method_22_code (3 : Nat) (Option.some (Jvm.ClassFile.FieldType.object "java/lang/AbstractStringBuilder")))).before a0 Z = true := hw _ (List.mem_of_getElem? (i := 59) rfl)
theorem wd60 {a0 : Array Value} {Z : State} (hw : HW a0 Z) : ((Jvm.Cond.methodLink "java/lang/AbstractStringBuilder" (32 : Nat) ({ cls := "java/lang/String", name := "length", desc := "()I" } : Jvm.MethodName))).before a0 Z = true := hw _ (List.mem_of_getElem? (i := 60) rfl)
theorem wd61 {a0 : Array Value} {Z : State} (hw : HW a0 Z) : ((Jvm.Cond.declares ({ cls := "java/lang/String", name := "length", desc := "()I" } : Jvm.MethodName))).before a0 Z = true := hw _ (List.mem_of_getElem? (i := 61) rfl)
theorem wd62 {a0 : Array Value} {Z : State} (hw : HW a0 Z) : ((Jvm.Cond.instanceMethod ({ cls := "java/lang/String", name := "length", desc := "()I" } : Jvm.MethodName))).before a0 Z = true := hw _ (List.mem_of_getElem? (i := 62) rfl)
theorem wd63 {a0 : Array Value} {Z : State} (hw : HW a0 Z) : ((Jvm.Cond.selects "java/lang/String" ({ cls := "java/lang/String", name := "length", desc := "()I" } : Jvm.MethodName) ({ cls := "java/lang/String", name := "length", desc := "()I" } : Jvm.MethodName))).before a0 Z = true := hw _ (List.mem_of_getElem? (i := 63) rfl)
theorem wd64 {a0 : Array Value} {Z : State} (hw : HW a0 Z) : ((Jvm.Cond.code ({ cls := "java/lang/String", name := "length", desc := "()I" } : Jvm.MethodName) jdk_42_method_54_code (1 : Nat) (Option.some Jvm.ClassFile.FieldType.int))).before a0 Z = true := hw _ (List.mem_of_getElem? (i := 64) rfl)
theorem wd65 {a0 : Array Value} {Z : State} (hw : HW a0 Z) : ((Jvm.Cond.fieldLink "java/lang/String" (9 : Nat) "java/lang/String" "value" "[B")).before a0 Z = true := hw _ (List.mem_of_getElem? (i := 65) rfl)
theorem wd66 {a0 : Array Value} {Z : State} (hw : HW a0 Z) : ((Jvm.Cond.methodLink "java/lang/String" (335 : Nat) ({ cls := "java/lang/String", name := "coder", desc := "()B" } : Jvm.MethodName))).before a0 Z = true := hw _ (List.mem_of_getElem? (i := 66) rfl)
theorem wd67 {a0 : Array Value} {Z : State} (hw : HW a0 Z) : ((Jvm.Cond.declares ({ cls := "java/lang/String", name := "coder", desc := "()B" } : Jvm.MethodName))).before a0 Z = true := hw _ (List.mem_of_getElem? (i := 67) rfl)
theorem wd68 {a0 : Array Value} {Z : State} (hw : HW a0 Z) : ((Jvm.Cond.instanceMethod ({ cls := "java/lang/String", name := "coder", desc := "()B" } : Jvm.MethodName))).before a0 Z = true := hw _ (List.mem_of_getElem? (i := 68) rfl)
theorem wd69 {a0 : Array Value} {Z : State} (hw : HW a0 Z) : ((Jvm.Cond.selects "java/lang/String" ({ cls := "java/lang/String", name := "coder", desc := "()B" } : Jvm.MethodName) ({ cls := "java/lang/String", name := "coder", desc := "()B" } : Jvm.MethodName))).before a0 Z = true := hw _ (List.mem_of_getElem? (i := 69) rfl)
theorem wd70 {a0 : Array Value} {Z : State} (hw : HW a0 Z) : ((Jvm.Cond.code ({ cls := "java/lang/String", name := "coder", desc := "()B" } : Jvm.MethodName) jdk_42_method_152_code (1 : Nat) (Option.some Jvm.ClassFile.FieldType.byte))).before a0 Z = true := hw _ (List.mem_of_getElem? (i := 70) rfl)
theorem wd71 {a0 : Array Value} {Z : State} (hw : HW a0 Z) : ((Jvm.Cond.fieldLink "java/lang/String" (38 : Nat) "java/lang/String" "COMPACT_STRINGS" "Z")).before a0 Z = true := hw _ (List.mem_of_getElem? (i := 71) rfl)
theorem wd72 {a0 : Array Value} {Z : State} (hw : HW a0 Z) : ((Jvm.Cond.fieldLink "java/lang/String" (15 : Nat) "java/lang/String" "coder" "B")).before a0 Z = true := hw _ (List.mem_of_getElem? (i := 72) rfl)
theorem wd73 {a0 : Array Value} {Z : State} (hw : HW a0 Z) : ((Jvm.Cond.fieldLink "java/lang/AbstractStringBuilder" (79 : Nat) "java/lang/AbstractStringBuilder" "count" "I")).before a0 Z = true := hw _ (List.mem_of_getElem? (i := 73) rfl)
theorem wd74 {a0 : Array Value} {Z : State} (hw : HW a0 Z) : ((Jvm.Cond.lays "java/lang/StringBuilder" "java/lang/AbstractStringBuilder" "count" "I")).before a0 Z = true := hw _ (List.mem_of_getElem? (i := 74) rfl)
theorem wd75 {a0 : Array Value} {Z : State} (hw : HW a0 Z) : ((Jvm.Cond.methodLink "java/lang/AbstractStringBuilder" (100 : Nat) ({ cls := "java/lang/AbstractStringBuilder", name := "ensureCapacityInternal", desc := "(I)V" } : Jvm.MethodName))).before a0 Z = true := hw _ (List.mem_of_getElem? (i := 75) rfl)
theorem wd76 {a0 : Array Value} {Z : State} (hw : HW a0 Z) : ((Jvm.Cond.instanceMethod ({ cls := "java/lang/AbstractStringBuilder", name := "ensureCapacityInternal", desc := "(I)V" } : Jvm.MethodName))).before a0 Z = true := hw _ (List.mem_of_getElem? (i := 76) rfl)
theorem wd77 {a0 : Array Value} {Z : State} (hw : HW a0 Z) : ((Jvm.Cond.privateMethod ({ cls := "java/lang/AbstractStringBuilder", name := "ensureCapacityInternal", desc := "(I)V" } : Jvm.MethodName))).before a0 Z = true := hw _ (List.mem_of_getElem? (i := 77) rfl)
theorem wd78 {a0 : Array Value} {Z : State} (hw : HW a0 Z) : ((Jvm.Cond.selects "java/lang/StringBuilder" ({ cls := "java/lang/AbstractStringBuilder", name := "ensureCapacityInternal", desc := "(I)V" } : Jvm.MethodName) ({ cls := "java/lang/AbstractStringBuilder", name := "ensureCapacityInternal", desc := "(I)V" } : Jvm.MethodName))).before a0 Z = true := hw _ (List.mem_of_getElem? (i := 78) rfl)
theorem wd79 {a0 : Array Value} {Z : State} (hw : HW a0 Z) : ((Jvm.Cond.code ({ cls := "java/lang/AbstractStringBuilder", name := "ensureCapacityInternal", desc := "(I)V" } : Jvm.MethodName) jdk_68_method_9_code (3 : Nat) (Option.none : Option Jvm.ClassFile.FieldType))).before a0 Z = true := hw _ (List.mem_of_getElem? (i := 79) rfl)
theorem wd80 {a0 : Array Value} {Z : State} (hw : HW a0 Z) : ((Jvm.Cond.methodLink "java/lang/AbstractStringBuilder" (208 : Nat) ({ cls := "java/lang/AbstractStringBuilder", name := "putStringAt", desc := "(ILjava/lang/String;)V" } : Jvm.MethodName))).before a0 Z = true := hw _ (List.mem_of_getElem? (i := 80) rfl)
theorem wd81 {a0 : Array Value} {Z : State} (hw : HW a0 Z) : ((Jvm.Cond.instanceMethod ({ cls := "java/lang/AbstractStringBuilder", name := "putStringAt", desc := "(ILjava/lang/String;)V" } : Jvm.MethodName))).before a0 Z = true := hw _ (List.mem_of_getElem? (i := 81) rfl)
theorem wd82 {a0 : Array Value} {Z : State} (hw : HW a0 Z) : ((Jvm.Cond.privateMethod ({ cls := "java/lang/AbstractStringBuilder", name := "putStringAt", desc := "(ILjava/lang/String;)V" } : Jvm.MethodName))).before a0 Z = true := hw _ (List.mem_of_getElem? (i := 82) rfl)
theorem wd84 {a0 : Array Value} {Z : State} (hw : HW a0 Z) : ((Jvm.Cond.code ({ cls := "java/lang/AbstractStringBuilder", name := "putStringAt", desc := "(ILjava/lang/String;)V" } : Jvm.MethodName) jdk_68_method_73_code (3 : Nat) (Option.none : Option Jvm.ClassFile.FieldType))).before a0 Z = true := hw _ (List.mem_of_getElem? (i := 84) rfl)
theorem wd85 {a0 : Array Value} {Z : State} (hw : HW a0 Z) : ((Jvm.Cond.methodLink "java/lang/AbstractStringBuilder" (397 : Nat) ({ cls := "java/lang/AbstractStringBuilder", name := "inflateIfNeededFor", desc := "(Ljava/lang/String;)V" } : Jvm.MethodName))).before a0 Z = true := hw _ (List.mem_of_getElem? (i := 85) rfl)
theorem wd86 {a0 : Array Value} {Z : State} (hw : HW a0 Z) : ((Jvm.Cond.instanceMethod ({ cls := "java/lang/AbstractStringBuilder", name := "inflateIfNeededFor", desc := "(Ljava/lang/String;)V" } : Jvm.MethodName))).before a0 Z = true := hw _ (List.mem_of_getElem? (i := 86) rfl)
theorem wd87 {a0 : Array Value} {Z : State} (hw : HW a0 Z) : ((Jvm.Cond.privateMethod ({ cls := "java/lang/AbstractStringBuilder", name := "inflateIfNeededFor", desc := "(Ljava/lang/String;)V" } : Jvm.MethodName))).before a0 Z = true := hw _ (List.mem_of_getElem? (i := 87) rfl)
theorem wd89 {a0 : Array Value} {Z : State} (hw : HW a0 Z) : ((Jvm.Cond.code ({ cls := "java/lang/AbstractStringBuilder", name := "inflateIfNeededFor", desc := "(Ljava/lang/String;)V" } : Jvm.MethodName) jdk_68_method_71_code (2 : Nat) (Option.none : Option Jvm.ClassFile.FieldType))).before a0 Z = true := hw _ (List.mem_of_getElem? (i := 89) rfl)
theorem wd90 {a0 : Array Value} {Z : State} (hw : HW a0 Z) : ((Jvm.Cond.methodLink "java/lang/AbstractStringBuilder" (40 : Nat) ({ cls := "java/lang/String", name := "coder", desc := "()B" } : Jvm.MethodName))).before a0 Z = true := hw _ (List.mem_of_getElem? (i := 90) rfl)
theorem wd91 {a0 : Array Value} {Z : State} (hw : HW a0 Z) : ((Jvm.Cond.methodLink "java/lang/AbstractStringBuilder" (399 : Nat) ({ cls := "java/lang/String", name := "getBytes", desc := "([BIB)V" } : Jvm.MethodName))).before a0 Z = true := hw _ (List.mem_of_getElem? (i := 91) rfl)
theorem wd92 {a0 : Array Value} {Z : State} (hw : HW a0 Z) : ((Jvm.Cond.declares ({ cls := "java/lang/String", name := "getBytes", desc := "([BIB)V" } : Jvm.MethodName))).before a0 Z = true := hw _ (List.mem_of_getElem? (i := 92) rfl)
theorem wd93 {a0 : Array Value} {Z : State} (hw : HW a0 Z) : ((Jvm.Cond.instanceMethod ({ cls := "java/lang/String", name := "getBytes", desc := "([BIB)V" } : Jvm.MethodName))).before a0 Z = true := hw _ (List.mem_of_getElem? (i := 93) rfl)
theorem wd94 {a0 : Array Value} {Z : State} (hw : HW a0 Z) : ((Jvm.Cond.selects "java/lang/String" ({ cls := "java/lang/String", name := "getBytes", desc := "([BIB)V" } : Jvm.MethodName) ({ cls := "java/lang/String", name := "getBytes", desc := "([BIB)V" } : Jvm.MethodName))).before a0 Z = true := hw _ (List.mem_of_getElem? (i := 94) rfl)
theorem wd95 {a0 : Array Value} {Z : State} (hw : HW a0 Z) : ((Jvm.Cond.code ({ cls := "java/lang/String", name := "getBytes", desc := "([BIB)V" } : Jvm.MethodName) jdk_42_method_147_code (4 : Nat) (Option.none : Option Jvm.ClassFile.FieldType))).before a0 Z = true := hw _ (List.mem_of_getElem? (i := 95) rfl)
theorem wd96 {a0 : Array Value} {Z : State} (hw : HW a0 Z) : ((Jvm.Cond.methodLink "java/lang/String" (212 : Nat) ({ cls := "java/lang/System", name := "arraycopy", desc := "(Ljava/lang/Object;ILjava/lang/Object;II)V" } : Jvm.MethodName))).before a0 Z = true := hw _ (List.mem_of_getElem? (i := 96) rfl)
theorem wd97 {a0 : Array Value} {Z : State} (hw : HW a0 Z) : ((Jvm.Cond.static ({ cls := "java/lang/System", name := "arraycopy", desc := "(Ljava/lang/Object;ILjava/lang/Object;II)V" } : Jvm.MethodName))).before a0 Z = true := hw _ (List.mem_of_getElem? (i := 97) rfl)
theorem wd98 {a0 : Array Value} {Z : State} (hw : HW a0 Z) : ((Jvm.Cond.initialized "java/lang/System")).before a0 Z = true := hw _ (List.mem_of_getElem? (i := 98) rfl)
theorem wd99 {a0 : Array Value} {Z : State} (hw : HW a0 Z) : ((Jvm.Cond.native ({ cls := "java/lang/System", name := "arraycopy", desc := "(Ljava/lang/Object;ILjava/lang/Object;II)V" } : Jvm.MethodName))).before a0 Z = true := hw _ (List.mem_of_getElem? (i := 99) rfl)
theorem wd100 {a0 : Array Value} {Z : State} (hw : HW a0 Z) : ((Jvm.Cond.methodLink "com/example/makespan/makespan/model/VmType" (34 : Nat) ({ cls := "java/lang/StringBuilder", name := "toString", desc := "()Ljava/lang/String;" } : Jvm.MethodName))).before a0 Z = true := hw _ (List.mem_of_getElem? (i := 100) rfl)
theorem wd101 {a0 : Array Value} {Z : State} (hw : HW a0 Z) : ((Jvm.Cond.declares ({ cls := "java/lang/StringBuilder", name := "toString", desc := "()Ljava/lang/String;" } : Jvm.MethodName))).before a0 Z = true := hw _ (List.mem_of_getElem? (i := 101) rfl)
theorem wd102 {a0 : Array Value} {Z : State} (hw : HW a0 Z) : ((Jvm.Cond.instanceMethod ({ cls := "java/lang/StringBuilder", name := "toString", desc := "()Ljava/lang/String;" } : Jvm.MethodName))).before a0 Z = true := hw _ (List.mem_of_getElem? (i := 102) rfl)
theorem wd103 {a0 : Array Value} {Z : State} (hw : HW a0 Z) : ((Jvm.Cond.selects "java/lang/StringBuilder" ({ cls := "java/lang/StringBuilder", name := "toString", desc := "()Ljava/lang/String;" } : Jvm.MethodName) ({ cls := "java/lang/StringBuilder", name := "toString", desc := "()Ljava/lang/String;" } : Jvm.MethodName))).before a0 Z = true := hw _ (List.mem_of_getElem? (i := 103) rfl)
theorem wd104 {a0 : Array Value} {Z : State} (hw : HW a0 Z) : ((Jvm.Cond.code ({ cls := "java/lang/StringBuilder", name := "toString", desc := "()Ljava/lang/String;" } : Jvm.MethodName) jdk_67_method_42_code (1 : Nat) (Option.some (Jvm.ClassFile.FieldType.object "java/lang/String")))).before a0 Z = true := hw _ (List.mem_of_getElem? (i := 104) rfl)
theorem wd105 {a0 : Array Value} {Z : State} (hw : HW a0 Z) : ((Jvm.Cond.classLink "java/lang/StringBuilder" (18 : Nat) "java/lang/String")).before a0 Z = true := hw _ (List.mem_of_getElem? (i := 105) rfl)
theorem wd106 {a0 : Array Value} {Z : State} (hw : HW a0 Z) : ((Jvm.Cond.methodLink "java/lang/StringBuilder" (137 : Nat) ({ cls := "java/lang/String", name := "<init>", desc := "(Ljava/lang/StringBuilder;)V" } : Jvm.MethodName))).before a0 Z = true := hw _ (List.mem_of_getElem? (i := 106) rfl)
theorem wd107 {a0 : Array Value} {Z : State} (hw : HW a0 Z) : ((Jvm.Cond.instanceMethod ({ cls := "java/lang/String", name := "<init>", desc := "(Ljava/lang/StringBuilder;)V" } : Jvm.MethodName))).before a0 Z = true := hw _ (List.mem_of_getElem? (i := 107) rfl)
theorem wd108 {a0 : Array Value} {Z : State} (hw : HW a0 Z) : ((Jvm.Cond.code ({ cls := "java/lang/String", name := "<init>", desc := "(Ljava/lang/StringBuilder;)V" } : Jvm.MethodName) jdk_42_method_53_code (2 : Nat) (Option.none : Option Jvm.ClassFile.FieldType))).before a0 Z = true := hw _ (List.mem_of_getElem? (i := 108) rfl)
theorem wd109 {a0 : Array Value} {Z : State} (hw : HW a0 Z) : ((Jvm.Cond.methodLink "java/lang/String" (489 : Nat) ({ cls := "java/lang/String", name := "<init>", desc := "(Ljava/lang/AbstractStringBuilder;Ljava/lang/Void;)V" } : Jvm.MethodName))).before a0 Z = true := hw _ (List.mem_of_getElem? (i := 109) rfl)
theorem wd110 {a0 : Array Value} {Z : State} (hw : HW a0 Z) : ((Jvm.Cond.instanceMethod ({ cls := "java/lang/String", name := "<init>", desc := "(Ljava/lang/AbstractStringBuilder;Ljava/lang/Void;)V" } : Jvm.MethodName))).before a0 Z = true := hw _ (List.mem_of_getElem? (i := 110) rfl)
theorem wd111 {a0 : Array Value} {Z : State} (hw : HW a0 Z) : ((Jvm.Cond.code ({ cls := "java/lang/String", name := "<init>", desc := "(Ljava/lang/AbstractStringBuilder;Ljava/lang/Void;)V" } : Jvm.MethodName) jdk_42_method_150_code (5 : Nat) (Option.none : Option Jvm.ClassFile.FieldType))).before a0 Z = true := hw _ (List.mem_of_getElem? (i := 111) rfl)
theorem wd112 {a0 : Array Value} {Z : State} (hw : HW a0 Z) : ((Jvm.Cond.methodLink "java/lang/String" (1 : Nat) ({ cls := "java/lang/Object", name := "<init>", desc := "()V" } : Jvm.MethodName))).before a0 Z = true := hw _ (List.mem_of_getElem? (i := 112) rfl)
theorem wd113 {a0 : Array Value} {Z : State} (hw : HW a0 Z) : ((Jvm.Cond.methodLink "java/lang/String" (552 : Nat) ({ cls := "java/lang/AbstractStringBuilder", name := "getValue", desc := "()[B" } : Jvm.MethodName))).before a0 Z = true := hw _ (List.mem_of_getElem? (i := 113) rfl)
theorem wd114 {a0 : Array Value} {Z : State} (hw : HW a0 Z) : ((Jvm.Cond.declares ({ cls := "java/lang/AbstractStringBuilder", name := "getValue", desc := "()[B" } : Jvm.MethodName))).before a0 Z = true := hw _ (List.mem_of_getElem? (i := 114) rfl)
theorem wd115 {a0 : Array Value} {Z : State} (hw : HW a0 Z) : ((Jvm.Cond.instanceMethod ({ cls := "java/lang/AbstractStringBuilder", name := "getValue", desc := "()[B" } : Jvm.MethodName))).before a0 Z = true := hw _ (List.mem_of_getElem? (i := 115) rfl)
theorem wd116 {a0 : Array Value} {Z : State} (hw : HW a0 Z) : ((Jvm.Cond.selects "java/lang/StringBuilder" ({ cls := "java/lang/AbstractStringBuilder", name := "getValue", desc := "()[B" } : Jvm.MethodName) ({ cls := "java/lang/AbstractStringBuilder", name := "getValue", desc := "()[B" } : Jvm.MethodName))).before a0 Z = true := hw _ (List.mem_of_getElem? (i := 116) rfl)
theorem wd117 {a0 : Array Value} {Z : State} (hw : HW a0 Z) : ((Jvm.Cond.code ({ cls := "java/lang/AbstractStringBuilder", name := "getValue", desc := "()[B" } : Jvm.MethodName) jdk_68_method_64_code (1 : Nat) (Option.some (Jvm.ClassFile.FieldType.array Jvm.ClassFile.FieldType.byte)))).before a0 Z = true := hw _ (List.mem_of_getElem? (i := 117) rfl)
theorem wd118 {a0 : Array Value} {Z : State} (hw : HW a0 Z) : ((Jvm.Cond.methodLink "java/lang/String" (549 : Nat) ({ cls := "java/lang/AbstractStringBuilder", name := "length", desc := "()I" } : Jvm.MethodName))).before a0 Z = true := hw _ (List.mem_of_getElem? (i := 118) rfl)
theorem wd119 {a0 : Array Value} {Z : State} (hw : HW a0 Z) : ((Jvm.Cond.declares ({ cls := "java/lang/AbstractStringBuilder", name := "length", desc := "()I" } : Jvm.MethodName))).before a0 Z = true := hw _ (List.mem_of_getElem? (i := 119) rfl)
theorem wd120 {a0 : Array Value} {Z : State} (hw : HW a0 Z) : ((Jvm.Cond.instanceMethod ({ cls := "java/lang/AbstractStringBuilder", name := "length", desc := "()I" } : Jvm.MethodName))).before a0 Z = true := hw _ (List.mem_of_getElem? (i := 120) rfl)
theorem wd121 {a0 : Array Value} {Z : State} (hw : HW a0 Z) : ((Jvm.Cond.selects "java/lang/StringBuilder" ({ cls := "java/lang/AbstractStringBuilder", name := "length", desc := "()I" } : Jvm.MethodName) ({ cls := "java/lang/StringBuilder", name := "length", desc := "()I" } : Jvm.MethodName))).before a0 Z = true := hw _ (List.mem_of_getElem? (i := 121) rfl)
theorem wd122 {a0 : Array Value} {Z : State} (hw : HW a0 Z) : ((Jvm.Cond.instanceMethod ({ cls := "java/lang/StringBuilder", name := "length", desc := "()I" } : Jvm.MethodName))).before a0 Z = true := hw _ (List.mem_of_getElem? (i := 122) rfl)
theorem wd123 {a0 : Array Value} {Z : State} (hw : HW a0 Z) : ((Jvm.Cond.code ({ cls := "java/lang/StringBuilder", name := "length", desc := "()I" } : Jvm.MethodName) jdk_67_method_93_code (1 : Nat) (Option.some Jvm.ClassFile.FieldType.int))).before a0 Z = true := hw _ (List.mem_of_getElem? (i := 123) rfl)
theorem wd124 {a0 : Array Value} {Z : State} (hw : HW a0 Z) : ((Jvm.Cond.methodLink "java/lang/StringBuilder" (343 : Nat) ({ cls := "java/lang/AbstractStringBuilder", name := "length", desc := "()I" } : Jvm.MethodName))).before a0 Z = true := hw _ (List.mem_of_getElem? (i := 124) rfl)
theorem wd125 {a0 : Array Value} {Z : State} (hw : HW a0 Z) : ((Jvm.Cond.code ({ cls := "java/lang/AbstractStringBuilder", name := "length", desc := "()I" } : Jvm.MethodName) jdk_68_method_6_code (1 : Nat) (Option.some Jvm.ClassFile.FieldType.int))).before a0 Z = true := hw _ (List.mem_of_getElem? (i := 125) rfl)
theorem wd126 {a0 : Array Value} {Z : State} (hw : HW a0 Z) : ((Jvm.Cond.methodLink "java/lang/String" (1047 : Nat) ({ cls := "java/lang/AbstractStringBuilder", name := "isLatin1", desc := "()Z" } : Jvm.MethodName))).before a0 Z = true := hw _ (List.mem_of_getElem? (i := 126) rfl)
theorem wd127 {a0 : Array Value} {Z : State} (hw : HW a0 Z) : ((Jvm.Cond.declares ({ cls := "java/lang/AbstractStringBuilder", name := "isLatin1", desc := "()Z" } : Jvm.MethodName))).before a0 Z = true := hw _ (List.mem_of_getElem? (i := 127) rfl)
theorem wd128 {a0 : Array Value} {Z : State} (hw : HW a0 Z) : ((Jvm.Cond.instanceMethod ({ cls := "java/lang/AbstractStringBuilder", name := "isLatin1", desc := "()Z" } : Jvm.MethodName))).before a0 Z = true := hw _ (List.mem_of_getElem? (i := 128) rfl)
theorem wd129 {a0 : Array Value} {Z : State} (hw : HW a0 Z) : ((Jvm.Cond.selects "java/lang/StringBuilder" ({ cls := "java/lang/AbstractStringBuilder", name := "isLatin1", desc := "()Z" } : Jvm.MethodName) ({ cls := "java/lang/AbstractStringBuilder", name := "isLatin1", desc := "()Z" } : Jvm.MethodName))).before a0 Z = true := hw _ (List.mem_of_getElem? (i := 129) rfl)
theorem wd130 {a0 : Array Value} {Z : State} (hw : HW a0 Z) : ((Jvm.Cond.code ({ cls := "java/lang/AbstractStringBuilder", name := "isLatin1", desc := "()Z" } : Jvm.MethodName) jdk_68_method_68_code (1 : Nat) (Option.some Jvm.ClassFile.FieldType.boolean))).before a0 Z = true := hw _ (List.mem_of_getElem? (i := 130) rfl)
theorem wd131 {a0 : Array Value} {Z : State} (hw : HW a0 Z) : ((Jvm.Cond.methodLink "java/lang/String" (54 : Nat) ({ cls := "java/util/Arrays", name := "copyOfRange", desc := "([BII)[B" } : Jvm.MethodName))).before a0 Z = true := hw _ (List.mem_of_getElem? (i := 131) rfl)
theorem wd132 {a0 : Array Value} {Z : State} (hw : HW a0 Z) : ((Jvm.Cond.static ({ cls := "java/util/Arrays", name := "copyOfRange", desc := "([BII)[B" } : Jvm.MethodName))).before a0 Z = true := hw _ (List.mem_of_getElem? (i := 132) rfl)
theorem wd133 {a0 : Array Value} {Z : State} (hw : HW a0 Z) : ((Jvm.Cond.initialized "java/util/Arrays")).before a0 Z = true := hw _ (List.mem_of_getElem? (i := 133) rfl)
theorem wd134 {a0 : Array Value} {Z : State} (hw : HW a0 Z) : ((Jvm.Cond.code ({ cls := "java/util/Arrays", name := "copyOfRange", desc := "([BII)[B" } : Jvm.MethodName) jdk_65_method_132_code (3 : Nat) (Option.some (Jvm.ClassFile.FieldType.array Jvm.ClassFile.FieldType.byte)))).before a0 Z = true := hw _ (List.mem_of_getElem? (i := 134) rfl)
theorem wd135 {a0 : Array Value} {Z : State} (hw : HW a0 Z) : ((Jvm.Cond.methodLink "java/util/Arrays" (339 : Nat) ({ cls := "java/util/Arrays", name := "copyOfRangeByte", desc := "([BII)[B" } : Jvm.MethodName))).before a0 Z = true := hw _ (List.mem_of_getElem? (i := 135) rfl)
theorem wd136 {a0 : Array Value} {Z : State} (hw : HW a0 Z) : ((Jvm.Cond.static ({ cls := "java/util/Arrays", name := "copyOfRangeByte", desc := "([BII)[B" } : Jvm.MethodName))).before a0 Z = true := hw _ (List.mem_of_getElem? (i := 136) rfl)
theorem wd137 {a0 : Array Value} {Z : State} (hw : HW a0 Z) : ((Jvm.Cond.code ({ cls := "java/util/Arrays", name := "copyOfRangeByte", desc := "([BII)[B" } : Jvm.MethodName) jdk_65_method_133_code (5 : Nat) (Option.some (Jvm.ClassFile.FieldType.array Jvm.ClassFile.FieldType.byte)))).before a0 Z = true := hw _ (List.mem_of_getElem? (i := 137) rfl)
theorem wd138 {a0 : Array Value} {Z : State} (hw : HW a0 Z) : ((Jvm.Cond.methodLink "java/util/Arrays" (343 : Nat) ({ cls := "java/util/Arrays", name := "checkLength", desc := "(II)V" } : Jvm.MethodName))).before a0 Z = true := hw _ (List.mem_of_getElem? (i := 138) rfl)
theorem wd139 {a0 : Array Value} {Z : State} (hw : HW a0 Z) : ((Jvm.Cond.static ({ cls := "java/util/Arrays", name := "checkLength", desc := "(II)V" } : Jvm.MethodName))).before a0 Z = true := hw _ (List.mem_of_getElem? (i := 139) rfl)
theorem wd140 {a0 : Array Value} {Z : State} (hw : HW a0 Z) : ((Jvm.Cond.code ({ cls := "java/util/Arrays", name := "checkLength", desc := "(II)V" } : Jvm.MethodName) jdk_65_method_131_code (2 : Nat) (Option.none : Option Jvm.ClassFile.FieldType))).before a0 Z = true := hw _ (List.mem_of_getElem? (i := 140) rfl)
theorem wd141 {a0 : Array Value} {Z : State} (hw : HW a0 Z) : ((Jvm.Cond.methodLink "java/util/Arrays" (304 : Nat) ({ cls := "java/lang/Math", name := "min", desc := "(II)I" } : Jvm.MethodName))).before a0 Z = true := hw _ (List.mem_of_getElem? (i := 141) rfl)
theorem wd142 {a0 : Array Value} {Z : State} (hw : HW a0 Z) : ((Jvm.Cond.static ({ cls := "java/lang/Math", name := "min", desc := "(II)I" } : Jvm.MethodName))).before a0 Z = true := hw _ (List.mem_of_getElem? (i := 142) rfl)
theorem wd143 {a0 : Array Value} {Z : State} (hw : HW a0 Z) : ((Jvm.Cond.initialized "java/lang/Math")).before a0 Z = true := hw _ (List.mem_of_getElem? (i := 143) rfl)
theorem wd144 {a0 : Array Value} {Z : State} (hw : HW a0 Z) : ((Jvm.Cond.code ({ cls := "java/lang/Math", name := "min", desc := "(II)I" } : Jvm.MethodName) jdk_29_method_69_code (2 : Nat) (Option.some Jvm.ClassFile.FieldType.int))).before a0 Z = true := hw _ (List.mem_of_getElem? (i := 144) rfl)
theorem wd145 {a0 : Array Value} {Z : State} (hw : HW a0 Z) : ((Jvm.Cond.methodLink "java/util/Arrays" (150 : Nat) ({ cls := "java/lang/System", name := "arraycopy", desc := "(Ljava/lang/Object;ILjava/lang/Object;II)V" } : Jvm.MethodName))).before a0 Z = true := hw _ (List.mem_of_getElem? (i := 145) rfl)
theorem wd146 {a0 : Array Value} {Z : State} (hw : HW a0 Z) : ((Jvm.Cond.stringLink "com/example/makespan/makespan/model/VmType" (38 : Nat) "speed")).before a0 Z = true := hw _ (List.mem_of_getElem? (i := 146) rfl)
theorem wd147 {a0 : Array Value} {Z : State} (hw : HW a0 Z) : ((Jvm.Cond.methodLink "com/example/makespan/makespan/model/VmType" (40 : Nat) ({ cls := "com/example/makespan/makespan/model/Ranges", name := "aboveZero", desc := "(Ljava/lang/String;Ljava/lang/String;D)D" } : Jvm.MethodName))).before a0 Z = true := hw _ (List.mem_of_getElem? (i := 147) rfl)
theorem wd148 {a0 : Array Value} {Z : State} (hw : HW a0 Z) : ((Jvm.Cond.static ({ cls := "com/example/makespan/makespan/model/Ranges", name := "aboveZero", desc := "(Ljava/lang/String;Ljava/lang/String;D)D" } : Jvm.MethodName))).before a0 Z = true := hw _ (List.mem_of_getElem? (i := 148) rfl)
theorem wd149 {a0 : Array Value} {Z : State} (hw : HW a0 Z) : ((Jvm.Cond.initialized "com/example/makespan/makespan/model/Ranges")).before a0 Z = true := hw _ (List.mem_of_getElem? (i := 149) rfl)
theorem wd150 {a0 : Array Value} {Z : State} (hw : HW a0 Z) : ((Jvm.Cond.code ({ cls := "com/example/makespan/makespan/model/Ranges", name := "aboveZero", desc := "(Ljava/lang/String;Ljava/lang/String;D)D" } : Jvm.MethodName) prog_45_method_2_code (4 : Nat) (Option.some Jvm.ClassFile.FieldType.double))).before a0 Z = true := hw _ (List.mem_of_getElem? (i := 150) rfl)
theorem wd151 {a0 : Array Value} {Z : State} (hw : HW a0 Z) : ((Jvm.Cond.methodLink "com/example/makespan/makespan/model/Ranges" (7 : Nat) ({ cls := "java/lang/Double", name := "isInfinite", desc := "(D)Z" } : Jvm.MethodName))).before a0 Z = true := hw _ (List.mem_of_getElem? (i := 151) rfl)
theorem wd152 {a0 : Array Value} {Z : State} (hw : HW a0 Z) : ((Jvm.Cond.static ({ cls := "java/lang/Double", name := "isInfinite", desc := "(D)Z" } : Jvm.MethodName))).before a0 Z = true := hw _ (List.mem_of_getElem? (i := 152) rfl)
theorem wd153 {a0 : Array Value} {Z : State} (hw : HW a0 Z) : ((Jvm.Cond.initialized "java/lang/Double")).before a0 Z = true := hw _ (List.mem_of_getElem? (i := 153) rfl)
theorem wd154 {a0 : Array Value} {Z : State} (hw : HW a0 Z) : ((Jvm.Cond.code ({ cls := "java/lang/Double", name := "isInfinite", desc := "(D)Z" } : Jvm.MethodName) jdk_117_method_7_code (2 : Nat) (Option.some Jvm.ClassFile.FieldType.boolean))).before a0 Z = true := hw _ (List.mem_of_getElem? (i := 154) rfl)
theorem wd155 {a0 : Array Value} {Z : State} (hw : HW a0 Z) : ((Jvm.Cond.methodLink "java/lang/Double" (38 : Nat) ({ cls := "java/lang/Math", name := "abs", desc := "(D)D" } : Jvm.MethodName))).before a0 Z = true := hw _ (List.mem_of_getElem? (i := 155) rfl)
theorem wd156 {a0 : Array Value} {Z : State} (hw : HW a0 Z) : ((Jvm.Cond.static ({ cls := "java/lang/Math", name := "abs", desc := "(D)D" } : Jvm.MethodName))).before a0 Z = true := hw _ (List.mem_of_getElem? (i := 156) rfl)
theorem wd157 {a0 : Array Value} {Z : State} (hw : HW a0 Z) : ((Jvm.Cond.code ({ cls := "java/lang/Math", name := "abs", desc := "(D)D" } : Jvm.MethodName) jdk_29_method_64_code (2 : Nat) (Option.some Jvm.ClassFile.FieldType.double))).before a0 Z = true := hw _ (List.mem_of_getElem? (i := 157) rfl)
theorem wd158 {a0 : Array Value} {Z : State} (hw : HW a0 Z) : ((Jvm.Cond.constantDouble "java/lang/Double" (111 : Nat) (9218868437227405311 : UInt64))).before a0 Z = true := hw _ (List.mem_of_getElem? (i := 158) rfl)
theorem wd159 {a0 : Array Value} {Z : State} (hw : HW a0 Z) : ((Jvm.Cond.fieldLink "com/example/makespan/makespan/model/VmType" (46 : Nat) "com/example/makespan/makespan/model/VmType" "speed" "D")).before a0 Z = true := hw _ (List.mem_of_getElem? (i := 159) rfl)
theorem wd160 {a0 : Array Value} {Z : State} (hw : HW a0 Z) : ((Jvm.Cond.laysFinal "com/example/makespan/makespan/model/VmType" "com/example/makespan/makespan/model/VmType" "speed" "D")).before a0 Z = true := hw _ (List.mem_of_getElem? (i := 160) rfl)
theorem wd161 {a0 : Array Value} {Z : State} (hw : HW a0 Z) : ((Jvm.Cond.stringLink "com/example/makespan/makespan/model/VmType" (49 : Nat) "pricePerPeriod")).before a0 Z = true := hw _ (List.mem_of_getElem? (i := 161) rfl)
theorem wd162 {a0 : Array Value} {Z : State} (hw : HW a0 Z) : ((Jvm.Cond.methodLink "com/example/makespan/makespan/model/VmType" (51 : Nat) ({ cls := "com/example/makespan/makespan/model/Ranges", name := "zeroOrAbove", desc := "(Ljava/lang/String;Ljava/lang/String;D)D" } : Jvm.MethodName))).before a0 Z = true := hw _ (List.mem_of_getElem? (i := 162) rfl)
theorem wd163 {a0 : Array Value} {Z : State} (hw : HW a0 Z) : ((Jvm.Cond.static ({ cls := "com/example/makespan/makespan/model/Ranges", name := "zeroOrAbove", desc := "(Ljava/lang/String;Ljava/lang/String;D)D" } : Jvm.MethodName))).before a0 Z = true := hw _ (List.mem_of_getElem? (i := 163) rfl)
theorem wd164 {a0 : Array Value} {Z : State} (hw : HW a0 Z) : ((Jvm.Cond.code ({ cls := "com/example/makespan/makespan/model/Ranges", name := "zeroOrAbove", desc := "(Ljava/lang/String;Ljava/lang/String;D)D" } : Jvm.MethodName) prog_45_method_3_code (4 : Nat) (Option.some Jvm.ClassFile.FieldType.double))).before a0 Z = true := hw _ (List.mem_of_getElem? (i := 164) rfl)
theorem wd165 {a0 : Array Value} {Z : State} (hw : HW a0 Z) : ((Jvm.Cond.methodLink "com/example/makespan/makespan/model/Ranges" (21 : Nat) ({ cls := "com/example/makespan/makespan/model/Ranges", name := "isZeroOrAbove", desc := "(D)Z" } : Jvm.MethodName))).before a0 Z = true := hw _ (List.mem_of_getElem? (i := 165) rfl)
theorem wd166 {a0 : Array Value} {Z : State} (hw : HW a0 Z) : ((Jvm.Cond.static ({ cls := "com/example/makespan/makespan/model/Ranges", name := "isZeroOrAbove", desc := "(D)Z" } : Jvm.MethodName))).before a0 Z = true := hw _ (List.mem_of_getElem? (i := 166) rfl)
theorem wd167 {a0 : Array Value} {Z : State} (hw : HW a0 Z) : ((Jvm.Cond.code ({ cls := "com/example/makespan/makespan/model/Ranges", name := "isZeroOrAbove", desc := "(D)Z" } : Jvm.MethodName) prog_45_method_5_code (2 : Nat) (Option.some Jvm.ClassFile.FieldType.boolean))).before a0 Z = true := hw _ (List.mem_of_getElem? (i := 167) rfl)
theorem wd168 {a0 : Array Value} {Z : State} (hw : HW a0 Z) : ((Jvm.Cond.fieldLink "com/example/makespan/makespan/model/VmType" (54 : Nat) "com/example/makespan/makespan/model/VmType" "pricePerPeriod" "D")).before a0 Z = true := hw _ (List.mem_of_getElem? (i := 168) rfl)
theorem wd169 {a0 : Array Value} {Z : State} (hw : HW a0 Z) : ((Jvm.Cond.laysFinal "com/example/makespan/makespan/model/VmType" "com/example/makespan/makespan/model/VmType" "pricePerPeriod" "D")).before a0 Z = true := hw _ (List.mem_of_getElem? (i := 169) rfl)
theorem wd170 {a0 : Array Value} {Z : State} (hw : HW a0 Z) : ((Jvm.Cond.stringLink "com/example/makespan/makespan/model/VmType" (56 : Nat) "periodSeconds")).before a0 Z = true := hw _ (List.mem_of_getElem? (i := 170) rfl)
theorem wd171 {a0 : Array Value} {Z : State} (hw : HW a0 Z) : ((Jvm.Cond.fieldLink "com/example/makespan/makespan/model/VmType" (58 : Nat) "com/example/makespan/makespan/model/VmType" "periodSeconds" "D")).before a0 Z = true := hw _ (List.mem_of_getElem? (i := 171) rfl)
theorem wd172 {a0 : Array Value} {Z : State} (hw : HW a0 Z) : ((Jvm.Cond.laysFinal "com/example/makespan/makespan/model/VmType" "com/example/makespan/makespan/model/VmType" "periodSeconds" "D")).before a0 Z = true := hw _ (List.mem_of_getElem? (i := 172) rfl)
theorem wd173 {a0 : Array Value} {Z : State} (hw : HW a0 Z) : ((Jvm.Cond.stringLink "com/example/makespan/makespan/model/VmType" (60 : Nat) "pricePerPeriod / periodSeconds")).before a0 Z = true := hw _ (List.mem_of_getElem? (i := 173) rfl)
theorem wd174 {a0 : Array Value} {Z : State} (hw : HW a0 Z) : ((Jvm.Cond.stringLink "com/example/makespan/makespan/model/VmType" (62 : Nat) "bootSeconds")).before a0 Z = true := hw _ (List.mem_of_getElem? (i := 174) rfl)
theorem wd175 {a0 : Array Value} {Z : State} (hw : HW a0 Z) : ((Jvm.Cond.fieldLink "com/example/makespan/makespan/model/VmType" (64 : Nat) "com/example/makespan/makespan/model/VmType" "bootSeconds" "D")).before a0 Z = true := hw _ (List.mem_of_getElem? (i := 175) rfl)
theorem wd176 {a0 : Array Value} {Z : State} (hw : HW a0 Z) : ((Jvm.Cond.laysFinal "com/example/makespan/makespan/model/VmType" "com/example/makespan/makespan/model/VmType" "bootSeconds" "D")).before a0 Z = true := hw _ (List.mem_of_getElem? (i := 176) rfl)
theorem wd177 {a0 : Array Value} {Z : State} (hw : HW a0 Z) : ((Jvm.Cond.fieldLink "com/example/makespan/makespan/model/VmType" (66 : Nat) "com/example/makespan/makespan/model/VmType" "bootBilled" "Z")).before a0 Z = true := hw _ (List.mem_of_getElem? (i := 177) rfl)
theorem wd178 {a0 : Array Value} {Z : State} (hw : HW a0 Z) : ((Jvm.Cond.laysFinal "com/example/makespan/makespan/model/VmType" "com/example/makespan/makespan/model/VmType" "bootBilled" "Z")).before a0 Z = true := hw _ (List.mem_of_getElem? (i := 178) rfl)
theorem wd179 {a0 : Array Value} {Z : State} (hw : HW a0 Z) : ((Jvm.Cond.stringLink "com/example/makespan/makespan/model/VmType" (70 : Nat) "startupFee")).before a0 Z = true := hw _ (List.mem_of_getElem? (i := 179) rfl)
theorem wd180 {a0 : Array Value} {Z : State} (hw : HW a0 Z) : ((Jvm.Cond.fieldLink "com/example/makespan/makespan/model/VmType" (72 : Nat) "com/example/makespan/makespan/model/VmType" "startupFee" "D")).before a0 Z = true := hw _ (List.mem_of_getElem? (i := 180) rfl)
theorem wd181 {a0 : Array Value} {Z : State} (hw : HW a0 Z) : ((Jvm.Cond.laysFinal "com/example/makespan/makespan/model/VmType" "com/example/makespan/makespan/model/VmType" "startupFee" "D")).before a0 Z = true := hw _ (List.mem_of_getElem? (i := 181) rfl)
theorem wd182 {a0 : Array Value} {Z : State} (hw : HW a0 Z) : ((Jvm.Cond.classLink "com/example/makespan/makespan/planning/TaskOnTypeWithFeesPinLaw" (15 : Nat) "com/example/makespan/makespan/planning/TaskOnType")).before a0 Z = true := hw _ (List.mem_of_getElem? (i := 182) rfl)
theorem wd183 {a0 : Array Value} {Z : State} (hw : HW a0 Z) : ((Jvm.Cond.instantiable "com/example/makespan/makespan/planning/TaskOnType" (8 : Nat))).before a0 Z = true := hw _ (List.mem_of_getElem? (i := 183) rfl)
theorem wd184 {a0 : Array Value} {Z : State} (hw : HW a0 Z) : ((Jvm.Cond.initialized "com/example/makespan/makespan/planning/TaskOnType")).before a0 Z = true := hw _ (List.mem_of_getElem? (i := 184) rfl)
theorem wd185 {a0 : Array Value} {Z : State} (hw : HW a0 Z) : ((Jvm.Cond.fieldLink "com/example/makespan/makespan/planning/TaskOnTypeWithFeesPinLaw" (17 : Nat) "com/example/makespan/makespan/model/Billing" "LEASE" "Lcom/example/makespan/makespan/model/Billing;")).before a0 Z = true := hw _ (List.mem_of_getElem? (i := 185) rfl)
theorem wd186 {a0 : Array Value} {Z : State} (hw : HW a0 Z) : ((Jvm.Cond.initialized "com/example/makespan/makespan/model/Billing")).before a0 Z = true := hw _ (List.mem_of_getElem? (i := 186) rfl)
theorem wd187 {a0 : Array Value} {Z : State} (hw : HW a0 Z) : ((Jvm.Cond.laysStatic "com/example/makespan/makespan/model/Billing" "LEASE" "Lcom/example/makespan/makespan/model/Billing;")).before a0 Z = true := hw _ (List.mem_of_getElem? (i := 187) rfl)
theorem wd188 {a0 : Array Value} {Z : State} (hw : HW a0 Z) : ((Jvm.Cond.methodLink "com/example/makespan/makespan/planning/TaskOnTypeWithFeesPinLaw" (23 : Nat) ({ cls := "com/example/makespan/makespan/planning/TaskOnType", name := "<init>", desc := "(Lcom/example/makespan/makespan/model/VmType;Lcom/example/makespan/makespan/model/Billing;IDD[D)V" } : Jvm.MethodName))).before a0 Z = true := hw _ (List.mem_of_getElem? (i := 188) rfl)
theorem wd189 {a0 : Array Value} {Z : State} (hw : HW a0 Z) : ((Jvm.Cond.instanceMethod ({ cls := "com/example/makespan/makespan/planning/TaskOnType", name := "<init>", desc := "(Lcom/example/makespan/makespan/model/VmType;Lcom/example/makespan/makespan/model/Billing;IDD[D)V" } : Jvm.MethodName))).before a0 Z = true := hw _ (List.mem_of_getElem? (i := 189) rfl)
theorem wd190 {a0 : Array Value} {Z : State} (hw : HW a0 Z) : ((Jvm.Cond.code ({ cls := "com/example/makespan/makespan/planning/TaskOnType", name := "<init>", desc := "(Lcom/example/makespan/makespan/model/VmType;Lcom/example/makespan/makespan/model/Billing;IDD[D)V" } : Jvm.MethodName) prog_105_method_1_code (11 : Nat) (Option.none : Option Jvm.ClassFile.FieldType))).before a0 Z = true := hw _ (List.mem_of_getElem? (i := 190) rfl)
theorem wd191 {a0 : Array Value} {Z : State} (hw : HW a0 Z) : ((Jvm.Cond.methodLink "com/example/makespan/makespan/planning/TaskOnType" (1 : Nat) ({ cls := "java/lang/Object", name := "<init>", desc := "()V" } : Jvm.MethodName))).before a0 Z = true := hw _ (List.mem_of_getElem? (i := 191) rfl)
theorem wd192 {a0 : Array Value} {Z : State} (hw : HW a0 Z) : ((Jvm.Cond.fieldLink "com/example/makespan/makespan/planning/TaskOnType" (7 : Nat) "com/example/makespan/makespan/planning/TaskOnType" "type" "Lcom/example/makespan/makespan/model/VmType;")).before a0 Z = true := hw _ (List.mem_of_getElem? (i := 192) rfl)
theorem wd193 {a0 : Array Value} {Z : State} (hw : HW a0 Z) : ((Jvm.Cond.laysFinal "com/example/makespan/makespan/planning/TaskOnType" "com/example/makespan/makespan/planning/TaskOnType" "type" "Lcom/example/makespan/makespan/model/VmType;")).before a0 Z = true := hw _ (List.mem_of_getElem? (i := 193) rfl)
theorem wd194 {a0 : Array Value} {Z : State} (hw : HW a0 Z) : ((Jvm.Cond.fieldLink "com/example/makespan/makespan/planning/TaskOnType" (13 : Nat) "com/example/makespan/makespan/planning/TaskOnType" "billing" "Lcom/example/makespan/makespan/model/Billing;")).before a0 Z = true := hw _ (List.mem_of_getElem? (i := 194) rfl)
theorem wd195 {a0 : Array Value} {Z : State} (hw : HW a0 Z) : ((Jvm.Cond.laysFinal "com/example/makespan/makespan/planning/TaskOnType" "com/example/makespan/makespan/planning/TaskOnType" "billing" "Lcom/example/makespan/makespan/model/Billing;")).before a0 Z = true := hw _ (List.mem_of_getElem? (i := 195) rfl)
theorem wd196 {a0 : Array Value} {Z : State} (hw : HW a0 Z) : ((Jvm.Cond.fieldLink "com/example/makespan/makespan/planning/TaskOnType" (17 : Nat) "com/example/makespan/makespan/planning/TaskOnType" "input" "I")).before a0 Z = true := hw _ (List.mem_of_getElem? (i := 196) rfl)
theorem wd197 {a0 : Array Value} {Z : State} (hw : HW a0 Z) : ((Jvm.Cond.laysFinal "com/example/makespan/makespan/planning/TaskOnType" "com/example/makespan/makespan/planning/TaskOnType" "input" "I")).before a0 Z = true := hw _ (List.mem_of_getElem? (i := 197) rfl)
theorem wd198 {a0 : Array Value} {Z : State} (hw : HW a0 Z) : ((Jvm.Cond.fieldLink "com/example/makespan/makespan/planning/TaskOnType" (21 : Nat) "com/example/makespan/makespan/planning/TaskOnType" "arrival" "D")).before a0 Z = true := hw _ (List.mem_of_getElem? (i := 198) rfl)
theorem wd199 {a0 : Array Value} {Z : State} (hw : HW a0 Z) : ((Jvm.Cond.laysFinal "com/example/makespan/makespan/planning/TaskOnType" "com/example/makespan/makespan/planning/TaskOnType" "arrival" "D")).before a0 Z = true := hw _ (List.mem_of_getElem? (i := 199) rfl)
theorem wd200 {a0 : Array Value} {Z : State} (hw : HW a0 Z) : ((Jvm.Cond.methodLink "com/example/makespan/makespan/planning/TaskOnType" (25 : Nat) ({ cls := "com/example/makespan/makespan/model/VmType", name := "getBootSeconds", desc := "()D" } : Jvm.MethodName))).before a0 Z = true := hw _ (List.mem_of_getElem? (i := 200) rfl)
theorem wd201 {a0 : Array Value} {Z : State} (hw : HW a0 Z) : ((Jvm.Cond.declares ({ cls := "com/example/makespan/makespan/model/VmType", name := "getBootSeconds", desc := "()D" } : Jvm.MethodName))).before a0 Z = true := hw _ (List.mem_of_getElem? (i := 201) rfl)
theorem wd202 {a0 : Array Value} {Z : State} (hw : HW a0 Z) : ((Jvm.Cond.instanceMethod ({ cls := "com/example/makespan/makespan/model/VmType", name := "getBootSeconds", desc := "()D" } : Jvm.MethodName))).before a0 Z = true := hw _ (List.mem_of_getElem? (i := 202) rfl)
theorem wd203 {a0 : Array Value} {Z : State} (hw : HW a0 Z) : ((Jvm.Cond.selects "com/example/makespan/makespan/model/VmType" ({ cls := "com/example/makespan/makespan/model/VmType", name := "getBootSeconds", desc := "()D" } : Jvm.MethodName) ({ cls := "com/example/makespan/makespan/model/VmType", name := "getBootSeconds", desc := "()D" } : Jvm.MethodName))).before a0 Z = true := hw _ (List.mem_of_getElem? (i := 203) rfl)
theorem wd204 {a0 : Array Value} {Z : State} (hw : HW a0 Z) : ((Jvm.Cond.code ({ cls := "com/example/makespan/makespan/model/VmType", name := "getBootSeconds", desc := "()D" } : Jvm.MethodName) prog_51_method_7_code (1 : Nat) (Option.some Jvm.ClassFile.FieldType.double))).before a0 Z = true := hw _ (List.mem_of_getElem? (i := 204) rfl)
theorem wd205 {a0 : Array Value} {Z : State} (hw : HW a0 Z) : ((Jvm.Cond.methodLink "com/example/makespan/makespan/planning/TaskOnType" (31 : Nat) ({ cls := "java/lang/Math", name := "max", desc := "(DD)D" } : Jvm.MethodName))).before a0 Z = true := hw _ (List.mem_of_getElem? (i := 205) rfl)
theorem wd206 {a0 : Array Value} {Z : State} (hw : HW a0 Z) : ((Jvm.Cond.static ({ cls := "java/lang/Math", name := "max", desc := "(DD)D" } : Jvm.MethodName))).before a0 Z = true := hw _ (List.mem_of_getElem? (i := 206) rfl)
theorem wd207 {a0 : Array Value} {Z : State} (hw : HW a0 Z) : ((Jvm.Cond.code ({ cls := "java/lang/Math", name := "max", desc := "(DD)D" } : Jvm.MethodName) jdk_29_method_68_code (4 : Nat) (Option.some Jvm.ClassFile.FieldType.double))).before a0 Z = true := hw _ (List.mem_of_getElem? (i := 207) rfl)
theorem wd208 {a0 : Array Value} {Z : State} (hw : HW a0 Z) : ((Jvm.Cond.fieldLink "com/example/makespan/makespan/planning/TaskOnType" (37 : Nat) "com/example/makespan/makespan/planning/TaskOnType" "ready" "D")).before a0 Z = true := hw _ (List.mem_of_getElem? (i := 208) rfl)
theorem wd209 {a0 : Array Value} {Z : State} (hw : HW a0 Z) : ((Jvm.Cond.laysFinal "com/example/makespan/makespan/planning/TaskOnType" "com/example/makespan/makespan/planning/TaskOnType" "ready" "D")).before a0 Z = true := hw _ (List.mem_of_getElem? (i := 209) rfl)
theorem wd210 {a0 : Array Value} {Z : State} (hw : HW a0 Z) : ((Jvm.Cond.fieldLink "com/example/makespan/makespan/planning/TaskOnType" (40 : Nat) "com/example/makespan/makespan/planning/TaskOnType" "seconds" "D")).before a0 Z = true := hw _ (List.mem_of_getElem? (i := 210) rfl)
theorem wd211 {a0 : Array Value} {Z : State} (hw : HW a0 Z) : ((Jvm.Cond.laysFinal "com/example/makespan/makespan/planning/TaskOnType" "com/example/makespan/makespan/planning/TaskOnType" "seconds" "D")).before a0 Z = true := hw _ (List.mem_of_getElem? (i := 211) rfl)
theorem wd212 {a0 : Array Value} {Z : State} (hw : HW a0 Z) : ((Jvm.Cond.fieldLink "com/example/makespan/makespan/planning/TaskOnType" (43 : Nat) "com/example/makespan/makespan/planning/TaskOnType" "fees" "[D")).before a0 Z = true := hw _ (List.mem_of_getElem? (i := 212) rfl)
theorem wd213 {a0 : Array Value} {Z : State} (hw : HW a0 Z) : ((Jvm.Cond.laysFinal "com/example/makespan/makespan/planning/TaskOnType" "com/example/makespan/makespan/planning/TaskOnType" "fees" "[D")).before a0 Z = true := hw _ (List.mem_of_getElem? (i := 213) rfl)
theorem wd214 {a0 : Array Value} {Z : State} (hw : HW a0 Z) : ((Jvm.Cond.fieldLink "com/example/makespan/makespan/planning/TaskOnType" (47 : Nat) "com/example/makespan/makespan/planning/TaskOnType" "feesAllZero" "Z")).before a0 Z = true := hw _ (List.mem_of_getElem? (i := 214) rfl)
theorem wd215 {a0 : Array Value} {Z : State} (hw : HW a0 Z) : ((Jvm.Cond.laysFinal "com/example/makespan/makespan/planning/TaskOnType" "com/example/makespan/makespan/planning/TaskOnType" "feesAllZero" "Z")).before a0 Z = true := hw _ (List.mem_of_getElem? (i := 215) rfl)
theorem wd216 {a0 : Array Value} {Z : State} (hw : HW a0 Z) : ((Jvm.Cond.methodLink "com/example/makespan/makespan/planning/TaskOnTypeWithFeesPinLaw" (26 : Nat) ({ cls := "com/example/makespan/makespan/planning/TaskOnType", name := "withFees", desc := "(D)D" } : Jvm.MethodName))).before a0 Z = true := hw _ (List.mem_of_getElem? (i := 216) rfl)
theorem wd217 {a0 : Array Value} {Z : State} (hw : HW a0 Z) : ((Jvm.Cond.declares ({ cls := "com/example/makespan/makespan/planning/TaskOnType", name := "withFees", desc := "(D)D" } : Jvm.MethodName))).before a0 Z = true := hw _ (List.mem_of_getElem? (i := 217) rfl)
theorem wd218 {a0 : Array Value} {Z : State} (hw : HW a0 Z) : ((Jvm.Cond.instanceMethod ({ cls := "com/example/makespan/makespan/planning/TaskOnType", name := "withFees", desc := "(D)D" } : Jvm.MethodName))).before a0 Z = true := hw _ (List.mem_of_getElem? (i := 218) rfl)
theorem wd219 {a0 : Array Value} {Z : State} (hw : HW a0 Z) : ((Jvm.Cond.selects "com/example/makespan/makespan/planning/TaskOnType" ({ cls := "com/example/makespan/makespan/planning/TaskOnType", name := "withFees", desc := "(D)D" } : Jvm.MethodName) ({ cls := "com/example/makespan/makespan/planning/TaskOnType", name := "withFees", desc := "(D)D" } : Jvm.MethodName))).before a0 Z = true := hw _ (List.mem_of_getElem? (i := 219) rfl)
theorem wd220 {a0 : Array Value} {Z : State} (hw : HW a0 Z) : ((Jvm.Cond.code ({ cls := "com/example/makespan/makespan/planning/TaskOnType", name := "withFees", desc := "(D)D" } : Jvm.MethodName) prog_105_method_12_code (10 : Nat) (Option.some Jvm.ClassFile.FieldType.double))).before a0 Z = true := hw _ (List.mem_of_getElem? (i := 220) rfl)
theorem wd221 {a0 : Array Value} {Z : State} (hw : HW a0 Z) : ((Jvm.Cond.methodLink "com/example/makespan/makespan/planning/TaskOnTypeWithFeesPinLaw" (30 : Nat) ({ cls := "com/example/makespan/makespan/planning/TaskOnTypeWithFeesPinLaw", name := "sameDouble", desc := "(DD)Z" } : Jvm.MethodName))).before a0 Z = true := hw _ (List.mem_of_getElem? (i := 221) rfl)
theorem wd222 {a0 : Array Value} {Z : State} (hw : HW a0 Z) : ((Jvm.Cond.static ({ cls := "com/example/makespan/makespan/planning/TaskOnTypeWithFeesPinLaw", name := "sameDouble", desc := "(DD)Z" } : Jvm.MethodName))).before a0 Z = true := hw _ (List.mem_of_getElem? (i := 222) rfl)
theorem wd223 {a0 : Array Value} {Z : State} (hw : HW a0 Z) : ((Jvm.Cond.initialized "com/example/makespan/makespan/planning/TaskOnTypeWithFeesPinLaw")).before a0 Z = true := hw _ (List.mem_of_getElem? (i := 223) rfl)
theorem wd224 {a0 : Array Value} {Z : State} (hw : HW a0 Z) : ((Jvm.Cond.code ({ cls := "com/example/makespan/makespan/planning/TaskOnTypeWithFeesPinLaw", name := "sameDouble", desc := "(DD)Z" } : Jvm.MethodName) method_3_code (4 : Nat) (Option.some Jvm.ClassFile.FieldType.boolean))).before a0 Z = true := hw _ (List.mem_of_getElem? (i := 224) rfl)
theorem d1_0 : decode prog_51_method_1_code 0 = .ok (.aload_n 0, 1) := by decide +kernel
theorem d1_1 : decode prog_51_method_1_code 1 = .ok (.aload_n 1, 1) := by decide +kernel
theorem d1_2 : decode prog_51_method_1_code 2 = .ok (.dload_n 2, 1) := by decide +kernel
theorem d1_3 : decode prog_51_method_1_code 3 = .ok (.dload 4, 2) := by decide +kernel
theorem d1_5 : decode prog_51_method_1_code 5 = .ok (.dload 6, 2) := by decide +kernel
theorem d1_7 : decode prog_51_method_1_code 7 = .ok (.dconst 0, 1) := by decide +kernel
theorem d1_8 : decode prog_51_method_1_code 8 = .ok (.iconst 1, 1) := by decide +kernel
theorem d1_9 : decode prog_51_method_1_code 9 = .ok (.dconst 0, 1) := by decide +kernel
theorem d1_10 : decode prog_51_method_1_code 10 = .ok (.invokespecial 1, 3) := by decide +kernel
theorem d1_13 : decode prog_51_method_1_code 13 = .ok (.return_, 1) := by decide +kernel
theorem d2_0 : decode prog_51_method_2_code 0 = .ok (.aload_n 0, 1) := by decide +kernel
theorem d2_1 : decode prog_51_method_2_code 1 = .ok (.invokespecial 7, 3) := by decide +kernel
theorem d2_4 : decode prog_51_method_2_code 4 = .ok (.aload_n 0, 1) := by decide +kernel
theorem d2_5 : decode prog_51_method_2_code 5 = .ok (.aload_n 1, 1) := by decide +kernel
theorem d2_6 : decode prog_51_method_2_code 6 = .ok (.ldc 12, 2) := by decide +kernel
theorem d2_8 : decode prog_51_method_2_code 8 = .ok (.invokestatic 14, 3) := by decide +kernel
theorem d2_11 : decode prog_51_method_2_code 11 = .ok (.checkcast 20, 3) := by decide +kernel
theorem d2_14 : decode prog_51_method_2_code 14 = .ok (.putfield 22, 3) := by decide +kernel
theorem d2_17 : decode prog_51_method_2_code 17 = .ok (.new 25, 3) := by decide +kernel
theorem d2_20 : decode prog_51_method_2_code 20 = .ok (.dup, 1) := by decide +kernel
theorem d2_21 : decode prog_51_method_2_code 21 = .ok (.invokespecial 27, 3) := by decide +kernel
theorem d2_24 : decode prog_51_method_2_code 24 = .ok (.ldc 28, 2) := by decide +kernel
theorem d2_26 : decode prog_51_method_2_code 26 = .ok (.invokevirtual 30, 3) := by decide +kernel
theorem d2_29 : decode prog_51_method_2_code 29 = .ok (.aload_n 1, 1) := by decide +kernel
theorem d2_30 : decode prog_51_method_2_code 30 = .ok (.invokevirtual 30, 3) := by decide +kernel
theorem d2_33 : decode prog_51_method_2_code 33 = .ok (.invokevirtual 34, 3) := by decide +kernel
theorem d2_36 : decode prog_51_method_2_code 36 = .ok (.astore 13, 2) := by decide +kernel
theorem d2_38 : decode prog_51_method_2_code 38 = .ok (.aload_n 0, 1) := by decide +kernel
theorem d2_39 : decode prog_51_method_2_code 39 = .ok (.aload 13, 2) := by decide +kernel
theorem d2_41 : decode prog_51_method_2_code 41 = .ok (.ldc 38, 2) := by decide +kernel
theorem d2_43 : decode prog_51_method_2_code 43 = .ok (.dload_n 2, 1) := by decide +kernel
theorem d2_44 : decode prog_51_method_2_code 44 = .ok (.invokestatic 40, 3) := by decide +kernel
theorem d2_47 : decode prog_51_method_2_code 47 = .ok (.putfield 46, 3) := by decide +kernel
theorem d2_50 : decode prog_51_method_2_code 50 = .ok (.aload_n 0, 1) := by decide +kernel
theorem d2_51 : decode prog_51_method_2_code 51 = .ok (.aload 13, 2) := by decide +kernel
theorem d2_53 : decode prog_51_method_2_code 53 = .ok (.ldc 49, 2) := by decide +kernel
theorem d2_55 : decode prog_51_method_2_code 55 = .ok (.dload 4, 2) := by decide +kernel
theorem d2_57 : decode prog_51_method_2_code 57 = .ok (.invokestatic 51, 3) := by decide +kernel
theorem d2_60 : decode prog_51_method_2_code 60 = .ok (.putfield 54, 3) := by decide +kernel
theorem d2_63 : decode prog_51_method_2_code 63 = .ok (.aload_n 0, 1) := by decide +kernel
theorem d2_64 : decode prog_51_method_2_code 64 = .ok (.aload 13, 2) := by decide +kernel
theorem d2_66 : decode prog_51_method_2_code 66 = .ok (.ldc 56, 2) := by decide +kernel
theorem d2_68 : decode prog_51_method_2_code 68 = .ok (.dload 6, 2) := by decide +kernel
theorem d2_70 : decode prog_51_method_2_code 70 = .ok (.invokestatic 40, 3) := by decide +kernel
theorem d2_73 : decode prog_51_method_2_code 73 = .ok (.putfield 58, 3) := by decide +kernel
theorem d2_76 : decode prog_51_method_2_code 76 = .ok (.aload 13, 2) := by decide +kernel
theorem d2_78 : decode prog_51_method_2_code 78 = .ok (.ldc 60, 2) := by decide +kernel
theorem d2_80 : decode prog_51_method_2_code 80 = .ok (.dload 4, 2) := by decide +kernel
theorem d2_82 : decode prog_51_method_2_code 82 = .ok (.dload 6, 2) := by decide +kernel
theorem d2_84 : decode prog_51_method_2_code 84 = .ok (.ddiv, 1) := by decide +kernel
theorem d2_85 : decode prog_51_method_2_code 85 = .ok (.invokestatic 51, 3) := by decide +kernel
theorem d2_88 : decode prog_51_method_2_code 88 = .ok (.pop2, 1) := by decide +kernel
theorem d2_89 : decode prog_51_method_2_code 89 = .ok (.aload_n 0, 1) := by decide +kernel
theorem d2_90 : decode prog_51_method_2_code 90 = .ok (.aload 13, 2) := by decide +kernel
theorem d2_92 : decode prog_51_method_2_code 92 = .ok (.ldc 62, 2) := by decide +kernel
theorem d2_94 : decode prog_51_method_2_code 94 = .ok (.dload 8, 2) := by decide +kernel
theorem d2_96 : decode prog_51_method_2_code 96 = .ok (.invokestatic 51, 3) := by decide +kernel
theorem d2_99 : decode prog_51_method_2_code 99 = .ok (.putfield 64, 3) := by decide +kernel
theorem d2_102 : decode prog_51_method_2_code 102 = .ok (.aload_n 0, 1) := by decide +kernel
theorem d2_103 : decode prog_51_method_2_code 103 = .ok (.iload 10, 2) := by decide +kernel
theorem d2_105 : decode prog_51_method_2_code 105 = .ok (.putfield 66, 3) := by decide +kernel
theorem d2_108 : decode prog_51_method_2_code 108 = .ok (.aload_n 0, 1) := by decide +kernel
theorem d2_109 : decode prog_51_method_2_code 109 = .ok (.aload 13, 2) := by decide +kernel
theorem d2_111 : decode prog_51_method_2_code 111 = .ok (.ldc 70, 2) := by decide +kernel
theorem d2_113 : decode prog_51_method_2_code 113 = .ok (.dload 11, 2) := by decide +kernel
theorem d2_115 : decode prog_51_method_2_code 115 = .ok (.invokestatic 51, 3) := by decide +kernel
theorem d2_118 : decode prog_51_method_2_code 118 = .ok (.putfield 72, 3) := by decide +kernel
theorem d2_121 : decode prog_51_method_2_code 121 = .ok (.return_, 1) := by decide +kernel
theorem d4_0 : decode jdk_31_method_11_code 0 = .ok (.aload_n 0, 1) := by decide +kernel
theorem d4_1 : decode jdk_31_method_11_code 1 = .ok (.ifnonnull 12, 3) := by decide +kernel
theorem d4_13 : decode jdk_31_method_11_code 13 = .ok (.aload_n 0, 1) := by decide +kernel
theorem d4_14 : decode jdk_31_method_11_code 14 = .ok (.areturn, 1) := by decide +kernel
theorem d5_0 : decode jdk_67_method_1_code 0 = .ok (.aload_n 0, 1) := by decide +kernel
theorem d5_1 : decode jdk_67_method_1_code 1 = .ok (.bipush 16, 2) := by decide +kernel
theorem d5_3 : decode jdk_67_method_1_code 3 = .ok (.invokespecial 1, 3) := by decide +kernel
theorem d5_6 : decode jdk_67_method_1_code 6 = .ok (.return_, 1) := by decide +kernel
theorem d6_0 : decode jdk_68_method_2_code 0 = .ok (.aload_n 0, 1) := by decide +kernel
theorem d6_1 : decode jdk_68_method_2_code 1 = .ok (.invokespecial 3, 3) := by decide +kernel
theorem d6_4 : decode jdk_68_method_2_code 4 = .ok (.getstatic 18, 3) := by decide +kernel
theorem d6_7 : decode jdk_68_method_2_code 7 = .ok (.ifCond .eq 18, 3) := by decide +kernel
theorem d6_10 : decode jdk_68_method_2_code 10 = .ok (.aload_n 0, 1) := by decide +kernel
theorem d6_11 : decode jdk_68_method_2_code 11 = .ok (.iload_n 1, 1) := by decide +kernel
theorem d6_12 : decode jdk_68_method_2_code 12 = .ok (.newarray .byte, 2) := by decide +kernel
theorem d6_14 : decode jdk_68_method_2_code 14 = .ok (.putfield 15, 3) := by decide +kernel
theorem d6_17 : decode jdk_68_method_2_code 17 = .ok (.aload_n 0, 1) := by decide +kernel
theorem d6_18 : decode jdk_68_method_2_code 18 = .ok (.iconst 0, 1) := by decide +kernel
theorem d6_19 : decode jdk_68_method_2_code 19 = .ok (.putfield 22, 3) := by decide +kernel
theorem d6_22 : decode jdk_68_method_2_code 22 = .ok (.goto 16, 3) := by decide +kernel
theorem d6_38 : decode jdk_68_method_2_code 38 = .ok (.return_, 1) := by decide +kernel
theorem d7_0 : decode jdk_67_method_7_code 0 = .ok (.aload_n 0, 1) := by decide +kernel
theorem d7_1 : decode jdk_67_method_7_code 1 = .ok (.aload_n 1, 1) := by decide +kernel
theorem d7_2 : decode jdk_67_method_7_code 2 = .ok (.invokespecial 29, 3) := by decide +kernel
theorem d7_5 : decode jdk_67_method_7_code 5 = .ok (.pop, 1) := by decide +kernel
theorem d7_6 : decode jdk_67_method_7_code 6 = .ok (.aload_n 0, 1) := by decide +kernel
theorem d7_7 : decode jdk_67_method_7_code 7 = .ok (.areturn, 1) := by decide +kernel
theorem d8_0 : decode jdk_68_method_22_code 0 = .ok (.aload_n 1, 1) := by decide +kernel
theorem d8_1 : decode jdk_68_method_22_code 1 = .ok (.ifnonnull 8, 3) := by decide +kernel
theorem d8_9 : decode jdk_68_method_22_code 9 = .ok (.aload_n 1, 1) := by decide +kernel
theorem d8_10 : decode jdk_68_method_22_code 10 = .ok (.invokevirtual 32, 3) := by decide +kernel
theorem d8_13 : decode jdk_68_method_22_code 13 = .ok (.istore_n 2, 1) := by decide +kernel
theorem d8_14 : decode jdk_68_method_22_code 14 = .ok (.aload_n 0, 1) := by decide +kernel
theorem d8_15 : decode jdk_68_method_22_code 15 = .ok (.aload_n 0, 1) := by decide +kernel
theorem d8_16 : decode jdk_68_method_22_code 16 = .ok (.getfield 79, 3) := by decide +kernel
theorem d8_19 : decode jdk_68_method_22_code 19 = .ok (.iload_n 2, 1) := by decide +kernel
theorem d8_20 : decode jdk_68_method_22_code 20 = .ok (.iadd, 1) := by decide +kernel
theorem d8_21 : decode jdk_68_method_22_code 21 = .ok (.invokevirtual 100, 3) := by decide +kernel
theorem d8_24 : decode jdk_68_method_22_code 24 = .ok (.aload_n 0, 1) := by decide +kernel
theorem d8_25 : decode jdk_68_method_22_code 25 = .ok (.aload_n 0, 1) := by decide +kernel
theorem d8_26 : decode jdk_68_method_22_code 26 = .ok (.getfield 79, 3) := by decide +kernel
theorem d8_29 : decode jdk_68_method_22_code 29 = .ok (.aload_n 1, 1) := by decide +kernel
theorem d8_30 : decode jdk_68_method_22_code 30 = .ok (.invokevirtual 208, 3) := by decide +kernel
theorem d8_33 : decode jdk_68_method_22_code 33 = .ok (.aload_n 0, 1) := by decide +kernel
theorem d8_34 : decode jdk_68_method_22_code 34 = .ok (.dup, 1) := by decide +kernel
theorem d8_35 : decode jdk_68_method_22_code 35 = .ok (.getfield 79, 3) := by decide +kernel
theorem d8_38 : decode jdk_68_method_22_code 38 = .ok (.iload_n 2, 1) := by decide +kernel
theorem d8_39 : decode jdk_68_method_22_code 39 = .ok (.iadd, 1) := by decide +kernel
theorem d8_40 : decode jdk_68_method_22_code 40 = .ok (.putfield 79, 3) := by decide +kernel
theorem d8_43 : decode jdk_68_method_22_code 43 = .ok (.aload_n 0, 1) := by decide +kernel
theorem d8_44 : decode jdk_68_method_22_code 44 = .ok (.areturn, 1) := by decide +kernel
theorem d9_0 : decode jdk_42_method_54_code 0 = .ok (.aload_n 0, 1) := by decide +kernel
theorem d9_1 : decode jdk_42_method_54_code 1 = .ok (.getfield 9, 3) := by decide +kernel
theorem d9_4 : decode jdk_42_method_54_code 4 = .ok (.arraylength, 1) := by decide +kernel
theorem d9_5 : decode jdk_42_method_54_code 5 = .ok (.aload_n 0, 1) := by decide +kernel
theorem d9_6 : decode jdk_42_method_54_code 6 = .ok (.invokevirtual 335, 3) := by decide +kernel
theorem d9_9 : decode jdk_42_method_54_code 9 = .ok (.ishr, 1) := by decide +kernel
theorem d9_10 : decode jdk_42_method_54_code 10 = .ok (.ireturn, 1) := by decide +kernel
theorem d10_0 : decode jdk_42_method_152_code 0 = .ok (.getstatic 38, 3) := by decide +kernel
theorem d10_3 : decode jdk_42_method_152_code 3 = .ok (.ifCond .eq 10, 3) := by decide +kernel
theorem d10_6 : decode jdk_42_method_152_code 6 = .ok (.aload_n 0, 1) := by decide +kernel
theorem d10_7 : decode jdk_42_method_152_code 7 = .ok (.getfield 15, 3) := by decide +kernel
theorem d10_10 : decode jdk_42_method_152_code 10 = .ok (.goto 4, 3) := by decide +kernel
theorem d10_14 : decode jdk_42_method_152_code 14 = .ok (.ireturn, 1) := by decide +kernel
theorem d11_0 : decode jdk_68_method_9_code 0 = .ok (.aload_n 0, 1) := by decide +kernel
theorem d11_1 : decode jdk_68_method_9_code 1 = .ok (.getfield 15, 3) := by decide +kernel
theorem d11_4 : decode jdk_68_method_9_code 4 = .ok (.arraylength, 1) := by decide +kernel
theorem d11_5 : decode jdk_68_method_9_code 5 = .ok (.aload_n 0, 1) := by decide +kernel
theorem d11_6 : decode jdk_68_method_9_code 6 = .ok (.getfield 22, 3) := by decide +kernel
theorem d11_9 : decode jdk_68_method_9_code 9 = .ok (.ishr, 1) := by decide +kernel
theorem d11_10 : decode jdk_68_method_9_code 10 = .ok (.istore_n 2, 1) := by decide +kernel
theorem d11_11 : decode jdk_68_method_9_code 11 = .ok (.iload_n 1, 1) := by decide +kernel
theorem d11_12 : decode jdk_68_method_9_code 12 = .ok (.iload_n 2, 1) := by decide +kernel
theorem d11_13 : decode jdk_68_method_9_code 13 = .ok (.isub, 1) := by decide +kernel
theorem d11_14 : decode jdk_68_method_9_code 14 = .ok (.ifCond .le 24, 3) := by decide +kernel
theorem d11_38 : decode jdk_68_method_9_code 38 = .ok (.return_, 1) := by decide +kernel
theorem d12_0 : decode jdk_68_method_73_code 0 = .ok (.aload_n 0, 1) := by decide +kernel
theorem d12_1 : decode jdk_68_method_73_code 1 = .ok (.aload_n 2, 1) := by decide +kernel
theorem d12_2 : decode jdk_68_method_73_code 2 = .ok (.invokevirtual 397, 3) := by decide +kernel
theorem d12_5 : decode jdk_68_method_73_code 5 = .ok (.aload_n 2, 1) := by decide +kernel
theorem d12_6 : decode jdk_68_method_73_code 6 = .ok (.aload_n 0, 1) := by decide +kernel
theorem d12_7 : decode jdk_68_method_73_code 7 = .ok (.getfield 15, 3) := by decide +kernel
theorem d12_10 : decode jdk_68_method_73_code 10 = .ok (.iload_n 1, 1) := by decide +kernel
theorem d12_11 : decode jdk_68_method_73_code 11 = .ok (.aload_n 0, 1) := by decide +kernel
theorem d12_12 : decode jdk_68_method_73_code 12 = .ok (.getfield 22, 3) := by decide +kernel
theorem d12_15 : decode jdk_68_method_73_code 15 = .ok (.invokevirtual 399, 3) := by decide +kernel
theorem d12_18 : decode jdk_68_method_73_code 18 = .ok (.return_, 1) := by decide +kernel
theorem d13_0 : decode jdk_68_method_71_code 0 = .ok (.getstatic 18, 3) := by decide +kernel
theorem d13_3 : decode jdk_68_method_71_code 3 = .ok (.ifCond .eq 18, 3) := by decide +kernel
theorem d13_6 : decode jdk_68_method_71_code 6 = .ok (.aload_n 0, 1) := by decide +kernel
theorem d13_7 : decode jdk_68_method_71_code 7 = .ok (.getfield 22, 3) := by decide +kernel
theorem d13_10 : decode jdk_68_method_71_code 10 = .ok (.aload_n 1, 1) := by decide +kernel
theorem d13_11 : decode jdk_68_method_71_code 11 = .ok (.invokevirtual 40, 3) := by decide +kernel
theorem d13_14 : decode jdk_68_method_71_code 14 = .ok (.if_icmp .eq 7, 3) := by decide +kernel
theorem d13_21 : decode jdk_68_method_71_code 21 = .ok (.return_, 1) := by decide +kernel
theorem d14_0 : decode jdk_42_method_147_code 0 = .ok (.aload_n 0, 1) := by decide +kernel
theorem d14_1 : decode jdk_42_method_147_code 1 = .ok (.invokevirtual 335, 3) := by decide +kernel
theorem d14_4 : decode jdk_42_method_147_code 4 = .ok (.iload_n 3, 1) := by decide +kernel
theorem d14_5 : decode jdk_42_method_147_code 5 = .ok (.if_icmp .ne 23, 3) := by decide +kernel
theorem d14_8 : decode jdk_42_method_147_code 8 = .ok (.aload_n 0, 1) := by decide +kernel
theorem d14_9 : decode jdk_42_method_147_code 9 = .ok (.getfield 9, 3) := by decide +kernel
theorem d14_12 : decode jdk_42_method_147_code 12 = .ok (.iconst 0, 1) := by decide +kernel
theorem d14_13 : decode jdk_42_method_147_code 13 = .ok (.aload_n 1, 1) := by decide +kernel
theorem d14_14 : decode jdk_42_method_147_code 14 = .ok (.iload_n 2, 1) := by decide +kernel
theorem d14_15 : decode jdk_42_method_147_code 15 = .ok (.iload_n 3, 1) := by decide +kernel
theorem d14_16 : decode jdk_42_method_147_code 16 = .ok (.ishl, 1) := by decide +kernel
theorem d14_17 : decode jdk_42_method_147_code 17 = .ok (.aload_n 0, 1) := by decide +kernel
theorem d14_18 : decode jdk_42_method_147_code 18 = .ok (.getfield 9, 3) := by decide +kernel
theorem d14_21 : decode jdk_42_method_147_code 21 = .ok (.arraylength, 1) := by decide +kernel
theorem d14_22 : decode jdk_42_method_147_code 22 = .ok (.invokestatic 212, 3) := by decide +kernel
theorem d14_25 : decode jdk_42_method_147_code 25 = .ok (.goto 18, 3) := by decide +kernel
theorem d14_43 : decode jdk_42_method_147_code 43 = .ok (.return_, 1) := by decide +kernel
theorem d15_0 : decode jdk_67_method_42_code 0 = .ok (.new 18, 3) := by decide +kernel
theorem d15_3 : decode jdk_67_method_42_code 3 = .ok (.dup, 1) := by decide +kernel
theorem d15_4 : decode jdk_67_method_42_code 4 = .ok (.aload_n 0, 1) := by decide +kernel
theorem d15_5 : decode jdk_67_method_42_code 5 = .ok (.invokespecial 137, 3) := by decide +kernel
theorem d15_8 : decode jdk_67_method_42_code 8 = .ok (.areturn, 1) := by decide +kernel
theorem d16_0 : decode jdk_42_method_53_code 0 = .ok (.aload_n 0, 1) := by decide +kernel
theorem d16_1 : decode jdk_42_method_53_code 1 = .ok (.aload_n 1, 1) := by decide +kernel
theorem d16_2 : decode jdk_42_method_53_code 2 = .ok (.aconst_null, 1) := by decide +kernel
theorem d16_3 : decode jdk_42_method_53_code 3 = .ok (.invokespecial 489, 3) := by decide +kernel
theorem d16_6 : decode jdk_42_method_53_code 6 = .ok (.return_, 1) := by decide +kernel
theorem d17_0 : decode jdk_42_method_150_code 0 = .ok (.aload_n 0, 1) := by decide +kernel
theorem d17_1 : decode jdk_42_method_150_code 1 = .ok (.invokespecial 1, 3) := by decide +kernel
theorem d17_4 : decode jdk_42_method_150_code 4 = .ok (.aload_n 1, 1) := by decide +kernel
theorem d17_5 : decode jdk_42_method_150_code 5 = .ok (.invokevirtual 552, 3) := by decide +kernel
theorem d17_8 : decode jdk_42_method_150_code 8 = .ok (.astore_n 3, 1) := by decide +kernel
theorem d17_9 : decode jdk_42_method_150_code 9 = .ok (.aload_n 1, 1) := by decide +kernel
theorem d17_10 : decode jdk_42_method_150_code 10 = .ok (.invokevirtual 549, 3) := by decide +kernel
theorem d17_13 : decode jdk_42_method_150_code 13 = .ok (.istore 4, 2) := by decide +kernel
theorem d17_15 : decode jdk_42_method_150_code 15 = .ok (.aload_n 1, 1) := by decide +kernel
theorem d17_16 : decode jdk_42_method_150_code 16 = .ok (.invokevirtual 1047, 3) := by decide +kernel
theorem d17_19 : decode jdk_42_method_150_code 19 = .ok (.ifCond .eq 22, 3) := by decide +kernel
theorem d17_22 : decode jdk_42_method_150_code 22 = .ok (.aload_n 0, 1) := by decide +kernel
theorem d17_23 : decode jdk_42_method_150_code 23 = .ok (.iconst 0, 1) := by decide +kernel
theorem d17_24 : decode jdk_42_method_150_code 24 = .ok (.putfield 15, 3) := by decide +kernel
theorem d17_27 : decode jdk_42_method_150_code 27 = .ok (.aload_n 0, 1) := by decide +kernel
theorem d17_28 : decode jdk_42_method_150_code 28 = .ok (.aload_n 3, 1) := by decide +kernel
theorem d17_29 : decode jdk_42_method_150_code 29 = .ok (.iconst 0, 1) := by decide +kernel
theorem d17_30 : decode jdk_42_method_150_code 30 = .ok (.iload 4, 2) := by decide +kernel
theorem d17_32 : decode jdk_42_method_150_code 32 = .ok (.invokestatic 54, 3) := by decide +kernel
theorem d17_35 : decode jdk_42_method_150_code 35 = .ok (.putfield 9, 3) := by decide +kernel
theorem d17_38 : decode jdk_42_method_150_code 38 = .ok (.goto 59, 3) := by decide +kernel
theorem d17_97 : decode jdk_42_method_150_code 97 = .ok (.return_, 1) := by decide +kernel
theorem d18_0 : decode jdk_68_method_64_code 0 = .ok (.aload_n 0, 1) := by decide +kernel
theorem d18_1 : decode jdk_68_method_64_code 1 = .ok (.getfield 15, 3) := by decide +kernel
theorem d18_4 : decode jdk_68_method_64_code 4 = .ok (.areturn, 1) := by decide +kernel
theorem d19_0 : decode jdk_67_method_93_code 0 = .ok (.aload_n 0, 1) := by decide +kernel
theorem d19_1 : decode jdk_67_method_93_code 1 = .ok (.invokespecial 343, 3) := by decide +kernel
theorem d19_4 : decode jdk_67_method_93_code 4 = .ok (.ireturn, 1) := by decide +kernel
theorem d20_0 : decode jdk_68_method_6_code 0 = .ok (.aload_n 0, 1) := by decide +kernel
theorem d20_1 : decode jdk_68_method_6_code 1 = .ok (.getfield 79, 3) := by decide +kernel
theorem d20_4 : decode jdk_68_method_6_code 4 = .ok (.ireturn, 1) := by decide +kernel
theorem d21_0 : decode jdk_68_method_68_code 0 = .ok (.getstatic 18, 3) := by decide +kernel
theorem d21_3 : decode jdk_68_method_68_code 3 = .ok (.ifCond .eq 14, 3) := by decide +kernel
theorem d21_6 : decode jdk_68_method_68_code 6 = .ok (.aload_n 0, 1) := by decide +kernel
theorem d21_7 : decode jdk_68_method_68_code 7 = .ok (.getfield 22, 3) := by decide +kernel
theorem d21_10 : decode jdk_68_method_68_code 10 = .ok (.ifCond .ne 7, 3) := by decide +kernel
theorem d21_13 : decode jdk_68_method_68_code 13 = .ok (.iconst 1, 1) := by decide +kernel
theorem d21_14 : decode jdk_68_method_68_code 14 = .ok (.goto 4, 3) := by decide +kernel
theorem d21_18 : decode jdk_68_method_68_code 18 = .ok (.ireturn, 1) := by decide +kernel
theorem d22_0 : decode jdk_65_method_132_code 0 = .ok (.iload_n 1, 1) := by decide +kernel
theorem d22_1 : decode jdk_65_method_132_code 1 = .ok (.ifCond .ne 9, 3) := by decide +kernel
theorem d22_4 : decode jdk_65_method_132_code 4 = .ok (.iload_n 2, 1) := by decide +kernel
theorem d22_5 : decode jdk_65_method_132_code 5 = .ok (.aload_n 0, 1) := by decide +kernel
theorem d22_6 : decode jdk_65_method_132_code 6 = .ok (.arraylength, 1) := by decide +kernel
theorem d22_7 : decode jdk_65_method_132_code 7 = .ok (.if_icmp .eq 10, 3) := by decide +kernel
theorem d22_10 : decode jdk_65_method_132_code 10 = .ok (.aload_n 0, 1) := by decide +kernel
theorem d22_11 : decode jdk_65_method_132_code 11 = .ok (.iload_n 1, 1) := by decide +kernel
theorem d22_12 : decode jdk_65_method_132_code 12 = .ok (.iload_n 2, 1) := by decide +kernel
theorem d22_13 : decode jdk_65_method_132_code 13 = .ok (.invokestatic 339, 3) := by decide +kernel
theorem d22_16 : decode jdk_65_method_132_code 16 = .ok (.areturn, 1) := by decide +kernel
theorem d23_0 : decode jdk_65_method_133_code 0 = .ok (.iload_n 1, 1) := by decide +kernel
theorem d23_1 : decode jdk_65_method_133_code 1 = .ok (.iload_n 2, 1) := by decide +kernel
theorem d23_2 : decode jdk_65_method_133_code 2 = .ok (.invokestatic 343, 3) := by decide +kernel
theorem d23_5 : decode jdk_65_method_133_code 5 = .ok (.iload_n 2, 1) := by decide +kernel
theorem d23_6 : decode jdk_65_method_133_code 6 = .ok (.iload_n 1, 1) := by decide +kernel
theorem d23_7 : decode jdk_65_method_133_code 7 = .ok (.isub, 1) := by decide +kernel
theorem d23_8 : decode jdk_65_method_133_code 8 = .ok (.istore_n 3, 1) := by decide +kernel
theorem d23_9 : decode jdk_65_method_133_code 9 = .ok (.iload_n 3, 1) := by decide +kernel
theorem d23_10 : decode jdk_65_method_133_code 10 = .ok (.newarray .byte, 2) := by decide +kernel
theorem d23_12 : decode jdk_65_method_133_code 12 = .ok (.astore 4, 2) := by decide +kernel
theorem d23_14 : decode jdk_65_method_133_code 14 = .ok (.aload_n 0, 1) := by decide +kernel
theorem d23_15 : decode jdk_65_method_133_code 15 = .ok (.iload_n 1, 1) := by decide +kernel
theorem d23_16 : decode jdk_65_method_133_code 16 = .ok (.aload 4, 2) := by decide +kernel
theorem d23_18 : decode jdk_65_method_133_code 18 = .ok (.iconst 0, 1) := by decide +kernel
theorem d23_19 : decode jdk_65_method_133_code 19 = .ok (.aload_n 0, 1) := by decide +kernel
theorem d23_20 : decode jdk_65_method_133_code 20 = .ok (.arraylength, 1) := by decide +kernel
theorem d23_21 : decode jdk_65_method_133_code 21 = .ok (.iload_n 1, 1) := by decide +kernel
theorem d23_22 : decode jdk_65_method_133_code 22 = .ok (.isub, 1) := by decide +kernel
theorem d23_23 : decode jdk_65_method_133_code 23 = .ok (.iload_n 3, 1) := by decide +kernel
theorem d23_24 : decode jdk_65_method_133_code 24 = .ok (.invokestatic 304, 3) := by decide +kernel
theorem d23_27 : decode jdk_65_method_133_code 27 = .ok (.invokestatic 150, 3) := by decide +kernel
theorem d23_30 : decode jdk_65_method_133_code 30 = .ok (.aload 4, 2) := by decide +kernel
theorem d23_32 : decode jdk_65_method_133_code 32 = .ok (.areturn, 1) := by decide +kernel
theorem d24_0 : decode jdk_65_method_131_code 0 = .ok (.iload_n 1, 1) := by decide +kernel
theorem d24_1 : decode jdk_65_method_131_code 1 = .ok (.iload_n 0, 1) := by decide +kernel
theorem d24_2 : decode jdk_65_method_131_code 2 = .ok (.if_icmp .ge 35, 3) := by decide +kernel
theorem d24_37 : decode jdk_65_method_131_code 37 = .ok (.return_, 1) := by decide +kernel
theorem d25_0 : decode jdk_29_method_69_code 0 = .ok (.iload_n 0, 1) := by decide +kernel
theorem d25_1 : decode jdk_29_method_69_code 1 = .ok (.iload_n 1, 1) := by decide +kernel
theorem d25_2 : decode jdk_29_method_69_code 2 = .ok (.if_icmp .gt 7, 3) := by decide +kernel
theorem d25_9 : decode jdk_29_method_69_code 9 = .ok (.iload_n 1, 1) := by decide +kernel
theorem d25_10 : decode jdk_29_method_69_code 10 = .ok (.ireturn, 1) := by decide +kernel
theorem d26_0 : decode prog_45_method_2_code 0 = .ok (.dload_n 2, 1) := by decide +kernel
theorem d26_1 : decode prog_45_method_2_code 1 = .ok (.dconst 0, 1) := by decide +kernel
theorem d26_2 : decode prog_45_method_2_code 2 = .ok (.dcmp .l, 1) := by decide +kernel
theorem d26_3 : decode prog_45_method_2_code 3 = .ok (.ifCond .le 10, 3) := by decide +kernel
theorem d26_6 : decode prog_45_method_2_code 6 = .ok (.dload_n 2, 1) := by decide +kernel
theorem d26_7 : decode prog_45_method_2_code 7 = .ok (.invokestatic 7, 3) := by decide +kernel
theorem d26_10 : decode prog_45_method_2_code 10 = .ok (.ifCond .eq 12, 3) := by decide +kernel
theorem d26_22 : decode prog_45_method_2_code 22 = .ok (.dload_n 2, 1) := by decide +kernel
theorem d26_23 : decode prog_45_method_2_code 23 = .ok (.dreturn, 1) := by decide +kernel
theorem d27_0 : decode jdk_117_method_7_code 0 = .ok (.dload_n 0, 1) := by decide +kernel
theorem d27_1 : decode jdk_117_method_7_code 1 = .ok (.invokestatic 38, 3) := by decide +kernel
theorem d27_4 : decode jdk_117_method_7_code 4 = .ok (.ldc2_w 111, 3) := by decide +kernel
theorem d27_7 : decode jdk_117_method_7_code 7 = .ok (.dcmp .l, 1) := by decide +kernel
theorem d27_8 : decode jdk_117_method_7_code 8 = .ok (.ifCond .le 7, 3) := by decide +kernel
theorem d27_15 : decode jdk_117_method_7_code 15 = .ok (.iconst 0, 1) := by decide +kernel
theorem d27_16 : decode jdk_117_method_7_code 16 = .ok (.ireturn, 1) := by decide +kernel
theorem d29_0 : decode prog_45_method_3_code 0 = .ok (.dload_n 2, 1) := by decide +kernel
theorem d29_1 : decode prog_45_method_3_code 1 = .ok (.invokestatic 21, 3) := by decide +kernel
theorem d29_4 : decode prog_45_method_3_code 4 = .ok (.ifCond .ne 12, 3) := by decide +kernel
theorem d29_16 : decode prog_45_method_3_code 16 = .ok (.dload_n 2, 1) := by decide +kernel
theorem d29_17 : decode prog_45_method_3_code 17 = .ok (.dreturn, 1) := by decide +kernel
theorem d30_0 : decode prog_45_method_5_code 0 = .ok (.dload_n 0, 1) := by decide +kernel
theorem d30_1 : decode prog_45_method_5_code 1 = .ok (.dconst 0, 1) := by decide +kernel
theorem d30_2 : decode prog_45_method_5_code 2 = .ok (.dcmp .l, 1) := by decide +kernel
theorem d30_3 : decode prog_45_method_5_code 3 = .ok (.ifCond .lt 14, 3) := by decide +kernel
theorem d30_6 : decode prog_45_method_5_code 6 = .ok (.dload_n 0, 1) := by decide +kernel
theorem d30_7 : decode prog_45_method_5_code 7 = .ok (.invokestatic 7, 3) := by decide +kernel
theorem d30_10 : decode prog_45_method_5_code 10 = .ok (.ifCond .ne 7, 3) := by decide +kernel
theorem d30_13 : decode prog_45_method_5_code 13 = .ok (.iconst 1, 1) := by decide +kernel
theorem d30_14 : decode prog_45_method_5_code 14 = .ok (.goto 4, 3) := by decide +kernel
theorem d30_18 : decode prog_45_method_5_code 18 = .ok (.ireturn, 1) := by decide +kernel
theorem d31_0 : decode prog_105_method_1_code 0 = .ok (.aload_n 0, 1) := by decide +kernel
theorem d31_1 : decode prog_105_method_1_code 1 = .ok (.invokespecial 1, 3) := by decide +kernel
theorem d31_4 : decode prog_105_method_1_code 4 = .ok (.aload_n 0, 1) := by decide +kernel
theorem d31_5 : decode prog_105_method_1_code 5 = .ok (.aload_n 1, 1) := by decide +kernel
theorem d31_6 : decode prog_105_method_1_code 6 = .ok (.putfield 7, 3) := by decide +kernel
theorem d31_9 : decode prog_105_method_1_code 9 = .ok (.aload_n 0, 1) := by decide +kernel
theorem d31_10 : decode prog_105_method_1_code 10 = .ok (.aload_n 2, 1) := by decide +kernel
theorem d31_11 : decode prog_105_method_1_code 11 = .ok (.putfield 13, 3) := by decide +kernel
theorem d31_14 : decode prog_105_method_1_code 14 = .ok (.aload_n 0, 1) := by decide +kernel
theorem d31_15 : decode prog_105_method_1_code 15 = .ok (.iload_n 3, 1) := by decide +kernel
theorem d31_16 : decode prog_105_method_1_code 16 = .ok (.putfield 17, 3) := by decide +kernel
theorem d31_19 : decode prog_105_method_1_code 19 = .ok (.aload_n 0, 1) := by decide +kernel
theorem d31_20 : decode prog_105_method_1_code 20 = .ok (.dload 4, 2) := by decide +kernel
theorem d31_22 : decode prog_105_method_1_code 22 = .ok (.putfield 21, 3) := by decide +kernel
theorem d31_25 : decode prog_105_method_1_code 25 = .ok (.aload_n 0, 1) := by decide +kernel
theorem d31_26 : decode prog_105_method_1_code 26 = .ok (.aload_n 1, 1) := by decide +kernel
theorem d31_27 : decode prog_105_method_1_code 27 = .ok (.invokevirtual 25, 3) := by decide +kernel
theorem d31_30 : decode prog_105_method_1_code 30 = .ok (.dload 4, 2) := by decide +kernel
theorem d31_32 : decode prog_105_method_1_code 32 = .ok (.invokestatic 31, 3) := by decide +kernel
theorem d31_35 : decode prog_105_method_1_code 35 = .ok (.putfield 37, 3) := by decide +kernel
theorem d31_38 : decode prog_105_method_1_code 38 = .ok (.aload_n 0, 1) := by decide +kernel
theorem d31_39 : decode prog_105_method_1_code 39 = .ok (.dload 6, 2) := by decide +kernel
theorem d31_41 : decode prog_105_method_1_code 41 = .ok (.putfield 40, 3) := by decide +kernel
theorem d31_44 : decode prog_105_method_1_code 44 = .ok (.aload_n 0, 1) := by decide +kernel
theorem d31_45 : decode prog_105_method_1_code 45 = .ok (.aload 8, 2) := by decide +kernel
theorem d31_47 : decode prog_105_method_1_code 47 = .ok (.putfield 43, 3) := by decide +kernel
theorem d31_50 : decode prog_105_method_1_code 50 = .ok (.aload 8, 2) := by decide +kernel
theorem d31_52 : decode prog_105_method_1_code 52 = .ok (.ifnull 7, 3) := by decide +kernel
theorem d31_55 : decode prog_105_method_1_code 55 = .ok (.iconst 1, 1) := by decide +kernel
theorem d31_56 : decode prog_105_method_1_code 56 = .ok (.goto 4, 3) := by decide +kernel
theorem d31_60 : decode prog_105_method_1_code 60 = .ok (.istore 9, 2) := by decide +kernel
theorem d31_62 : decode prog_105_method_1_code 62 = .ok (.iconst 0, 1) := by decide +kernel
theorem d31_63 : decode prog_105_method_1_code 63 = .ok (.istore 10, 2) := by decide +kernel
theorem d31_65 : decode prog_105_method_1_code 65 = .ok (.iload 9, 2) := by decide +kernel
theorem d31_67 : decode prog_105_method_1_code 67 = .ok (.ifCond .eq 34, 3) := by decide +kernel
theorem d31_70 : decode prog_105_method_1_code 70 = .ok (.iload 10, 2) := by decide +kernel
theorem d31_72 : decode prog_105_method_1_code 72 = .ok (.aload 8, 2) := by decide +kernel
theorem d31_74 : decode prog_105_method_1_code 74 = .ok (.arraylength, 1) := by decide +kernel
theorem d31_75 : decode prog_105_method_1_code 75 = .ok (.if_icmp .ge 26, 3) := by decide +kernel
theorem d31_78 : decode prog_105_method_1_code 78 = .ok (.aload 8, 2) := by decide +kernel
theorem d31_80 : decode prog_105_method_1_code 80 = .ok (.iload 10, 2) := by decide +kernel
theorem d31_82 : decode prog_105_method_1_code 82 = .ok (.daload, 1) := by decide +kernel
theorem d31_83 : decode prog_105_method_1_code 83 = .ok (.dconst 0, 1) := by decide +kernel
theorem d31_84 : decode prog_105_method_1_code 84 = .ok (.dcmp .l, 1) := by decide +kernel
theorem d31_85 : decode prog_105_method_1_code 85 = .ok (.ifCond .ne 7, 3) := by decide +kernel
theorem d31_88 : decode prog_105_method_1_code 88 = .ok (.iconst 1, 1) := by decide +kernel
theorem d31_89 : decode prog_105_method_1_code 89 = .ok (.goto 4, 3) := by decide +kernel
theorem d31_92 : decode prog_105_method_1_code 92 = .ok (.iconst 0, 1) := by decide +kernel
theorem d31_93 : decode prog_105_method_1_code 93 = .ok (.istore 9, 2) := by decide +kernel
theorem d31_95 : decode prog_105_method_1_code 95 = .ok (.iinc 10 1, 3) := by decide +kernel
theorem d31_98 : decode prog_105_method_1_code 98 = .ok (.goto (-33), 3) := by decide +kernel
theorem d31_101 : decode prog_105_method_1_code 101 = .ok (.aload_n 0, 1) := by decide +kernel
theorem d31_102 : decode prog_105_method_1_code 102 = .ok (.iload 9, 2) := by decide +kernel
theorem d31_104 : decode prog_105_method_1_code 104 = .ok (.putfield 47, 3) := by decide +kernel
theorem d31_107 : decode prog_105_method_1_code 107 = .ok (.return_, 1) := by decide +kernel
theorem d32_0 : decode prog_51_method_7_code 0 = .ok (.aload_n 0, 1) := by decide +kernel
theorem d32_1 : decode prog_51_method_7_code 1 = .ok (.getfield 64, 3) := by decide +kernel
theorem d32_4 : decode prog_51_method_7_code 4 = .ok (.dreturn, 1) := by decide +kernel
theorem d34_0 : decode prog_105_method_12_code 0 = .ok (.dload_n 1, 1) := by decide +kernel
theorem d34_1 : decode prog_105_method_12_code 1 = .ok (.dstore_n 3, 1) := by decide +kernel
theorem d34_2 : decode prog_105_method_12_code 2 = .ok (.aload_n 0, 1) := by decide +kernel
theorem d34_3 : decode prog_105_method_12_code 3 = .ok (.getfield 47, 3) := by decide +kernel
theorem d34_6 : decode prog_105_method_12_code 6 = .ok (.ifCond .ne 45, 3) := by decide +kernel
theorem d34_9 : decode prog_105_method_12_code 9 = .ok (.aload_n 0, 1) := by decide +kernel
theorem d34_10 : decode prog_105_method_12_code 10 = .ok (.getfield 43, 3) := by decide +kernel
theorem d34_13 : decode prog_105_method_12_code 13 = .ok (.astore 5, 2) := by decide +kernel
theorem d34_15 : decode prog_105_method_12_code 15 = .ok (.aload 5, 2) := by decide +kernel
theorem d34_17 : decode prog_105_method_12_code 17 = .ok (.arraylength, 1) := by decide +kernel
theorem d34_18 : decode prog_105_method_12_code 18 = .ok (.istore 6, 2) := by decide +kernel
theorem d34_20 : decode prog_105_method_12_code 20 = .ok (.iconst 0, 1) := by decide +kernel
theorem d34_21 : decode prog_105_method_12_code 21 = .ok (.istore 7, 2) := by decide +kernel
theorem d34_23 : decode prog_105_method_12_code 23 = .ok (.iload 7, 2) := by decide +kernel
theorem d34_25 : decode prog_105_method_12_code 25 = .ok (.iload 6, 2) := by decide +kernel
theorem d34_27 : decode prog_105_method_12_code 27 = .ok (.if_icmp .ge 21, 3) := by decide +kernel
theorem d34_30 : decode prog_105_method_12_code 30 = .ok (.aload 5, 2) := by decide +kernel
theorem d34_32 : decode prog_105_method_12_code 32 = .ok (.iload 7, 2) := by decide +kernel
theorem d34_34 : decode prog_105_method_12_code 34 = .ok (.daload, 1) := by decide +kernel
theorem d34_35 : decode prog_105_method_12_code 35 = .ok (.dstore 8, 2) := by decide +kernel
theorem d34_37 : decode prog_105_method_12_code 37 = .ok (.dload_n 3, 1) := by decide +kernel
theorem d34_38 : decode prog_105_method_12_code 38 = .ok (.dload 8, 2) := by decide +kernel
theorem d34_40 : decode prog_105_method_12_code 40 = .ok (.dadd, 1) := by decide +kernel
theorem d34_41 : decode prog_105_method_12_code 41 = .ok (.dstore_n 3, 1) := by decide +kernel
theorem d34_42 : decode prog_105_method_12_code 42 = .ok (.iinc 7 1, 3) := by decide +kernel
theorem d34_45 : decode prog_105_method_12_code 45 = .ok (.goto (-22), 3) := by decide +kernel
theorem d34_48 : decode prog_105_method_12_code 48 = .ok (.goto 15, 3) := by decide +kernel
theorem d34_51 : decode prog_105_method_12_code 51 = .ok (.aload_n 0, 1) := by decide +kernel
theorem d34_52 : decode prog_105_method_12_code 52 = .ok (.getfield 43, 3) := by decide +kernel
theorem d34_55 : decode prog_105_method_12_code 55 = .ok (.arraylength, 1) := by decide +kernel
theorem d34_56 : decode prog_105_method_12_code 56 = .ok (.ifCond .le 7, 3) := by decide +kernel
theorem d34_59 : decode prog_105_method_12_code 59 = .ok (.dload_n 3, 1) := by decide +kernel
theorem d34_60 : decode prog_105_method_12_code 60 = .ok (.dconst 0, 1) := by decide +kernel
theorem d34_61 : decode prog_105_method_12_code 61 = .ok (.dadd, 1) := by decide +kernel
theorem d34_62 : decode prog_105_method_12_code 62 = .ok (.dstore_n 3, 1) := by decide +kernel
theorem d34_63 : decode prog_105_method_12_code 63 = .ok (.dload_n 3, 1) := by decide +kernel
theorem d34_64 : decode prog_105_method_12_code 64 = .ok (.dreturn, 1) := by decide +kernel
theorem d35_0 : decode method_3_code 0 = .ok (.dload_n 0, 1) := by decide +kernel
theorem d35_1 : decode method_3_code 1 = .ok (.dload_n 2, 1) := by decide +kernel
theorem d35_2 : decode method_3_code 2 = .ok (.dcmp .l, 1) := by decide +kernel
theorem d35_3 : decode method_3_code 3 = .ok (.ifCond .eq 5, 3) := by decide +kernel
theorem d35_8 : decode method_3_code 8 = .ok (.dload_n 0, 1) := by decide +kernel
theorem d35_9 : decode method_3_code 9 = .ok (.dconst 0, 1) := by decide +kernel
theorem d35_10 : decode method_3_code 10 = .ok (.dcmp .l, 1) := by decide +kernel
theorem d35_11 : decode method_3_code 11 = .ok (.ifCond .eq 5, 3) := by decide +kernel
theorem d35_14 : decode method_3_code 14 = .ok (.iconst 1, 1) := by decide +kernel
theorem d35_15 : decode method_3_code 15 = .ok (.ireturn, 1) := by decide +kernel
theorem d35_16 : decode method_3_code 16 = .ok (.dconst 1, 1) := by decide +kernel
theorem d35_17 : decode method_3_code 17 = .ok (.dload_n 0, 1) := by decide +kernel
theorem d35_18 : decode method_3_code 18 = .ok (.ddiv, 1) := by decide +kernel
theorem d35_19 : decode method_3_code 19 = .ok (.dconst 1, 1) := by decide +kernel
theorem d35_20 : decode method_3_code 20 = .ok (.dload_n 2, 1) := by decide +kernel
theorem d35_21 : decode method_3_code 21 = .ok (.ddiv, 1) := by decide +kernel
theorem d35_22 : decode method_3_code 22 = .ok (.dcmp .l, 1) := by decide +kernel
theorem d35_23 : decode method_3_code 23 = .ok (.ifCond .ne 7, 3) := by decide +kernel
theorem d35_26 : decode method_3_code 26 = .ok (.iconst 1, 1) := by decide +kernel
theorem d35_27 : decode method_3_code 27 = .ok (.goto 4, 3) := by decide +kernel
theorem d35_31 : decode method_3_code 31 = .ok (.ireturn, 1) := by decide +kernel
theorem pd0 : parseMethodDescriptor "()B" = some ⟨[], some .byte⟩ := by decide +kernel
theorem pd1 : parseMethodDescriptor "(D)D" = some ⟨[.double], some .double⟩ := by decide +kernel
theorem pd2 : parseMethodDescriptor "(D)Z" = some ⟨[.double], some .boolean⟩ := by decide +kernel
theorem pd3 : parseMethodDescriptor "(I)V" = some ⟨[.int], none⟩ := by decide +kernel
theorem pd4 : parseMethodDescriptor "(Ljava/lang/Object;Ljava/lang/String;)Ljava/lang/Object;" = some ⟨[(.object "java/lang/Object"), (.object "java/lang/String")], some (.object "java/lang/Object")⟩ := by decide +kernel
theorem pd5 : parseMethodDescriptor "()V" = some ⟨[], none⟩ := by decide +kernel
theorem pd6 : parseMethodDescriptor "(Ljava/lang/String;)V" = some ⟨[(.object "java/lang/String")], none⟩ := by decide +kernel
theorem pd7 : parseMethodDescriptor "([BIB)V" = some ⟨[(.array .byte), .int, .byte], none⟩ := by decide +kernel
theorem pd8 : parseMethodDescriptor "()I" = some ⟨[], some .int⟩ := by decide +kernel
theorem pd9 : parseMethodDescriptor "(ILjava/lang/String;)V" = some ⟨[.int, (.object "java/lang/String")], none⟩ := by decide +kernel
theorem pd10 : parseMethodDescriptor "(Ljava/lang/String;)Ljava/lang/AbstractStringBuilder;" = some ⟨[(.object "java/lang/String")], some (.object "java/lang/AbstractStringBuilder")⟩ := by decide +kernel
theorem pd11 : parseMethodDescriptor "(Ljava/lang/String;)Ljava/lang/StringBuilder;" = some ⟨[(.object "java/lang/String")], some (.object "java/lang/StringBuilder")⟩ := by decide +kernel
theorem pd12 : parseMethodDescriptor "(II)V" = some ⟨[.int, .int], none⟩ := by decide +kernel
theorem pd13 : parseMethodDescriptor "(II)I" = some ⟨[.int, .int], some .int⟩ := by decide +kernel
theorem pd14 : parseMethodDescriptor "([BII)[B" = some ⟨[(.array .byte), .int, .int], some (.array .byte)⟩ := by decide +kernel
theorem pd15 : parseMethodDescriptor "()[B" = some ⟨[], some (.array .byte)⟩ := by decide +kernel
theorem pd16 : parseMethodDescriptor "()Z" = some ⟨[], some .boolean⟩ := by decide +kernel
theorem pd17 : parseMethodDescriptor "(Ljava/lang/AbstractStringBuilder;Ljava/lang/Void;)V" = some ⟨[(.object "java/lang/AbstractStringBuilder"), (.object "java/lang/Void")], none⟩ := by decide +kernel
theorem pd18 : parseMethodDescriptor "(Ljava/lang/StringBuilder;)V" = some ⟨[(.object "java/lang/StringBuilder")], none⟩ := by decide +kernel
theorem pd19 : parseMethodDescriptor "()Ljava/lang/String;" = some ⟨[], some (.object "java/lang/String")⟩ := by decide +kernel
theorem pd20 : parseMethodDescriptor "(Ljava/lang/String;Ljava/lang/String;D)D" = some ⟨[(.object "java/lang/String"), (.object "java/lang/String"), .double], some .double⟩ := by decide +kernel
theorem pd21 : parseMethodDescriptor "(Ljava/lang/String;DDDDZD)V" = some ⟨[(.object "java/lang/String"), .double, .double, .double, .double, .boolean, .double], none⟩ := by decide +kernel
theorem pd22 : parseMethodDescriptor "()D" = some ⟨[], some .double⟩ := by decide +kernel
theorem pd23 : parseMethodDescriptor "(DD)D" = some ⟨[.double, .double], some .double⟩ := by decide +kernel
theorem pd24 : parseMethodDescriptor "(Ljava/lang/String;DDD)V" = some ⟨[(.object "java/lang/String"), .double, .double, .double], none⟩ := by decide +kernel
theorem pd25 : parseMethodDescriptor "(Lcom/example/makespan/makespan/model/VmType;Lcom/example/makespan/makespan/model/Billing;IDD[D)V" = some ⟨[(.object "com/example/makespan/makespan/model/VmType"), (.object "com/example/makespan/makespan/model/Billing"), .int, .double, .double, (.array .double)], none⟩ := by decide +kernel
theorem pd26 : parseMethodDescriptor "(DD)Z" = some ⟨[.double, .double], some .boolean⟩ := by decide +kernel
theorem pn0 : plainName "java/lang/Double" = true := by first | (simp [plainName, overriddenIn]; done) | decide +kernel
theorem pn1 : plainName "com/example/makespan/makespan/model/Ranges" = true := by first | (simp [plainName, overriddenIn]; done) | decide +kernel
theorem pn2 : plainName "com/example/makespan/makespan/model/VmType" = true := by first | (simp [plainName, overriddenIn]; done) | decide +kernel
theorem pn3 : plainName "java/util/Arrays" = true := by first | (simp [plainName, overriddenIn]; done) | decide +kernel
theorem pn4 : plainName "com/example/makespan/makespan/planning/TaskOnType" = true := by first | (simp [plainName, overriddenIn]; done) | decide +kernel
theorem pn5 : plainName "com/example/makespan/makespan/planning/TaskOnTypeWithFeesPinLaw" = true := by first | (simp [plainName, overriddenIn]; done) | decide +kernel
theorem wS {a0 : Array Value} {Z : State} (hw : HW a0 Z) : ∀ a ∈ Bundle.stringAtoms, a.before a0 Z = true := by
  intro a ha
  simp only [Bundle.stringAtoms, List.mem_cons, List.not_mem_nil, or_false] at ha
  rcases ha with rfl | rfl | rfl | rfl | rfl | rfl | rfl
  · exact (wd6 hw)
  · exact (wd7 hw)
  · exact (wd8 hw)
  · exact (wd9 hw)
  · exact (wd10 hw)
  · exact (wd11 hw)
  · exact (wd12 hw)
theorem ew {a0 : Array Value} {Z : State} (hw : HW a0 Z) : EW Z a0 consts_1 := (EW.cons (wd22 hw) (by decide +kernel) (EW.cons (wd49 hw) (by decide +kernel) (EW.cons (wd146 hw) (by decide +kernel) (EW.cons (wd161 hw) (by decide +kernel) (EW.cons (wd170 hw) (by decide +kernel) (EW.cons (wd173 hw) (by decide +kernel) (EW.cons (wd174 hw) (by decide +kernel) (EW.cons (wd179 hw) (by decide +kernel) (EW.cons (wd5 hw) (by decide +kernel) EW.nil)))))))))
theorem own_k4 {k x : Int32} (h : x &&& 3 = k) : k = 0 ∨ k = 1 ∨ k = 2 ∨ k = 3 := by
  have q := c_mask x 3 2 (by decide) (by decide)
  rw [h] at q
  have e0 : (0 : Int32).toInt = 0 := by decide
  have e1 : (1 : Int32).toInt = 1 := by decide
  have e2 : (2 : Int32).toInt = 2 := by decide
  have e3 : (3 : Int32).toInt = 3 := by decide
  have h5 : k.toInt = 0 ∨ k.toInt = 1 ∨ k.toInt = 2 ∨ k.toInt = 3 := by omega
  rcases h5 with h | h | h | h
  · exact Or.inl (Int32.toInt_inj.mp (h.trans e0.symm))
  · exact Or.inr (Or.inl (Int32.toInt_inj.mp (h.trans e1.symm)))
  · exact Or.inr (Or.inr (Or.inl (Int32.toInt_inj.mp (h.trans e2.symm))))
  · exact Or.inr (Or.inr (Or.inr (Int32.toInt_inj.mp (h.trans e3.symm))))
theorem own_same (a : Addr) : (Value.ref a == Value.ref a) = true := by simp
/-- a char of the law: below 256 -/
def own_lat (c : Int32) : Prop := ¬ c < 0 ∧ ¬ (255 : Int32) < c
theorem own_lat_mask {x c : Int32} (h : (x &&& (255 : Int32)).toUInt32.toUInt16.toUInt32.toInt32 = c) : own_lat c := by
  have q := c_mask x 255 8 (by decide) (by decide)
  have r := c_i2c (x &&& 255)
  rw [h] at r
  have e0 : (0 : Int32).toInt = 0 := by decide
  have e2 : (255 : Int32).toInt = 255 := by decide
  unfold own_lat
  rw [Int32.lt_iff_toInt_lt, Int32.lt_iff_toInt_lt, e0, e2]; omega
theorem own_nar_lat {c : Int32} (h : own_lat c) : nar .char c = c := by
  obtain ⟨h1, h2⟩ := h
  have e0 : (0 : Int32).toInt = 0 := by decide
  have e2 : (255 : Int32).toInt = 255 := by decide
  rw [Int32.lt_iff_toInt_lt, e0] at h1
  rw [Int32.lt_iff_toInt_lt, e2] at h2
  have r := c_i2c c
  refine Int32.toInt_inj.mp ?_
  show (c.toUInt32.toUInt16.toUInt32.toInt32).toInt = c.toInt
  omega
theorem own_sets {Z : State} {args : Array Value} (h : ∀ d ∈ jdkStatics_1, d.before args Z = true) : ∃ cz : Int32, Sta Z Z.heap "java/lang/String" "COMPACT_STRINGS" "Z" (.int cz) ∧ ¬ cz = 0 := by
  have h7 := h _ (List.mem_of_getElem? (i := 0) rfl)
  have h8 := Cond.before_iff.mp (h _ (List.mem_of_getElem? (i := 1) rfl))
  have h9 := Cond.before_iff.mp (h _ (List.mem_of_getElem? (i := 2) rfl))
  obtain ⟨cz, e2⟩ := is_v h8
  refine ⟨cz, Sta.start e2 (Or.inl h7), fun q => ?_⟩
  subst q
  simp only [Cond.value] at h9
  rw [e2] at h9
  simp [Term.eval] at h9
theorem own_z0 {x : Int32} (h : x = 0) : cmpValue (FP.dcmp (FP.i2d x) (FP.dconst0)) .l = 0 := by subst h; decide +kernel
theorem own_nz {x : Int32} (h : ¬ x = 0) : ¬ cmpValue (FP.dcmp (FP.i2d x) (FP.dconst0)) .l = (0 : Int32) := by
  have z : Core.DInt 0 FP.dconst0 := by
    have d : FP.dconst0 = FP.i2d 0 := by decide +kernel
    rw [d]; exact Core.i2d_int 0
  have e0 : (0 : Int32).toInt = 0 := by decide
  have hx : ¬ x.toInt = 0 := fun q => h (Int32.toInt_inj.mp (q.trans e0.symm))
  rw [show FP.dcmp _ _ = some (compare _ _) from Core.dcmp_int (Core.i2d_int x) z]
  rcases Int.lt_trichotomy x.toInt 0 with q | q | q
  · rw [Int.compare_eq_lt.mpr q]; decide
  · exact absurd q hx
  · rw [Int.compare_eq_gt.mpr q]; decide
theorem own_i0 {x : Int32} (h : x = 0) : FP.i2d x = FP.dconst0 := by subst h; decide +kernel
theorem own_add00 {x : UInt64} (h : NoNaN64 x) : FP.dadd (FP.dadd x FP.dconst0) FP.dconst0 = FP.dadd x FP.dconst0 := by
  by_cases e : x = Core.dzeroNeg
  · subst e; decide +kernel
  · have q : FP.dadd x FP.dconst0 = x := Core.dadd_zero (val64_no.mp h) e
    rw [q]; exact q
theorem own_f0 : Fin64 FP.dconst0 := by
  have d : FP.dconst0 = FP.i2d 0 := by decide +kernel
  rw [d]; exact i2d_fin 0
theorem own_dv1 {x : UInt64} (h : NoNaN64 x) : NoNaN64 (FP.ddiv FP.dconst1 x) := by
  have d : FP.dconst1 = FP.i2d 1 := by decide +kernel
  exact ddiv_out0 (by rw [d]; exact i2d_fin 1) (by unfold Nz64; decide +kernel) h
theorem own_ln (x : Int64) : NoNaN64 (FP.l2d x) := (l2d_fin x).noNaN
theorem own_lng (x : Int64) : NoNaN64 (FP.dneg (FP.l2d x)) := ((dneg_mag (l2d_mag x)).fin (by decide)).noNaN

theorem ef10 (m : MethodId) (x0 : Addr) : entryFrame m #[(.ref x0)] 1 = mkF m 0 #[.val (.ref x0)] [] := by first | (simp [entryFrame, mkF, argsToLocals, Value.category]; done) | rfl
set_option maxRecDepth 65536 in
set_option maxHeartbeats 40000000 in
theorem ctCoder {l : Launch} {Z : State} {a0 : Array Value} (hw : HW a0 Z) {n0 : Nat} {h0 : Heap} (hn0 : n0 ≤ h0.size) (sx : Addr) (cz : Int32) (Fc : Fld Z h0 sx "java/lang/String" "coder" "B" (.int (0 : Int32))) (OD : Old Z n0 h0) (S2 : Sta Z Z.heap "java/lang/String" "COMPACT_STRINGS" "Z" (.int cz)) (hcz : ¬ cz = 0) :
    Ctr l Z (⟨"java/lang/String", "coder", "()B"⟩ : MethodName) jdk_42_method_152_code 1 (some .byte) ({ frames := 0, cells := 0, slots := 0, locals := 0 } : Room) n0 #[(.ref sx)] h0 (fun v h => v = some (.int (0 : Int32)) ∧ h = h0) := by
  refine Ctr.of (by decide +kernel) hn0 ?_
  intro p e s m below meth c T0 C hnm hret hlk X0
  rw [ef10 m sx]
  refine OGo.getstatic (pc' := 3) C X0 (host := "") (Or.inl (wd71 hw)) Via.refl (S2.ext OD.2) d10_0 rfl (fun T1 X1 => ?_)
  refine OGo.ifNo (pc' := 6) C X1 d10_3 rfl (feq hcz).1 ?_
  refine OGo.aloadN (pc' := 7) C X1 d10_6 rfl rfl rfl ?_
  refine OGo.getfield (pc' := 10) C X1 (host := "") (Or.inl (wd72 hw)) Via.refl Fc d10_7 rfl (fun T2 X2 => ?_)
  refine OGo.goto (pc' := 14) C X2 d10_10 (by decide) (by decide) ?_
  exact OGo.retN C X2 d10_14 hret (by simp) (z' := (0 : Int32)) (by decide) hlk (⟨rfl, rfl⟩) (by decide) (by decide)
theorem ef9 (m : MethodId) (x0 : Addr) : entryFrame m #[(.ref x0)] 1 = mkF m 0 #[.val (.ref x0)] [] := by first | (simp [entryFrame, mkF, argsToLocals, Value.category]; done) | rfl
set_option maxRecDepth 65536 in
set_option maxHeartbeats 40000000 in
theorem ctLen8 {l : Launch} {Z : State} {a0 : Array Value} (hw : HW a0 Z) {n0 : Nat} {h0 : Heap} (hn0 : n0 ≤ h0.size) (sx t : Addr) (kb : ClassId) (vs : List Value) (cz : Int32) (Ex : Exa Z h0 sx "java/lang/String") (Fv : Fld Z h0 sx "java/lang/String" "value" "[B" (.ref t)) (Fc : Fld Z h0 sx "java/lang/String" "coder" "B" (.int (0 : Int32))) (Vr : Arv Z h0 t kb .byte (8 : Int32) vs (.int (0 : Int32))) (OD : Old Z n0 h0) (S2 : Sta Z Z.heap "java/lang/String" "COMPACT_STRINGS" "Z" (.int cz)) (hcz : ¬ cz = 0) :
    Ctr l Z (⟨"java/lang/String", "length", "()I"⟩ : MethodName) jdk_42_method_54_code 1 (some .int) ({ frames := 1, cells := 0, slots := 0, locals := 20 } : Room) n0 #[(.ref sx)] h0 (fun v h => v = some (.int (8 : Int32)) ∧ h = h0) := by
  refine Ctr.of (by decide +kernel) hn0 ?_
  intro p e s m below meth c T0 C hnm hret hlk X0
  rw [ef9 m sx]
  refine OGo.aloadN (pc' := 1) C X0 d9_0 rfl rfl rfl ?_
  refine OGo.getfield (pc' := 4) C X0 (host := "") (Or.inl (wd65 hw)) Via.refl Fv d9_1 rfl (fun T1 X1 => ?_)
  refine OGo.arraylength (pc' := 5) C X1 Vr d9_4 rfl ?_
  refine OGo.aloadN (pc' := 6) C X1 d9_5 rfl rfl rfl ?_
  refine OGo.callV (pc' := 9) (cells' := 0) (slots' := 0) (argsL := []) (St := [(.int (8 : Int32))]) C X1 (wd66 hw) (wd67 hw) (wd69 hw) (wd68 hw) (by decide) Ex (wd70 hw) (wd6 hw) (ctCoder hw X1.2.1 sx cz Fc OD S2 hcz) (lenOf pd0 rfl) rfl d9_6 rfl rfl (by decide) (Nat.le_of_ble_eq_true rfl) rfl rfl (by decide) (by decide) (fun v2 T2 h2 Q2 X2 z2 => ?_)
  obtain ⟨hv2, hh2⟩ := Q2
  subst hv2; rw [hh2] at X2
  show OGo p e below _ T2 (mkF m 9 #[.val (.ref sx)] [(.int (0 : Int32)), (.int (8 : Int32))])
  refine OGo.ishr (pc' := 10) (z := (8 : Int32)) C X2 d9_9 rfl (by decide) ?_
  exact OGo.retInt C X2 d9_10 hret hlk (⟨rfl, rfl⟩) (by decide) (by decide)
set_option maxRecDepth 65536 in
set_option maxHeartbeats 40000000 in
theorem ctLen1 {l : Launch} {Z : State} {a0 : Array Value} (hw : HW a0 Z) {n0 : Nat} {h0 : Heap} (hn0 : n0 ≤ h0.size) (sx t : Addr) (kb : ClassId) (vs : List Value) (cz : Int32) (Ex : Exa Z h0 sx "java/lang/String") (Fv : Fld Z h0 sx "java/lang/String" "value" "[B" (.ref t)) (Fc : Fld Z h0 sx "java/lang/String" "coder" "B" (.int (0 : Int32))) (Vr : Arv Z h0 t kb .byte (1 : Int32) vs (.int (0 : Int32))) (OD : Old Z n0 h0) (S2 : Sta Z Z.heap "java/lang/String" "COMPACT_STRINGS" "Z" (.int cz)) (hcz : ¬ cz = 0) :
    Ctr l Z (⟨"java/lang/String", "length", "()I"⟩ : MethodName) jdk_42_method_54_code 1 (some .int) ({ frames := 1, cells := 0, slots := 0, locals := 20 } : Room) n0 #[(.ref sx)] h0 (fun v h => v = some (.int (1 : Int32)) ∧ h = h0) := by
  refine Ctr.of (by decide +kernel) hn0 ?_
  intro p e s m below meth c T0 C hnm hret hlk X0
  rw [ef9 m sx]
  refine OGo.aloadN (pc' := 1) C X0 d9_0 rfl rfl rfl ?_
  refine OGo.getfield (pc' := 4) C X0 (host := "") (Or.inl (wd65 hw)) Via.refl Fv d9_1 rfl (fun T1 X1 => ?_)
  refine OGo.arraylength (pc' := 5) C X1 Vr d9_4 rfl ?_
  refine OGo.aloadN (pc' := 6) C X1 d9_5 rfl rfl rfl ?_
  refine OGo.callV (pc' := 9) (cells' := 0) (slots' := 0) (argsL := []) (St := [(.int (1 : Int32))]) C X1 (wd66 hw) (wd67 hw) (wd69 hw) (wd68 hw) (by decide) Ex (wd70 hw) (wd6 hw) (ctCoder hw X1.2.1 sx cz Fc OD S2 hcz) (lenOf pd0 rfl) rfl d9_6 rfl rfl (by decide) (Nat.le_of_ble_eq_true rfl) rfl rfl (by decide) (by decide) (fun v2 T2 h2 Q2 X2 z2 => ?_)
  obtain ⟨hv2, hh2⟩ := Q2
  subst hv2; rw [hh2] at X2
  show OGo p e below _ T2 (mkF m 9 #[.val (.ref sx)] [(.int (0 : Int32)), (.int (1 : Int32))])
  refine OGo.ishr (pc' := 10) (z := (1 : Int32)) C X2 d9_9 rfl (by decide) ?_
  exact OGo.retInt C X2 d9_10 hret hlk (⟨rfl, rfl⟩) (by decide) (by decide)
theorem ef27 (m : MethodId) (x0 : UInt64) : entryFrame m #[(.double x0)] 2 = mkF m 0 #[.val (.double x0), .second] [] := by first | (simp [entryFrame, mkF, argsToLocals, Value.category]; done) | rfl
set_option maxRecDepth 65536 in
set_option maxHeartbeats 40000000 in
theorem ctInf1 {l : Launch} {Z : State} {a0 : Array Value} (hw : HW a0 Z) {n0 : Nat} {h0 : Heap} (hn0 : n0 ≤ h0.size)   :
    Ctr l Z (⟨"java/lang/Double", "isInfinite", "(D)Z"⟩ : MethodName) jdk_117_method_7_code 2 (some .boolean) ({ frames := 1, cells := 0, slots := 0, locals := 16 } : Room) n0 #[(.double (FP.dconst1))] h0 (fun v h => v = some (.int (0 : Int32)) ∧ h = h0) := by
  refine Ctr.of (plainFor_of_name pn0) hn0 ?_
  intro p e s m below meth c T0 C hnm hret hlk X0
  rw [ef27 m (FP.dconst1)]
  refine OGo.dloadN (pc' := 1) C X0 d27_0 rfl rfl ?_
  refine OGo.natS (pc' := 4) (argsL := [(.double (FP.dconst1))]) (St := []) (val := (.double ((FP.dconst1) &&& 0x7fffffffffffffff))) C X0 (wd155 hw) (wd156 hw) (wd143 hw) (wd157 hw) (by decide) (lenOf pd1 rfl) d27_1 rfl rfl (by decide) (by decide) (fun hq => Jvm.Free.Fl.Abs.absD_pays (FP.dconst1) hq (by decide) (by decide)) (⟨rfl, by unfold NoNaN64; decide +kernel⟩) (fun T1 X1 => ?_)
  refine OGo.ldc2Double (pc' := 7) C X1 (wd158 hw) d27_4 rfl ?_
  refine OGo.dcmp (pc' := 8) (v := (-1 : Int32)) C X1 d27_7 rfl (by decide +kernel) ?_
  refine OGo.ifYes (pc' := 15) C X1 d27_8 (flt (by decide : ¬ (0 : Int32) < (-1 : Int32))).2.2.2 (by decide) (by decide) ?_
  refine OGo.iconst (pc' := 16) (z := (0 : Int32)) C X1 d27_15 rfl (by decide) ?_
  exact OGo.retN C X1 d27_16 hret (by simp) (z' := (0 : Int32)) (by decide) hlk (⟨rfl, rfl⟩) (by decide) (by decide)
theorem ef30 (m : MethodId) (x0 : UInt64) : entryFrame m #[(.double x0)] 2 = mkF m 0 #[.val (.double x0), .second] [] := by first | (simp [entryFrame, mkF, argsToLocals, Value.category]; done) | rfl
set_option maxRecDepth 65536 in
set_option maxHeartbeats 40000000 in
theorem ctIz1 {l : Launch} {Z : State} {a0 : Array Value} (hw : HW a0 Z) {n0 : Nat} {h0 : Heap} (hn0 : n0 ≤ h0.size)   :
    Ctr l Z (⟨"com/example/makespan/makespan/model/Ranges", "isZeroOrAbove", "(D)Z"⟩ : MethodName) prog_45_method_5_code 2 (some .boolean) ({ frames := 2, cells := 0, slots := 0, locals := 32 } : Room) n0 #[(.double (FP.dconst1))] h0 (fun v h => v = some (.int (1 : Int32)) ∧ h = h0) := by
  refine Ctr.of (plainFor_of_name pn1) hn0 ?_
  intro p e s m below meth c T0 C hnm hret hlk X0
  rw [ef30 m (FP.dconst1)]
  refine OGo.dloadN (pc' := 1) C X0 d30_0 rfl rfl ?_
  refine OGo.dconst0 (pc' := 2) (v := (FP.dconst0)) C X0 d30_1 rfl rfl ?_
  refine OGo.dcmp (pc' := 3) (v := (1 : Int32)) C X0 d30_2 rfl (by decide +kernel) ?_
  refine OGo.ifNo (pc' := 6) C X0 d30_3 rfl (flt (by decide : ¬ (1 : Int32) < (0 : Int32))).1 ?_
  refine OGo.dloadN (pc' := 7) C X0 d30_6 rfl rfl ?_
  refine OGo.callS (pc' := 10) (cells' := 0) (slots' := 0) (argsL := [(.double (FP.dconst1))]) (St := []) C X0 (wd151 hw) (wd152 hw) (by decide) (wd154 hw) (wd153 hw) (ctInf1 hw X0.2.1) (lenOf pd2 rfl) rfl d30_7 rfl rfl (by decide) (Nat.le_of_ble_eq_true rfl) rfl rfl (by decide) (by decide) (fun v1 T1 h1 Q1 X1 z1 => ?_)
  obtain ⟨hv1, hh1⟩ := Q1
  subst hv1; rw [hh1] at X1
  show OGo p e below _ T1 (mkF m 10 #[.val (.double (FP.dconst1)), .second] [(.int (0 : Int32))])
  refine OGo.ifNo (pc' := 13) C X1 d30_10 rfl (teq (by decide : (0 : Int32) = (0 : Int32))).2 ?_
  refine OGo.iconst (pc' := 14) (z := (1 : Int32)) C X1 d30_13 rfl (by decide) ?_
  refine OGo.goto (pc' := 18) C X1 d30_14 (by decide) (by decide) ?_
  exact OGo.retN C X1 d30_18 hret (by simp) (z' := (1 : Int32)) (by decide) hlk (⟨rfl, rfl⟩) (by decide) (by decide)
theorem ef29 (m : MethodId) (x0 : Addr) (x1 : Addr) (x2 : UInt64) : entryFrame m #[(.ref x0), (.ref x1), (.double x2)] 4 = mkF m 0 #[.val (.ref x0), .val (.ref x1), .val (.double x2), .second] [] := by first | (simp [entryFrame, mkF, argsToLocals, Value.category]; done) | rfl
set_option maxRecDepth 65536 in
set_option maxHeartbeats 40000000 in
theorem ctZo1 {l : Launch} {Z : State} {a0 : Array Value} (hw : HW a0 Z) {n0 : Nat} {h0 : Heap} (hn0 : n0 ≤ h0.size) (r1 r2 : Addr)  :
    Ctr l Z (⟨"com/example/makespan/makespan/model/Ranges", "zeroOrAbove", "(Ljava/lang/String;Ljava/lang/String;D)D"⟩ : MethodName) prog_45_method_3_code 4 (some .double) ({ frames := 3, cells := 0, slots := 0, locals := 48 } : Room) n0 #[(.ref r1), (.ref r2), (.double (FP.dconst1))] h0 (fun v h => v = some (.double (FP.dconst1)) ∧ h = h0) := by
  refine Ctr.of (plainFor_of_name pn1) hn0 ?_
  intro p e s m below meth c T0 C hnm hret hlk X0
  rw [ef29 m r1 r2 (FP.dconst1)]
  refine OGo.dloadN (pc' := 1) C X0 d29_0 rfl rfl ?_
  refine OGo.callS (pc' := 4) (cells' := 0) (slots' := 0) (argsL := [(.double (FP.dconst1))]) (St := []) C X0 (wd165 hw) (wd166 hw) (by decide) (wd167 hw) (wd149 hw) (ctIz1 hw X0.2.1) (lenOf pd2 rfl) rfl d29_1 rfl rfl (by decide) (Nat.le_of_ble_eq_true rfl) rfl rfl (by decide) (by decide) (fun v1 T1 h1 Q1 X1 z1 => ?_)
  obtain ⟨hv1, hh1⟩ := Q1
  subst hv1; rw [hh1] at X1
  show OGo p e below _ T1 (mkF m 4 #[.val (.ref r1), .val (.ref r2), .val (.double (FP.dconst1)), .second] [(.int (1 : Int32))])
  refine OGo.ifYes (pc' := 16) C X1 d29_4 (feq (by decide : ¬ (1 : Int32) = (0 : Int32))).2 (by decide) (by decide) ?_
  refine OGo.dloadN (pc' := 17) C X1 d29_16 rfl rfl ?_
  exact OGo.retD C X1 d29_17 hret hlk (⟨rfl, rfl⟩) (by decide) (by decide)
theorem ef26 (m : MethodId) (x0 : Addr) (x1 : Addr) (x2 : UInt64) : entryFrame m #[(.ref x0), (.ref x1), (.double x2)] 4 = mkF m 0 #[.val (.ref x0), .val (.ref x1), .val (.double x2), .second] [] := by first | (simp [entryFrame, mkF, argsToLocals, Value.category]; done) | rfl
set_option maxRecDepth 65536 in
set_option maxHeartbeats 40000000 in
theorem ctAz1 {l : Launch} {Z : State} {a0 : Array Value} (hw : HW a0 Z) {n0 : Nat} {h0 : Heap} (hn0 : n0 ≤ h0.size) (r1 r2 : Addr)  :
    Ctr l Z (⟨"com/example/makespan/makespan/model/Ranges", "aboveZero", "(Ljava/lang/String;Ljava/lang/String;D)D"⟩ : MethodName) prog_45_method_2_code 4 (some .double) ({ frames := 2, cells := 0, slots := 0, locals := 32 } : Room) n0 #[(.ref r1), (.ref r2), (.double (FP.dconst1))] h0 (fun v h => v = some (.double (FP.dconst1)) ∧ h = h0) := by
  refine Ctr.of (plainFor_of_name pn1) hn0 ?_
  intro p e s m below meth c T0 C hnm hret hlk X0
  rw [ef26 m r1 r2 (FP.dconst1)]
  refine OGo.dloadN (pc' := 1) C X0 d26_0 rfl rfl ?_
  refine OGo.dconst0 (pc' := 2) (v := (FP.dconst0)) C X0 d26_1 rfl rfl ?_
  refine OGo.dcmp (pc' := 3) (v := (1 : Int32)) C X0 d26_2 rfl (by decide +kernel) ?_
  refine OGo.ifNo (pc' := 6) C X0 d26_3 rfl (tlt (by decide : (0 : Int32) < (1 : Int32))).2.2.2 ?_
  refine OGo.dloadN (pc' := 7) C X0 d26_6 rfl rfl ?_
  refine OGo.callS (pc' := 10) (cells' := 0) (slots' := 0) (argsL := [(.double (FP.dconst1))]) (St := []) C X0 (wd151 hw) (wd152 hw) (by decide) (wd154 hw) (wd153 hw) (ctInf1 hw X0.2.1) (lenOf pd2 rfl) rfl d26_7 rfl rfl (by decide) (Nat.le_of_ble_eq_true rfl) rfl rfl (by decide) (by decide) (fun v1 T1 h1 Q1 X1 z1 => ?_)
  obtain ⟨hv1, hh1⟩ := Q1
  subst hv1; rw [hh1] at X1
  show OGo p e below _ T1 (mkF m 10 #[.val (.ref r1), .val (.ref r2), .val (.double (FP.dconst1)), .second] [(.int (0 : Int32))])
  refine OGo.ifYes (pc' := 22) C X1 d26_10 (teq (by decide : (0 : Int32) = (0 : Int32))).1 (by decide) (by decide) ?_
  refine OGo.dloadN (pc' := 23) C X1 d26_22 rfl rfl ?_
  exact OGo.retD C X1 d26_23 hret hlk (⟨rfl, rfl⟩) (by decide) (by decide)
set_option maxRecDepth 65536 in
set_option maxHeartbeats 40000000 in
theorem ctInf0 {l : Launch} {Z : State} {a0 : Array Value} (hw : HW a0 Z) {n0 : Nat} {h0 : Heap} (hn0 : n0 ≤ h0.size)   :
    Ctr l Z (⟨"java/lang/Double", "isInfinite", "(D)Z"⟩ : MethodName) jdk_117_method_7_code 2 (some .boolean) ({ frames := 1, cells := 0, slots := 0, locals := 16 } : Room) n0 #[(.double (FP.dconst0))] h0 (fun v h => v = some (.int (0 : Int32)) ∧ h = h0) := by
  refine Ctr.of (plainFor_of_name pn0) hn0 ?_
  intro p e s m below meth c T0 C hnm hret hlk X0
  rw [ef27 m (FP.dconst0)]
  refine OGo.dloadN (pc' := 1) C X0 d27_0 rfl rfl ?_
  refine OGo.natS (pc' := 4) (argsL := [(.double (FP.dconst0))]) (St := []) (val := (.double ((FP.dconst0) &&& 0x7fffffffffffffff))) C X0 (wd155 hw) (wd156 hw) (wd143 hw) (wd157 hw) (by decide) (lenOf pd1 rfl) d27_1 rfl rfl (by decide) (by decide) (fun hq => Jvm.Free.Fl.Abs.absD_pays (FP.dconst0) hq (by decide) (by decide)) (⟨rfl, by unfold NoNaN64; decide +kernel⟩) (fun T1 X1 => ?_)
  refine OGo.ldc2Double (pc' := 7) C X1 (wd158 hw) d27_4 rfl ?_
  refine OGo.dcmp (pc' := 8) (v := (-1 : Int32)) C X1 d27_7 rfl (by decide +kernel) ?_
  refine OGo.ifYes (pc' := 15) C X1 d27_8 (flt (by decide : ¬ (0 : Int32) < (-1 : Int32))).2.2.2 (by decide) (by decide) ?_
  refine OGo.iconst (pc' := 16) (z := (0 : Int32)) C X1 d27_15 rfl (by decide) ?_
  exact OGo.retN C X1 d27_16 hret (by simp) (z' := (0 : Int32)) (by decide) hlk (⟨rfl, rfl⟩) (by decide) (by decide)
set_option maxRecDepth 65536 in
set_option maxHeartbeats 40000000 in
theorem ctIz0 {l : Launch} {Z : State} {a0 : Array Value} (hw : HW a0 Z) {n0 : Nat} {h0 : Heap} (hn0 : n0 ≤ h0.size)   :
    Ctr l Z (⟨"com/example/makespan/makespan/model/Ranges", "isZeroOrAbove", "(D)Z"⟩ : MethodName) prog_45_method_5_code 2 (some .boolean) ({ frames := 2, cells := 0, slots := 0, locals := 32 } : Room) n0 #[(.double (FP.dconst0))] h0 (fun v h => v = some (.int (1 : Int32)) ∧ h = h0) := by
  refine Ctr.of (plainFor_of_name pn1) hn0 ?_
  intro p e s m below meth c T0 C hnm hret hlk X0
  rw [ef30 m (FP.dconst0)]
  refine OGo.dloadN (pc' := 1) C X0 d30_0 rfl rfl ?_
  refine OGo.dconst0 (pc' := 2) (v := (FP.dconst0)) C X0 d30_1 rfl rfl ?_
  refine OGo.dcmp (pc' := 3) (v := (0 : Int32)) C X0 d30_2 rfl (by decide +kernel) ?_
  refine OGo.ifNo (pc' := 6) C X0 d30_3 rfl (flt (by decide : ¬ (0 : Int32) < (0 : Int32))).1 ?_
  refine OGo.dloadN (pc' := 7) C X0 d30_6 rfl rfl ?_
  refine OGo.callS (pc' := 10) (cells' := 0) (slots' := 0) (argsL := [(.double (FP.dconst0))]) (St := []) C X0 (wd151 hw) (wd152 hw) (by decide) (wd154 hw) (wd153 hw) (ctInf0 hw X0.2.1) (lenOf pd2 rfl) rfl d30_7 rfl rfl (by decide) (Nat.le_of_ble_eq_true rfl) rfl rfl (by decide) (by decide) (fun v1 T1 h1 Q1 X1 z1 => ?_)
  obtain ⟨hv1, hh1⟩ := Q1
  subst hv1; rw [hh1] at X1
  show OGo p e below _ T1 (mkF m 10 #[.val (.double (FP.dconst0)), .second] [(.int (0 : Int32))])
  refine OGo.ifNo (pc' := 13) C X1 d30_10 rfl (teq (by decide : (0 : Int32) = (0 : Int32))).2 ?_
  refine OGo.iconst (pc' := 14) (z := (1 : Int32)) C X1 d30_13 rfl (by decide) ?_
  refine OGo.goto (pc' := 18) C X1 d30_14 (by decide) (by decide) ?_
  exact OGo.retN C X1 d30_18 hret (by simp) (z' := (1 : Int32)) (by decide) hlk (⟨rfl, rfl⟩) (by decide) (by decide)
set_option maxRecDepth 65536 in
set_option maxHeartbeats 40000000 in
theorem ctZo0 {l : Launch} {Z : State} {a0 : Array Value} (hw : HW a0 Z) {n0 : Nat} {h0 : Heap} (hn0 : n0 ≤ h0.size) (r1 r2 : Addr)  :
    Ctr l Z (⟨"com/example/makespan/makespan/model/Ranges", "zeroOrAbove", "(Ljava/lang/String;Ljava/lang/String;D)D"⟩ : MethodName) prog_45_method_3_code 4 (some .double) ({ frames := 3, cells := 0, slots := 0, locals := 48 } : Room) n0 #[(.ref r1), (.ref r2), (.double (FP.dconst0))] h0 (fun v h => v = some (.double (FP.dconst0)) ∧ h = h0) := by
  refine Ctr.of (plainFor_of_name pn1) hn0 ?_
  intro p e s m below meth c T0 C hnm hret hlk X0
  rw [ef29 m r1 r2 (FP.dconst0)]
  refine OGo.dloadN (pc' := 1) C X0 d29_0 rfl rfl ?_
  refine OGo.callS (pc' := 4) (cells' := 0) (slots' := 0) (argsL := [(.double (FP.dconst0))]) (St := []) C X0 (wd165 hw) (wd166 hw) (by decide) (wd167 hw) (wd149 hw) (ctIz0 hw X0.2.1) (lenOf pd2 rfl) rfl d29_1 rfl rfl (by decide) (Nat.le_of_ble_eq_true rfl) rfl rfl (by decide) (by decide) (fun v1 T1 h1 Q1 X1 z1 => ?_)
  obtain ⟨hv1, hh1⟩ := Q1
  subst hv1; rw [hh1] at X1
  show OGo p e below _ T1 (mkF m 4 #[.val (.ref r1), .val (.ref r2), .val (.double (FP.dconst0)), .second] [(.int (1 : Int32))])
  refine OGo.ifYes (pc' := 16) C X1 d29_4 (feq (by decide : ¬ (1 : Int32) = (0 : Int32))).2 (by decide) (by decide) ?_
  refine OGo.dloadN (pc' := 17) C X1 d29_16 rfl rfl ?_
  exact OGo.retD C X1 d29_17 hret hlk (⟨rfl, rfl⟩) (by decide) (by decide)
theorem ef4 (m : MethodId) (x0 : Addr) (x1 : Addr) : entryFrame m #[(.ref x0), (.ref x1)] 2 = mkF m 0 #[.val (.ref x0), .val (.ref x1)] [] := by first | (simp [entryFrame, mkF, argsToLocals, Value.category]; done) | rfl
set_option maxRecDepth 65536 in
set_option maxHeartbeats 40000000 in
theorem ctRnn {l : Launch} {Z : State} {a0 : Array Value} (hw : HW a0 Z) {n0 : Nat} {h0 : Heap} (hn0 : n0 ≤ h0.size) (r1 r2 : Addr)  :
    Ctr l Z (⟨"java/util/Objects", "requireNonNull", "(Ljava/lang/Object;Ljava/lang/String;)Ljava/lang/Object;"⟩ : MethodName) jdk_31_method_11_code 2 (some (.object "java/lang/Object")) ({ frames := 0, cells := 0, slots := 0, locals := 0 } : Room) n0 #[(.ref r1), (.ref r2)] h0 (fun v h => v = some (.ref r1) ∧ h = h0) := by
  refine Ctr.of (by decide +kernel) hn0 ?_
  intro p e s m below meth c T0 C hnm hret hlk X0
  rw [ef4 m r1 r2]
  refine OGo.aloadN (pc' := 1) C X0 d4_0 rfl rfl rfl ?_
  refine OGo.ifnonnullYes (pc' := 13) C X0 d4_1 (by decide) (by decide) ?_
  refine OGo.aloadN (pc' := 14) C X0 d4_13 rfl rfl rfl ?_
  exact OGo.retA C X0 d4_14 hret rfl rfl hlk (⟨rfl, rfl⟩) (by decide) (by decide)
theorem ef6 (m : MethodId) (x0 : Addr) (x1 : Int32) : entryFrame m #[(.ref x0), (.int x1)] 2 = mkF m 0 #[.val (.ref x0), .val (.int x1)] [] := by first | (simp [entryFrame, mkF, argsToLocals, Value.category]; done) | rfl
set_option maxRecDepth 65536 in
set_option maxHeartbeats 40000000 in
theorem ctAsbI {l : Launch} {Z : State} {a0 : Array Value} (hw : HW a0 Z) {n0 : Nat} {h0 : Heap} (hn0 : n0 ≤ h0.size) (sb : Addr) (cz : Int32) (Es : Exa Z h0 sb "java/lang/StringBuilder") (Fv : Fld Z h0 sb "java/lang/AbstractStringBuilder" "value" "[B" .null) (Fc : Fld Z h0 sb "java/lang/AbstractStringBuilder" "coder" "B" (.int (0 : Int32))) (Fn : Fld Z h0 sb "java/lang/AbstractStringBuilder" "count" "I" (.int (0 : Int32))) (gs : n0 ≤ sb) (OD : Old Z n0 h0) (S2 : Sta Z Z.heap "java/lang/String" "COMPACT_STRINGS" "Z" (.int cz)) (hcz : ¬ cz = 0) :
    Ctr l Z (⟨"java/lang/AbstractStringBuilder", "<init>", "(I)V"⟩ : MethodName) jdk_68_method_2_code 2 none ({ frames := 1, cells := 1, slots := 16, locals := 12 } : Room) n0 #[(.ref sb), (.int (16 : Int32))] h0 (fun v h => ∃ (tb : Addr) (kt : ClassId), v = none ∧ Keep h0 h [sb] ∧ h0.size ≤ tb ∧ sb ≠ tb ∧ Exa Z h sb "java/lang/StringBuilder" ∧ Fld Z h sb "java/lang/AbstractStringBuilder" "value" "[B" (.ref tb) ∧ Fld Z h sb "java/lang/AbstractStringBuilder" "coder" "B" (.int (0 : Int32)) ∧ Fld Z h sb "java/lang/AbstractStringBuilder" "count" "I" (.int (0 : Int32)) ∧ Arv Z h tb kt .byte (16 : Int32) [(.int (0 : Int32)), (.int (0 : Int32)), (.int (0 : Int32)), (.int (0 : Int32)), (.int (0 : Int32)), (.int (0 : Int32)), (.int (0 : Int32)), (.int (0 : Int32)), (.int (0 : Int32)), (.int (0 : Int32)), (.int (0 : Int32)), (.int (0 : Int32)), (.int (0 : Int32)), (.int (0 : Int32)), (.int (0 : Int32)), (.int (0 : Int32))] (.int (0 : Int32))) := by
  refine Ctr.of (by decide +kernel) hn0 ?_
  intro p e s m below meth c T0 C hnm hret hlk X0
  rw [ef6 m sb (16 : Int32)]
  refine OGo.aloadN (pc' := 1) C X0 d6_0 rfl rfl rfl ?_
  refine OGo.initObj (pc' := 4) C X0 (wd43 hw) (wd20 hw) (wd21 hw) d6_1 rfl rfl (by decide) (Nat.le_of_ble_eq_true rfl) (fun T1 X1 => ?_)
  refine OGo.getstatic (pc' := 7) C X1 (host := "") (Or.inl (wd44 hw)) Via.refl (S2.ext OD.2) d6_4 rfl (fun T2 X2 => ?_)
  refine OGo.ifNo (pc' := 10) C X2 d6_7 rfl (feq hcz).1 ?_
  refine OGo.aloadN (pc' := 11) C X2 d6_10 rfl rfl rfl ?_
  refine OGo.iloadN (pc' := 12) C X2 d6_11 rfl rfl ?_
  refine OGo.newarray (pc' := 14) (cap := 16) (d0 := (.int (0 : Int32))) (cells' := 1) (slots' := 16) C X2 (wd8 hw) rfl d6_12 rfl (by decide) (by decide) (by decide) rfl rfl rfl (by decide) (by decide) (fun T3 h3 a3 k3 X3 g3 q3 E3 V3 => ?_)
  have ne4 : sb ≠ a3 := Nat.ne_of_lt (Nat.lt_of_lt_of_eq Es.lt g3.symm)
  have sz5 : h0.size ≤ a3 := Nat.le_trans (Keep.refl h0 [sb]).1 (Nat.le_of_eq g3.symm)
  have K6 : Keep h0 h3 [sb] := (Keep.refl h0 [sb]).ext E3
  replace V3 : Arv Z h3 a3 k3 .byte (16 : Int32) [(.int (0 : Int32)), (.int (0 : Int32)), (.int (0 : Int32)), (.int (0 : Int32)), (.int (0 : Int32)), (.int (0 : Int32)), (.int (0 : Int32)), (.int (0 : Int32)), (.int (0 : Int32)), (.int (0 : Int32)), (.int (0 : Int32)), (.int (0 : Int32)), (.int (0 : Int32)), (.int (0 : Int32)), (.int (0 : Int32)), (.int (0 : Int32))] (.int (0 : Int32)) := V3.pad (pad_rep [] (.int (0 : Int32)) 16)
  have f7 := (Fv.ext E3)
  have f8 := (Es.ext E3)
  refine OGo.putfield (pc' := 17) C X3 (host := "") (Or.inl (wd45 hw)) Via.refl f7 f8 gs (Or.inl (wd46 hw)) (wd32 hw) (ty := (.array .byte)) (by decide) rfl rfl d6_14 rfl (fun T9 h9 X9 W9 F9 => ?_)
  have K10 : Keep h0 h9 [sb] := K6.wr W9 (Or.inl (List.mem_of_getElem? (i := 0) rfl))
  refine OGo.aloadN (pc' := 18) C X9 d6_17 rfl rfl rfl ?_
  refine OGo.iconst (pc' := 19) (z := (0 : Int32)) C X9 d6_18 rfl (by decide) ?_
  have f11 := ((Fc.ext E3).other W9 (Or.inr (slot_ne (Or.inl (wd48 hw)) (Or.inl (wd46 hw)) (by decide) (t := .byte) (t' := (.array .byte)) (by decide) (by decide))))
  have f12 := (f8.wr W9)
  refine OGo.putfieldN (pc' := 22) C X9 (wd47 hw) Via.refl f11 f12 gs (Or.inl (wd48 hw)) (wd32 hw) (ty := .byte) (by decide) (v' := .int (0 : Int32)) rfl (by decide) d6_19 rfl (fun T13 h13 X13 W13 F13 => ?_)
  have K14 : Keep h0 h13 [sb] := K10.wr W13 (Or.inl (List.mem_of_getElem? (i := 0) rfl))
  refine OGo.goto (pc' := 38) C X13 d6_22 (by decide) (by decide) ?_
  have f15 := (f12.wr W13)
  have f16 := (F9.other W13 (Or.inr (slot_ne (Or.inl (wd46 hw)) (Or.inl (wd48 hw)) (by decide) (t := (.array .byte)) (t' := .byte) (by decide) (by decide))))
  have f17 := (((Fn.ext E3).other W9 (Or.inr (slot_ne (Or.inl (wd74 hw)) (Or.inl (wd46 hw)) (by decide) (t := .int) (t' := (.array .byte)) (by decide) (by decide)))).other W13 (Or.inr (slot_ne (Or.inl (wd74 hw)) (Or.inl (wd48 hw)) (by decide) (t := .int) (t' := .byte) (by decide) (by decide))))
  have f18 := ((V3.other W9 (Ne.symm ne4)).other W13 (Ne.symm ne4))
  exact OGo.ret C X13 d6_38 hret hlk (⟨a3, k3, rfl, K14, sz5, ne4, f15, f16, F13, f17, f18⟩) (by decide) (by decide)
theorem ef5 (m : MethodId) (x0 : Addr) : entryFrame m #[(.ref x0)] 1 = mkF m 0 #[.val (.ref x0)] [] := by first | (simp [entryFrame, mkF, argsToLocals, Value.category]; done) | rfl
set_option maxRecDepth 65536 in
set_option maxHeartbeats 40000000 in
theorem ctSbI {l : Launch} {Z : State} {a0 : Array Value} (hw : HW a0 Z) {n0 : Nat} {h0 : Heap} (hn0 : n0 ≤ h0.size) (sb : Addr) (cz : Int32) (Es : Exa Z h0 sb "java/lang/StringBuilder") (Fv : Fld Z h0 sb "java/lang/AbstractStringBuilder" "value" "[B" .null) (Fc : Fld Z h0 sb "java/lang/AbstractStringBuilder" "coder" "B" (.int (0 : Int32))) (Fn : Fld Z h0 sb "java/lang/AbstractStringBuilder" "count" "I" (.int (0 : Int32))) (gs : n0 ≤ sb) (OD : Old Z n0 h0) (S2 : Sta Z Z.heap "java/lang/String" "COMPACT_STRINGS" "Z" (.int cz)) (hcz : ¬ cz = 0) :
    Ctr l Z (⟨"java/lang/StringBuilder", "<init>", "()V"⟩ : MethodName) jdk_67_method_1_code 1 none ({ frames := 2, cells := 1, slots := 16, locals := 28 } : Room) n0 #[(.ref sb)] h0 (fun v h => ∃ (tb : Addr) (kt : ClassId), v = none ∧ Keep h0 h [sb] ∧ h0.size ≤ tb ∧ sb ≠ tb ∧ Exa Z h sb "java/lang/StringBuilder" ∧ Fld Z h sb "java/lang/AbstractStringBuilder" "value" "[B" (.ref tb) ∧ Fld Z h sb "java/lang/AbstractStringBuilder" "coder" "B" (.int (0 : Int32)) ∧ Fld Z h sb "java/lang/AbstractStringBuilder" "count" "I" (.int (0 : Int32)) ∧ Arv Z h tb kt .byte (16 : Int32) [(.int (0 : Int32)), (.int (0 : Int32)), (.int (0 : Int32)), (.int (0 : Int32)), (.int (0 : Int32)), (.int (0 : Int32)), (.int (0 : Int32)), (.int (0 : Int32)), (.int (0 : Int32)), (.int (0 : Int32)), (.int (0 : Int32)), (.int (0 : Int32)), (.int (0 : Int32)), (.int (0 : Int32)), (.int (0 : Int32)), (.int (0 : Int32))] (.int (0 : Int32))) := by
  refine Ctr.of (by decide +kernel) hn0 ?_
  intro p e s m below meth c T0 C hnm hret hlk X0
  rw [ef5 m sb]
  refine OGo.aloadN (pc' := 1) C X0 d5_0 rfl rfl rfl ?_
  refine OGo.bipush (pc' := 3) (z := (16 : Int32)) C X0 d5_1 rfl (by decide) ?_
  refine OGo.callInit (pc' := 6) (cells' := 1) (slots' := 16) (argsL := [(.int (16 : Int32))]) (St := []) C X0 rfl rfl (wd37 hw) (wd38 hw) (by decide) (wd42 hw) (wd41 hw) (ctAsbI hw X0.2.1 sb cz Es Fv Fc Fn gs OD S2 hcz) (lenOf pd3 rfl) rfl d5_3 rfl rfl (by decide) (Nat.le_of_ble_eq_true rfl) rfl rfl (by decide) (by decide) (fun v1 T1 h1 Q1 X1 z1 => ?_)
  obtain ⟨tb1, kt1, hv1, K1, hz1, nn1, Es1, Fv1, Fc1, Fn1, Vt1⟩ := Q1
  subst hv1
  have K2 : Keep h0 h1 [sb] := (Keep.refl h0 [sb]).trans K1 (allS (Or.inl (List.mem_of_getElem? (i := 0) rfl)) all0)
  show OGo p e below _ T1 (mkF m 6 #[.val (.ref sb)] [])
  exact OGo.ret C X1 d5_6 hret hlk (⟨tb1, kt1, rfl, K2, hz1, nn1, Es1, Fv1, Fc1, Fn1, Vt1⟩) (by decide) (by decide)
theorem ef13 (m : MethodId) (x0 : Addr) (x1 : Addr) : entryFrame m #[(.ref x0), (.ref x1)] 2 = mkF m 0 #[.val (.ref x0), .val (.ref x1)] [] := by first | (simp [entryFrame, mkF, argsToLocals, Value.category]; done) | rfl
set_option maxRecDepth 65536 in
set_option maxHeartbeats 40000000 in
theorem ctIfn1 {l : Launch} {Z : State} {a0 : Array Value} (hw : HW a0 Z) {n0 : Nat} {h0 : Heap} (hn0 : n0 ≤ h0.size) (sb tb sr ru : Addr) (kt kr : ClassId) (cz : Int32) (Es : Exa Z h0 sb "java/lang/StringBuilder") (Fv : Fld Z h0 sb "java/lang/AbstractStringBuilder" "value" "[B" (.ref tb)) (Fc : Fld Z h0 sb "java/lang/AbstractStringBuilder" "coder" "B" (.int (0 : Int32))) (Fn : Fld Z h0 sb "java/lang/AbstractStringBuilder" "count" "I" (.int (0 : Int32))) (Vt : Arv Z h0 tb kt .byte (16 : Int32) [(.int (0 : Int32)), (.int (0 : Int32)), (.int (0 : Int32)), (.int (0 : Int32)), (.int (0 : Int32)), (.int (0 : Int32)), (.int (0 : Int32)), (.int (0 : Int32)), (.int (0 : Int32)), (.int (0 : Int32)), (.int (0 : Int32)), (.int (0 : Int32)), (.int (0 : Int32)), (.int (0 : Int32)), (.int (0 : Int32)), (.int (0 : Int32))] (.int (0 : Int32))) (gs : n0 ≤ sb) (gt : n0 ≤ tb) (nst : sb ≠ tb) (Er : Exa Z h0 sr "java/lang/String") (Rv : Fld Z h0 sr "java/lang/String" "value" "[B" (.ref ru)) (Rc : Fld Z h0 sr "java/lang/String" "coder" "B" (.int (0 : Int32))) (Vr : Arv Z h0 ru kr .byte (8 : Int32) [(.int (86 : Int32)), (.int (77 : Int32)), (.int (32 : Int32)), (.int (116 : Int32)), (.int (121 : Int32)), (.int (112 : Int32)), (.int (101 : Int32)), (.int (32 : Int32))] (.int (0 : Int32))) (nrt : ru ≠ tb) (OD : Old Z n0 h0) (S2 : Sta Z Z.heap "java/lang/String" "COMPACT_STRINGS" "Z" (.int cz)) (hcz : ¬ cz = 0) :
    Ctr l Z (⟨"java/lang/AbstractStringBuilder", "inflateIfNeededFor", "(Ljava/lang/String;)V"⟩ : MethodName) jdk_68_method_71_code 2 none ({ frames := 1, cells := 0, slots := 0, locals := 16 } : Room) n0 #[(.ref sb), (.ref sr)] h0 (fun v h => v = none ∧ h = h0) := by
  refine Ctr.of (by decide +kernel) hn0 ?_
  intro p e s m below meth c T0 C hnm hret hlk X0
  rw [ef13 m sb sr]
  refine OGo.getstatic (pc' := 3) C X0 (host := "") (Or.inl (wd44 hw)) Via.refl (S2.ext OD.2) d13_0 rfl (fun T1 X1 => ?_)
  refine OGo.ifNo (pc' := 6) C X1 d13_3 rfl (feq hcz).1 ?_
  refine OGo.aloadN (pc' := 7) C X1 d13_6 rfl rfl rfl ?_
  refine OGo.getfield (pc' := 10) C X1 (host := "") (Or.inl (wd47 hw)) Via.refl Fc d13_7 rfl (fun T2 X2 => ?_)
  refine OGo.aloadN (pc' := 11) C X2 d13_10 rfl rfl rfl ?_
  refine OGo.callV (pc' := 14) (cells' := 0) (slots' := 0) (argsL := []) (St := [(.int (0 : Int32))]) C X2 (wd90 hw) (wd67 hw) (wd69 hw) (wd68 hw) (by decide) Er (wd70 hw) (wd6 hw) (ctCoder hw X2.2.1 sr cz Rc OD S2 hcz) (lenOf pd0 rfl) rfl d13_11 rfl rfl (by decide) (Nat.le_of_ble_eq_true rfl) rfl rfl (by decide) (by decide) (fun v3 T3 h3 Q3 X3 z3 => ?_)
  obtain ⟨hv3, hh3⟩ := Q3
  subst hv3; rw [hh3] at X3
  show OGo p e below _ T3 (mkF m 14 #[.val (.ref sb), .val (.ref sr)] [(.int (0 : Int32)), (.int (0 : Int32))])
  refine OGo.icmpYes (pc' := 21) C X3 d13_14 (teq (by decide : (0 : Int32) = (0 : Int32))).1 (by decide) (by decide) ?_
  exact OGo.ret C X3 d13_21 hret hlk (⟨rfl, rfl⟩) (by decide) (by decide)
theorem ef11 (m : MethodId) (x0 : Addr) (x1 : Int32) : entryFrame m #[(.ref x0), (.int x1)] 3 = mkF m 0 #[.val (.ref x0), .val (.int x1), .unset] [] := by first | (simp [entryFrame, mkF, argsToLocals, Value.category]; done) | rfl
set_option maxRecDepth 65536 in
set_option maxHeartbeats 40000000 in
theorem ctEns1 {l : Launch} {Z : State} {a0 : Array Value} (hw : HW a0 Z) {n0 : Nat} {h0 : Heap} (hn0 : n0 ≤ h0.size) (sb tb sr ru : Addr) (kt kr : ClassId) (cz : Int32) (Es : Exa Z h0 sb "java/lang/StringBuilder") (Fv : Fld Z h0 sb "java/lang/AbstractStringBuilder" "value" "[B" (.ref tb)) (Fc : Fld Z h0 sb "java/lang/AbstractStringBuilder" "coder" "B" (.int (0 : Int32))) (Fn : Fld Z h0 sb "java/lang/AbstractStringBuilder" "count" "I" (.int (0 : Int32))) (Vt : Arv Z h0 tb kt .byte (16 : Int32) [(.int (0 : Int32)), (.int (0 : Int32)), (.int (0 : Int32)), (.int (0 : Int32)), (.int (0 : Int32)), (.int (0 : Int32)), (.int (0 : Int32)), (.int (0 : Int32)), (.int (0 : Int32)), (.int (0 : Int32)), (.int (0 : Int32)), (.int (0 : Int32)), (.int (0 : Int32)), (.int (0 : Int32)), (.int (0 : Int32)), (.int (0 : Int32))] (.int (0 : Int32))) (gs : n0 ≤ sb) (gt : n0 ≤ tb) (nst : sb ≠ tb) (Er : Exa Z h0 sr "java/lang/String") (Rv : Fld Z h0 sr "java/lang/String" "value" "[B" (.ref ru)) (Rc : Fld Z h0 sr "java/lang/String" "coder" "B" (.int (0 : Int32))) (Vr : Arv Z h0 ru kr .byte (8 : Int32) [(.int (86 : Int32)), (.int (77 : Int32)), (.int (32 : Int32)), (.int (116 : Int32)), (.int (121 : Int32)), (.int (112 : Int32)), (.int (101 : Int32)), (.int (32 : Int32))] (.int (0 : Int32))) (nrt : ru ≠ tb) (OD : Old Z n0 h0) (S2 : Sta Z Z.heap "java/lang/String" "COMPACT_STRINGS" "Z" (.int cz)) (hcz : ¬ cz = 0) :
    Ctr l Z (⟨"java/lang/AbstractStringBuilder", "ensureCapacityInternal", "(I)V"⟩ : MethodName) jdk_68_method_9_code 3 none ({ frames := 0, cells := 0, slots := 0, locals := 0 } : Room) n0 #[(.ref sb), (.int (8 : Int32))] h0 (fun v h => v = none ∧ h = h0) := by
  refine Ctr.of (by decide +kernel) hn0 ?_
  intro p e s m below meth c T0 C hnm hret hlk X0
  rw [ef11 m sb (8 : Int32)]
  refine OGo.aloadN (pc' := 1) C X0 d11_0 rfl rfl rfl ?_
  refine OGo.getfield (pc' := 4) C X0 (host := "") (Or.inl (wd45 hw)) Via.refl Fv d11_1 rfl (fun T1 X1 => ?_)
  refine OGo.arraylength (pc' := 5) C X1 Vt d11_4 rfl ?_
  refine OGo.aloadN (pc' := 6) C X1 d11_5 rfl rfl rfl ?_
  refine OGo.getfield (pc' := 9) C X1 (host := "") (Or.inl (wd47 hw)) Via.refl Fc d11_6 rfl (fun T2 X2 => ?_)
  refine OGo.ishr (pc' := 10) (z := (16 : Int32)) C X2 d11_9 rfl (by decide) ?_
  refine OGo.istoreN (pc' := 11) C X2 d11_10 rfl (l' := #[.val (.ref sb), .val (.int (8 : Int32)), .val (.int (16 : Int32))]) rfl ?_
  refine OGo.iloadN (pc' := 12) C X2 d11_11 rfl rfl ?_
  refine OGo.iloadN (pc' := 13) C X2 d11_12 rfl rfl ?_
  refine OGo.isub (pc' := 14) (z := (-8 : Int32)) C X2 d11_13 rfl (by decide) ?_
  refine OGo.ifYes (pc' := 38) C X2 d11_14 (flt (by decide : ¬ (0 : Int32) < (-8 : Int32))).2.2.2 (by decide) (by decide) ?_
  exact OGo.ret C X2 d11_38 hret hlk (⟨rfl, rfl⟩) (by decide) (by decide)
theorem ef14 (m : MethodId) (x0 : Addr) (x1 : Addr) (x2 : Int32) (x3 : Int32) : entryFrame m #[(.ref x0), (.ref x1), (.int x2), (.int x3)] 4 = mkF m 0 #[.val (.ref x0), .val (.ref x1), .val (.int x2), .val (.int x3)] [] := by first | (simp [entryFrame, mkF, argsToLocals, Value.category]; done) | rfl
set_option maxRecDepth 65536 in
set_option maxHeartbeats 40000000 in
theorem ctGb1 {l : Launch} {Z : State} {a0 : Array Value} (hw : HW a0 Z) {n0 : Nat} {h0 : Heap} (hn0 : n0 ≤ h0.size) (sb tb sr ru : Addr) (kt kr : ClassId) (cz : Int32) (Es : Exa Z h0 sb "java/lang/StringBuilder") (Fv : Fld Z h0 sb "java/lang/AbstractStringBuilder" "value" "[B" (.ref tb)) (Fc : Fld Z h0 sb "java/lang/AbstractStringBuilder" "coder" "B" (.int (0 : Int32))) (Fn : Fld Z h0 sb "java/lang/AbstractStringBuilder" "count" "I" (.int (0 : Int32))) (Vt : Arv Z h0 tb kt .byte (16 : Int32) [(.int (0 : Int32)), (.int (0 : Int32)), (.int (0 : Int32)), (.int (0 : Int32)), (.int (0 : Int32)), (.int (0 : Int32)), (.int (0 : Int32)), (.int (0 : Int32)), (.int (0 : Int32)), (.int (0 : Int32)), (.int (0 : Int32)), (.int (0 : Int32)), (.int (0 : Int32)), (.int (0 : Int32)), (.int (0 : Int32)), (.int (0 : Int32))] (.int (0 : Int32))) (gs : n0 ≤ sb) (gt : n0 ≤ tb) (nst : sb ≠ tb) (Er : Exa Z h0 sr "java/lang/String") (Rv : Fld Z h0 sr "java/lang/String" "value" "[B" (.ref ru)) (Rc : Fld Z h0 sr "java/lang/String" "coder" "B" (.int (0 : Int32))) (Vr : Arv Z h0 ru kr .byte (8 : Int32) [(.int (86 : Int32)), (.int (77 : Int32)), (.int (32 : Int32)), (.int (116 : Int32)), (.int (121 : Int32)), (.int (112 : Int32)), (.int (101 : Int32)), (.int (32 : Int32))] (.int (0 : Int32))) (nrt : ru ≠ tb) (OD : Old Z n0 h0) (S2 : Sta Z Z.heap "java/lang/String" "COMPACT_STRINGS" "Z" (.int cz)) (hcz : ¬ cz = 0) :
    Ctr l Z (⟨"java/lang/String", "getBytes", "([BIB)V"⟩ : MethodName) jdk_42_method_147_code 4 none ({ frames := 1, cells := 0, slots := 0, locals := 20 } : Room) n0 #[(.ref sr), (.ref tb), (.int (0 : Int32)), (.int (0 : Int32))] h0 (fun v h => v = none ∧ Keep h0 h [tb] ∧ Arv Z h tb kt .byte (16 : Int32) [(.int (86 : Int32)), (.int (77 : Int32)), (.int (32 : Int32)), (.int (116 : Int32)), (.int (121 : Int32)), (.int (112 : Int32)), (.int (101 : Int32)), (.int (32 : Int32)), (.int (0 : Int32)), (.int (0 : Int32)), (.int (0 : Int32)), (.int (0 : Int32)), (.int (0 : Int32)), (.int (0 : Int32)), (.int (0 : Int32)), (.int (0 : Int32))] (.int (0 : Int32))) := by
  refine Ctr.of (by decide +kernel) hn0 ?_
  intro p e s m below meth c T0 C hnm hret hlk X0
  rw [ef14 m sr tb (0 : Int32) (0 : Int32)]
  refine OGo.aloadN (pc' := 1) C X0 d14_0 rfl rfl rfl ?_
  refine OGo.callV (pc' := 4) (cells' := 0) (slots' := 0) (argsL := []) (St := []) C X0 (wd66 hw) (wd67 hw) (wd69 hw) (wd68 hw) (by decide) Er (wd70 hw) (wd6 hw) (ctCoder hw X0.2.1 sr cz Rc OD S2 hcz) (lenOf pd0 rfl) rfl d14_1 rfl rfl (by decide) (Nat.le_of_ble_eq_true rfl) rfl rfl (by decide) (by decide) (fun v1 T1 h1 Q1 X1 z1 => ?_)
  obtain ⟨hv1, hh1⟩ := Q1
  subst hv1; rw [hh1] at X1
  show OGo p e below _ T1 (mkF m 4 #[.val (.ref sr), .val (.ref tb), .val (.int (0 : Int32)), .val (.int (0 : Int32))] [(.int (0 : Int32))])
  refine OGo.iloadN (pc' := 5) C X1 d14_4 rfl rfl ?_
  refine OGo.icmpNo (pc' := 8) C X1 d14_5 rfl (teq (by decide : (0 : Int32) = (0 : Int32))).2 ?_
  refine OGo.aloadN (pc' := 9) C X1 d14_8 rfl rfl rfl ?_
  refine OGo.getfield (pc' := 12) C X1 (host := "") (Or.inl (wd65 hw)) Via.refl Rv d14_9 rfl (fun T2 X2 => ?_)
  refine OGo.iconst (pc' := 13) (z := (0 : Int32)) C X2 d14_12 rfl (by decide) ?_
  refine OGo.aloadN (pc' := 14) C X2 d14_13 rfl rfl rfl ?_
  refine OGo.iloadN (pc' := 15) C X2 d14_14 rfl rfl ?_
  refine OGo.iloadN (pc' := 16) C X2 d14_15 rfl rfl ?_
  refine OGo.ishl (pc' := 17) (z := (0 : Int32)) C X2 d14_16 rfl (by decide) ?_
  refine OGo.aloadN (pc' := 18) C X2 d14_17 rfl rfl rfl ?_
  refine OGo.getfield (pc' := 21) C X2 (host := "") (Or.inl (wd65 hw)) Via.refl Rv d14_18 rfl (fun T3 X3 => ?_)
  refine OGo.arraylength (pc' := 22) C X3 Vr d14_21 rfl ?_
  refine OGo.acopy (pc' := 25) (us := [(.int (86 : Int32)), (.int (77 : Int32)), (.int (32 : Int32)), (.int (116 : Int32)), (.int (121 : Int32)), (.int (112 : Int32)), (.int (101 : Int32)), (.int (32 : Int32))]) (vr := [(.int (86 : Int32)), (.int (77 : Int32)), (.int (32 : Int32)), (.int (116 : Int32)), (.int (121 : Int32)), (.int (112 : Int32)), (.int (101 : Int32)), (.int (32 : Int32)), (.int (0 : Int32)), (.int (0 : Int32)), (.int (0 : Int32)), (.int (0 : Int32)), (.int (0 : Int32)), (.int (0 : Int32)), (.int (0 : Int32)), (.int (0 : Int32))]) C X3 (wd96 hw) (wd99 hw) (wd97 hw) (wd98 hw) Vr Vt rfl (by decide) (by decide) (by decide) (by decide) (by decide) rfl (Nat.le_of_ble_eq_true rfl) rfl gt d14_22 rfl rfl (by decide) (Nat.le_of_ble_eq_true rfl) (fun T4 h4 X4 K4 V4 => ?_)
  have K5 : Keep h0 h4 [tb] := (Keep.refl h0 [tb]).trans K4 (allS (Or.inl (List.mem_of_getElem? (i := 0) rfl)) all0)
  refine OGo.goto (pc' := 43) C X4 d14_25 (by decide) (by decide) ?_
  exact OGo.ret C X4 d14_43 hret hlk (⟨rfl, K5, V4⟩) (by decide) (by decide)
theorem ef12 (m : MethodId) (x0 : Addr) (x1 : Int32) (x2 : Addr) : entryFrame m #[(.ref x0), (.int x1), (.ref x2)] 3 = mkF m 0 #[.val (.ref x0), .val (.int x1), .val (.ref x2)] [] := by first | (simp [entryFrame, mkF, argsToLocals, Value.category]; done) | rfl
set_option maxRecDepth 65536 in
set_option maxHeartbeats 40000000 in
theorem ctPut1 {l : Launch} {Z : State} {a0 : Array Value} (hw : HW a0 Z) {n0 : Nat} {h0 : Heap} (hn0 : n0 ≤ h0.size) (sb tb sr ru : Addr) (kt kr : ClassId) (cz : Int32) (Es : Exa Z h0 sb "java/lang/StringBuilder") (Fv : Fld Z h0 sb "java/lang/AbstractStringBuilder" "value" "[B" (.ref tb)) (Fc : Fld Z h0 sb "java/lang/AbstractStringBuilder" "coder" "B" (.int (0 : Int32))) (Fn : Fld Z h0 sb "java/lang/AbstractStringBuilder" "count" "I" (.int (0 : Int32))) (Vt : Arv Z h0 tb kt .byte (16 : Int32) [(.int (0 : Int32)), (.int (0 : Int32)), (.int (0 : Int32)), (.int (0 : Int32)), (.int (0 : Int32)), (.int (0 : Int32)), (.int (0 : Int32)), (.int (0 : Int32)), (.int (0 : Int32)), (.int (0 : Int32)), (.int (0 : Int32)), (.int (0 : Int32)), (.int (0 : Int32)), (.int (0 : Int32)), (.int (0 : Int32)), (.int (0 : Int32))] (.int (0 : Int32))) (gs : n0 ≤ sb) (gt : n0 ≤ tb) (nst : sb ≠ tb) (Er : Exa Z h0 sr "java/lang/String") (Rv : Fld Z h0 sr "java/lang/String" "value" "[B" (.ref ru)) (Rc : Fld Z h0 sr "java/lang/String" "coder" "B" (.int (0 : Int32))) (Vr : Arv Z h0 ru kr .byte (8 : Int32) [(.int (86 : Int32)), (.int (77 : Int32)), (.int (32 : Int32)), (.int (116 : Int32)), (.int (121 : Int32)), (.int (112 : Int32)), (.int (101 : Int32)), (.int (32 : Int32))] (.int (0 : Int32))) (nrt : ru ≠ tb) (OD : Old Z n0 h0) (S2 : Sta Z Z.heap "java/lang/String" "COMPACT_STRINGS" "Z" (.int cz)) (hcz : ¬ cz = 0) :
    Ctr l Z (⟨"java/lang/AbstractStringBuilder", "putStringAt", "(ILjava/lang/String;)V"⟩ : MethodName) jdk_68_method_73_code 3 none ({ frames := 2, cells := 0, slots := 0, locals := 40 } : Room) n0 #[(.ref sb), (.int (0 : Int32)), (.ref sr)] h0 (fun v h => v = none ∧ Keep h0 h [tb] ∧ Arv Z h tb kt .byte (16 : Int32) [(.int (86 : Int32)), (.int (77 : Int32)), (.int (32 : Int32)), (.int (116 : Int32)), (.int (121 : Int32)), (.int (112 : Int32)), (.int (101 : Int32)), (.int (32 : Int32)), (.int (0 : Int32)), (.int (0 : Int32)), (.int (0 : Int32)), (.int (0 : Int32)), (.int (0 : Int32)), (.int (0 : Int32)), (.int (0 : Int32)), (.int (0 : Int32))] (.int (0 : Int32))) := by
  refine Ctr.of (by decide +kernel) hn0 ?_
  intro p e s m below meth c T0 C hnm hret hlk X0
  rw [ef12 m sb (0 : Int32) sr]
  refine OGo.aloadN (pc' := 1) C X0 d12_0 rfl rfl rfl ?_
  refine OGo.aloadN (pc' := 2) C X0 d12_1 rfl rfl rfl ?_
  refine OGo.callPriv2 (pc' := 5) (cells' := 0) (slots' := 0) (argsL := [(.ref sr)]) (St := []) C X0 (wd85 hw) (wd86 hw) (wd87 hw) (wd78 hw) rfl (by decide) Es (wd89 hw) (wd41 hw) (ctIfn1 hw X0.2.1 sb tb sr ru kt kr  cz Es Fv Fc Fn Vt gs gt nst Er Rv Rc Vr nrt OD S2 hcz) (lenOf pd6 rfl) rfl d12_2 rfl rfl (by decide) (Nat.le_of_ble_eq_true rfl) rfl rfl (by decide) (by decide) (fun v1 T1 h1 Q1 X1 z1 => ?_)
  obtain ⟨hv1, hh1⟩ := Q1
  subst hv1; rw [hh1] at X1
  show OGo p e below _ T1 (mkF m 5 #[.val (.ref sb), .val (.int (0 : Int32)), .val (.ref sr)] [])
  refine OGo.aloadN (pc' := 6) C X1 d12_5 rfl rfl rfl ?_
  refine OGo.aloadN (pc' := 7) C X1 d12_6 rfl rfl rfl ?_
  refine OGo.getfield (pc' := 10) C X1 (host := "") (Or.inl (wd45 hw)) Via.refl Fv d12_7 rfl (fun T2 X2 => ?_)
  refine OGo.iloadN (pc' := 11) C X2 d12_10 rfl rfl ?_
  refine OGo.aloadN (pc' := 12) C X2 d12_11 rfl rfl rfl ?_
  refine OGo.getfield (pc' := 15) C X2 (host := "") (Or.inl (wd47 hw)) Via.refl Fc d12_12 rfl (fun T3 X3 => ?_)
  refine OGo.callV (pc' := 18) (cells' := 0) (slots' := 0) (argsL := [(.ref tb), (.int (0 : Int32)), (.int (0 : Int32))]) (St := []) C X3 (wd91 hw) (wd92 hw) (wd94 hw) (wd93 hw) (by decide) Er (wd95 hw) (wd6 hw) (ctGb1 hw X3.2.1 sb tb sr ru kt kr  cz Es Fv Fc Fn Vt gs gt nst Er Rv Rc Vr nrt OD S2 hcz) (lenOf pd7 rfl) rfl d12_15 rfl rfl (by decide) (Nat.le_of_ble_eq_true rfl) rfl rfl (by decide) (by decide) (fun v4 T4 h4 Q4 X4 z4 => ?_)
  obtain ⟨hv4, K4, Vt4⟩ := Q4
  subst hv4
  have K5 : Keep h0 h4 [tb] := (Keep.refl h0 [tb]).trans K4 (allS (Or.inl (List.mem_of_getElem? (i := 0) rfl)) all0)
  show OGo p e below _ T4 (mkF m 18 #[.val (.ref sb), .val (.int (0 : Int32)), .val (.ref sr)] [])
  exact OGo.ret C X4 d12_18 hret hlk (⟨rfl, K5, Vt4⟩) (by decide) (by decide)
theorem ef8 (m : MethodId) (x0 : Addr) (x1 : Addr) : entryFrame m #[(.ref x0), (.ref x1)] 3 = mkF m 0 #[.val (.ref x0), .val (.ref x1), .unset] [] := by first | (simp [entryFrame, mkF, argsToLocals, Value.category]; done) | rfl
set_option maxRecDepth 65536 in
set_option maxHeartbeats 40000000 in
theorem ctAap1 {l : Launch} {Z : State} {a0 : Array Value} (hw : HW a0 Z) {n0 : Nat} {h0 : Heap} (hn0 : n0 ≤ h0.size) (sb tb sr ru : Addr) (kt kr : ClassId) (cz : Int32) (Es : Exa Z h0 sb "java/lang/StringBuilder") (Fv : Fld Z h0 sb "java/lang/AbstractStringBuilder" "value" "[B" (.ref tb)) (Fc : Fld Z h0 sb "java/lang/AbstractStringBuilder" "coder" "B" (.int (0 : Int32))) (Fn : Fld Z h0 sb "java/lang/AbstractStringBuilder" "count" "I" (.int (0 : Int32))) (Vt : Arv Z h0 tb kt .byte (16 : Int32) [(.int (0 : Int32)), (.int (0 : Int32)), (.int (0 : Int32)), (.int (0 : Int32)), (.int (0 : Int32)), (.int (0 : Int32)), (.int (0 : Int32)), (.int (0 : Int32)), (.int (0 : Int32)), (.int (0 : Int32)), (.int (0 : Int32)), (.int (0 : Int32)), (.int (0 : Int32)), (.int (0 : Int32)), (.int (0 : Int32)), (.int (0 : Int32))] (.int (0 : Int32))) (gs : n0 ≤ sb) (gt : n0 ≤ tb) (nst : sb ≠ tb) (Er : Exa Z h0 sr "java/lang/String") (Rv : Fld Z h0 sr "java/lang/String" "value" "[B" (.ref ru)) (Rc : Fld Z h0 sr "java/lang/String" "coder" "B" (.int (0 : Int32))) (Vr : Arv Z h0 ru kr .byte (8 : Int32) [(.int (86 : Int32)), (.int (77 : Int32)), (.int (32 : Int32)), (.int (116 : Int32)), (.int (121 : Int32)), (.int (112 : Int32)), (.int (101 : Int32)), (.int (32 : Int32))] (.int (0 : Int32))) (nrt : ru ≠ tb) (OD : Old Z n0 h0) (S2 : Sta Z Z.heap "java/lang/String" "COMPACT_STRINGS" "Z" (.int cz)) (hcz : ¬ cz = 0) :
    Ctr l Z (⟨"java/lang/AbstractStringBuilder", "append", "(Ljava/lang/String;)Ljava/lang/AbstractStringBuilder;"⟩ : MethodName) jdk_68_method_22_code 3 (some (.object "java/lang/AbstractStringBuilder")) ({ frames := 3, cells := 0, slots := 0, locals := 56 } : Room) n0 #[(.ref sb), (.ref sr)] h0 (fun v h => v = some (.ref sb) ∧ Keep h0 h [sb, tb] ∧ Exa Z h sb "java/lang/StringBuilder" ∧ Fld Z h sb "java/lang/AbstractStringBuilder" "value" "[B" (.ref tb) ∧ Fld Z h sb "java/lang/AbstractStringBuilder" "coder" "B" (.int (0 : Int32)) ∧ Fld Z h sb "java/lang/AbstractStringBuilder" "count" "I" (.int (8 : Int32)) ∧ Arv Z h tb kt .byte (16 : Int32) [(.int (86 : Int32)), (.int (77 : Int32)), (.int (32 : Int32)), (.int (116 : Int32)), (.int (121 : Int32)), (.int (112 : Int32)), (.int (101 : Int32)), (.int (32 : Int32)), (.int (0 : Int32)), (.int (0 : Int32)), (.int (0 : Int32)), (.int (0 : Int32)), (.int (0 : Int32)), (.int (0 : Int32)), (.int (0 : Int32)), (.int (0 : Int32))] (.int (0 : Int32))) := by
  refine Ctr.of (by decide +kernel) hn0 ?_
  intro p e s m below meth c T0 C hnm hret hlk X0
  rw [ef8 m sb sr]
  refine OGo.aloadN (pc' := 1) C X0 d8_0 rfl rfl rfl ?_
  refine OGo.ifnonnullYes (pc' := 9) C X0 d8_1 (by decide) (by decide) ?_
  refine OGo.aloadN (pc' := 10) C X0 d8_9 rfl rfl rfl ?_
  refine OGo.callV (pc' := 13) (cells' := 0) (slots' := 0) (argsL := []) (St := []) C X0 (wd60 hw) (wd61 hw) (wd63 hw) (wd62 hw) (by decide) Er (wd64 hw) (wd6 hw) (ctLen8 hw X0.2.1 sr ru kr _ cz Er Rv Rc Vr OD S2 hcz) (lenOf pd8 rfl) rfl d8_10 rfl rfl (by decide) (Nat.le_of_ble_eq_true rfl) rfl rfl (by decide) (by decide) (fun v1 T1 h1 Q1 X1 z1 => ?_)
  obtain ⟨hv1, hh1⟩ := Q1
  subst hv1; rw [hh1] at X1
  show OGo p e below _ T1 (mkF m 13 #[.val (.ref sb), .val (.ref sr), .unset] [(.int (8 : Int32))])
  refine OGo.istoreN (pc' := 14) C X1 d8_13 rfl (l' := #[.val (.ref sb), .val (.ref sr), .val (.int (8 : Int32))]) rfl ?_
  refine OGo.aloadN (pc' := 15) C X1 d8_14 rfl rfl rfl ?_
  refine OGo.aloadN (pc' := 16) C X1 d8_15 rfl rfl rfl ?_
  refine OGo.getfield (pc' := 19) C X1 (host := "") (Or.inl (wd73 hw)) Via.refl Fn d8_16 rfl (fun T2 X2 => ?_)
  refine OGo.iloadN (pc' := 20) C X2 d8_19 rfl rfl ?_
  refine OGo.iadd (pc' := 21) (z := (8 : Int32)) C X2 d8_20 rfl (by decide) ?_
  refine OGo.callPriv2 (pc' := 24) (cells' := 0) (slots' := 0) (argsL := [(.int (8 : Int32))]) (St := []) C X2 (wd75 hw) (wd76 hw) (wd77 hw) (wd78 hw) rfl (by decide) Es (wd79 hw) (wd41 hw) (ctEns1 hw X2.2.1 sb tb sr ru kt kr  cz Es Fv Fc Fn Vt gs gt nst Er Rv Rc Vr nrt OD S2 hcz) (lenOf pd3 rfl) rfl d8_21 rfl rfl (by decide) (Nat.le_of_ble_eq_true rfl) rfl rfl (by decide) (by decide) (fun v3 T3 h3 Q3 X3 z3 => ?_)
  obtain ⟨hv3, hh3⟩ := Q3
  subst hv3; rw [hh3] at X3
  show OGo p e below _ T3 (mkF m 24 #[.val (.ref sb), .val (.ref sr), .val (.int (8 : Int32))] [])
  refine OGo.aloadN (pc' := 25) C X3 d8_24 rfl rfl rfl ?_
  refine OGo.aloadN (pc' := 26) C X3 d8_25 rfl rfl rfl ?_
  refine OGo.getfield (pc' := 29) C X3 (host := "") (Or.inl (wd73 hw)) Via.refl Fn d8_26 rfl (fun T4 X4 => ?_)
  refine OGo.aloadN (pc' := 30) C X4 d8_29 rfl rfl rfl ?_
  refine OGo.callPriv2 (pc' := 33) (cells' := 0) (slots' := 0) (argsL := [(.int (0 : Int32)), (.ref sr)]) (St := []) C X4 (wd80 hw) (wd81 hw) (wd82 hw) (wd78 hw) rfl (by decide) Es (wd84 hw) (wd41 hw) (ctPut1 hw X4.2.1 sb tb sr ru kt kr  cz Es Fv Fc Fn Vt gs gt nst Er Rv Rc Vr nrt OD S2 hcz) (lenOf pd9 rfl) rfl d8_30 rfl rfl (by decide) (Nat.le_of_ble_eq_true rfl) rfl rfl (by decide) (by decide) (fun v5 T5 h5 Q5 X5 z5 => ?_)
  obtain ⟨hv5, K5, Vt5⟩ := Q5
  subst hv5
  have K6 : Keep h0 h5 [sb, tb] := (Keep.refl h0 [sb, tb]).trans K5 (allS (Or.inl (List.mem_of_getElem? (i := 1) rfl)) all0)
  show OGo p e below _ T5 (mkF m 33 #[.val (.ref sb), .val (.ref sr), .val (.int (8 : Int32))] [])
  refine OGo.aloadN (pc' := 34) C X5 d8_33 rfl rfl rfl ?_
  refine OGo.dup (pc' := 35) C X5 d8_34 rfl rfl ?_
  have f7 := (Fn.keep K5 (ninS nst nin0))
  refine OGo.getfield (pc' := 38) C X5 (host := "") (Or.inl (wd73 hw)) Via.refl f7 d8_35 rfl (fun T8 X8 => ?_)
  refine OGo.iloadN (pc' := 39) C X8 d8_38 rfl rfl ?_
  refine OGo.iadd (pc' := 40) (z := (8 : Int32)) C X8 d8_39 rfl (by decide) ?_
  have f9 := (Es.keep K5)
  refine OGo.putfield (pc' := 43) C X8 (host := "") (Or.inl (wd73 hw)) Via.refl f7 f9 gs (Or.inl (wd74 hw)) (wd32 hw) (ty := .int) (by decide) rfl rfl d8_40 rfl (fun T10 h10 X10 W10 F10 => ?_)
  have K11 : Keep h0 h10 [sb, tb] := K6.wr W10 (Or.inl (List.mem_of_getElem? (i := 0) rfl))
  refine OGo.aloadN (pc' := 44) C X10 d8_43 rfl rfl rfl ?_
  have f12 := (f9.wr W10)
  have f13 := ((Fv.keep K5 (ninS nst nin0)).other W10 (Or.inr (slot_ne (Or.inl (wd46 hw)) (Or.inl (wd74 hw)) (by decide) (t := (.array .byte)) (t' := .int) (by decide) (by decide))))
  have f14 := ((Fc.keep K5 (ninS nst nin0)).other W10 (Or.inr (slot_ne (Or.inl (wd48 hw)) (Or.inl (wd74 hw)) (by decide) (t := .byte) (t' := .int) (by decide) (by decide))))
  have f15 := (Vt5.other W10 (Ne.symm nst))
  exact OGo.retA C X10 d8_44 hret rfl rfl hlk (⟨rfl, K11, f12, f13, f14, F10, f15⟩) (by decide) (by decide)
theorem ef7 (m : MethodId) (x0 : Addr) (x1 : Addr) : entryFrame m #[(.ref x0), (.ref x1)] 2 = mkF m 0 #[.val (.ref x0), .val (.ref x1)] [] := by first | (simp [entryFrame, mkF, argsToLocals, Value.category]; done) | rfl
set_option maxRecDepth 65536 in
set_option maxHeartbeats 40000000 in
theorem ctApp1 {l : Launch} {Z : State} {a0 : Array Value} (hw : HW a0 Z) {n0 : Nat} {h0 : Heap} (hn0 : n0 ≤ h0.size) (sb tb sr ru : Addr) (kt kr : ClassId) (cz : Int32) (Es : Exa Z h0 sb "java/lang/StringBuilder") (Fv : Fld Z h0 sb "java/lang/AbstractStringBuilder" "value" "[B" (.ref tb)) (Fc : Fld Z h0 sb "java/lang/AbstractStringBuilder" "coder" "B" (.int (0 : Int32))) (Fn : Fld Z h0 sb "java/lang/AbstractStringBuilder" "count" "I" (.int (0 : Int32))) (Vt : Arv Z h0 tb kt .byte (16 : Int32) [(.int (0 : Int32)), (.int (0 : Int32)), (.int (0 : Int32)), (.int (0 : Int32)), (.int (0 : Int32)), (.int (0 : Int32)), (.int (0 : Int32)), (.int (0 : Int32)), (.int (0 : Int32)), (.int (0 : Int32)), (.int (0 : Int32)), (.int (0 : Int32)), (.int (0 : Int32)), (.int (0 : Int32)), (.int (0 : Int32)), (.int (0 : Int32))] (.int (0 : Int32))) (gs : n0 ≤ sb) (gt : n0 ≤ tb) (nst : sb ≠ tb) (Er : Exa Z h0 sr "java/lang/String") (Rv : Fld Z h0 sr "java/lang/String" "value" "[B" (.ref ru)) (Rc : Fld Z h0 sr "java/lang/String" "coder" "B" (.int (0 : Int32))) (Vr : Arv Z h0 ru kr .byte (8 : Int32) [(.int (86 : Int32)), (.int (77 : Int32)), (.int (32 : Int32)), (.int (116 : Int32)), (.int (121 : Int32)), (.int (112 : Int32)), (.int (101 : Int32)), (.int (32 : Int32))] (.int (0 : Int32))) (nrt : ru ≠ tb) (OD : Old Z n0 h0) (S2 : Sta Z Z.heap "java/lang/String" "COMPACT_STRINGS" "Z" (.int cz)) (hcz : ¬ cz = 0) :
    Ctr l Z (⟨"java/lang/StringBuilder", "append", "(Ljava/lang/String;)Ljava/lang/StringBuilder;"⟩ : MethodName) jdk_67_method_7_code 2 (some (.object "java/lang/StringBuilder")) ({ frames := 4, cells := 0, slots := 0, locals := 72 } : Room) n0 #[(.ref sb), (.ref sr)] h0 (fun v h => v = some (.ref sb) ∧ Keep h0 h [sb, tb] ∧ Exa Z h sb "java/lang/StringBuilder" ∧ Fld Z h sb "java/lang/AbstractStringBuilder" "value" "[B" (.ref tb) ∧ Fld Z h sb "java/lang/AbstractStringBuilder" "coder" "B" (.int (0 : Int32)) ∧ Fld Z h sb "java/lang/AbstractStringBuilder" "count" "I" (.int (8 : Int32)) ∧ Arv Z h tb kt .byte (16 : Int32) [(.int (86 : Int32)), (.int (77 : Int32)), (.int (32 : Int32)), (.int (116 : Int32)), (.int (121 : Int32)), (.int (112 : Int32)), (.int (101 : Int32)), (.int (32 : Int32)), (.int (0 : Int32)), (.int (0 : Int32)), (.int (0 : Int32)), (.int (0 : Int32)), (.int (0 : Int32)), (.int (0 : Int32)), (.int (0 : Int32)), (.int (0 : Int32))] (.int (0 : Int32))) := by
  refine Ctr.of (by decide +kernel) hn0 ?_
  intro p e s m below meth c T0 C hnm hret hlk X0
  rw [ef7 m sb sr]
  refine OGo.aloadN (pc' := 1) C X0 d7_0 rfl rfl rfl ?_
  refine OGo.aloadN (pc' := 2) C X0 d7_1 rfl rfl rfl ?_
  refine OGo.callSuper (pc' := 5) (cells' := 0) (slots' := 0) (argsL := [(.ref sr)]) (St := []) C X0 (wd55 hw) (wd56 hw) (wd78 hw) rfl (wd57 hw) (by decide) (by decide) (Ins.self Es) (wd59 hw) (wd41 hw) (ctAap1 hw X0.2.1 sb tb sr ru kt kr  cz Es Fv Fc Fn Vt gs gt nst Er Rv Rc Vr nrt OD S2 hcz) (lenOf pd10 rfl) rfl d7_2 rfl rfl (by decide) (Nat.le_of_ble_eq_true rfl) rfl rfl (by decide) (by decide) (fun v1 T1 h1 Q1 X1 z1 => ?_)
  obtain ⟨hv1, K1, Es1, Fv1, Fc1, Fn1, Vt1⟩ := Q1
  subst hv1
  have K2 : Keep h0 h1 [sb, tb] := (Keep.refl h0 [sb, tb]).trans K1 (allS (Or.inl (List.mem_of_getElem? (i := 0) rfl)) (allS (Or.inl (List.mem_of_getElem? (i := 1) rfl)) all0))
  show OGo p e below _ T1 (mkF m 5 #[.val (.ref sb), .val (.ref sr)] [(.ref sb)])
  refine OGo.pop (pc' := 6) C X1 d7_5 rfl rfl ?_
  refine OGo.aloadN (pc' := 7) C X1 d7_6 rfl rfl rfl ?_
  exact OGo.retA C X1 d7_7 hret rfl rfl hlk (⟨rfl, K2, Es1, Fv1, Fc1, Fn1, Vt1⟩) (by decide) (by decide)
set_option maxRecDepth 65536 in
set_option maxHeartbeats 40000000 in
theorem ctIfn2 {l : Launch} {Z : State} {a0 : Array Value} (hw : HW a0 Z) {n0 : Nat} {h0 : Heap} (hn0 : n0 ≤ h0.size) (sb tb sr ru : Addr) (kt kr : ClassId) (cz : Int32) (Es : Exa Z h0 sb "java/lang/StringBuilder") (Fv : Fld Z h0 sb "java/lang/AbstractStringBuilder" "value" "[B" (.ref tb)) (Fc : Fld Z h0 sb "java/lang/AbstractStringBuilder" "coder" "B" (.int (0 : Int32))) (Fn : Fld Z h0 sb "java/lang/AbstractStringBuilder" "count" "I" (.int (8 : Int32))) (Vt : Arv Z h0 tb kt .byte (16 : Int32) [(.int (86 : Int32)), (.int (77 : Int32)), (.int (32 : Int32)), (.int (116 : Int32)), (.int (121 : Int32)), (.int (112 : Int32)), (.int (101 : Int32)), (.int (32 : Int32)), (.int (0 : Int32)), (.int (0 : Int32)), (.int (0 : Int32)), (.int (0 : Int32)), (.int (0 : Int32)), (.int (0 : Int32)), (.int (0 : Int32)), (.int (0 : Int32))] (.int (0 : Int32))) (gs : n0 ≤ sb) (gt : n0 ≤ tb) (nst : sb ≠ tb) (Er : Exa Z h0 sr "java/lang/String") (Rv : Fld Z h0 sr "java/lang/String" "value" "[B" (.ref ru)) (Rc : Fld Z h0 sr "java/lang/String" "coder" "B" (.int (0 : Int32))) (Vr : Arv Z h0 ru kr .byte (1 : Int32) [(.int (116 : Int32))] (.int (0 : Int32))) (nrt : ru ≠ tb) (OD : Old Z n0 h0) (S2 : Sta Z Z.heap "java/lang/String" "COMPACT_STRINGS" "Z" (.int cz)) (hcz : ¬ cz = 0) :
    Ctr l Z (⟨"java/lang/AbstractStringBuilder", "inflateIfNeededFor", "(Ljava/lang/String;)V"⟩ : MethodName) jdk_68_method_71_code 2 none ({ frames := 1, cells := 0, slots := 0, locals := 16 } : Room) n0 #[(.ref sb), (.ref sr)] h0 (fun v h => v = none ∧ h = h0) := by
  refine Ctr.of (by decide +kernel) hn0 ?_
  intro p e s m below meth c T0 C hnm hret hlk X0
  rw [ef13 m sb sr]
  refine OGo.getstatic (pc' := 3) C X0 (host := "") (Or.inl (wd44 hw)) Via.refl (S2.ext OD.2) d13_0 rfl (fun T1 X1 => ?_)
  refine OGo.ifNo (pc' := 6) C X1 d13_3 rfl (feq hcz).1 ?_
  refine OGo.aloadN (pc' := 7) C X1 d13_6 rfl rfl rfl ?_
  refine OGo.getfield (pc' := 10) C X1 (host := "") (Or.inl (wd47 hw)) Via.refl Fc d13_7 rfl (fun T2 X2 => ?_)
  refine OGo.aloadN (pc' := 11) C X2 d13_10 rfl rfl rfl ?_
  refine OGo.callV (pc' := 14) (cells' := 0) (slots' := 0) (argsL := []) (St := [(.int (0 : Int32))]) C X2 (wd90 hw) (wd67 hw) (wd69 hw) (wd68 hw) (by decide) Er (wd70 hw) (wd6 hw) (ctCoder hw X2.2.1 sr cz Rc OD S2 hcz) (lenOf pd0 rfl) rfl d13_11 rfl rfl (by decide) (Nat.le_of_ble_eq_true rfl) rfl rfl (by decide) (by decide) (fun v3 T3 h3 Q3 X3 z3 => ?_)
  obtain ⟨hv3, hh3⟩ := Q3
  subst hv3; rw [hh3] at X3
  show OGo p e below _ T3 (mkF m 14 #[.val (.ref sb), .val (.ref sr)] [(.int (0 : Int32)), (.int (0 : Int32))])
  refine OGo.icmpYes (pc' := 21) C X3 d13_14 (teq (by decide : (0 : Int32) = (0 : Int32))).1 (by decide) (by decide) ?_
  exact OGo.ret C X3 d13_21 hret hlk (⟨rfl, rfl⟩) (by decide) (by decide)
set_option maxRecDepth 65536 in
set_option maxHeartbeats 40000000 in
theorem ctEns2 {l : Launch} {Z : State} {a0 : Array Value} (hw : HW a0 Z) {n0 : Nat} {h0 : Heap} (hn0 : n0 ≤ h0.size) (sb tb sr ru : Addr) (kt kr : ClassId) (cz : Int32) (Es : Exa Z h0 sb "java/lang/StringBuilder") (Fv : Fld Z h0 sb "java/lang/AbstractStringBuilder" "value" "[B" (.ref tb)) (Fc : Fld Z h0 sb "java/lang/AbstractStringBuilder" "coder" "B" (.int (0 : Int32))) (Fn : Fld Z h0 sb "java/lang/AbstractStringBuilder" "count" "I" (.int (8 : Int32))) (Vt : Arv Z h0 tb kt .byte (16 : Int32) [(.int (86 : Int32)), (.int (77 : Int32)), (.int (32 : Int32)), (.int (116 : Int32)), (.int (121 : Int32)), (.int (112 : Int32)), (.int (101 : Int32)), (.int (32 : Int32)), (.int (0 : Int32)), (.int (0 : Int32)), (.int (0 : Int32)), (.int (0 : Int32)), (.int (0 : Int32)), (.int (0 : Int32)), (.int (0 : Int32)), (.int (0 : Int32))] (.int (0 : Int32))) (gs : n0 ≤ sb) (gt : n0 ≤ tb) (nst : sb ≠ tb) (Er : Exa Z h0 sr "java/lang/String") (Rv : Fld Z h0 sr "java/lang/String" "value" "[B" (.ref ru)) (Rc : Fld Z h0 sr "java/lang/String" "coder" "B" (.int (0 : Int32))) (Vr : Arv Z h0 ru kr .byte (1 : Int32) [(.int (116 : Int32))] (.int (0 : Int32))) (nrt : ru ≠ tb) (OD : Old Z n0 h0) (S2 : Sta Z Z.heap "java/lang/String" "COMPACT_STRINGS" "Z" (.int cz)) (hcz : ¬ cz = 0) :
    Ctr l Z (⟨"java/lang/AbstractStringBuilder", "ensureCapacityInternal", "(I)V"⟩ : MethodName) jdk_68_method_9_code 3 none ({ frames := 0, cells := 0, slots := 0, locals := 0 } : Room) n0 #[(.ref sb), (.int (9 : Int32))] h0 (fun v h => v = none ∧ h = h0) := by
  refine Ctr.of (by decide +kernel) hn0 ?_
  intro p e s m below meth c T0 C hnm hret hlk X0
  rw [ef11 m sb (9 : Int32)]
  refine OGo.aloadN (pc' := 1) C X0 d11_0 rfl rfl rfl ?_
  refine OGo.getfield (pc' := 4) C X0 (host := "") (Or.inl (wd45 hw)) Via.refl Fv d11_1 rfl (fun T1 X1 => ?_)
  refine OGo.arraylength (pc' := 5) C X1 Vt d11_4 rfl ?_
  refine OGo.aloadN (pc' := 6) C X1 d11_5 rfl rfl rfl ?_
  refine OGo.getfield (pc' := 9) C X1 (host := "") (Or.inl (wd47 hw)) Via.refl Fc d11_6 rfl (fun T2 X2 => ?_)
  refine OGo.ishr (pc' := 10) (z := (16 : Int32)) C X2 d11_9 rfl (by decide) ?_
  refine OGo.istoreN (pc' := 11) C X2 d11_10 rfl (l' := #[.val (.ref sb), .val (.int (9 : Int32)), .val (.int (16 : Int32))]) rfl ?_
  refine OGo.iloadN (pc' := 12) C X2 d11_11 rfl rfl ?_
  refine OGo.iloadN (pc' := 13) C X2 d11_12 rfl rfl ?_
  refine OGo.isub (pc' := 14) (z := (-7 : Int32)) C X2 d11_13 rfl (by decide) ?_
  refine OGo.ifYes (pc' := 38) C X2 d11_14 (flt (by decide : ¬ (0 : Int32) < (-7 : Int32))).2.2.2 (by decide) (by decide) ?_
  exact OGo.ret C X2 d11_38 hret hlk (⟨rfl, rfl⟩) (by decide) (by decide)
set_option maxRecDepth 65536 in
set_option maxHeartbeats 40000000 in
theorem ctGb2 {l : Launch} {Z : State} {a0 : Array Value} (hw : HW a0 Z) {n0 : Nat} {h0 : Heap} (hn0 : n0 ≤ h0.size) (sb tb sr ru : Addr) (kt kr : ClassId) (cz : Int32) (Es : Exa Z h0 sb "java/lang/StringBuilder") (Fv : Fld Z h0 sb "java/lang/AbstractStringBuilder" "value" "[B" (.ref tb)) (Fc : Fld Z h0 sb "java/lang/AbstractStringBuilder" "coder" "B" (.int (0 : Int32))) (Fn : Fld Z h0 sb "java/lang/AbstractStringBuilder" "count" "I" (.int (8 : Int32))) (Vt : Arv Z h0 tb kt .byte (16 : Int32) [(.int (86 : Int32)), (.int (77 : Int32)), (.int (32 : Int32)), (.int (116 : Int32)), (.int (121 : Int32)), (.int (112 : Int32)), (.int (101 : Int32)), (.int (32 : Int32)), (.int (0 : Int32)), (.int (0 : Int32)), (.int (0 : Int32)), (.int (0 : Int32)), (.int (0 : Int32)), (.int (0 : Int32)), (.int (0 : Int32)), (.int (0 : Int32))] (.int (0 : Int32))) (gs : n0 ≤ sb) (gt : n0 ≤ tb) (nst : sb ≠ tb) (Er : Exa Z h0 sr "java/lang/String") (Rv : Fld Z h0 sr "java/lang/String" "value" "[B" (.ref ru)) (Rc : Fld Z h0 sr "java/lang/String" "coder" "B" (.int (0 : Int32))) (Vr : Arv Z h0 ru kr .byte (1 : Int32) [(.int (116 : Int32))] (.int (0 : Int32))) (nrt : ru ≠ tb) (OD : Old Z n0 h0) (S2 : Sta Z Z.heap "java/lang/String" "COMPACT_STRINGS" "Z" (.int cz)) (hcz : ¬ cz = 0) :
    Ctr l Z (⟨"java/lang/String", "getBytes", "([BIB)V"⟩ : MethodName) jdk_42_method_147_code 4 none ({ frames := 1, cells := 0, slots := 0, locals := 20 } : Room) n0 #[(.ref sr), (.ref tb), (.int (8 : Int32)), (.int (0 : Int32))] h0 (fun v h => v = none ∧ Keep h0 h [tb] ∧ Arv Z h tb kt .byte (16 : Int32) [(.int (86 : Int32)), (.int (77 : Int32)), (.int (32 : Int32)), (.int (116 : Int32)), (.int (121 : Int32)), (.int (112 : Int32)), (.int (101 : Int32)), (.int (32 : Int32)), (.int (116 : Int32)), (.int (0 : Int32)), (.int (0 : Int32)), (.int (0 : Int32)), (.int (0 : Int32)), (.int (0 : Int32)), (.int (0 : Int32)), (.int (0 : Int32))] (.int (0 : Int32))) := by
  refine Ctr.of (by decide +kernel) hn0 ?_
  intro p e s m below meth c T0 C hnm hret hlk X0
  rw [ef14 m sr tb (8 : Int32) (0 : Int32)]
  refine OGo.aloadN (pc' := 1) C X0 d14_0 rfl rfl rfl ?_
  refine OGo.callV (pc' := 4) (cells' := 0) (slots' := 0) (argsL := []) (St := []) C X0 (wd66 hw) (wd67 hw) (wd69 hw) (wd68 hw) (by decide) Er (wd70 hw) (wd6 hw) (ctCoder hw X0.2.1 sr cz Rc OD S2 hcz) (lenOf pd0 rfl) rfl d14_1 rfl rfl (by decide) (Nat.le_of_ble_eq_true rfl) rfl rfl (by decide) (by decide) (fun v1 T1 h1 Q1 X1 z1 => ?_)
  obtain ⟨hv1, hh1⟩ := Q1
  subst hv1; rw [hh1] at X1
  show OGo p e below _ T1 (mkF m 4 #[.val (.ref sr), .val (.ref tb), .val (.int (8 : Int32)), .val (.int (0 : Int32))] [(.int (0 : Int32))])
  refine OGo.iloadN (pc' := 5) C X1 d14_4 rfl rfl ?_
  refine OGo.icmpNo (pc' := 8) C X1 d14_5 rfl (teq (by decide : (0 : Int32) = (0 : Int32))).2 ?_
  refine OGo.aloadN (pc' := 9) C X1 d14_8 rfl rfl rfl ?_
  refine OGo.getfield (pc' := 12) C X1 (host := "") (Or.inl (wd65 hw)) Via.refl Rv d14_9 rfl (fun T2 X2 => ?_)
  refine OGo.iconst (pc' := 13) (z := (0 : Int32)) C X2 d14_12 rfl (by decide) ?_
  refine OGo.aloadN (pc' := 14) C X2 d14_13 rfl rfl rfl ?_
  refine OGo.iloadN (pc' := 15) C X2 d14_14 rfl rfl ?_
  refine OGo.iloadN (pc' := 16) C X2 d14_15 rfl rfl ?_
  refine OGo.ishl (pc' := 17) (z := (8 : Int32)) C X2 d14_16 rfl (by decide) ?_
  refine OGo.aloadN (pc' := 18) C X2 d14_17 rfl rfl rfl ?_
  refine OGo.getfield (pc' := 21) C X2 (host := "") (Or.inl (wd65 hw)) Via.refl Rv d14_18 rfl (fun T3 X3 => ?_)
  refine OGo.arraylength (pc' := 22) C X3 Vr d14_21 rfl ?_
  refine OGo.acopy (pc' := 25) (us := [(.int (116 : Int32))]) (vr := [(.int (86 : Int32)), (.int (77 : Int32)), (.int (32 : Int32)), (.int (116 : Int32)), (.int (121 : Int32)), (.int (112 : Int32)), (.int (101 : Int32)), (.int (32 : Int32)), (.int (116 : Int32)), (.int (0 : Int32)), (.int (0 : Int32)), (.int (0 : Int32)), (.int (0 : Int32)), (.int (0 : Int32)), (.int (0 : Int32)), (.int (0 : Int32))]) C X3 (wd96 hw) (wd99 hw) (wd97 hw) (wd98 hw) Vr Vt rfl (by decide) (by decide) (by decide) (by decide) (by decide) rfl (Nat.le_of_ble_eq_true rfl) rfl gt d14_22 rfl rfl (by decide) (Nat.le_of_ble_eq_true rfl) (fun T4 h4 X4 K4 V4 => ?_)
  have K5 : Keep h0 h4 [tb] := (Keep.refl h0 [tb]).trans K4 (allS (Or.inl (List.mem_of_getElem? (i := 0) rfl)) all0)
  refine OGo.goto (pc' := 43) C X4 d14_25 (by decide) (by decide) ?_
  exact OGo.ret C X4 d14_43 hret hlk (⟨rfl, K5, V4⟩) (by decide) (by decide)
set_option maxRecDepth 65536 in
set_option maxHeartbeats 40000000 in
theorem ctPut2 {l : Launch} {Z : State} {a0 : Array Value} (hw : HW a0 Z) {n0 : Nat} {h0 : Heap} (hn0 : n0 ≤ h0.size) (sb tb sr ru : Addr) (kt kr : ClassId) (cz : Int32) (Es : Exa Z h0 sb "java/lang/StringBuilder") (Fv : Fld Z h0 sb "java/lang/AbstractStringBuilder" "value" "[B" (.ref tb)) (Fc : Fld Z h0 sb "java/lang/AbstractStringBuilder" "coder" "B" (.int (0 : Int32))) (Fn : Fld Z h0 sb "java/lang/AbstractStringBuilder" "count" "I" (.int (8 : Int32))) (Vt : Arv Z h0 tb kt .byte (16 : Int32) [(.int (86 : Int32)), (.int (77 : Int32)), (.int (32 : Int32)), (.int (116 : Int32)), (.int (121 : Int32)), (.int (112 : Int32)), (.int (101 : Int32)), (.int (32 : Int32)), (.int (0 : Int32)), (.int (0 : Int32)), (.int (0 : Int32)), (.int (0 : Int32)), (.int (0 : Int32)), (.int (0 : Int32)), (.int (0 : Int32)), (.int (0 : Int32))] (.int (0 : Int32))) (gs : n0 ≤ sb) (gt : n0 ≤ tb) (nst : sb ≠ tb) (Er : Exa Z h0 sr "java/lang/String") (Rv : Fld Z h0 sr "java/lang/String" "value" "[B" (.ref ru)) (Rc : Fld Z h0 sr "java/lang/String" "coder" "B" (.int (0 : Int32))) (Vr : Arv Z h0 ru kr .byte (1 : Int32) [(.int (116 : Int32))] (.int (0 : Int32))) (nrt : ru ≠ tb) (OD : Old Z n0 h0) (S2 : Sta Z Z.heap "java/lang/String" "COMPACT_STRINGS" "Z" (.int cz)) (hcz : ¬ cz = 0) :
    Ctr l Z (⟨"java/lang/AbstractStringBuilder", "putStringAt", "(ILjava/lang/String;)V"⟩ : MethodName) jdk_68_method_73_code 3 none ({ frames := 2, cells := 0, slots := 0, locals := 40 } : Room) n0 #[(.ref sb), (.int (8 : Int32)), (.ref sr)] h0 (fun v h => v = none ∧ Keep h0 h [tb] ∧ Arv Z h tb kt .byte (16 : Int32) [(.int (86 : Int32)), (.int (77 : Int32)), (.int (32 : Int32)), (.int (116 : Int32)), (.int (121 : Int32)), (.int (112 : Int32)), (.int (101 : Int32)), (.int (32 : Int32)), (.int (116 : Int32)), (.int (0 : Int32)), (.int (0 : Int32)), (.int (0 : Int32)), (.int (0 : Int32)), (.int (0 : Int32)), (.int (0 : Int32)), (.int (0 : Int32))] (.int (0 : Int32))) := by
  refine Ctr.of (by decide +kernel) hn0 ?_
  intro p e s m below meth c T0 C hnm hret hlk X0
  rw [ef12 m sb (8 : Int32) sr]
  refine OGo.aloadN (pc' := 1) C X0 d12_0 rfl rfl rfl ?_
  refine OGo.aloadN (pc' := 2) C X0 d12_1 rfl rfl rfl ?_
  refine OGo.callPriv2 (pc' := 5) (cells' := 0) (slots' := 0) (argsL := [(.ref sr)]) (St := []) C X0 (wd85 hw) (wd86 hw) (wd87 hw) (wd78 hw) rfl (by decide) Es (wd89 hw) (wd41 hw) (ctIfn2 hw X0.2.1 sb tb sr ru kt kr  cz Es Fv Fc Fn Vt gs gt nst Er Rv Rc Vr nrt OD S2 hcz) (lenOf pd6 rfl) rfl d12_2 rfl rfl (by decide) (Nat.le_of_ble_eq_true rfl) rfl rfl (by decide) (by decide) (fun v1 T1 h1 Q1 X1 z1 => ?_)
  obtain ⟨hv1, hh1⟩ := Q1
  subst hv1; rw [hh1] at X1
  show OGo p e below _ T1 (mkF m 5 #[.val (.ref sb), .val (.int (8 : Int32)), .val (.ref sr)] [])
  refine OGo.aloadN (pc' := 6) C X1 d12_5 rfl rfl rfl ?_
  refine OGo.aloadN (pc' := 7) C X1 d12_6 rfl rfl rfl ?_
  refine OGo.getfield (pc' := 10) C X1 (host := "") (Or.inl (wd45 hw)) Via.refl Fv d12_7 rfl (fun T2 X2 => ?_)
  refine OGo.iloadN (pc' := 11) C X2 d12_10 rfl rfl ?_
  refine OGo.aloadN (pc' := 12) C X2 d12_11 rfl rfl rfl ?_
  refine OGo.getfield (pc' := 15) C X2 (host := "") (Or.inl (wd47 hw)) Via.refl Fc d12_12 rfl (fun T3 X3 => ?_)
  refine OGo.callV (pc' := 18) (cells' := 0) (slots' := 0) (argsL := [(.ref tb), (.int (8 : Int32)), (.int (0 : Int32))]) (St := []) C X3 (wd91 hw) (wd92 hw) (wd94 hw) (wd93 hw) (by decide) Er (wd95 hw) (wd6 hw) (ctGb2 hw X3.2.1 sb tb sr ru kt kr  cz Es Fv Fc Fn Vt gs gt nst Er Rv Rc Vr nrt OD S2 hcz) (lenOf pd7 rfl) rfl d12_15 rfl rfl (by decide) (Nat.le_of_ble_eq_true rfl) rfl rfl (by decide) (by decide) (fun v4 T4 h4 Q4 X4 z4 => ?_)
  obtain ⟨hv4, K4, Vt4⟩ := Q4
  subst hv4
  have K5 : Keep h0 h4 [tb] := (Keep.refl h0 [tb]).trans K4 (allS (Or.inl (List.mem_of_getElem? (i := 0) rfl)) all0)
  show OGo p e below _ T4 (mkF m 18 #[.val (.ref sb), .val (.int (8 : Int32)), .val (.ref sr)] [])
  exact OGo.ret C X4 d12_18 hret hlk (⟨rfl, K5, Vt4⟩) (by decide) (by decide)
set_option maxRecDepth 65536 in
set_option maxHeartbeats 40000000 in
theorem ctAap2 {l : Launch} {Z : State} {a0 : Array Value} (hw : HW a0 Z) {n0 : Nat} {h0 : Heap} (hn0 : n0 ≤ h0.size) (sb tb sr ru : Addr) (kt kr : ClassId) (cz : Int32) (Es : Exa Z h0 sb "java/lang/StringBuilder") (Fv : Fld Z h0 sb "java/lang/AbstractStringBuilder" "value" "[B" (.ref tb)) (Fc : Fld Z h0 sb "java/lang/AbstractStringBuilder" "coder" "B" (.int (0 : Int32))) (Fn : Fld Z h0 sb "java/lang/AbstractStringBuilder" "count" "I" (.int (8 : Int32))) (Vt : Arv Z h0 tb kt .byte (16 : Int32) [(.int (86 : Int32)), (.int (77 : Int32)), (.int (32 : Int32)), (.int (116 : Int32)), (.int (121 : Int32)), (.int (112 : Int32)), (.int (101 : Int32)), (.int (32 : Int32)), (.int (0 : Int32)), (.int (0 : Int32)), (.int (0 : Int32)), (.int (0 : Int32)), (.int (0 : Int32)), (.int (0 : Int32)), (.int (0 : Int32)), (.int (0 : Int32))] (.int (0 : Int32))) (gs : n0 ≤ sb) (gt : n0 ≤ tb) (nst : sb ≠ tb) (Er : Exa Z h0 sr "java/lang/String") (Rv : Fld Z h0 sr "java/lang/String" "value" "[B" (.ref ru)) (Rc : Fld Z h0 sr "java/lang/String" "coder" "B" (.int (0 : Int32))) (Vr : Arv Z h0 ru kr .byte (1 : Int32) [(.int (116 : Int32))] (.int (0 : Int32))) (nrt : ru ≠ tb) (OD : Old Z n0 h0) (S2 : Sta Z Z.heap "java/lang/String" "COMPACT_STRINGS" "Z" (.int cz)) (hcz : ¬ cz = 0) :
    Ctr l Z (⟨"java/lang/AbstractStringBuilder", "append", "(Ljava/lang/String;)Ljava/lang/AbstractStringBuilder;"⟩ : MethodName) jdk_68_method_22_code 3 (some (.object "java/lang/AbstractStringBuilder")) ({ frames := 3, cells := 0, slots := 0, locals := 56 } : Room) n0 #[(.ref sb), (.ref sr)] h0 (fun v h => v = some (.ref sb) ∧ Keep h0 h [sb, tb] ∧ Exa Z h sb "java/lang/StringBuilder" ∧ Fld Z h sb "java/lang/AbstractStringBuilder" "value" "[B" (.ref tb) ∧ Fld Z h sb "java/lang/AbstractStringBuilder" "coder" "B" (.int (0 : Int32)) ∧ Fld Z h sb "java/lang/AbstractStringBuilder" "count" "I" (.int (9 : Int32)) ∧ Arv Z h tb kt .byte (16 : Int32) [(.int (86 : Int32)), (.int (77 : Int32)), (.int (32 : Int32)), (.int (116 : Int32)), (.int (121 : Int32)), (.int (112 : Int32)), (.int (101 : Int32)), (.int (32 : Int32)), (.int (116 : Int32)), (.int (0 : Int32)), (.int (0 : Int32)), (.int (0 : Int32)), (.int (0 : Int32)), (.int (0 : Int32)), (.int (0 : Int32)), (.int (0 : Int32))] (.int (0 : Int32))) := by
  refine Ctr.of (by decide +kernel) hn0 ?_
  intro p e s m below meth c T0 C hnm hret hlk X0
  rw [ef8 m sb sr]
  refine OGo.aloadN (pc' := 1) C X0 d8_0 rfl rfl rfl ?_
  refine OGo.ifnonnullYes (pc' := 9) C X0 d8_1 (by decide) (by decide) ?_
  refine OGo.aloadN (pc' := 10) C X0 d8_9 rfl rfl rfl ?_
  refine OGo.callV (pc' := 13) (cells' := 0) (slots' := 0) (argsL := []) (St := []) C X0 (wd60 hw) (wd61 hw) (wd63 hw) (wd62 hw) (by decide) Er (wd64 hw) (wd6 hw) (ctLen1 hw X0.2.1 sr ru kr _ cz Er Rv Rc Vr OD S2 hcz) (lenOf pd8 rfl) rfl d8_10 rfl rfl (by decide) (Nat.le_of_ble_eq_true rfl) rfl rfl (by decide) (by decide) (fun v1 T1 h1 Q1 X1 z1 => ?_)
  obtain ⟨hv1, hh1⟩ := Q1
  subst hv1; rw [hh1] at X1
  show OGo p e below _ T1 (mkF m 13 #[.val (.ref sb), .val (.ref sr), .unset] [(.int (1 : Int32))])
  refine OGo.istoreN (pc' := 14) C X1 d8_13 rfl (l' := #[.val (.ref sb), .val (.ref sr), .val (.int (1 : Int32))]) rfl ?_
  refine OGo.aloadN (pc' := 15) C X1 d8_14 rfl rfl rfl ?_
  refine OGo.aloadN (pc' := 16) C X1 d8_15 rfl rfl rfl ?_
  refine OGo.getfield (pc' := 19) C X1 (host := "") (Or.inl (wd73 hw)) Via.refl Fn d8_16 rfl (fun T2 X2 => ?_)
  refine OGo.iloadN (pc' := 20) C X2 d8_19 rfl rfl ?_
  refine OGo.iadd (pc' := 21) (z := (9 : Int32)) C X2 d8_20 rfl (by decide) ?_
  refine OGo.callPriv2 (pc' := 24) (cells' := 0) (slots' := 0) (argsL := [(.int (9 : Int32))]) (St := []) C X2 (wd75 hw) (wd76 hw) (wd77 hw) (wd78 hw) rfl (by decide) Es (wd79 hw) (wd41 hw) (ctEns2 hw X2.2.1 sb tb sr ru kt kr  cz Es Fv Fc Fn Vt gs gt nst Er Rv Rc Vr nrt OD S2 hcz) (lenOf pd3 rfl) rfl d8_21 rfl rfl (by decide) (Nat.le_of_ble_eq_true rfl) rfl rfl (by decide) (by decide) (fun v3 T3 h3 Q3 X3 z3 => ?_)
  obtain ⟨hv3, hh3⟩ := Q3
  subst hv3; rw [hh3] at X3
  show OGo p e below _ T3 (mkF m 24 #[.val (.ref sb), .val (.ref sr), .val (.int (1 : Int32))] [])
  refine OGo.aloadN (pc' := 25) C X3 d8_24 rfl rfl rfl ?_
  refine OGo.aloadN (pc' := 26) C X3 d8_25 rfl rfl rfl ?_
  refine OGo.getfield (pc' := 29) C X3 (host := "") (Or.inl (wd73 hw)) Via.refl Fn d8_26 rfl (fun T4 X4 => ?_)
  refine OGo.aloadN (pc' := 30) C X4 d8_29 rfl rfl rfl ?_
  refine OGo.callPriv2 (pc' := 33) (cells' := 0) (slots' := 0) (argsL := [(.int (8 : Int32)), (.ref sr)]) (St := []) C X4 (wd80 hw) (wd81 hw) (wd82 hw) (wd78 hw) rfl (by decide) Es (wd84 hw) (wd41 hw) (ctPut2 hw X4.2.1 sb tb sr ru kt kr  cz Es Fv Fc Fn Vt gs gt nst Er Rv Rc Vr nrt OD S2 hcz) (lenOf pd9 rfl) rfl d8_30 rfl rfl (by decide) (Nat.le_of_ble_eq_true rfl) rfl rfl (by decide) (by decide) (fun v5 T5 h5 Q5 X5 z5 => ?_)
  obtain ⟨hv5, K5, Vt5⟩ := Q5
  subst hv5
  have K6 : Keep h0 h5 [sb, tb] := (Keep.refl h0 [sb, tb]).trans K5 (allS (Or.inl (List.mem_of_getElem? (i := 1) rfl)) all0)
  show OGo p e below _ T5 (mkF m 33 #[.val (.ref sb), .val (.ref sr), .val (.int (1 : Int32))] [])
  refine OGo.aloadN (pc' := 34) C X5 d8_33 rfl rfl rfl ?_
  refine OGo.dup (pc' := 35) C X5 d8_34 rfl rfl ?_
  have f7 := (Fn.keep K5 (ninS nst nin0))
  refine OGo.getfield (pc' := 38) C X5 (host := "") (Or.inl (wd73 hw)) Via.refl f7 d8_35 rfl (fun T8 X8 => ?_)
  refine OGo.iloadN (pc' := 39) C X8 d8_38 rfl rfl ?_
  refine OGo.iadd (pc' := 40) (z := (9 : Int32)) C X8 d8_39 rfl (by decide) ?_
  have f9 := (Es.keep K5)
  refine OGo.putfield (pc' := 43) C X8 (host := "") (Or.inl (wd73 hw)) Via.refl f7 f9 gs (Or.inl (wd74 hw)) (wd32 hw) (ty := .int) (by decide) rfl rfl d8_40 rfl (fun T10 h10 X10 W10 F10 => ?_)
  have K11 : Keep h0 h10 [sb, tb] := K6.wr W10 (Or.inl (List.mem_of_getElem? (i := 0) rfl))
  refine OGo.aloadN (pc' := 44) C X10 d8_43 rfl rfl rfl ?_
  have f12 := (f9.wr W10)
  have f13 := ((Fv.keep K5 (ninS nst nin0)).other W10 (Or.inr (slot_ne (Or.inl (wd46 hw)) (Or.inl (wd74 hw)) (by decide) (t := (.array .byte)) (t' := .int) (by decide) (by decide))))
  have f14 := ((Fc.keep K5 (ninS nst nin0)).other W10 (Or.inr (slot_ne (Or.inl (wd48 hw)) (Or.inl (wd74 hw)) (by decide) (t := .byte) (t' := .int) (by decide) (by decide))))
  have f15 := (Vt5.other W10 (Ne.symm nst))
  exact OGo.retA C X10 d8_44 hret rfl rfl hlk (⟨rfl, K11, f12, f13, f14, F10, f15⟩) (by decide) (by decide)
set_option maxRecDepth 65536 in
set_option maxHeartbeats 40000000 in
theorem ctApp2 {l : Launch} {Z : State} {a0 : Array Value} (hw : HW a0 Z) {n0 : Nat} {h0 : Heap} (hn0 : n0 ≤ h0.size) (sb tb sr ru : Addr) (kt kr : ClassId) (cz : Int32) (Es : Exa Z h0 sb "java/lang/StringBuilder") (Fv : Fld Z h0 sb "java/lang/AbstractStringBuilder" "value" "[B" (.ref tb)) (Fc : Fld Z h0 sb "java/lang/AbstractStringBuilder" "coder" "B" (.int (0 : Int32))) (Fn : Fld Z h0 sb "java/lang/AbstractStringBuilder" "count" "I" (.int (8 : Int32))) (Vt : Arv Z h0 tb kt .byte (16 : Int32) [(.int (86 : Int32)), (.int (77 : Int32)), (.int (32 : Int32)), (.int (116 : Int32)), (.int (121 : Int32)), (.int (112 : Int32)), (.int (101 : Int32)), (.int (32 : Int32)), (.int (0 : Int32)), (.int (0 : Int32)), (.int (0 : Int32)), (.int (0 : Int32)), (.int (0 : Int32)), (.int (0 : Int32)), (.int (0 : Int32)), (.int (0 : Int32))] (.int (0 : Int32))) (gs : n0 ≤ sb) (gt : n0 ≤ tb) (nst : sb ≠ tb) (Er : Exa Z h0 sr "java/lang/String") (Rv : Fld Z h0 sr "java/lang/String" "value" "[B" (.ref ru)) (Rc : Fld Z h0 sr "java/lang/String" "coder" "B" (.int (0 : Int32))) (Vr : Arv Z h0 ru kr .byte (1 : Int32) [(.int (116 : Int32))] (.int (0 : Int32))) (nrt : ru ≠ tb) (OD : Old Z n0 h0) (S2 : Sta Z Z.heap "java/lang/String" "COMPACT_STRINGS" "Z" (.int cz)) (hcz : ¬ cz = 0) :
    Ctr l Z (⟨"java/lang/StringBuilder", "append", "(Ljava/lang/String;)Ljava/lang/StringBuilder;"⟩ : MethodName) jdk_67_method_7_code 2 (some (.object "java/lang/StringBuilder")) ({ frames := 4, cells := 0, slots := 0, locals := 72 } : Room) n0 #[(.ref sb), (.ref sr)] h0 (fun v h => v = some (.ref sb) ∧ Keep h0 h [sb, tb] ∧ Exa Z h sb "java/lang/StringBuilder" ∧ Fld Z h sb "java/lang/AbstractStringBuilder" "value" "[B" (.ref tb) ∧ Fld Z h sb "java/lang/AbstractStringBuilder" "coder" "B" (.int (0 : Int32)) ∧ Fld Z h sb "java/lang/AbstractStringBuilder" "count" "I" (.int (9 : Int32)) ∧ Arv Z h tb kt .byte (16 : Int32) [(.int (86 : Int32)), (.int (77 : Int32)), (.int (32 : Int32)), (.int (116 : Int32)), (.int (121 : Int32)), (.int (112 : Int32)), (.int (101 : Int32)), (.int (32 : Int32)), (.int (116 : Int32)), (.int (0 : Int32)), (.int (0 : Int32)), (.int (0 : Int32)), (.int (0 : Int32)), (.int (0 : Int32)), (.int (0 : Int32)), (.int (0 : Int32))] (.int (0 : Int32))) := by
  refine Ctr.of (by decide +kernel) hn0 ?_
  intro p e s m below meth c T0 C hnm hret hlk X0
  rw [ef7 m sb sr]
  refine OGo.aloadN (pc' := 1) C X0 d7_0 rfl rfl rfl ?_
  refine OGo.aloadN (pc' := 2) C X0 d7_1 rfl rfl rfl ?_
  refine OGo.callSuper (pc' := 5) (cells' := 0) (slots' := 0) (argsL := [(.ref sr)]) (St := []) C X0 (wd55 hw) (wd56 hw) (wd78 hw) rfl (wd57 hw) (by decide) (by decide) (Ins.self Es) (wd59 hw) (wd41 hw) (ctAap2 hw X0.2.1 sb tb sr ru kt kr  cz Es Fv Fc Fn Vt gs gt nst Er Rv Rc Vr nrt OD S2 hcz) (lenOf pd10 rfl) rfl d7_2 rfl rfl (by decide) (Nat.le_of_ble_eq_true rfl) rfl rfl (by decide) (by decide) (fun v1 T1 h1 Q1 X1 z1 => ?_)
  obtain ⟨hv1, K1, Es1, Fv1, Fc1, Fn1, Vt1⟩ := Q1
  subst hv1
  have K2 : Keep h0 h1 [sb, tb] := (Keep.refl h0 [sb, tb]).trans K1 (allS (Or.inl (List.mem_of_getElem? (i := 0) rfl)) (allS (Or.inl (List.mem_of_getElem? (i := 1) rfl)) all0))
  show OGo p e below _ T1 (mkF m 5 #[.val (.ref sb), .val (.ref sr)] [(.ref sb)])
  refine OGo.pop (pc' := 6) C X1 d7_5 rfl rfl ?_
  refine OGo.aloadN (pc' := 7) C X1 d7_6 rfl rfl rfl ?_
  exact OGo.retA C X1 d7_7 hret rfl rfl hlk (⟨rfl, K2, Es1, Fv1, Fc1, Fn1, Vt1⟩) (by decide) (by decide)
theorem ef18 (m : MethodId) (x0 : Addr) : entryFrame m #[(.ref x0)] 1 = mkF m 0 #[.val (.ref x0)] [] := by first | (simp [entryFrame, mkF, argsToLocals, Value.category]; done) | rfl
set_option maxRecDepth 65536 in
set_option maxHeartbeats 40000000 in
theorem ctGv3 {l : Launch} {Z : State} {a0 : Array Value} (hw : HW a0 Z) {n0 : Nat} {h0 : Heap} (hn0 : n0 ≤ h0.size) (sb tb : Addr) (kt : ClassId) (cz : Int32) (Es : Exa Z h0 sb "java/lang/StringBuilder") (Fv : Fld Z h0 sb "java/lang/AbstractStringBuilder" "value" "[B" (.ref tb)) (Fc : Fld Z h0 sb "java/lang/AbstractStringBuilder" "coder" "B" (.int (0 : Int32))) (Fn : Fld Z h0 sb "java/lang/AbstractStringBuilder" "count" "I" (.int (9 : Int32))) (Vt : Arv Z h0 tb kt .byte (16 : Int32) [(.int (86 : Int32)), (.int (77 : Int32)), (.int (32 : Int32)), (.int (116 : Int32)), (.int (121 : Int32)), (.int (112 : Int32)), (.int (101 : Int32)), (.int (32 : Int32)), (.int (116 : Int32)), (.int (0 : Int32)), (.int (0 : Int32)), (.int (0 : Int32)), (.int (0 : Int32)), (.int (0 : Int32)), (.int (0 : Int32)), (.int (0 : Int32))] (.int (0 : Int32))) (OD : Old Z n0 h0) (S2 : Sta Z Z.heap "java/lang/String" "COMPACT_STRINGS" "Z" (.int cz)) (hcz : ¬ cz = 0) :
    Ctr l Z (⟨"java/lang/AbstractStringBuilder", "getValue", "()[B"⟩ : MethodName) jdk_68_method_64_code 1 (some (.array .byte)) ({ frames := 0, cells := 0, slots := 0, locals := 0 } : Room) n0 #[(.ref sb)] h0 (fun v h => v = some (.ref tb) ∧ h = h0) := by
  refine Ctr.of (by decide +kernel) hn0 ?_
  intro p e s m below meth c T0 C hnm hret hlk X0
  rw [ef18 m sb]
  refine OGo.aloadN (pc' := 1) C X0 d18_0 rfl rfl rfl ?_
  refine OGo.getfield (pc' := 4) C X0 (host := "") (Or.inl (wd45 hw)) Via.refl Fv d18_1 rfl (fun T1 X1 => ?_)
  exact OGo.retA C X1 d18_4 hret rfl rfl hlk (⟨rfl, rfl⟩) (by decide) (by decide)
theorem ef20 (m : MethodId) (x0 : Addr) : entryFrame m #[(.ref x0)] 1 = mkF m 0 #[.val (.ref x0)] [] := by first | (simp [entryFrame, mkF, argsToLocals, Value.category]; done) | rfl
set_option maxRecDepth 65536 in
set_option maxHeartbeats 40000000 in
theorem ctAl3 {l : Launch} {Z : State} {a0 : Array Value} (hw : HW a0 Z) {n0 : Nat} {h0 : Heap} (hn0 : n0 ≤ h0.size) (sb tb : Addr) (kt : ClassId) (cz : Int32) (Es : Exa Z h0 sb "java/lang/StringBuilder") (Fv : Fld Z h0 sb "java/lang/AbstractStringBuilder" "value" "[B" (.ref tb)) (Fc : Fld Z h0 sb "java/lang/AbstractStringBuilder" "coder" "B" (.int (0 : Int32))) (Fn : Fld Z h0 sb "java/lang/AbstractStringBuilder" "count" "I" (.int (9 : Int32))) (Vt : Arv Z h0 tb kt .byte (16 : Int32) [(.int (86 : Int32)), (.int (77 : Int32)), (.int (32 : Int32)), (.int (116 : Int32)), (.int (121 : Int32)), (.int (112 : Int32)), (.int (101 : Int32)), (.int (32 : Int32)), (.int (116 : Int32)), (.int (0 : Int32)), (.int (0 : Int32)), (.int (0 : Int32)), (.int (0 : Int32)), (.int (0 : Int32)), (.int (0 : Int32)), (.int (0 : Int32))] (.int (0 : Int32))) (OD : Old Z n0 h0) (S2 : Sta Z Z.heap "java/lang/String" "COMPACT_STRINGS" "Z" (.int cz)) (hcz : ¬ cz = 0) :
    Ctr l Z (⟨"java/lang/AbstractStringBuilder", "length", "()I"⟩ : MethodName) jdk_68_method_6_code 1 (some .int) ({ frames := 0, cells := 0, slots := 0, locals := 0 } : Room) n0 #[(.ref sb)] h0 (fun v h => v = some (.int (9 : Int32)) ∧ h = h0) := by
  refine Ctr.of (by decide +kernel) hn0 ?_
  intro p e s m below meth c T0 C hnm hret hlk X0
  rw [ef20 m sb]
  refine OGo.aloadN (pc' := 1) C X0 d20_0 rfl rfl rfl ?_
  refine OGo.getfield (pc' := 4) C X0 (host := "") (Or.inl (wd73 hw)) Via.refl Fn d20_1 rfl (fun T1 X1 => ?_)
  exact OGo.retInt C X1 d20_4 hret hlk (⟨rfl, rfl⟩) (by decide) (by decide)
theorem ef19 (m : MethodId) (x0 : Addr) : entryFrame m #[(.ref x0)] 1 = mkF m 0 #[.val (.ref x0)] [] := by first | (simp [entryFrame, mkF, argsToLocals, Value.category]; done) | rfl
set_option maxRecDepth 65536 in
set_option maxHeartbeats 40000000 in
theorem ctBl3 {l : Launch} {Z : State} {a0 : Array Value} (hw : HW a0 Z) {n0 : Nat} {h0 : Heap} (hn0 : n0 ≤ h0.size) (sb tb : Addr) (kt : ClassId) (cz : Int32) (Es : Exa Z h0 sb "java/lang/StringBuilder") (Fv : Fld Z h0 sb "java/lang/AbstractStringBuilder" "value" "[B" (.ref tb)) (Fc : Fld Z h0 sb "java/lang/AbstractStringBuilder" "coder" "B" (.int (0 : Int32))) (Fn : Fld Z h0 sb "java/lang/AbstractStringBuilder" "count" "I" (.int (9 : Int32))) (Vt : Arv Z h0 tb kt .byte (16 : Int32) [(.int (86 : Int32)), (.int (77 : Int32)), (.int (32 : Int32)), (.int (116 : Int32)), (.int (121 : Int32)), (.int (112 : Int32)), (.int (101 : Int32)), (.int (32 : Int32)), (.int (116 : Int32)), (.int (0 : Int32)), (.int (0 : Int32)), (.int (0 : Int32)), (.int (0 : Int32)), (.int (0 : Int32)), (.int (0 : Int32)), (.int (0 : Int32))] (.int (0 : Int32))) (OD : Old Z n0 h0) (S2 : Sta Z Z.heap "java/lang/String" "COMPACT_STRINGS" "Z" (.int cz)) (hcz : ¬ cz = 0) :
    Ctr l Z (⟨"java/lang/StringBuilder", "length", "()I"⟩ : MethodName) jdk_67_method_93_code 1 (some .int) ({ frames := 1, cells := 0, slots := 0, locals := 12 } : Room) n0 #[(.ref sb)] h0 (fun v h => v = some (.int (9 : Int32)) ∧ h = h0) := by
  refine Ctr.of (by decide +kernel) hn0 ?_
  intro p e s m below meth c T0 C hnm hret hlk X0
  rw [ef19 m sb]
  refine OGo.aloadN (pc' := 1) C X0 d19_0 rfl rfl rfl ?_
  refine OGo.callSuper (pc' := 4) (cells' := 0) (slots' := 0) (argsL := []) (St := []) C X0 (wd124 hw) (wd120 hw) (wd78 hw) rfl (wd57 hw) (by decide) (by decide) (Ins.self Es) (wd125 hw) (wd41 hw) (ctAl3 hw X0.2.1 sb tb kt  cz Es Fv Fc Fn Vt OD S2 hcz) (lenOf pd8 rfl) rfl d19_1 rfl rfl (by decide) (Nat.le_of_ble_eq_true rfl) rfl rfl (by decide) (by decide) (fun v1 T1 h1 Q1 X1 z1 => ?_)
  obtain ⟨hv1, hh1⟩ := Q1
  subst hv1; rw [hh1] at X1
  show OGo p e below _ T1 (mkF m 4 #[.val (.ref sb)] [(.int (9 : Int32))])
  exact OGo.retInt C X1 d19_4 hret hlk (⟨rfl, rfl⟩) (by decide) (by decide)
theorem ef21 (m : MethodId) (x0 : Addr) : entryFrame m #[(.ref x0)] 1 = mkF m 0 #[.val (.ref x0)] [] := by first | (simp [entryFrame, mkF, argsToLocals, Value.category]; done) | rfl
set_option maxRecDepth 65536 in
set_option maxHeartbeats 40000000 in
theorem ctIl3 {l : Launch} {Z : State} {a0 : Array Value} (hw : HW a0 Z) {n0 : Nat} {h0 : Heap} (hn0 : n0 ≤ h0.size) (sb tb : Addr) (kt : ClassId) (cz : Int32) (Es : Exa Z h0 sb "java/lang/StringBuilder") (Fv : Fld Z h0 sb "java/lang/AbstractStringBuilder" "value" "[B" (.ref tb)) (Fc : Fld Z h0 sb "java/lang/AbstractStringBuilder" "coder" "B" (.int (0 : Int32))) (Fn : Fld Z h0 sb "java/lang/AbstractStringBuilder" "count" "I" (.int (9 : Int32))) (Vt : Arv Z h0 tb kt .byte (16 : Int32) [(.int (86 : Int32)), (.int (77 : Int32)), (.int (32 : Int32)), (.int (116 : Int32)), (.int (121 : Int32)), (.int (112 : Int32)), (.int (101 : Int32)), (.int (32 : Int32)), (.int (116 : Int32)), (.int (0 : Int32)), (.int (0 : Int32)), (.int (0 : Int32)), (.int (0 : Int32)), (.int (0 : Int32)), (.int (0 : Int32)), (.int (0 : Int32))] (.int (0 : Int32))) (OD : Old Z n0 h0) (S2 : Sta Z Z.heap "java/lang/String" "COMPACT_STRINGS" "Z" (.int cz)) (hcz : ¬ cz = 0) :
    Ctr l Z (⟨"java/lang/AbstractStringBuilder", "isLatin1", "()Z"⟩ : MethodName) jdk_68_method_68_code 1 (some .boolean) ({ frames := 0, cells := 0, slots := 0, locals := 0 } : Room) n0 #[(.ref sb)] h0 (fun v h => v = some (.int (1 : Int32)) ∧ h = h0) := by
  refine Ctr.of (by decide +kernel) hn0 ?_
  intro p e s m below meth c T0 C hnm hret hlk X0
  rw [ef21 m sb]
  refine OGo.getstatic (pc' := 3) C X0 (host := "") (Or.inl (wd44 hw)) Via.refl (S2.ext OD.2) d21_0 rfl (fun T1 X1 => ?_)
  refine OGo.ifNo (pc' := 6) C X1 d21_3 rfl (feq hcz).1 ?_
  refine OGo.aloadN (pc' := 7) C X1 d21_6 rfl rfl rfl ?_
  refine OGo.getfield (pc' := 10) C X1 (host := "") (Or.inl (wd47 hw)) Via.refl Fc d21_7 rfl (fun T2 X2 => ?_)
  refine OGo.ifNo (pc' := 13) C X2 d21_10 rfl (teq (by decide : (0 : Int32) = (0 : Int32))).2 ?_
  refine OGo.iconst (pc' := 14) (z := (1 : Int32)) C X2 d21_13 rfl (by decide) ?_
  refine OGo.goto (pc' := 18) C X2 d21_14 (by decide) (by decide) ?_
  exact OGo.retN C X2 d21_18 hret (by simp) (z' := (1 : Int32)) (by decide) hlk (⟨rfl, rfl⟩) (by decide) (by decide)
theorem ef24 (m : MethodId) (x0 : Int32) (x1 : Int32) : entryFrame m #[(.int x0), (.int x1)] 2 = mkF m 0 #[.val (.int x0), .val (.int x1)] [] := by first | (simp [entryFrame, mkF, argsToLocals, Value.category]; done) | rfl
set_option maxRecDepth 65536 in
set_option maxHeartbeats 40000000 in
theorem ctCk3 {l : Launch} {Z : State} {a0 : Array Value} (hw : HW a0 Z) {n0 : Nat} {h0 : Heap} (hn0 : n0 ≤ h0.size)   :
    Ctr l Z (⟨"java/util/Arrays", "checkLength", "(II)V"⟩ : MethodName) jdk_65_method_131_code 2 none ({ frames := 0, cells := 0, slots := 0, locals := 0 } : Room) n0 #[(.int (0 : Int32)), (.int (9 : Int32))] h0 (fun v h => v = none ∧ h = h0) := by
  refine Ctr.of (plainFor_of_name pn3) hn0 ?_
  intro p e s m below meth c T0 C hnm hret hlk X0
  rw [ef24 m (0 : Int32) (9 : Int32)]
  refine OGo.iloadN (pc' := 1) C X0 d24_0 rfl rfl ?_
  refine OGo.iloadN (pc' := 2) C X0 d24_1 rfl rfl ?_
  refine OGo.icmpYes (pc' := 37) C X0 d24_2 (flt (by decide : ¬ (9 : Int32) < (0 : Int32))).2.1 (by decide) (by decide) ?_
  exact OGo.ret C X0 d24_37 hret hlk (⟨rfl, rfl⟩) (by decide) (by decide)
theorem ef25 (m : MethodId) (x0 : Int32) (x1 : Int32) : entryFrame m #[(.int x0), (.int x1)] 2 = mkF m 0 #[.val (.int x0), .val (.int x1)] [] := by first | (simp [entryFrame, mkF, argsToLocals, Value.category]; done) | rfl
set_option maxRecDepth 65536 in
set_option maxHeartbeats 40000000 in
theorem ctMn3 {l : Launch} {Z : State} {a0 : Array Value} (hw : HW a0 Z) {n0 : Nat} {h0 : Heap} (hn0 : n0 ≤ h0.size)   :
    Ctr l Z (⟨"java/lang/Math", "min", "(II)I"⟩ : MethodName) jdk_29_method_69_code 2 (some .int) ({ frames := 0, cells := 0, slots := 0, locals := 0 } : Room) n0 #[(.int (16 : Int32)), (.int (9 : Int32))] h0 (fun v h => v = some (.int (9 : Int32)) ∧ h = h0) := by
  refine Ctr.of (Jvm.Free.JP.mathPlain rfl (by decide +kernel)) hn0 ?_
  intro p e s m below meth c T0 C hnm hret hlk X0
  rw [ef25 m (16 : Int32) (9 : Int32)]
  refine OGo.iloadN (pc' := 1) C X0 d25_0 rfl rfl ?_
  refine OGo.iloadN (pc' := 2) C X0 d25_1 rfl rfl ?_
  refine OGo.icmpYes (pc' := 9) C X0 d25_2 (tlt (by decide : (9 : Int32) < (16 : Int32))).2.2.1 (by decide) (by decide) ?_
  refine OGo.iloadN (pc' := 10) C X0 d25_9 rfl rfl ?_
  exact OGo.retInt C X0 d25_10 hret hlk (⟨rfl, rfl⟩) (by decide) (by decide)
theorem ef23 (m : MethodId) (x0 : Addr) (x1 : Int32) (x2 : Int32) : entryFrame m #[(.ref x0), (.int x1), (.int x2)] 5 = mkF m 0 #[.val (.ref x0), .val (.int x1), .val (.int x2), .unset, .unset] [] := by first | (simp [entryFrame, mkF, argsToLocals, Value.category]; done) | rfl
set_option maxRecDepth 65536 in
set_option maxHeartbeats 40000000 in
theorem ctCb3 {l : Launch} {Z : State} {a0 : Array Value} (hw : HW a0 Z) {n0 : Nat} {h0 : Heap} (hn0 : n0 ≤ h0.size) (tb : Addr) (kt : ClassId) (Vt : Arv Z h0 tb kt .byte (16 : Int32) [(.int (86 : Int32)), (.int (77 : Int32)), (.int (32 : Int32)), (.int (116 : Int32)), (.int (121 : Int32)), (.int (112 : Int32)), (.int (101 : Int32)), (.int (32 : Int32)), (.int (116 : Int32)), (.int (0 : Int32)), (.int (0 : Int32)), (.int (0 : Int32)), (.int (0 : Int32)), (.int (0 : Int32)), (.int (0 : Int32)), (.int (0 : Int32))] (.int (0 : Int32))) :
    Ctr l Z (⟨"java/util/Arrays", "copyOfRangeByte", "([BII)[B"⟩ : MethodName) jdk_65_method_133_code 5 (some (.array .byte)) ({ frames := 1, cells := 1, slots := 9, locals := 24 } : Room) n0 #[(.ref tb), (.int (0 : Int32)), (.int (9 : Int32))] h0 (fun v h => ∃ (b : Addr) (kb : ClassId), v = some (.ref b) ∧ Keep h0 h [] ∧ h0.size ≤ b ∧ Arv Z h b kb .byte (9 : Int32) [(.int (86 : Int32)), (.int (77 : Int32)), (.int (32 : Int32)), (.int (116 : Int32)), (.int (121 : Int32)), (.int (112 : Int32)), (.int (101 : Int32)), (.int (32 : Int32)), (.int (116 : Int32))] (.int (0 : Int32))) := by
  refine Ctr.of (plainFor_of_name pn3) hn0 ?_
  intro p e s m below meth c T0 C hnm hret hlk X0
  rw [ef23 m tb (0 : Int32) (9 : Int32)]
  refine OGo.iloadN (pc' := 1) C X0 d23_0 rfl rfl ?_
  refine OGo.iloadN (pc' := 2) C X0 d23_1 rfl rfl ?_
  refine OGo.callS (pc' := 5) (cells' := 0) (slots' := 0) (argsL := [(.int (0 : Int32)), (.int (9 : Int32))]) (St := []) C X0 (wd138 hw) (wd139 hw) (by decide) (wd140 hw) (wd133 hw) (ctCk3 hw X0.2.1) (lenOf pd12 rfl) rfl d23_2 rfl rfl (by decide) (Nat.le_of_ble_eq_true rfl) rfl rfl (by decide) (by decide) (fun v1 T1 h1 Q1 X1 z1 => ?_)
  obtain ⟨hv1, hh1⟩ := Q1
  subst hv1; rw [hh1] at X1
  show OGo p e below _ T1 (mkF m 5 #[.val (.ref tb), .val (.int (0 : Int32)), .val (.int (9 : Int32)), .unset, .unset] [])
  refine OGo.iloadN (pc' := 6) C X1 d23_5 rfl rfl ?_
  refine OGo.iloadN (pc' := 7) C X1 d23_6 rfl rfl ?_
  refine OGo.isub (pc' := 8) (z := (9 : Int32)) C X1 d23_7 rfl (by decide) ?_
  refine OGo.istoreN (pc' := 9) C X1 d23_8 rfl (l' := #[.val (.ref tb), .val (.int (0 : Int32)), .val (.int (9 : Int32)), .val (.int (9 : Int32)), .unset]) rfl ?_
  refine OGo.iloadN (pc' := 10) C X1 d23_9 rfl rfl ?_
  refine OGo.newarray (pc' := 12) (cap := 9) (d0 := (.int (0 : Int32))) (cells' := 1) (slots' := 9) C X1 (wd8 hw) rfl d23_10 rfl (by decide) (by decide) (by decide) rfl rfl rfl (by decide) (by decide) (fun T2 h2 a2 k2 X2 g2 q2 E2 V2 => ?_)
  have ne3 : tb ≠ a2 := Nat.ne_of_lt (Nat.lt_of_lt_of_eq Vt.lt g2.symm)
  have sz4 : h0.size ≤ a2 := Nat.le_trans (Keep.refl h0 []).1 (Nat.le_of_eq g2.symm)
  have K5 : Keep h0 h2 [] := (Keep.refl h0 []).ext E2
  replace V2 : Arv Z h2 a2 k2 .byte (9 : Int32) [(.int (0 : Int32)), (.int (0 : Int32)), (.int (0 : Int32)), (.int (0 : Int32)), (.int (0 : Int32)), (.int (0 : Int32)), (.int (0 : Int32)), (.int (0 : Int32)), (.int (0 : Int32))] (.int (0 : Int32)) := V2.pad (pad_rep [] (.int (0 : Int32)) 9)
  refine OGo.astore (pc' := 14) C X2 d23_12 rfl rfl (l' := #[.val (.ref tb), .val (.int (0 : Int32)), .val (.int (9 : Int32)), .val (.int (9 : Int32)), .val (.ref a2)]) rfl ?_
  refine OGo.aloadN (pc' := 15) C X2 d23_14 rfl rfl rfl ?_
  refine OGo.iloadN (pc' := 16) C X2 d23_15 rfl rfl ?_
  refine OGo.aload (pc' := 18) C X2 d23_16 rfl rfl rfl ?_
  refine OGo.iconst (pc' := 19) (z := (0 : Int32)) C X2 d23_18 rfl (by decide) ?_
  refine OGo.aloadN (pc' := 20) C X2 d23_19 rfl rfl rfl ?_
  have f6 := (Vt.ext E2)
  refine OGo.arraylength (pc' := 21) C X2 f6 d23_20 rfl ?_
  refine OGo.iloadN (pc' := 22) C X2 d23_21 rfl rfl ?_
  refine OGo.isub (pc' := 23) (z := (16 : Int32)) C X2 d23_22 rfl (by decide) ?_
  refine OGo.iloadN (pc' := 24) C X2 d23_23 rfl rfl ?_
  refine OGo.callS (pc' := 27) (cells' := 1) (slots' := 9) (argsL := [(.int (16 : Int32)), (.int (9 : Int32))]) (St := [(.int (0 : Int32)), (.ref a2), (.int (0 : Int32)), (.ref tb)]) C X2 (wd141 hw) (wd142 hw) (by decide) (wd144 hw) (wd143 hw) (ctMn3 hw X2.2.1) (lenOf pd13 rfl) rfl d23_24 rfl rfl (by decide) (Nat.le_of_ble_eq_true rfl) rfl rfl (by decide) (by decide) (fun v7 T7 h7 Q7 X7 z7 => ?_)
  obtain ⟨hv7, hh7⟩ := Q7
  subst hv7; rw [hh7] at X7
  show OGo p e below _ T7 (mkF m 27 #[.val (.ref tb), .val (.int (0 : Int32)), .val (.int (9 : Int32)), .val (.int (9 : Int32)), .val (.ref a2)] [(.int (9 : Int32)), (.int (0 : Int32)), (.ref a2), (.int (0 : Int32)), (.ref tb)])
  refine OGo.acopy (pc' := 30) (us := [(.int (86 : Int32)), (.int (77 : Int32)), (.int (32 : Int32)), (.int (116 : Int32)), (.int (121 : Int32)), (.int (112 : Int32)), (.int (101 : Int32)), (.int (32 : Int32)), (.int (116 : Int32))]) (vr := [(.int (86 : Int32)), (.int (77 : Int32)), (.int (32 : Int32)), (.int (116 : Int32)), (.int (121 : Int32)), (.int (112 : Int32)), (.int (101 : Int32)), (.int (32 : Int32)), (.int (116 : Int32))]) C X7 (wd145 hw) (wd99 hw) (wd97 hw) (wd98 hw) f6 V2 rfl (by decide) (by decide) (by decide) (by decide) (by decide) rfl (Nat.le_of_ble_eq_true rfl) rfl q2 d23_27 rfl rfl (by decide) (Nat.le_of_ble_eq_true rfl) (fun T8 h8 X8 K8 V8 => ?_)
  have K9 : Keep h0 h8 [] := K5.trans K8 (allS (Or.inr sz4) all0)
  refine OGo.aload (pc' := 32) C X8 d23_30 rfl rfl rfl ?_
  exact OGo.retA C X8 d23_32 hret rfl rfl hlk (⟨a2, k2, rfl, K9, sz4, V8⟩) (by decide) (by decide)
theorem ef22 (m : MethodId) (x0 : Addr) (x1 : Int32) (x2 : Int32) : entryFrame m #[(.ref x0), (.int x1), (.int x2)] 3 = mkF m 0 #[.val (.ref x0), .val (.int x1), .val (.int x2)] [] := by first | (simp [entryFrame, mkF, argsToLocals, Value.category]; done) | rfl
set_option maxRecDepth 65536 in
set_option maxHeartbeats 40000000 in
theorem ctCr3 {l : Launch} {Z : State} {a0 : Array Value} (hw : HW a0 Z) {n0 : Nat} {h0 : Heap} (hn0 : n0 ≤ h0.size) (tb : Addr) (kt : ClassId) (Vt : Arv Z h0 tb kt .byte (16 : Int32) [(.int (86 : Int32)), (.int (77 : Int32)), (.int (32 : Int32)), (.int (116 : Int32)), (.int (121 : Int32)), (.int (112 : Int32)), (.int (101 : Int32)), (.int (32 : Int32)), (.int (116 : Int32)), (.int (0 : Int32)), (.int (0 : Int32)), (.int (0 : Int32)), (.int (0 : Int32)), (.int (0 : Int32)), (.int (0 : Int32)), (.int (0 : Int32))] (.int (0 : Int32))) :
    Ctr l Z (⟨"java/util/Arrays", "copyOfRange", "([BII)[B"⟩ : MethodName) jdk_65_method_132_code 3 (some (.array .byte)) ({ frames := 2, cells := 1, slots := 9, locals := 42 } : Room) n0 #[(.ref tb), (.int (0 : Int32)), (.int (9 : Int32))] h0 (fun v h => ∃ (b : Addr) (kb : ClassId), v = some (.ref b) ∧ Keep h0 h [] ∧ h0.size ≤ b ∧ Arv Z h b kb .byte (9 : Int32) [(.int (86 : Int32)), (.int (77 : Int32)), (.int (32 : Int32)), (.int (116 : Int32)), (.int (121 : Int32)), (.int (112 : Int32)), (.int (101 : Int32)), (.int (32 : Int32)), (.int (116 : Int32))] (.int (0 : Int32))) := by
  refine Ctr.of (plainFor_of_name pn3) hn0 ?_
  intro p e s m below meth c T0 C hnm hret hlk X0
  rw [ef22 m tb (0 : Int32) (9 : Int32)]
  refine OGo.iloadN (pc' := 1) C X0 d22_0 rfl rfl ?_
  refine OGo.ifNo (pc' := 4) C X0 d22_1 rfl (teq (by decide : (0 : Int32) = (0 : Int32))).2 ?_
  refine OGo.iloadN (pc' := 5) C X0 d22_4 rfl rfl ?_
  refine OGo.aloadN (pc' := 6) C X0 d22_5 rfl rfl rfl ?_
  refine OGo.arraylength (pc' := 7) C X0 Vt d22_6 rfl ?_
  refine OGo.icmpNo (pc' := 10) C X0 d22_7 rfl (feq (by decide : ¬ (9 : Int32) = (16 : Int32))).1 ?_
  refine OGo.aloadN (pc' := 11) C X0 d22_10 rfl rfl rfl ?_
  refine OGo.iloadN (pc' := 12) C X0 d22_11 rfl rfl ?_
  refine OGo.iloadN (pc' := 13) C X0 d22_12 rfl rfl ?_
  refine OGo.callS (pc' := 16) (cells' := 1) (slots' := 9) (argsL := [(.ref tb), (.int (0 : Int32)), (.int (9 : Int32))]) (St := []) C X0 (wd135 hw) (wd136 hw) (by decide) (wd137 hw) (wd133 hw) (ctCb3 hw X0.2.1 tb kt  Vt) (lenOf pd14 rfl) rfl d22_13 rfl rfl (by decide) (Nat.le_of_ble_eq_true rfl) rfl rfl (by decide) (by decide) (fun v1 T1 h1 Q1 X1 z1 => ?_)
  obtain ⟨b1, k1, hv1, K1, hz1, Vc1⟩ := Q1
  subst hv1
  have K2 : Keep h0 h1 [] := (Keep.refl h0 []).trans K1 all0
  show OGo p e below _ T1 (mkF m 16 #[.val (.ref tb), .val (.int (0 : Int32)), .val (.int (9 : Int32))] [(.ref b1)])
  exact OGo.retA C X1 d22_16 hret rfl rfl hlk (⟨b1, k1, rfl, K2, hz1, Vc1⟩) (by decide) (by decide)
theorem ef17 (m : MethodId) (x0 : Addr) (x1 : Addr) : entryFrame m #[(.ref x0), (.ref x1), .null] 5 = mkF m 0 #[.val (.ref x0), .val (.ref x1), .val .null, .unset, .unset] [] := by first | (simp [entryFrame, mkF, argsToLocals, Value.category]; done) | rfl
set_option maxRecDepth 65536 in
set_option maxHeartbeats 40000000 in
theorem ctSi4_3 {l : Launch} {Z : State} {a0 : Array Value} (hw : HW a0 Z) {n0 : Nat} {h0 : Heap} (hn0 : n0 ≤ h0.size) (sx : Addr) (sb tb : Addr) (kt : ClassId) (cz : Int32) (Ex : Exa Z h0 sx "java/lang/String") (Xv : Fld Z h0 sx "java/lang/String" "value" "[B" .null) (Xc : Fld Z h0 sx "java/lang/String" "coder" "B" (.int (0 : Int32))) (gx : n0 ≤ sx) (Es : Exa Z h0 sb "java/lang/StringBuilder") (Fv : Fld Z h0 sb "java/lang/AbstractStringBuilder" "value" "[B" (.ref tb)) (Fc : Fld Z h0 sb "java/lang/AbstractStringBuilder" "coder" "B" (.int (0 : Int32))) (Fn : Fld Z h0 sb "java/lang/AbstractStringBuilder" "count" "I" (.int (9 : Int32))) (Vt : Arv Z h0 tb kt .byte (16 : Int32) [(.int (86 : Int32)), (.int (77 : Int32)), (.int (32 : Int32)), (.int (116 : Int32)), (.int (121 : Int32)), (.int (112 : Int32)), (.int (101 : Int32)), (.int (32 : Int32)), (.int (116 : Int32)), (.int (0 : Int32)), (.int (0 : Int32)), (.int (0 : Int32)), (.int (0 : Int32)), (.int (0 : Int32)), (.int (0 : Int32)), (.int (0 : Int32))] (.int (0 : Int32))) (OD : Old Z n0 h0) (S2 : Sta Z Z.heap "java/lang/String" "COMPACT_STRINGS" "Z" (.int cz)) (hcz : ¬ cz = 0) :
    Ctr l Z (⟨"java/lang/String", "<init>", "(Ljava/lang/AbstractStringBuilder;Ljava/lang/Void;)V"⟩ : MethodName) jdk_42_method_150_code 5 none ({ frames := 3, cells := 1, slots := 9, locals := 64 } : Room) n0 #[(.ref sx), (.ref sb), .null] h0 (fun v h => ∃ (t : Addr) (kb : ClassId), v = none ∧ Keep h0 h [sx] ∧ Exa Z h sx "java/lang/String" ∧ Fld Z h sx "java/lang/String" "coder" "B" (.int (0 : Int32)) ∧ Fld Z h sx "java/lang/String" "value" "[B" (.ref t) ∧ Arv Z h t kb .byte (9 : Int32) [(.int (86 : Int32)), (.int (77 : Int32)), (.int (32 : Int32)), (.int (116 : Int32)), (.int (121 : Int32)), (.int (112 : Int32)), (.int (101 : Int32)), (.int (32 : Int32)), (.int (116 : Int32))] (.int (0 : Int32))) := by
  refine Ctr.of (by decide +kernel) hn0 ?_
  intro p e s m below meth c T0 C hnm hret hlk X0
  rw [ef17 m sx sb]
  refine OGo.aloadN (pc' := 1) C X0 d17_0 rfl rfl rfl ?_
  refine OGo.initObj (pc' := 4) C X0 (wd112 hw) (wd20 hw) (wd21 hw) d17_1 rfl rfl (by decide) (Nat.le_of_ble_eq_true rfl) (fun T1 X1 => ?_)
  refine OGo.aloadN (pc' := 5) C X1 d17_4 rfl rfl rfl ?_
  refine OGo.callV (pc' := 8) (cells' := 0) (slots' := 0) (argsL := []) (St := []) C X1 (wd113 hw) (wd114 hw) (wd116 hw) (wd115 hw) (by decide) Es (wd117 hw) (wd41 hw) (ctGv3 hw X1.2.1 sb tb kt  cz Es Fv Fc Fn Vt OD S2 hcz) (lenOf pd15 rfl) rfl d17_5 rfl rfl (by decide) (Nat.le_of_ble_eq_true rfl) rfl rfl (by decide) (by decide) (fun v2 T2 h2 Q2 X2 z2 => ?_)
  obtain ⟨hv2, hh2⟩ := Q2
  subst hv2; rw [hh2] at X2
  show OGo p e below _ T2 (mkF m 8 #[.val (.ref sx), .val (.ref sb), .val .null, .unset, .unset] [(.ref tb)])
  refine OGo.astoreN (pc' := 9) C X2 d17_8 rfl rfl (l' := #[.val (.ref sx), .val (.ref sb), .val .null, .val (.ref tb), .unset]) rfl ?_
  refine OGo.aloadN (pc' := 10) C X2 d17_9 rfl rfl rfl ?_
  refine OGo.callV2 (pc' := 13) (cells' := 0) (slots' := 0) (argsL := []) (St := []) C X2 (wd118 hw) (wd119 hw) (notface_of C.2.1 (wd78 hw) rfl) (wd121 hw) (wd122 hw) (by decide) rfl Es (wd123 hw) (wd33 hw) (ctBl3 hw X2.2.1 sb tb kt  cz Es Fv Fc Fn Vt OD S2 hcz) (lenOf pd8 rfl) rfl d17_10 rfl rfl (by decide) (Nat.le_of_ble_eq_true rfl) rfl rfl (by decide) (by decide) (fun v3 T3 h3 Q3 X3 z3 => ?_)
  obtain ⟨hv3, hh3⟩ := Q3
  subst hv3; rw [hh3] at X3
  show OGo p e below _ T3 (mkF m 13 #[.val (.ref sx), .val (.ref sb), .val .null, .val (.ref tb), .unset] [(.int (9 : Int32))])
  refine OGo.istore (pc' := 15) C X3 d17_13 rfl (l' := #[.val (.ref sx), .val (.ref sb), .val .null, .val (.ref tb), .val (.int (9 : Int32))]) rfl ?_
  refine OGo.aloadN (pc' := 16) C X3 d17_15 rfl rfl rfl ?_
  refine OGo.callV (pc' := 19) (cells' := 0) (slots' := 0) (argsL := []) (St := []) C X3 (wd126 hw) (wd127 hw) (wd129 hw) (wd128 hw) (by decide) Es (wd130 hw) (wd41 hw) (ctIl3 hw X3.2.1 sb tb kt  cz Es Fv Fc Fn Vt OD S2 hcz) (lenOf pd16 rfl) rfl d17_16 rfl rfl (by decide) (Nat.le_of_ble_eq_true rfl) rfl rfl (by decide) (by decide) (fun v4 T4 h4 Q4 X4 z4 => ?_)
  obtain ⟨hv4, hh4⟩ := Q4
  subst hv4; rw [hh4] at X4
  show OGo p e below _ T4 (mkF m 19 #[.val (.ref sx), .val (.ref sb), .val .null, .val (.ref tb), .val (.int (9 : Int32))] [(.int (1 : Int32))])
  refine OGo.ifNo (pc' := 22) C X4 d17_19 rfl (feq (by decide : ¬ (1 : Int32) = (0 : Int32))).1 ?_
  refine OGo.aloadN (pc' := 23) C X4 d17_22 rfl rfl rfl ?_
  refine OGo.iconst (pc' := 24) (z := (0 : Int32)) C X4 d17_23 rfl (by decide) ?_
  refine OGo.putfieldN (pc' := 27) C X4 (wd72 hw) Via.refl Xc Ex gx (Or.inr ⟨(wd10 hw), rfl, hnm⟩) (wd7 hw) (ty := .byte) (by decide) (v' := .int (0 : Int32)) rfl (by decide) d17_24 rfl (fun T5 h5 X5 W5 F5 => ?_)
  have K6 : Keep h0 h5 [sx] := (Keep.refl h0 [sx]).wr W5 (Or.inl (List.mem_of_getElem? (i := 0) rfl))
  refine OGo.aloadN (pc' := 28) C X5 d17_27 rfl rfl rfl ?_
  refine OGo.aloadN (pc' := 29) C X5 d17_28 rfl rfl rfl ?_
  refine OGo.iconst (pc' := 30) (z := (0 : Int32)) C X5 d17_29 rfl (by decide) ?_
  refine OGo.iload (pc' := 32) C X5 d17_30 rfl rfl ?_
  have f7 := (Vt.other W5 (Ne.symm (Exa.neArv Ex Vt (wd7 hw))))
  refine OGo.callS (pc' := 35) (cells' := 1) (slots' := 9) (argsL := [(.ref tb), (.int (0 : Int32)), (.int (9 : Int32))]) (St := [(.ref sx)]) C X5 (wd131 hw) (wd132 hw) (by decide) (wd134 hw) (wd133 hw) (ctCr3 hw X5.2.1 tb kt  f7) (lenOf pd14 rfl) rfl d17_32 rfl rfl (by decide) (Nat.le_of_ble_eq_true rfl) rfl rfl (by decide) (by decide) (fun v8 T8 h8 Q8 X8 z8 => ?_)
  obtain ⟨b8, k8, hv8, K8, hz8, Vc8⟩ := Q8
  subst hv8
  have K9 : Keep h0 h8 [sx] := K6.trans K8 all0
  have f10 := ((Ex.wr W5).keep K8)
  have nx8 : sx ≠ b8 := Exa.neArv f10 Vc8 (wd7 hw)
  show OGo p e below _ T8 (mkF m 35 #[.val (.ref sx), .val (.ref sb), .val .null, .val (.ref tb), .val (.int (9 : Int32))] [(.ref b8), (.ref sx)])
  have f11 := ((Xv.other W5 (Or.inr (slot_ne (Or.inr (wd9 hw)) (Or.inr (wd10 hw)) (by decide) (t := (.array .byte)) (t' := .byte) (by decide) (by decide)))).keep K8 nin0)
  refine OGo.putfield (pc' := 38) C X8 (host := "") (Or.inl (wd65 hw)) Via.refl f11 f10 gx (Or.inr ⟨(wd9 hw), rfl, hnm⟩) (wd7 hw) (ty := (.array .byte)) (by decide) rfl rfl d17_35 rfl (fun T12 h12 X12 W12 F12 => ?_)
  have K13 : Keep h0 h12 [sx] := K9.wr W12 (Or.inl (List.mem_of_getElem? (i := 0) rfl))
  refine OGo.goto (pc' := 97) C X12 d17_38 (by decide) (by decide) ?_
  have f14 := (f10.wr W12)
  have f15 := ((F5.keep K8 nin0).other W12 (Or.inr (slot_ne (Or.inr (wd10 hw)) (Or.inr (wd9 hw)) (by decide) (t := .byte) (t' := (.array .byte)) (by decide) (by decide))))
  have f16 := (Vc8.other W12 (Ne.symm nx8))
  exact OGo.ret C X12 d17_97 hret hlk (⟨b8, k8, rfl, K13, f14, f15, F12, f16⟩) (by decide) (by decide)
theorem ef16 (m : MethodId) (x0 : Addr) (x1 : Addr) : entryFrame m #[(.ref x0), (.ref x1)] 2 = mkF m 0 #[.val (.ref x0), .val (.ref x1)] [] := by first | (simp [entryFrame, mkF, argsToLocals, Value.category]; done) | rfl
set_option maxRecDepth 65536 in
set_option maxHeartbeats 40000000 in
theorem ctSi_3 {l : Launch} {Z : State} {a0 : Array Value} (hw : HW a0 Z) {n0 : Nat} {h0 : Heap} (hn0 : n0 ≤ h0.size) (sx : Addr) (sb tb : Addr) (kt : ClassId) (cz : Int32) (Ex : Exa Z h0 sx "java/lang/String") (Xv : Fld Z h0 sx "java/lang/String" "value" "[B" .null) (Xc : Fld Z h0 sx "java/lang/String" "coder" "B" (.int (0 : Int32))) (gx : n0 ≤ sx) (Es : Exa Z h0 sb "java/lang/StringBuilder") (Fv : Fld Z h0 sb "java/lang/AbstractStringBuilder" "value" "[B" (.ref tb)) (Fc : Fld Z h0 sb "java/lang/AbstractStringBuilder" "coder" "B" (.int (0 : Int32))) (Fn : Fld Z h0 sb "java/lang/AbstractStringBuilder" "count" "I" (.int (9 : Int32))) (Vt : Arv Z h0 tb kt .byte (16 : Int32) [(.int (86 : Int32)), (.int (77 : Int32)), (.int (32 : Int32)), (.int (116 : Int32)), (.int (121 : Int32)), (.int (112 : Int32)), (.int (101 : Int32)), (.int (32 : Int32)), (.int (116 : Int32)), (.int (0 : Int32)), (.int (0 : Int32)), (.int (0 : Int32)), (.int (0 : Int32)), (.int (0 : Int32)), (.int (0 : Int32)), (.int (0 : Int32))] (.int (0 : Int32))) (OD : Old Z n0 h0) (S2 : Sta Z Z.heap "java/lang/String" "COMPACT_STRINGS" "Z" (.int cz)) (hcz : ¬ cz = 0) :
    Ctr l Z (⟨"java/lang/String", "<init>", "(Ljava/lang/StringBuilder;)V"⟩ : MethodName) jdk_42_method_53_code 2 none ({ frames := 4, cells := 1, slots := 9, locals := 84 } : Room) n0 #[(.ref sx), (.ref sb)] h0 (fun v h => ∃ (t : Addr) (kb : ClassId), v = none ∧ Keep h0 h [sx] ∧ Exa Z h sx "java/lang/String" ∧ Fld Z h sx "java/lang/String" "coder" "B" (.int (0 : Int32)) ∧ Fld Z h sx "java/lang/String" "value" "[B" (.ref t) ∧ Arv Z h t kb .byte (9 : Int32) [(.int (86 : Int32)), (.int (77 : Int32)), (.int (32 : Int32)), (.int (116 : Int32)), (.int (121 : Int32)), (.int (112 : Int32)), (.int (101 : Int32)), (.int (32 : Int32)), (.int (116 : Int32))] (.int (0 : Int32))) := by
  refine Ctr.of (by decide +kernel) hn0 ?_
  intro p e s m below meth c T0 C hnm hret hlk X0
  rw [ef16 m sx sb]
  refine OGo.aloadN (pc' := 1) C X0 d16_0 rfl rfl rfl ?_
  refine OGo.aloadN (pc' := 2) C X0 d16_1 rfl rfl rfl ?_
  refine OGo.aconst_null (pc' := 3) C X0 d16_2 rfl ?_
  refine OGo.callInit (pc' := 6) (cells' := 1) (slots' := 9) (argsL := [(.ref sb), .null]) (St := []) C X0 rfl rfl (wd109 hw) (wd110 hw) (by decide) (wd111 hw) (wd6 hw) (ctSi4_3 hw X0.2.1 sx sb tb kt  cz Ex Xv Xc gx Es Fv Fc Fn Vt OD S2 hcz) (lenOf pd17 rfl) rfl d16_3 rfl rfl (by decide) (Nat.le_of_ble_eq_true rfl) rfl rfl (by decide) (by decide) (fun v1 T1 h1 Q1 X1 z1 => ?_)
  obtain ⟨t1, k1, hv1, K1, E1, F1c, F1v, V1⟩ := Q1
  subst hv1
  have K2 : Keep h0 h1 [sx] := (Keep.refl h0 [sx]).trans K1 (allS (Or.inl (List.mem_of_getElem? (i := 0) rfl)) all0)
  show OGo p e below _ T1 (mkF m 6 #[.val (.ref sx), .val (.ref sb)] [])
  exact OGo.ret C X1 d16_6 hret hlk (⟨t1, k1, rfl, K2, E1, F1c, F1v, V1⟩) (by decide) (by decide)
theorem ef15 (m : MethodId) (x0 : Addr) : entryFrame m #[(.ref x0)] 1 = mkF m 0 #[.val (.ref x0)] [] := by first | (simp [entryFrame, mkF, argsToLocals, Value.category]; done) | rfl
set_option maxRecDepth 65536 in
set_option maxHeartbeats 40000000 in
theorem ctToS3 {l : Launch} {Z : State} {a0 : Array Value} (hw : HW a0 Z) {n0 : Nat} {h0 : Heap} (hn0 : n0 ≤ h0.size) (sb tb : Addr) (kt : ClassId) (cz : Int32) (Es : Exa Z h0 sb "java/lang/StringBuilder") (Fv : Fld Z h0 sb "java/lang/AbstractStringBuilder" "value" "[B" (.ref tb)) (Fc : Fld Z h0 sb "java/lang/AbstractStringBuilder" "coder" "B" (.int (0 : Int32))) (Fn : Fld Z h0 sb "java/lang/AbstractStringBuilder" "count" "I" (.int (9 : Int32))) (Vt : Arv Z h0 tb kt .byte (16 : Int32) [(.int (86 : Int32)), (.int (77 : Int32)), (.int (32 : Int32)), (.int (116 : Int32)), (.int (121 : Int32)), (.int (112 : Int32)), (.int (101 : Int32)), (.int (32 : Int32)), (.int (116 : Int32)), (.int (0 : Int32)), (.int (0 : Int32)), (.int (0 : Int32)), (.int (0 : Int32)), (.int (0 : Int32)), (.int (0 : Int32)), (.int (0 : Int32))] (.int (0 : Int32))) (OD : Old Z n0 h0) (S2 : Sta Z Z.heap "java/lang/String" "COMPACT_STRINGS" "Z" (.int cz)) (hcz : ¬ cz = 0) :
    Ctr l Z (⟨"java/lang/StringBuilder", "toString", "()Ljava/lang/String;"⟩ : MethodName) jdk_67_method_42_code 1 (some (.object "java/lang/String")) ({ frames := 5, cells := 2, slots := 13, locals := 100 } : Room) n0 #[(.ref sb)] h0 (fun v h => ∃ (b t : Addr) (kb : ClassId), v = some (.ref b) ∧ Keep h0 h [] ∧ Exa Z h b "java/lang/String" ∧ Fld Z h b "java/lang/String" "coder" "B" (.int (0 : Int32)) ∧ Fld Z h b "java/lang/String" "value" "[B" (.ref t) ∧ Arv Z h t kb .byte (9 : Int32) [(.int (86 : Int32)), (.int (77 : Int32)), (.int (32 : Int32)), (.int (116 : Int32)), (.int (121 : Int32)), (.int (112 : Int32)), (.int (101 : Int32)), (.int (32 : Int32)), (.int (116 : Int32))] (.int (0 : Int32))) := by
  refine Ctr.of (by decide +kernel) hn0 ?_
  intro p e s m below meth c T0 C hnm hret hlk X0
  rw [ef15 m sb]
  refine OGo.new (pc' := 3) (cells' := 1) (slots' := 4) C X0 (wd105 hw) (wd7 hw) (wd6 hw) d15_0 rfl rfl rfl (by decide) (by decide) (fun T1 h1 a1 X1 g1 q1 E1 A1 D1 U1 => ?_)
  have ne2 : sb ≠ a1 := Nat.ne_of_lt (Nat.lt_of_lt_of_eq Es.lt g1.symm)
  have ne3 : tb ≠ a1 := Nat.ne_of_lt (Nat.lt_of_lt_of_eq Vt.lt g1.symm)
  have sz4 : h0.size ≤ a1 := Nat.le_trans (Keep.refl h0 []).1 (Nat.le_of_eq g1.symm)
  have K5 : Keep h0 h1 [] := (Keep.refl h0 []).ext E1
  have F1_value : Fld Z h1 a1 "java/lang/String" "value" "[B" .null := D1 (Or.inr (wd9 hw)) (ty := (.array .byte)) (by decide)
  have F1_coder : Fld Z h1 a1 "java/lang/String" "coder" "B" (.int (0 : Int32)) := D1 (Or.inr (wd10 hw)) (ty := .byte) (by decide)
  refine OGo.dup (pc' := 4) C X1 d15_3 rfl rfl ?_
  refine OGo.aloadN (pc' := 5) C X1 d15_4 rfl rfl rfl ?_
  have f6 := (Es.ext E1)
  have f7 := (Fv.ext E1)
  have f8 := (Fc.ext E1)
  have f9 := (Fn.ext E1)
  have f10 := (Vt.ext E1)
  have f11 := (OD.ext E1)
  refine OGo.callInit (pc' := 8) (cells' := 2) (slots' := 13) (argsL := [(.ref sb)]) (St := [(.ref a1)]) C X1 rfl rfl (wd106 hw) (wd107 hw) (by decide) (wd108 hw) (wd6 hw) (ctSi_3 hw X1.2.1 a1 sb tb kt  cz A1 F1_value F1_coder q1 f6 f7 f8 f9 f10 f11 S2 hcz) (lenOf pd18 rfl) rfl d15_5 rfl rfl (by decide) (Nat.le_of_ble_eq_true rfl) rfl rfl (by decide) (by decide) (fun v12 T12 h12 Q12 X12 z12 => ?_)
  obtain ⟨t12, k12, hv12, K12, E12, F12c, F12v, V12⟩ := Q12
  subst hv12
  have K13 : Keep h0 h12 [] := K5.trans K12 (allS (Or.inr sz4) all0)
  show OGo p e below _ T12 (mkF m 8 #[.val (.ref sb)] [(.ref a1)])
  exact OGo.retA C X12 d15_8 hret rfl rfl hlk (⟨a1, t12, k12, rfl, K13, E12, F12c, F12v, V12⟩) (by decide) (by decide)
theorem ef2 (m : MethodId) (x0 : Addr) (x1 : Addr) (x2 : UInt64) (x3 : UInt64) (x4 : UInt64) (x5 : UInt64) (x6 : Int32) (x7 : UInt64) : entryFrame m #[(.ref x0), (.ref x1), (.double x2), (.double x3), (.double x4), (.double x5), (.int x6), (.double x7)] 14 = mkF m 0 #[.val (.ref x0), .val (.ref x1), .val (.double x2), .second, .val (.double x3), .second, .val (.double x4), .second, .val (.double x5), .second, .val (.int x6), .val (.double x7), .second, .unset] [] := by first | (simp [entryFrame, mkF, argsToLocals, Value.category]; done) | rfl
set_option maxRecDepth 65536 in
set_option maxHeartbeats 40000000 in
theorem ctV7 {l : Launch} {Z : State} {a0 : Array Value} (hw : HW a0 Z) {n0 : Nat} {h0 : Heap} (hn0 : n0 ≤ h0.size) (vt sr ru : Addr) (kr : ClassId) (cz : Int32) (Ev : Exa Z h0 vt "com/example/makespan/makespan/model/VmType") (F_name : Fld Z h0 vt "com/example/makespan/makespan/model/VmType" "name" "Ljava/lang/String;" .null) (F_speed : Fld Z h0 vt "com/example/makespan/makespan/model/VmType" "speed" "D" (.double (0 : UInt64))) (F_pricePerPeriod : Fld Z h0 vt "com/example/makespan/makespan/model/VmType" "pricePerPeriod" "D" (.double (0 : UInt64))) (F_periodSeconds : Fld Z h0 vt "com/example/makespan/makespan/model/VmType" "periodSeconds" "D" (.double (0 : UInt64))) (F_bootSeconds : Fld Z h0 vt "com/example/makespan/makespan/model/VmType" "bootSeconds" "D" (.double (0 : UInt64))) (F_bootBilled : Fld Z h0 vt "com/example/makespan/makespan/model/VmType" "bootBilled" "Z" (.int (0 : Int32))) (F_startupFee : Fld Z h0 vt "com/example/makespan/makespan/model/VmType" "startupFee" "D" (.double (0 : UInt64))) (gv : n0 ≤ vt) (Er : Exa Z h0 sr "java/lang/String") (Rv : Fld Z h0 sr "java/lang/String" "value" "[B" (.ref ru)) (Rc : Fld Z h0 sr "java/lang/String" "coder" "B" (.int (0 : Int32))) (Vr : Arv Z h0 ru kr .byte (1 : Int32) [(.int (116 : Int32))] (.int (0 : Int32))) (OD : Old Z n0 h0) (S2 : Sta Z Z.heap "java/lang/String" "COMPACT_STRINGS" "Z" (.int cz)) (hcz : ¬ cz = 0) :
    CtrW l Z consts_1 [] (⟨"com/example/makespan/makespan/model/VmType", "<init>", "(Ljava/lang/String;DDDDZD)V"⟩ : MethodName) prog_51_method_2_code 14 none ({ frames := 6, cells := 30, slots := 700, locals := 130 } : Room) n0 #[(.ref vt), (.ref sr), (.double (FP.dconst1)), (.double (FP.dconst1)), (.double (FP.dconst1)), (.double (FP.dconst0)), (.int (1 : Int32)), (.double (FP.dconst0))] h0 (fun v h sfe => v = none ∧ Keep h0 h [vt] ∧ Exa Z h vt "com/example/makespan/makespan/model/VmType" ∧ Fld Z h vt "com/example/makespan/makespan/model/VmType" "bootSeconds" "D" (.double (FP.dconst0))) := by
  refine CtrW.of (plainFor_of_name pn2) hn0 ?_
  intro p e s m below meth c T0 C hnm hret hlk X0 H0 hSf
  rw [ef2 m vt sr (FP.dconst1) (FP.dconst1) (FP.dconst1) (FP.dconst0) (1 : Int32) (FP.dconst0)]
  refine OGo.aloadN (pc' := 1) C X0 d2_0 rfl rfl rfl ?_
  refine OGo.initObj (pc' := 4) C X0 (wd19 hw) (wd20 hw) (wd21 hw) d2_1 rfl rfl (by decide) (Nat.le_of_ble_eq_true rfl) (fun T1 X1 => ?_)
  refine OGo.aloadN (pc' := 5) C X1 d2_4 rfl rfl rfl ?_
  refine OGo.aloadN (pc' := 6) C X1 d2_5 rfl rfl rfl ?_
  refine OGo.ldcC (pc' := 8) (n := 16) (cells' := 2) (slots' := 20) (z := (4 : Int32)) (vs := [(.int (110 : Int32)), (.int (97 : Int32)), (.int (109 : Int32)), (.int (101 : Int32))]) C X1 (ew hw) H0 (wd22 hw) (wS hw) (List.mem_of_getElem? (i := 0) rfl) ⟨by decide +kernel, by first | rfl | decide +kernel⟩ (by decide) rfl d2_6 rfl (by decide +kernel) (by decide) rfl rfl (by decide) (by decide) (fun vm2 T2 h2 a2 b2 k2 C2 X2 Hd2 E2 R2 A2 F2a F2b V2 sf2 => ?_)
  have K3 : Keep h0 h2 [vt] := (Keep.refl h0 [vt]).ext E2
  have f4 := (Ev.ext E2)
  have sn5 := sf2 vt (Safe.exa (EL := consts_1) C2.2.1.alike f4 (by decide) (by decide))
  refine OGo.callS (pc' := 11) (cells' := 2) (slots' := 20) (argsL := [(.ref sr), (.ref a2)]) (St := [(.ref vt)]) C2 X2 (wd23 hw) (wd24 hw) (by decide) (wd26 hw) (wd25 hw) (ctRnn hw X2.2.1 sr a2) (lenOf pd4 rfl) rfl d2_8 rfl rfl (by decide) (Nat.le_of_ble_eq_true rfl) rfl rfl (by decide) (by decide) (fun v6 T6 h6 Q6 X6 z6 => ?_)
  obtain ⟨hv6, hh6⟩ := Q6
  subst hv6; rw [hh6] at X6
  show OGo p e below _ T6 (mkF m 11 #[.val (.ref vt), .val (.ref sr), .val (.double (FP.dconst1)), .second, .val (.double (FP.dconst1)), .second, .val (.double (FP.dconst1)), .second, .val (.double (FP.dconst0)), .second, .val (.int (1 : Int32)), .val (.double (FP.dconst0)), .second, .unset] [(.ref sr), (.ref vt)])
  have f7 := (Er.ext E2)
  refine OGo.checkcast (pc' := 14) C2 X6 (wd27 hw) (Ins.self f7) d2_11 rfl (fun T8 X8 => ?_)
  have f9 := (F_name.ext E2)
  refine OGo.putfield (pc' := 17) C2 X8 (host := "") (Or.inl (wd29 hw)) Via.refl f9 f4 gv (Or.inr ⟨(wd30 hw), rfl, hnm⟩) (wd3 hw) (ty := (.object "java/lang/String")) (by decide) rfl rfl d2_14 rfl (fun T10 h10 X10 W10 F10 => ?_)
  have Hd11 := Hd2.wr W10 (Safe.exa (EL := consts_1) C2.2.1.alike f4 (by decide) (by decide))
  have K12 : Keep h0 h10 [vt] := K3.wr W10 (Or.inl (List.mem_of_getElem? (i := 0) rfl))
  refine OGo.new (pc' := 20) (cells' := 3) (slots' := 24) C2 X10 (wd31 hw) (wd32 hw) (wd33 hw) d2_17 rfl rfl rfl (by decide) (by decide) (fun T13 h13 a13 X13 g13 q13 E13 A13 D13 U13 => ?_)
  have f15 := (f4.wr W10)
  have ne14 : vt ≠ a13 := Nat.ne_of_lt (Nat.lt_of_lt_of_eq f15.lt g13.symm)
  have f17 := (f7.wr W10)
  have ne16 : sr ≠ a13 := Nat.ne_of_lt (Nat.lt_of_lt_of_eq f17.lt g13.symm)
  have f19 := ((Vr.ext E2).other W10 (Ne.symm (Exa.neArv Ev Vr (wd3 hw))))
  have ne18 : ru ≠ a13 := Nat.ne_of_lt (Nat.lt_of_lt_of_eq f19.lt g13.symm)
  have f21 := (A2.wr W10)
  have ne20 : a2 ≠ a13 := Nat.ne_of_lt (Nat.lt_of_lt_of_eq f21.lt g13.symm)
  have f23 := (V2.other W10 (Ne.symm sn5.2))
  have ne22 : b2 ≠ a13 := Nat.ne_of_lt (Nat.lt_of_lt_of_eq f23.lt g13.symm)
  have sz24 : h0.size ≤ a13 := Nat.le_trans K12.1 (Nat.le_of_eq g13.symm)
  have Hd25 := Hd11.ext E13
  have K26 : Keep h0 h13 [vt] := K12.ext E13
  have F13_value : Fld Z h13 a13 "java/lang/AbstractStringBuilder" "value" "[B" .null := D13 (Or.inl (wd46 hw)) (ty := (.array .byte)) (by decide)
  have F13_coder : Fld Z h13 a13 "java/lang/AbstractStringBuilder" "coder" "B" (.int (0 : Int32)) := D13 (Or.inl (wd48 hw)) (ty := .byte) (by decide)
  have F13_count : Fld Z h13 a13 "java/lang/AbstractStringBuilder" "count" "I" (.int (0 : Int32)) := D13 (Or.inl (wd74 hw)) (ty := .int) (by decide)
  refine OGo.dup (pc' := 21) C2 X13 d2_20 rfl rfl ?_
  have f27 := (f15.ext E13)
  have f28 := (f17.ext E13)
  have f29 := (f19.ext E13)
  have f30 := (f21.ext E13)
  have f31 := (f23.ext E13)
  have f32 := (((OD.ext E2).wr W10 gv).ext E13)
  refine OGo.callInit (pc' := 24) (cells' := 4) (slots' := 40) (argsL := []) (St := [(.ref a13)]) C2 X13 rfl rfl (wd34 hw) (wd35 hw) (by decide) (wd36 hw) (wd33 hw) (ctSbI hw X13.2.1 a13 cz A13 F13_value F13_coder F13_count q13 f32 S2 hcz) (lenOf pd5 rfl) rfl d2_21 rfl rfl (by decide) (Nat.le_of_ble_eq_true rfl) rfl rfl (by decide) (by decide) (fun v33 T33 h33 Q33 X33 z33 => ?_)
  obtain ⟨tb33, kt33, hv33, K33, hz33, nn33, Es33, Fv33, Fc33, Fn33, Vt33⟩ := Q33
  subst hv33
  have Hd34 := Hd25.keep K33 (allS (Safe.exa (EL := consts_1) C2.2.1.alike A13 (by decide) (by decide)) all0)
  have K35 : Keep h0 h33 [vt] := K26.trans K33 (allS (Or.inr sz24) all0)
  have nb33_vt : vt ≠ tb33 := Nat.ne_of_lt (Nat.lt_of_lt_of_le f27.lt hz33)
  have nb33_sr : sr ≠ tb33 := Nat.ne_of_lt (Nat.lt_of_lt_of_le f28.lt hz33)
  have nb33_ru : ru ≠ tb33 := Nat.ne_of_lt (Nat.lt_of_lt_of_le f29.lt hz33)
  have nb33_a2 : a2 ≠ tb33 := Nat.ne_of_lt (Nat.lt_of_lt_of_le f30.lt hz33)
  have nb33_b2 : b2 ≠ tb33 := Nat.ne_of_lt (Nat.lt_of_lt_of_le f31.lt hz33)
  show OGo p e below _ T33 (mkF m 24 #[.val (.ref vt), .val (.ref sr), .val (.double (FP.dconst1)), .second, .val (.double (FP.dconst1)), .second, .val (.double (FP.dconst1)), .second, .val (.double (FP.dconst0)), .second, .val (.int (1 : Int32)), .val (.double (FP.dconst0)), .second, .unset] [(.ref a13)])
  refine OGo.ldcC (pc' := 26) (n := 32) (cells' := 6) (slots' := 76) (z := (8 : Int32)) (vs := [(.int (86 : Int32)), (.int (77 : Int32)), (.int (32 : Int32)), (.int (116 : Int32)), (.int (121 : Int32)), (.int (112 : Int32)), (.int (101 : Int32)), (.int (32 : Int32))]) C2 X33 (ew hw) Hd34 (wd49 hw) (wS hw) (List.mem_of_getElem? (i := 1) rfl) ⟨by decide +kernel, by first | rfl | decide +kernel⟩ (by decide) rfl d2_24 rfl (by decide +kernel) (by decide) rfl rfl (by decide) (by decide) (fun vm36 T36 h36 a36 b36 k36 C36 X36 Hd36 E36 R36 A36 F36a F36b V36 sf36 => ?_)
  have K37 : Keep h0 h36 [vt] := K35.ext E36
  have f38 := ((f27.keep K33).ext E36)
  have sn39 := sf36 vt (Safe.exa (EL := consts_1) C36.2.1.alike f38 (by decide) (by decide))
  have f40 := (Es33.ext E36)
  have sn41 := sf36 a13 (Safe.exa (EL := consts_1) C36.2.1.alike f40 (by decide) (by decide))
  have sn42 := sf36 tb33 (CHr.safe R36 Vt33.lt (Safe.keep K33 (allS (Safe.exa (EL := consts_1) C2.2.1.alike A13 (by decide) (by decide)) all0) Hd25.cv (Safe.new hz33)))
  have f43 := (Fv33.ext E36)
  have f44 := (Fc33.ext E36)
  have f45 := (Fn33.ext E36)
  have f46 := (Vt33.ext E36)
  have f47 := ((f32.keep K33 (allS q13 all0)).ext E36)
  refine OGo.callV (pc' := 29) (cells' := 6) (slots' := 76) (argsL := [(.ref a36)]) (St := []) C36 X36 (wd50 hw) (wd51 hw) (wd53 hw) (wd52 hw) (by decide) f40 (wd54 hw) (wd33 hw) (ctApp1 hw X36.2.1 a13 tb33 a36 b36 kt33 k36  cz f40 f43 f44 f45 f46 q13 (Nat.le_trans X13.2.1 hz33) nn33 A36 F36b F36a V36 (Ne.symm sn42.2) f47 S2 hcz) (lenOf pd11 rfl) rfl d2_26 rfl rfl (by decide) (Nat.le_of_ble_eq_true rfl) rfl rfl (by decide) (by decide) (fun v48 T48 h48 Q48 X48 z48 => ?_)
  obtain ⟨hv48, K48, Es48, Fv48, Fc48, Fn48, Vt48⟩ := Q48
  subst hv48
  have Hd49 := Hd36.keep K48 (allS (Safe.exa (EL := consts_1) C36.2.1.alike f40 (by decide) (by decide)) (allS (CHr.safe R36 Vt33.lt (Safe.keep K33 (allS (Safe.exa (EL := consts_1) C2.2.1.alike A13 (by decide) (by decide)) all0) Hd25.cv (Safe.new hz33))) all0))
  have K50 : Keep h0 h48 [vt] := K37.trans K48 (allS (Or.inr sz24) (allS (Or.inr (Nat.le_trans K26.1 hz33)) all0))
  show OGo p e below _ T48 (mkF m 29 #[.val (.ref vt), .val (.ref sr), .val (.double (FP.dconst1)), .second, .val (.double (FP.dconst1)), .second, .val (.double (FP.dconst1)), .second, .val (.double (FP.dconst0)), .second, .val (.int (1 : Int32)), .val (.double (FP.dconst0)), .second, .unset] [(.ref a13)])
  refine OGo.aloadN (pc' := 30) C36 X48 d2_29 rfl rfl rfl ?_
  have f51 := (((f28.keep K33).ext E36).keep K48)
  have f52 := ((((((Rv.ext E2).other W10 (Or.inl (Ne.symm (Exa.ne Ev Er (by decide))))).ext E13).keep K33 (ninS ne16 nin0)).ext E36).keep K48 (ninS ne16 (ninS nb33_sr nin0)))
  have f53 := ((((((Rc.ext E2).other W10 (Or.inl (Ne.symm (Exa.ne Ev Er (by decide))))).ext E13).keep K33 (ninS ne16 nin0)).ext E36).keep K48 (ninS ne16 (ninS nb33_sr nin0)))
  have f54 := (((f29.keep K33 (ninS ne18 nin0)).ext E36).keep K48 (ninS ne18 (ninS nb33_ru nin0)))
  have f55 := (f47.keep K48 (allS q13 (allS (Nat.le_trans X13.2.1 hz33) all0)))
  refine OGo.callV (pc' := 33) (cells' := 6) (slots' := 76) (argsL := [(.ref sr)]) (St := []) C36 X48 (wd50 hw) (wd51 hw) (wd53 hw) (wd52 hw) (by decide) Es48 (wd54 hw) (wd33 hw) (ctApp2 hw X48.2.1 a13 tb33 sr ru kt33 kr  cz Es48 Fv48 Fc48 Fn48 Vt48 q13 (Nat.le_trans X13.2.1 hz33) nn33 f51 f52 f53 f54 nb33_ru f55 S2 hcz) (lenOf pd11 rfl) rfl d2_30 rfl rfl (by decide) (Nat.le_of_ble_eq_true rfl) rfl rfl (by decide) (by decide) (fun v56 T56 h56 Q56 X56 z56 => ?_)
  obtain ⟨hv56, K56, Es56, Fv56, Fc56, Fn56, Vt56⟩ := Q56
  subst hv56
  have f58 := (Safe.keep K48 (allS (Safe.exa (EL := consts_1) C36.2.1.alike f40 (by decide) (by decide)) (allS (CHr.safe R36 Vt33.lt (Safe.keep K33 (allS (Safe.exa (EL := consts_1) C2.2.1.alike A13 (by decide) (by decide)) all0) Hd25.cv (Safe.new hz33))) all0)) Hd36.cv (CHr.safe R36 Vt33.lt (Safe.keep K33 (allS (Safe.exa (EL := consts_1) C2.2.1.alike A13 (by decide) (by decide)) all0) Hd25.cv (Safe.new hz33))))
  have Hd57 := Hd49.keep K56 (allS (Safe.exa (EL := consts_1) C36.2.1.alike Es48 (by decide) (by decide)) (allS f58 all0))
  have K59 : Keep h0 h56 [vt] := K50.trans K56 (allS (Or.inr sz24) (allS (Or.inr (Nat.le_trans K26.1 hz33)) all0))
  show OGo p e below _ T56 (mkF m 33 #[.val (.ref vt), .val (.ref sr), .val (.double (FP.dconst1)), .second, .val (.double (FP.dconst1)), .second, .val (.double (FP.dconst1)), .second, .val (.double (FP.dconst0)), .second, .val (.int (1 : Int32)), .val (.double (FP.dconst0)), .second, .unset] [(.ref a13)])
  have f60 := (f55.keep K56 (allS q13 (allS (Nat.le_trans X13.2.1 hz33) all0)))
  refine OGo.callV (pc' := 36) (cells' := 8) (slots' := 89) (argsL := []) (St := []) C36 X56 (wd100 hw) (wd101 hw) (wd103 hw) (wd102 hw) (by decide) Es56 (wd104 hw) (wd33 hw) (ctToS3 hw X56.2.1 a13 tb33 kt33  cz Es56 Fv56 Fc56 Fn56 Vt56 f60 S2 hcz) (lenOf pd19 rfl) rfl d2_33 rfl rfl (by decide) (Nat.le_of_ble_eq_true rfl) rfl rfl (by decide) (by decide) (fun v61 T61 h61 Q61 X61 z61 => ?_)
  obtain ⟨b61, t61, k61, hv61, K61, E61, F61c, F61v, V61⟩ := Q61
  subst hv61
  have Hd62 := Hd57.keep K61 all0
  have K63 : Keep h0 h61 [vt] := K59.trans K61 all0
  show OGo p e below _ T61 (mkF m 36 #[.val (.ref vt), .val (.ref sr), .val (.double (FP.dconst1)), .second, .val (.double (FP.dconst1)), .second, .val (.double (FP.dconst1)), .second, .val (.double (FP.dconst0)), .second, .val (.int (1 : Int32)), .val (.double (FP.dconst0)), .second, .unset] [(.ref b61)])
  refine OGo.astore (pc' := 38) C36 X61 d2_36 rfl rfl (l' := #[.val (.ref vt), .val (.ref sr), .val (.double (FP.dconst1)), .second, .val (.double (FP.dconst1)), .second, .val (.double (FP.dconst1)), .second, .val (.double (FP.dconst0)), .second, .val (.int (1 : Int32)), .val (.double (FP.dconst0)), .second, .val (.ref b61)]) rfl ?_
  refine OGo.aloadN (pc' := 39) C36 X61 d2_38 rfl rfl rfl ?_
  refine OGo.aload (pc' := 41) C36 X61 d2_39 rfl rfl rfl ?_
  refine OGo.ldcC (pc' := 43) (n := 20) (cells' := 10) (slots' := 113) (z := (5 : Int32)) (vs := [(.int (115 : Int32)), (.int (112 : Int32)), (.int (101 : Int32)), (.int (101 : Int32)), (.int (100 : Int32))]) C36 X61 (ew hw) Hd62 (wd146 hw) (wS hw) (List.mem_of_getElem? (i := 2) rfl) ⟨by decide +kernel, by first | rfl | decide +kernel⟩ (by decide) rfl d2_41 rfl (by decide +kernel) (by decide) rfl rfl (by decide) (by decide) (fun vm64 T64 h64 a64 b64 k64 C64 X64 Hd64 E64 R64 A64 F64a F64b V64 sf64 => ?_)
  have f65 := (Vt56.keep K61 nin0)
  have f66 := (Safe.keep K61 all0 Hd57.cv (Safe.keep K56 (allS (Safe.exa (EL := consts_1) C36.2.1.alike Es48 (by decide) (by decide)) (allS f58 all0)) Hd49.cv f58))
  have K67 : Keep h0 h64 [vt] := K63.ext E64
  have f68 := ((((f38.keep K48).keep K56).keep K61).ext E64)
  have sn69 := sf64 vt (Safe.exa (EL := consts_1) C64.2.1.alike f68 (by decide) (by decide))
  have f70 := ((Es56.keep K61).ext E64)
  have sn71 := sf64 a13 (Safe.exa (EL := consts_1) C64.2.1.alike f70 (by decide) (by decide))
  have sn72 := sf64 tb33 (CHr.safe R64 f65.lt f66)
  refine OGo.dloadN (pc' := 44) C64 X64 d2_43 rfl rfl ?_
  refine OGo.callS (pc' := 47) (cells' := 10) (slots' := 113) (argsL := [(.ref b61), (.ref a64), (.double (FP.dconst1))]) (St := [(.ref vt)]) C64 X64 (wd147 hw) (wd148 hw) (by decide) (wd150 hw) (wd149 hw) (ctAz1 hw X64.2.1 b61 a64) (lenOf pd20 rfl) rfl d2_44 rfl rfl (by decide) (Nat.le_of_ble_eq_true rfl) rfl rfl (by decide) (by decide) (fun v73 T73 h73 Q73 X73 z73 => ?_)
  obtain ⟨hv73, hh73⟩ := Q73
  subst hv73; rw [hh73] at X73
  show OGo p e below _ T73 (mkF m 47 #[.val (.ref vt), .val (.ref sr), .val (.double (FP.dconst1)), .second, .val (.double (FP.dconst1)), .second, .val (.double (FP.dconst1)), .second, .val (.double (FP.dconst0)), .second, .val (.int (1 : Int32)), .val (.double (FP.dconst0)), .second, .val (.ref b61)] [(.double (FP.dconst1)), (.ref vt)])
  have f74 := (((((((((F_speed.ext E2).other W10 (Or.inr (slot_ne (Or.inr (wd160 hw)) (Or.inr (wd30 hw)) (by decide) (t := .double) (t' := (.object "java/lang/String")) (by decide) (by decide)))).ext E13).keep K33 (ninS ne14 nin0)).ext E36).keep K48 (ninS ne14 (ninS nb33_vt nin0))).keep K56 (ninS ne14 (ninS nb33_vt nin0))).keep K61 nin0).ext E64)
  refine OGo.putfield (pc' := 50) C64 X73 (host := "") (Or.inl (wd159 hw)) Via.refl f74 f68 gv (Or.inr ⟨(wd160 hw), rfl, hnm⟩) (wd3 hw) (ty := .double) (by decide) rfl rfl d2_47 rfl (fun T75 h75 X75 W75 F75 => ?_)
  have Hd76 := Hd64.wr W75 (Safe.exa (EL := consts_1) C64.2.1.alike f68 (by decide) (by decide))
  have K77 : Keep h0 h75 [vt] := K67.wr W75 (Or.inl (List.mem_of_getElem? (i := 0) rfl))
  refine OGo.aloadN (pc' := 51) C64 X75 d2_50 rfl rfl rfl ?_
  refine OGo.aload (pc' := 53) C64 X75 d2_51 rfl rfl rfl ?_
  refine OGo.ldcC (pc' := 55) (n := 56) (cells' := 12) (slots' := 173) (z := (14 : Int32)) (vs := [(.int (112 : Int32)), (.int (114 : Int32)), (.int (105 : Int32)), (.int (99 : Int32)), (.int (101 : Int32)), (.int (80 : Int32)), (.int (101 : Int32)), (.int (114 : Int32)), (.int (80 : Int32)), (.int (101 : Int32)), (.int (114 : Int32)), (.int (105 : Int32)), (.int (111 : Int32)), (.int (100 : Int32))]) C64 X75 (ew hw) Hd76 (wd161 hw) (wS hw) (List.mem_of_getElem? (i := 3) rfl) ⟨by decide +kernel, by first | rfl | decide +kernel⟩ (by decide) rfl d2_53 rfl (by decide +kernel) (by decide) rfl rfl (by decide) (by decide) (fun vm78 T78 h78 a78 b78 k78 C78 X78 Hd78 E78 R78 A78 F78a F78b V78 sf78 => ?_)
  have f79 := ((f65.ext E64).other W75 (Ne.symm nb33_vt))
  have f80 := (Safe.wr W75 (Safe.exa (EL := consts_1) C64.2.1.alike f68 (by decide) (by decide)) Hd64.cv (CHr.safe R64 f65.lt f66))
  have K81 : Keep h0 h78 [vt] := K77.ext E78
  have f82 := ((f68.wr W75).ext E78)
  have sn83 := sf78 vt (Safe.exa (EL := consts_1) C78.2.1.alike f82 (by decide) (by decide))
  have f84 := ((f70.wr W75).ext E78)
  have sn85 := sf78 a13 (Safe.exa (EL := consts_1) C78.2.1.alike f84 (by decide) (by decide))
  have sn86 := sf78 tb33 (CHr.safe R78 f79.lt f80)
  refine OGo.dload (pc' := 57) C78 X78 d2_55 rfl rfl ?_
  refine OGo.callS (pc' := 60) (cells' := 12) (slots' := 173) (argsL := [(.ref b61), (.ref a78), (.double (FP.dconst1))]) (St := [(.ref vt)]) C78 X78 (wd162 hw) (wd163 hw) (by decide) (wd164 hw) (wd149 hw) (ctZo1 hw X78.2.1 b61 a78) (lenOf pd20 rfl) rfl d2_57 rfl rfl (by decide) (Nat.le_of_ble_eq_true rfl) rfl rfl (by decide) (by decide) (fun v87 T87 h87 Q87 X87 z87 => ?_)
  obtain ⟨hv87, hh87⟩ := Q87
  subst hv87; rw [hh87] at X87
  show OGo p e below _ T87 (mkF m 60 #[.val (.ref vt), .val (.ref sr), .val (.double (FP.dconst1)), .second, .val (.double (FP.dconst1)), .second, .val (.double (FP.dconst1)), .second, .val (.double (FP.dconst0)), .second, .val (.int (1 : Int32)), .val (.double (FP.dconst0)), .second, .val (.ref b61)] [(.double (FP.dconst1)), (.ref vt)])
  have f88 := (((((((((((F_pricePerPeriod.ext E2).other W10 (Or.inr (slot_ne (Or.inr (wd169 hw)) (Or.inr (wd30 hw)) (by decide) (t := .double) (t' := (.object "java/lang/String")) (by decide) (by decide)))).ext E13).keep K33 (ninS ne14 nin0)).ext E36).keep K48 (ninS ne14 (ninS nb33_vt nin0))).keep K56 (ninS ne14 (ninS nb33_vt nin0))).keep K61 nin0).ext E64).other W75 (Or.inr (slot_ne (Or.inr (wd169 hw)) (Or.inr (wd160 hw)) (by decide) (t := .double) (t' := .double) (by decide) (by decide)))).ext E78)
  refine OGo.putfield (pc' := 63) C78 X87 (host := "") (Or.inl (wd168 hw)) Via.refl f88 f82 gv (Or.inr ⟨(wd169 hw), rfl, hnm⟩) (wd3 hw) (ty := .double) (by decide) rfl rfl d2_60 rfl (fun T89 h89 X89 W89 F89 => ?_)
  have Hd90 := Hd78.wr W89 (Safe.exa (EL := consts_1) C78.2.1.alike f82 (by decide) (by decide))
  have K91 : Keep h0 h89 [vt] := K81.wr W89 (Or.inl (List.mem_of_getElem? (i := 0) rfl))
  refine OGo.aloadN (pc' := 64) C78 X89 d2_63 rfl rfl rfl ?_
  refine OGo.aload (pc' := 66) C78 X89 d2_64 rfl rfl rfl ?_
  refine OGo.ldcC (pc' := 68) (n := 52) (cells' := 14) (slots' := 229) (z := (13 : Int32)) (vs := [(.int (112 : Int32)), (.int (101 : Int32)), (.int (114 : Int32)), (.int (105 : Int32)), (.int (111 : Int32)), (.int (100 : Int32)), (.int (83 : Int32)), (.int (101 : Int32)), (.int (99 : Int32)), (.int (111 : Int32)), (.int (110 : Int32)), (.int (100 : Int32)), (.int (115 : Int32))]) C78 X89 (ew hw) Hd90 (wd170 hw) (wS hw) (List.mem_of_getElem? (i := 4) rfl) ⟨by decide +kernel, by first | rfl | decide +kernel⟩ (by decide) rfl d2_66 rfl (by decide +kernel) (by decide) rfl rfl (by decide) (by decide) (fun vm92 T92 h92 a92 b92 k92 C92 X92 Hd92 E92 R92 A92 F92a F92b V92 sf92 => ?_)
  have f93 := ((f79.ext E78).other W89 (Ne.symm nb33_vt))
  have f94 := (Safe.wr W89 (Safe.exa (EL := consts_1) C78.2.1.alike f82 (by decide) (by decide)) Hd78.cv (CHr.safe R78 f79.lt f80))
  have K95 : Keep h0 h92 [vt] := K91.ext E92
  have f96 := ((f82.wr W89).ext E92)
  have sn97 := sf92 vt (Safe.exa (EL := consts_1) C92.2.1.alike f96 (by decide) (by decide))
  have f98 := ((f84.wr W89).ext E92)
  have sn99 := sf92 a13 (Safe.exa (EL := consts_1) C92.2.1.alike f98 (by decide) (by decide))
  have sn100 := sf92 tb33 (CHr.safe R92 f93.lt f94)
  refine OGo.dload (pc' := 70) C92 X92 d2_68 rfl rfl ?_
  refine OGo.callS (pc' := 73) (cells' := 14) (slots' := 229) (argsL := [(.ref b61), (.ref a92), (.double (FP.dconst1))]) (St := [(.ref vt)]) C92 X92 (wd147 hw) (wd148 hw) (by decide) (wd150 hw) (wd149 hw) (ctAz1 hw X92.2.1 b61 a92) (lenOf pd20 rfl) rfl d2_70 rfl rfl (by decide) (Nat.le_of_ble_eq_true rfl) rfl rfl (by decide) (by decide) (fun v101 T101 h101 Q101 X101 z101 => ?_)
  obtain ⟨hv101, hh101⟩ := Q101
  subst hv101; rw [hh101] at X101
  show OGo p e below _ T101 (mkF m 73 #[.val (.ref vt), .val (.ref sr), .val (.double (FP.dconst1)), .second, .val (.double (FP.dconst1)), .second, .val (.double (FP.dconst1)), .second, .val (.double (FP.dconst0)), .second, .val (.int (1 : Int32)), .val (.double (FP.dconst0)), .second, .val (.ref b61)] [(.double (FP.dconst1)), (.ref vt)])
  have f102 := (((((((((((((F_periodSeconds.ext E2).other W10 (Or.inr (slot_ne (Or.inr (wd172 hw)) (Or.inr (wd30 hw)) (by decide) (t := .double) (t' := (.object "java/lang/String")) (by decide) (by decide)))).ext E13).keep K33 (ninS ne14 nin0)).ext E36).keep K48 (ninS ne14 (ninS nb33_vt nin0))).keep K56 (ninS ne14 (ninS nb33_vt nin0))).keep K61 nin0).ext E64).other W75 (Or.inr (slot_ne (Or.inr (wd172 hw)) (Or.inr (wd160 hw)) (by decide) (t := .double) (t' := .double) (by decide) (by decide)))).ext E78).other W89 (Or.inr (slot_ne (Or.inr (wd172 hw)) (Or.inr (wd169 hw)) (by decide) (t := .double) (t' := .double) (by decide) (by decide)))).ext E92)
  refine OGo.putfield (pc' := 76) C92 X101 (host := "") (Or.inl (wd171 hw)) Via.refl f102 f96 gv (Or.inr ⟨(wd172 hw), rfl, hnm⟩) (wd3 hw) (ty := .double) (by decide) rfl rfl d2_73 rfl (fun T103 h103 X103 W103 F103 => ?_)
  have Hd104 := Hd92.wr W103 (Safe.exa (EL := consts_1) C92.2.1.alike f96 (by decide) (by decide))
  have K105 : Keep h0 h103 [vt] := K95.wr W103 (Or.inl (List.mem_of_getElem? (i := 0) rfl))
  refine OGo.aload (pc' := 78) C92 X103 d2_76 rfl rfl rfl ?_
  refine OGo.ldcC (pc' := 80) (n := 120) (cells' := 16) (slots' := 353) (z := (30 : Int32)) (vs := [(.int (112 : Int32)), (.int (114 : Int32)), (.int (105 : Int32)), (.int (99 : Int32)), (.int (101 : Int32)), (.int (80 : Int32)), (.int (101 : Int32)), (.int (114 : Int32)), (.int (80 : Int32)), (.int (101 : Int32)), (.int (114 : Int32)), (.int (105 : Int32)), (.int (111 : Int32)), (.int (100 : Int32)), (.int (32 : Int32)), (.int (47 : Int32)), (.int (32 : Int32)), (.int (112 : Int32)), (.int (101 : Int32)), (.int (114 : Int32)), (.int (105 : Int32)), (.int (111 : Int32)), (.int (100 : Int32)), (.int (83 : Int32)), (.int (101 : Int32)), (.int (99 : Int32)), (.int (111 : Int32)), (.int (110 : Int32)), (.int (100 : Int32)), (.int (115 : Int32))]) C92 X103 (ew hw) Hd104 (wd173 hw) (wS hw) (List.mem_of_getElem? (i := 5) rfl) ⟨by decide +kernel, by first | rfl | decide +kernel⟩ (by decide) rfl d2_78 rfl (by decide +kernel) (by decide) rfl rfl (by decide) (by decide) (fun vm106 T106 h106 a106 b106 k106 C106 X106 Hd106 E106 R106 A106 F106a F106b V106 sf106 => ?_)
  have f107 := ((f93.ext E92).other W103 (Ne.symm nb33_vt))
  have f108 := (Safe.wr W103 (Safe.exa (EL := consts_1) C92.2.1.alike f96 (by decide) (by decide)) Hd92.cv (CHr.safe R92 f93.lt f94))
  have K109 : Keep h0 h106 [vt] := K105.ext E106
  have f110 := ((f96.wr W103).ext E106)
  have sn111 := sf106 vt (Safe.exa (EL := consts_1) C106.2.1.alike f110 (by decide) (by decide))
  have f112 := ((f98.wr W103).ext E106)
  have sn113 := sf106 a13 (Safe.exa (EL := consts_1) C106.2.1.alike f112 (by decide) (by decide))
  have sn114 := sf106 tb33 (CHr.safe R106 f107.lt f108)
  refine OGo.dload (pc' := 82) C106 X106 d2_80 rfl rfl ?_
  refine OGo.dload (pc' := 84) C106 X106 d2_82 rfl rfl ?_
  refine OGo.ddiv (pc' := 85) (v := (FP.dconst1)) C106 X106 d2_84 rfl (by unfold NoNaN64; decide +kernel) (by decide +kernel) ?_
  refine OGo.callS (pc' := 88) (cells' := 16) (slots' := 353) (argsL := [(.ref b61), (.ref a106), (.double (FP.dconst1))]) (St := []) C106 X106 (wd162 hw) (wd163 hw) (by decide) (wd164 hw) (wd149 hw) (ctZo1 hw X106.2.1 b61 a106) (lenOf pd20 rfl) rfl d2_85 rfl rfl (by decide) (Nat.le_of_ble_eq_true rfl) rfl rfl (by decide) (by decide) (fun v115 T115 h115 Q115 X115 z115 => ?_)
  obtain ⟨hv115, hh115⟩ := Q115
  subst hv115; rw [hh115] at X115
  show OGo p e below _ T115 (mkF m 88 #[.val (.ref vt), .val (.ref sr), .val (.double (FP.dconst1)), .second, .val (.double (FP.dconst1)), .second, .val (.double (FP.dconst1)), .second, .val (.double (FP.dconst0)), .second, .val (.int (1 : Int32)), .val (.double (FP.dconst0)), .second, .val (.ref b61)] [(.double (FP.dconst1))])
  refine OGo.pop2W (pc' := 89) C106 X115 d2_88 rfl rfl ?_
  refine OGo.aloadN (pc' := 90) C106 X115 d2_89 rfl rfl rfl ?_
  refine OGo.aload (pc' := 92) C106 X115 d2_90 rfl rfl rfl ?_
  refine OGo.ldcC (pc' := 94) (n := 44) (cells' := 18) (slots' := 401) (z := (11 : Int32)) (vs := [(.int (98 : Int32)), (.int (111 : Int32)), (.int (111 : Int32)), (.int (116 : Int32)), (.int (83 : Int32)), (.int (101 : Int32)), (.int (99 : Int32)), (.int (111 : Int32)), (.int (110 : Int32)), (.int (100 : Int32)), (.int (115 : Int32))]) C106 X115 (ew hw) Hd106 (wd174 hw) (wS hw) (List.mem_of_getElem? (i := 6) rfl) ⟨by decide +kernel, by first | rfl | decide +kernel⟩ (by decide) rfl d2_92 rfl (by decide +kernel) (by decide) rfl rfl (by decide) (by decide) (fun vm116 T116 h116 a116 b116 k116 C116 X116 Hd116 E116 R116 A116 F116a F116b V116 sf116 => ?_)
  have f117 := (f107.ext E106)
  have K118 : Keep h0 h116 [vt] := K109.ext E116
  have f119 := (f110.ext E116)
  have sn120 := sf116 vt (Safe.exa (EL := consts_1) C116.2.1.alike f119 (by decide) (by decide))
  have f121 := (f112.ext E116)
  have sn122 := sf116 a13 (Safe.exa (EL := consts_1) C116.2.1.alike f121 (by decide) (by decide))
  have sn123 := sf116 tb33 (CHr.safe R116 f117.lt (CHr.safe R106 f107.lt f108))
  refine OGo.dload (pc' := 96) C116 X116 d2_94 rfl rfl ?_
  refine OGo.callS (pc' := 99) (cells' := 18) (slots' := 401) (argsL := [(.ref b61), (.ref a116), (.double (FP.dconst0))]) (St := [(.ref vt)]) C116 X116 (wd162 hw) (wd163 hw) (by decide) (wd164 hw) (wd149 hw) (ctZo0 hw X116.2.1 b61 a116) (lenOf pd20 rfl) rfl d2_96 rfl rfl (by decide) (Nat.le_of_ble_eq_true rfl) rfl rfl (by decide) (by decide) (fun v124 T124 h124 Q124 X124 z124 => ?_)
  obtain ⟨hv124, hh124⟩ := Q124
  subst hv124; rw [hh124] at X124
  show OGo p e below _ T124 (mkF m 99 #[.val (.ref vt), .val (.ref sr), .val (.double (FP.dconst1)), .second, .val (.double (FP.dconst1)), .second, .val (.double (FP.dconst1)), .second, .val (.double (FP.dconst0)), .second, .val (.int (1 : Int32)), .val (.double (FP.dconst0)), .second, .val (.ref b61)] [(.double (FP.dconst0)), (.ref vt)])
  have f125 := ((((((((((((((((F_bootSeconds.ext E2).other W10 (Or.inr (slot_ne (Or.inr (wd176 hw)) (Or.inr (wd30 hw)) (by decide) (t := .double) (t' := (.object "java/lang/String")) (by decide) (by decide)))).ext E13).keep K33 (ninS ne14 nin0)).ext E36).keep K48 (ninS ne14 (ninS nb33_vt nin0))).keep K56 (ninS ne14 (ninS nb33_vt nin0))).keep K61 nin0).ext E64).other W75 (Or.inr (slot_ne (Or.inr (wd176 hw)) (Or.inr (wd160 hw)) (by decide) (t := .double) (t' := .double) (by decide) (by decide)))).ext E78).other W89 (Or.inr (slot_ne (Or.inr (wd176 hw)) (Or.inr (wd169 hw)) (by decide) (t := .double) (t' := .double) (by decide) (by decide)))).ext E92).other W103 (Or.inr (slot_ne (Or.inr (wd176 hw)) (Or.inr (wd172 hw)) (by decide) (t := .double) (t' := .double) (by decide) (by decide)))).ext E106).ext E116)
  refine OGo.putfield (pc' := 102) C116 X124 (host := "") (Or.inl (wd175 hw)) Via.refl f125 f119 gv (Or.inr ⟨(wd176 hw), rfl, hnm⟩) (wd3 hw) (ty := .double) (by decide) rfl rfl d2_99 rfl (fun T126 h126 X126 W126 F126 => ?_)
  have Hd127 := Hd116.wr W126 (Safe.exa (EL := consts_1) C116.2.1.alike f119 (by decide) (by decide))
  have K128 : Keep h0 h126 [vt] := K118.wr W126 (Or.inl (List.mem_of_getElem? (i := 0) rfl))
  refine OGo.aloadN (pc' := 103) C116 X126 d2_102 rfl rfl rfl ?_
  refine OGo.iload (pc' := 105) C116 X126 d2_103 rfl rfl ?_
  have f129 := (((((((((((((((((F_bootBilled.ext E2).other W10 (Or.inr (slot_ne (Or.inr (wd178 hw)) (Or.inr (wd30 hw)) (by decide) (t := .boolean) (t' := (.object "java/lang/String")) (by decide) (by decide)))).ext E13).keep K33 (ninS ne14 nin0)).ext E36).keep K48 (ninS ne14 (ninS nb33_vt nin0))).keep K56 (ninS ne14 (ninS nb33_vt nin0))).keep K61 nin0).ext E64).other W75 (Or.inr (slot_ne (Or.inr (wd178 hw)) (Or.inr (wd160 hw)) (by decide) (t := .boolean) (t' := .double) (by decide) (by decide)))).ext E78).other W89 (Or.inr (slot_ne (Or.inr (wd178 hw)) (Or.inr (wd169 hw)) (by decide) (t := .boolean) (t' := .double) (by decide) (by decide)))).ext E92).other W103 (Or.inr (slot_ne (Or.inr (wd178 hw)) (Or.inr (wd172 hw)) (by decide) (t := .boolean) (t' := .double) (by decide) (by decide)))).ext E106).ext E116).other W126 (Or.inr (slot_ne (Or.inr (wd178 hw)) (Or.inr (wd176 hw)) (by decide) (t := .boolean) (t' := .double) (by decide) (by decide))))
  have f130 := (f119.wr W126)
  refine OGo.putfield (pc' := 108) C116 X126 (host := "") (Or.inl (wd177 hw)) Via.refl f129 f130 gv (Or.inr ⟨(wd178 hw), rfl, hnm⟩) (wd3 hw) (ty := .boolean) (by decide) rfl rfl d2_105 rfl (fun T131 h131 X131 W131 F131 => ?_)
  have Hd132 := Hd127.wr W131 (Safe.exa (EL := consts_1) C116.2.1.alike f130 (by decide) (by decide))
  have K133 : Keep h0 h131 [vt] := K128.wr W131 (Or.inl (List.mem_of_getElem? (i := 0) rfl))
  refine OGo.aloadN (pc' := 109) C116 X131 d2_108 rfl rfl rfl ?_
  refine OGo.aload (pc' := 111) C116 X131 d2_109 rfl rfl rfl ?_
  refine OGo.ldcC (pc' := 113) (n := 40) (cells' := 20) (slots' := 445) (z := (10 : Int32)) (vs := [(.int (115 : Int32)), (.int (116 : Int32)), (.int (97 : Int32)), (.int (114 : Int32)), (.int (116 : Int32)), (.int (117 : Int32)), (.int (112 : Int32)), (.int (70 : Int32)), (.int (101 : Int32)), (.int (101 : Int32))]) C116 X131 (ew hw) Hd132 (wd179 hw) (wS hw) (List.mem_of_getElem? (i := 7) rfl) ⟨by decide +kernel, by first | rfl | decide +kernel⟩ (by decide) rfl d2_111 rfl (by decide +kernel) (by decide) rfl rfl (by decide) (by decide) (fun vm134 T134 h134 a134 b134 k134 C134 X134 Hd134 E134 R134 A134 F134a F134b V134 sf134 => ?_)
  have f135 := (((f117.ext E116).other W126 (Ne.symm nb33_vt)).other W131 (Ne.symm nb33_vt))
  have f136 := (Safe.wr W131 (Safe.exa (EL := consts_1) C116.2.1.alike f130 (by decide) (by decide)) Hd127.cv (Safe.wr W126 (Safe.exa (EL := consts_1) C116.2.1.alike f119 (by decide) (by decide)) Hd116.cv (CHr.safe R116 f117.lt (CHr.safe R106 f107.lt f108))))
  have K137 : Keep h0 h134 [vt] := K133.ext E134
  have f138 := ((f130.wr W131).ext E134)
  have sn139 := sf134 vt (Safe.exa (EL := consts_1) C134.2.1.alike f138 (by decide) (by decide))
  have f140 := (((f121.wr W126).wr W131).ext E134)
  have sn141 := sf134 a13 (Safe.exa (EL := consts_1) C134.2.1.alike f140 (by decide) (by decide))
  have sn142 := sf134 tb33 (CHr.safe R134 f135.lt f136)
  refine OGo.dload (pc' := 115) C134 X134 d2_113 rfl rfl ?_
  refine OGo.callS (pc' := 118) (cells' := 20) (slots' := 445) (argsL := [(.ref b61), (.ref a134), (.double (FP.dconst0))]) (St := [(.ref vt)]) C134 X134 (wd162 hw) (wd163 hw) (by decide) (wd164 hw) (wd149 hw) (ctZo0 hw X134.2.1 b61 a134) (lenOf pd20 rfl) rfl d2_115 rfl rfl (by decide) (Nat.le_of_ble_eq_true rfl) rfl rfl (by decide) (by decide) (fun v143 T143 h143 Q143 X143 z143 => ?_)
  obtain ⟨hv143, hh143⟩ := Q143
  subst hv143; rw [hh143] at X143
  show OGo p e below _ T143 (mkF m 118 #[.val (.ref vt), .val (.ref sr), .val (.double (FP.dconst1)), .second, .val (.double (FP.dconst1)), .second, .val (.double (FP.dconst1)), .second, .val (.double (FP.dconst0)), .second, .val (.int (1 : Int32)), .val (.double (FP.dconst0)), .second, .val (.ref b61)] [(.double (FP.dconst0)), (.ref vt)])
  have f144 := (((((((((((((((((((F_startupFee.ext E2).other W10 (Or.inr (slot_ne (Or.inr (wd181 hw)) (Or.inr (wd30 hw)) (by decide) (t := .double) (t' := (.object "java/lang/String")) (by decide) (by decide)))).ext E13).keep K33 (ninS ne14 nin0)).ext E36).keep K48 (ninS ne14 (ninS nb33_vt nin0))).keep K56 (ninS ne14 (ninS nb33_vt nin0))).keep K61 nin0).ext E64).other W75 (Or.inr (slot_ne (Or.inr (wd181 hw)) (Or.inr (wd160 hw)) (by decide) (t := .double) (t' := .double) (by decide) (by decide)))).ext E78).other W89 (Or.inr (slot_ne (Or.inr (wd181 hw)) (Or.inr (wd169 hw)) (by decide) (t := .double) (t' := .double) (by decide) (by decide)))).ext E92).other W103 (Or.inr (slot_ne (Or.inr (wd181 hw)) (Or.inr (wd172 hw)) (by decide) (t := .double) (t' := .double) (by decide) (by decide)))).ext E106).ext E116).other W126 (Or.inr (slot_ne (Or.inr (wd181 hw)) (Or.inr (wd176 hw)) (by decide) (t := .double) (t' := .double) (by decide) (by decide)))).other W131 (Or.inr (slot_ne (Or.inr (wd181 hw)) (Or.inr (wd178 hw)) (by decide) (t := .double) (t' := .boolean) (by decide) (by decide)))).ext E134)
  refine OGo.putfield (pc' := 121) C134 X143 (host := "") (Or.inl (wd180 hw)) Via.refl f144 f138 gv (Or.inr ⟨(wd181 hw), rfl, hnm⟩) (wd3 hw) (ty := .double) (by decide) rfl rfl d2_118 rfl (fun T145 h145 X145 W145 F145 => ?_)
  have Hd146 := Hd134.wr W145 (Safe.exa (EL := consts_1) C134.2.1.alike f138 (by decide) (by decide))
  have K147 : Keep h0 h145 [vt] := K137.wr W145 (Or.inl (List.mem_of_getElem? (i := 0) rfl))
  have f148 := (f138.wr W145)
  have f149 := (((F126.other W131 (Or.inr (slot_ne (Or.inr (wd176 hw)) (Or.inr (wd178 hw)) (by decide) (t := .double) (t' := .boolean) (by decide) (by decide)))).ext E134).other W145 (Or.inr (slot_ne (Or.inr (wd176 hw)) (Or.inr (wd181 hw)) (by decide) (t := .double) (t' := .double) (by decide) (by decide))))
  exact OGo.retW C134 X145 (ew hw) Hd146 d2_121 hret hlk (fun _ _ => ⟨rfl, K147, f148, f149⟩) (by decide) (by decide)
theorem ef1 (m : MethodId) (x0 : Addr) (x1 : Addr) (x2 : UInt64) (x3 : UInt64) (x4 : UInt64) : entryFrame m #[(.ref x0), (.ref x1), (.double x2), (.double x3), (.double x4)] 8 = mkF m 0 #[.val (.ref x0), .val (.ref x1), .val (.double x2), .second, .val (.double x3), .second, .val (.double x4), .second] [] := by first | (simp [entryFrame, mkF, argsToLocals, Value.category]; done) | rfl
set_option maxRecDepth 65536 in
set_option maxHeartbeats 40000000 in
theorem ctV4 {l : Launch} {Z : State} {a0 : Array Value} (hw : HW a0 Z) {n0 : Nat} {h0 : Heap} (hn0 : n0 ≤ h0.size) (vt sr ru : Addr) (kr : ClassId) (cz : Int32) (Ev : Exa Z h0 vt "com/example/makespan/makespan/model/VmType") (F_name : Fld Z h0 vt "com/example/makespan/makespan/model/VmType" "name" "Ljava/lang/String;" .null) (F_speed : Fld Z h0 vt "com/example/makespan/makespan/model/VmType" "speed" "D" (.double (0 : UInt64))) (F_pricePerPeriod : Fld Z h0 vt "com/example/makespan/makespan/model/VmType" "pricePerPeriod" "D" (.double (0 : UInt64))) (F_periodSeconds : Fld Z h0 vt "com/example/makespan/makespan/model/VmType" "periodSeconds" "D" (.double (0 : UInt64))) (F_bootSeconds : Fld Z h0 vt "com/example/makespan/makespan/model/VmType" "bootSeconds" "D" (.double (0 : UInt64))) (F_bootBilled : Fld Z h0 vt "com/example/makespan/makespan/model/VmType" "bootBilled" "Z" (.int (0 : Int32))) (F_startupFee : Fld Z h0 vt "com/example/makespan/makespan/model/VmType" "startupFee" "D" (.double (0 : UInt64))) (gv : n0 ≤ vt) (Er : Exa Z h0 sr "java/lang/String") (Rv : Fld Z h0 sr "java/lang/String" "value" "[B" (.ref ru)) (Rc : Fld Z h0 sr "java/lang/String" "coder" "B" (.int (0 : Int32))) (Vr : Arv Z h0 ru kr .byte (1 : Int32) [(.int (116 : Int32))] (.int (0 : Int32))) (OD : Old Z n0 h0) (S2 : Sta Z Z.heap "java/lang/String" "COMPACT_STRINGS" "Z" (.int cz)) (hcz : ¬ cz = 0) :
    CtrW l Z consts_1 [] (⟨"com/example/makespan/makespan/model/VmType", "<init>", "(Ljava/lang/String;DDD)V"⟩ : MethodName) prog_51_method_1_code 8 none ({ frames := 7, cells := 30, slots := 700, locals := 160 } : Room) n0 #[(.ref vt), (.ref sr), (.double (FP.dconst1)), (.double (FP.dconst1)), (.double (FP.dconst1))] h0 (fun v h sfe => v = none ∧ Keep h0 h [vt] ∧ Exa Z h vt "com/example/makespan/makespan/model/VmType" ∧ Fld Z h vt "com/example/makespan/makespan/model/VmType" "bootSeconds" "D" (.double (FP.dconst0))) := by
  refine CtrW.of (plainFor_of_name pn2) hn0 ?_
  intro p e s m below meth c T0 C hnm hret hlk X0 H0 hSf
  rw [ef1 m vt sr (FP.dconst1) (FP.dconst1) (FP.dconst1)]
  refine OGo.aloadN (pc' := 1) C X0 d1_0 rfl rfl rfl ?_
  refine OGo.aloadN (pc' := 2) C X0 d1_1 rfl rfl rfl ?_
  refine OGo.dloadN (pc' := 3) C X0 d1_2 rfl rfl ?_
  refine OGo.dload (pc' := 5) C X0 d1_3 rfl rfl ?_
  refine OGo.dload (pc' := 7) C X0 d1_5 rfl rfl ?_
  refine OGo.dconst0 (pc' := 8) (v := (FP.dconst0)) C X0 d1_7 rfl rfl ?_
  refine OGo.iconst (pc' := 9) (z := (1 : Int32)) C X0 d1_8 rfl (by decide) ?_
  refine OGo.dconst0 (pc' := 10) (v := (FP.dconst0)) C X0 d1_9 rfl rfl ?_
  refine OGo.callWInit (pc' := 13) (cells' := 30) (slots' := 700) (argsL := [(.ref sr), (.double (FP.dconst1)), (.double (FP.dconst1)), (.double (FP.dconst1)), (.double (FP.dconst0)), (.int (1 : Int32)), (.double (FP.dconst0))]) (St := []) C X0 (ew hw) H0 rfl rfl (wd16 hw) (wd17 hw) (by decide) (wd18 hw) (wd4 hw) (ctV7 hw X0.2.1 vt sr ru kr cz Ev F_name F_speed F_pricePerPeriod F_periodSeconds F_bootSeconds F_bootBilled F_startupFee gv Er Rv Rc Vr OD S2 hcz) (fun _ hx => by cases hx) (lenOf pd21 rfl) rfl d1_10 rfl rfl (by decide) (Nat.le_of_ble_eq_true rfl) rfl rfl (by decide) (by decide) (fun v1 vm1 T1 h1 Q1 C1 X1 Hd1 R1 => ?_)
  obtain ⟨hv1, K1, Ev1, Fb1⟩ := Q1
  subst hv1
  have K2 : Keep h0 h1 [vt] := (Keep.refl h0 [vt]).trans K1 (allS (Or.inl (List.mem_of_getElem? (i := 0) rfl)) all0)
  show OGo p e below _ T1 (mkF m 13 #[.val (.ref vt), .val (.ref sr), .val (.double (FP.dconst1)), .second, .val (.double (FP.dconst1)), .second, .val (.double (FP.dconst1)), .second] [])
  exact OGo.retW C1 X1 (ew hw) Hd1 d1_13 hret hlk (fun _ _ => ⟨rfl, K2, Ev1, Fb1⟩) (by decide) (by decide)
theorem ef32 (m : MethodId) (x0 : Addr) : entryFrame m #[(.ref x0)] 1 = mkF m 0 #[.val (.ref x0)] [] := by first | (simp [entryFrame, mkF, argsToLocals, Value.category]; done) | rfl
set_option maxRecDepth 65536 in
set_option maxHeartbeats 40000000 in
theorem ctBoot {l : Launch} {Z : State} {a0 : Array Value} (hw : HW a0 Z) {n0 : Nat} {h0 : Heap} (hn0 : n0 ≤ h0.size) (vt : Addr) (Fb : Fld Z h0 vt "com/example/makespan/makespan/model/VmType" "bootSeconds" "D" (.double (FP.dconst0))) :
    Ctr l Z (⟨"com/example/makespan/makespan/model/VmType", "getBootSeconds", "()D"⟩ : MethodName) prog_51_method_7_code 1 (some .double) ({ frames := 0, cells := 0, slots := 0, locals := 0 } : Room) n0 #[(.ref vt)] h0 (fun v h => v = some (.double (FP.dconst0)) ∧ h = h0) := by
  refine Ctr.of (plainFor_of_name pn2) hn0 ?_
  intro p e s m below meth c T0 C hnm hret hlk X0
  rw [ef32 m vt]
  refine OGo.aloadN (pc' := 1) C X0 d32_0 rfl rfl rfl ?_
  refine OGo.getfield (pc' := 4) C X0 (host := "") (Or.inl (wd175 hw)) Via.refl Fb d32_1 rfl (fun T1 X1 => ?_)
  exact OGo.retD C X1 d32_4 hret hlk (⟨rfl, rfl⟩) (by decide) (by decide)
theorem ef31 (m : MethodId) (x0 : Addr) (x1 : Addr) (x2 : Addr) (x3 : Int32) (x4 : UInt64) (x5 : UInt64) (x6 : Addr) : entryFrame m #[(.ref x0), (.ref x1), (.ref x2), (.int x3), (.double x4), (.double x5), (.ref x6)] 11 = mkF m 0 #[.val (.ref x0), .val (.ref x1), .val (.ref x2), .val (.int x3), .val (.double x4), .second, .val (.double x5), .second, .val (.ref x6), .unset, .unset] [] := by first | (simp [entryFrame, mkF, argsToLocals, Value.category]; done) | rfl
set_option maxRecDepth 65536 in
set_option maxHeartbeats 40000000 in
theorem ctTk00R {l : Launch} {Z : State} {a0 : Array Value} (hw : HW a0 Z) {n0 : Nat} {h0 : Heap} (hn0 : n0 ≤ h0.size) (tk vt fe bl : Addr) (kf : ClassId) (Et : Exa Z h0 tk "com/example/makespan/makespan/planning/TaskOnType") (F_type : Fld Z h0 tk "com/example/makespan/makespan/planning/TaskOnType" "type" "Lcom/example/makespan/makespan/model/VmType;" .null) (F_billing : Fld Z h0 tk "com/example/makespan/makespan/planning/TaskOnType" "billing" "Lcom/example/makespan/makespan/model/Billing;" .null) (F_input : Fld Z h0 tk "com/example/makespan/makespan/planning/TaskOnType" "input" "I" (.int (0 : Int32))) (F_arrival : Fld Z h0 tk "com/example/makespan/makespan/planning/TaskOnType" "arrival" "D" (.double (0 : UInt64))) (F_ready : Fld Z h0 tk "com/example/makespan/makespan/planning/TaskOnType" "ready" "D" (.double (0 : UInt64))) (F_seconds : Fld Z h0 tk "com/example/makespan/makespan/planning/TaskOnType" "seconds" "D" (.double (0 : UInt64))) (F_fees : Fld Z h0 tk "com/example/makespan/makespan/planning/TaskOnType" "fees" "[D" .null) (F_feesAllZero : Fld Z h0 tk "com/example/makespan/makespan/planning/TaskOnType" "feesAllZero" "Z" (.int (0 : Int32))) (gt : n0 ≤ tk) (Ev : Exa Z h0 vt "com/example/makespan/makespan/model/VmType") (Fb : Fld Z h0 vt "com/example/makespan/makespan/model/VmType" "bootSeconds" "D" (.double (FP.dconst0))) (Vf : Arv Z h0 fe kf .double (0 : Int32) [] (.double (0 : UInt64))) :
    Ctr l Z (⟨"com/example/makespan/makespan/planning/TaskOnType", "<init>", "(Lcom/example/makespan/makespan/model/VmType;Lcom/example/makespan/makespan/model/Billing;IDD[D)V"⟩ : MethodName) prog_105_method_1_code 11 none ({ frames := 1, cells := 0, slots := 0, locals := 30 } : Room) n0 #[(.ref tk), (.ref vt), (.ref bl), (.int (0 : Int32)), (.double (FP.dconst0)), (.double (FP.dconst0)), (.ref fe)] h0 (fun v h => v = none ∧ Keep h0 h [tk] ∧ Exa Z h tk "com/example/makespan/makespan/planning/TaskOnType" ∧ Fld Z h tk "com/example/makespan/makespan/planning/TaskOnType" "fees" "[D" (.ref fe) ∧ Fld Z h tk "com/example/makespan/makespan/planning/TaskOnType" "feesAllZero" "Z" (.int (1 : Int32))) := by
  refine Ctr.of (plainFor_of_name pn4) hn0 ?_
  intro p e s m below meth c T0 C hnm hret hlk X0
  rw [ef31 m tk vt bl (0 : Int32) (FP.dconst0) (FP.dconst0) fe]
  refine OGo.aloadN (pc' := 1) C X0 d31_0 rfl rfl rfl ?_
  refine OGo.initObj (pc' := 4) C X0 (wd191 hw) (wd20 hw) (wd21 hw) d31_1 rfl rfl (by decide) (Nat.le_of_ble_eq_true rfl) (fun T1 X1 => ?_)
  refine OGo.aloadN (pc' := 5) C X1 d31_4 rfl rfl rfl ?_
  refine OGo.aloadN (pc' := 6) C X1 d31_5 rfl rfl rfl ?_
  refine OGo.putfield (pc' := 9) C X1 (host := "") (Or.inl (wd192 hw)) Via.refl F_type Et gt (Or.inr ⟨(wd193 hw), rfl, hnm⟩) (wd183 hw) (ty := (.object "com/example/makespan/makespan/model/VmType")) (by decide) rfl rfl d31_6 rfl (fun T2 h2 X2 W2 F2 => ?_)
  have K3 : Keep h0 h2 [tk] := (Keep.refl h0 [tk]).wr W2 (Or.inl (List.mem_of_getElem? (i := 0) rfl))
  refine OGo.aloadN (pc' := 10) C X2 d31_9 rfl rfl rfl ?_
  refine OGo.aloadN (pc' := 11) C X2 d31_10 rfl rfl rfl ?_
  have f4 := (F_billing.other W2 (Or.inr (slot_ne (Or.inr (wd195 hw)) (Or.inr (wd193 hw)) (by decide) (t := (.object "com/example/makespan/makespan/model/Billing")) (t' := (.object "com/example/makespan/makespan/model/VmType")) (by decide) (by decide))))
  have f5 := (Et.wr W2)
  refine OGo.putfield (pc' := 14) C X2 (host := "") (Or.inl (wd194 hw)) Via.refl f4 f5 gt (Or.inr ⟨(wd195 hw), rfl, hnm⟩) (wd183 hw) (ty := (.object "com/example/makespan/makespan/model/Billing")) (by decide) rfl rfl d31_11 rfl (fun T6 h6 X6 W6 F6 => ?_)
  have K7 : Keep h0 h6 [tk] := K3.wr W6 (Or.inl (List.mem_of_getElem? (i := 0) rfl))
  refine OGo.aloadN (pc' := 15) C X6 d31_14 rfl rfl rfl ?_
  refine OGo.iloadN (pc' := 16) C X6 d31_15 rfl rfl ?_
  have f8 := ((F_input.other W2 (Or.inr (slot_ne (Or.inr (wd197 hw)) (Or.inr (wd193 hw)) (by decide) (t := .int) (t' := (.object "com/example/makespan/makespan/model/VmType")) (by decide) (by decide)))).other W6 (Or.inr (slot_ne (Or.inr (wd197 hw)) (Or.inr (wd195 hw)) (by decide) (t := .int) (t' := (.object "com/example/makespan/makespan/model/Billing")) (by decide) (by decide))))
  have f9 := (f5.wr W6)
  refine OGo.putfield (pc' := 19) C X6 (host := "") (Or.inl (wd196 hw)) Via.refl f8 f9 gt (Or.inr ⟨(wd197 hw), rfl, hnm⟩) (wd183 hw) (ty := .int) (by decide) rfl rfl d31_16 rfl (fun T10 h10 X10 W10 F10 => ?_)
  have K11 : Keep h0 h10 [tk] := K7.wr W10 (Or.inl (List.mem_of_getElem? (i := 0) rfl))
  refine OGo.aloadN (pc' := 20) C X10 d31_19 rfl rfl rfl ?_
  refine OGo.dload (pc' := 22) C X10 d31_20 rfl rfl ?_
  have f12 := (((F_arrival.other W2 (Or.inr (slot_ne (Or.inr (wd199 hw)) (Or.inr (wd193 hw)) (by decide) (t := .double) (t' := (.object "com/example/makespan/makespan/model/VmType")) (by decide) (by decide)))).other W6 (Or.inr (slot_ne (Or.inr (wd199 hw)) (Or.inr (wd195 hw)) (by decide) (t := .double) (t' := (.object "com/example/makespan/makespan/model/Billing")) (by decide) (by decide)))).other W10 (Or.inr (slot_ne (Or.inr (wd199 hw)) (Or.inr (wd197 hw)) (by decide) (t := .double) (t' := .int) (by decide) (by decide))))
  have f13 := (f9.wr W10)
  refine OGo.putfield (pc' := 25) C X10 (host := "") (Or.inl (wd198 hw)) Via.refl f12 f13 gt (Or.inr ⟨(wd199 hw), rfl, hnm⟩) (wd183 hw) (ty := .double) (by decide) rfl rfl d31_22 rfl (fun T14 h14 X14 W14 F14 => ?_)
  have K15 : Keep h0 h14 [tk] := K11.wr W14 (Or.inl (List.mem_of_getElem? (i := 0) rfl))
  refine OGo.aloadN (pc' := 26) C X14 d31_25 rfl rfl rfl ?_
  refine OGo.aloadN (pc' := 27) C X14 d31_26 rfl rfl rfl ?_
  have f16 := ((((Fb.other W2 (Or.inl (Ne.symm (Exa.ne Et Ev (by decide))))).other W6 (Or.inl (Ne.symm (Exa.ne Et Ev (by decide))))).other W10 (Or.inl (Ne.symm (Exa.ne Et Ev (by decide))))).other W14 (Or.inl (Ne.symm (Exa.ne Et Ev (by decide)))))
  have f18 := ((((Ev.wr W2).wr W6).wr W10).wr W14)
  refine OGo.callV (pc' := 30) (cells' := 0) (slots' := 0) (argsL := []) (St := [(.ref tk)]) C X14 (wd200 hw) (wd201 hw) (wd203 hw) (wd202 hw) (by decide) f18 (wd204 hw) (wd4 hw) (ctBoot hw X14.2.1 vt f16) (lenOf pd22 rfl) rfl d31_27 rfl rfl (by decide) (Nat.le_of_ble_eq_true rfl) rfl rfl (by decide) (by decide) (fun v17 T17 h17 Q17 X17 z17 => ?_)
  obtain ⟨hv17, hh17⟩ := Q17
  subst hv17; rw [hh17] at X17
  show OGo p e below _ T17 (mkF m 30 #[.val (.ref tk), .val (.ref vt), .val (.ref bl), .val (.int (0 : Int32)), .val (.double (FP.dconst0)), .second, .val (.double (FP.dconst0)), .second, .val (.ref fe), .unset, .unset] [(.double (FP.dconst0)), (.ref tk)])
  refine OGo.dload (pc' := 32) C X17 d31_30 rfl rfl ?_
  refine OGo.natS (pc' := 35) (argsL := [(.double (FP.dconst0)), (.double (FP.dconst0))]) (St := [(.ref tk)]) (val := .double (Native.java_lang_Math.nans.pick64 true (FP.dconst0) (FP.dconst0))) C X17 (wd205 hw) (wd206 hw) (wd143 hw) (wd207 hw) (by decide) (lenOf pd23 rfl) d31_32 rfl rfl (by decide) (by decide) (fun hq => Jvm.Free.Fl.Abs.maxD_pays (FP.dconst0) (FP.dconst0) hq (by decide) (Nat.le_of_ble_eq_true rfl)) (⟨rfl, by unfold NoNaN64; decide +kernel, by unfold NoNaN64; decide +kernel⟩) (fun T19 X19 => ?_)
  rw [show Native.java_lang_Math.nans.pick64 true (FP.dconst0) (FP.dconst0) = FP.dconst0 from by decide +kernel]
  have f20 := ((((F_ready.other W2 (Or.inr (slot_ne (Or.inr (wd209 hw)) (Or.inr (wd193 hw)) (by decide) (t := .double) (t' := (.object "com/example/makespan/makespan/model/VmType")) (by decide) (by decide)))).other W6 (Or.inr (slot_ne (Or.inr (wd209 hw)) (Or.inr (wd195 hw)) (by decide) (t := .double) (t' := (.object "com/example/makespan/makespan/model/Billing")) (by decide) (by decide)))).other W10 (Or.inr (slot_ne (Or.inr (wd209 hw)) (Or.inr (wd197 hw)) (by decide) (t := .double) (t' := .int) (by decide) (by decide)))).other W14 (Or.inr (slot_ne (Or.inr (wd209 hw)) (Or.inr (wd199 hw)) (by decide) (t := .double) (t' := .double) (by decide) (by decide))))
  have f21 := (f13.wr W14)
  refine OGo.putfield (pc' := 38) C X19 (host := "") (Or.inl (wd208 hw)) Via.refl f20 f21 gt (Or.inr ⟨(wd209 hw), rfl, hnm⟩) (wd183 hw) (ty := .double) (by decide) rfl rfl d31_35 rfl (fun T22 h22 X22 W22 F22 => ?_)
  have K23 : Keep h0 h22 [tk] := K15.wr W22 (Or.inl (List.mem_of_getElem? (i := 0) rfl))
  refine OGo.aloadN (pc' := 39) C X22 d31_38 rfl rfl rfl ?_
  refine OGo.dload (pc' := 41) C X22 d31_39 rfl rfl ?_
  have f24 := (((((F_seconds.other W2 (Or.inr (slot_ne (Or.inr (wd211 hw)) (Or.inr (wd193 hw)) (by decide) (t := .double) (t' := (.object "com/example/makespan/makespan/model/VmType")) (by decide) (by decide)))).other W6 (Or.inr (slot_ne (Or.inr (wd211 hw)) (Or.inr (wd195 hw)) (by decide) (t := .double) (t' := (.object "com/example/makespan/makespan/model/Billing")) (by decide) (by decide)))).other W10 (Or.inr (slot_ne (Or.inr (wd211 hw)) (Or.inr (wd197 hw)) (by decide) (t := .double) (t' := .int) (by decide) (by decide)))).other W14 (Or.inr (slot_ne (Or.inr (wd211 hw)) (Or.inr (wd199 hw)) (by decide) (t := .double) (t' := .double) (by decide) (by decide)))).other W22 (Or.inr (slot_ne (Or.inr (wd211 hw)) (Or.inr (wd209 hw)) (by decide) (t := .double) (t' := .double) (by decide) (by decide))))
  have f25 := (f21.wr W22)
  refine OGo.putfield (pc' := 44) C X22 (host := "") (Or.inl (wd210 hw)) Via.refl f24 f25 gt (Or.inr ⟨(wd211 hw), rfl, hnm⟩) (wd183 hw) (ty := .double) (by decide) rfl rfl d31_41 rfl (fun T26 h26 X26 W26 F26 => ?_)
  have K27 : Keep h0 h26 [tk] := K23.wr W26 (Or.inl (List.mem_of_getElem? (i := 0) rfl))
  refine OGo.aloadN (pc' := 45) C X26 d31_44 rfl rfl rfl ?_
  refine OGo.aload (pc' := 47) C X26 d31_45 rfl rfl rfl ?_
  have f28 := ((((((F_fees.other W2 (Or.inr (slot_ne (Or.inr (wd213 hw)) (Or.inr (wd193 hw)) (by decide) (t := (.array .double)) (t' := (.object "com/example/makespan/makespan/model/VmType")) (by decide) (by decide)))).other W6 (Or.inr (slot_ne (Or.inr (wd213 hw)) (Or.inr (wd195 hw)) (by decide) (t := (.array .double)) (t' := (.object "com/example/makespan/makespan/model/Billing")) (by decide) (by decide)))).other W10 (Or.inr (slot_ne (Or.inr (wd213 hw)) (Or.inr (wd197 hw)) (by decide) (t := (.array .double)) (t' := .int) (by decide) (by decide)))).other W14 (Or.inr (slot_ne (Or.inr (wd213 hw)) (Or.inr (wd199 hw)) (by decide) (t := (.array .double)) (t' := .double) (by decide) (by decide)))).other W22 (Or.inr (slot_ne (Or.inr (wd213 hw)) (Or.inr (wd209 hw)) (by decide) (t := (.array .double)) (t' := .double) (by decide) (by decide)))).other W26 (Or.inr (slot_ne (Or.inr (wd213 hw)) (Or.inr (wd211 hw)) (by decide) (t := (.array .double)) (t' := .double) (by decide) (by decide))))
  have f29 := (f25.wr W26)
  refine OGo.putfield (pc' := 50) C X26 (host := "") (Or.inl (wd212 hw)) Via.refl f28 f29 gt (Or.inr ⟨(wd213 hw), rfl, hnm⟩) (wd183 hw) (ty := (.array .double)) (by decide) rfl rfl d31_47 rfl (fun T30 h30 X30 W30 F30 => ?_)
  have K31 : Keep h0 h30 [tk] := K27.wr W30 (Or.inl (List.mem_of_getElem? (i := 0) rfl))
  refine OGo.aload (pc' := 52) C X30 d31_50 rfl rfl rfl ?_
  refine OGo.ifnullNo (pc' := 55) C X30 d31_52 rfl ?_
  refine OGo.iconst (pc' := 56) (z := (1 : Int32)) C X30 d31_55 rfl (by decide) ?_
  refine OGo.goto (pc' := 60) C X30 d31_56 (by decide) (by decide) ?_
  refine OGo.istore (pc' := 62) C X30 d31_60 rfl (l' := #[.val (.ref tk), .val (.ref vt), .val (.ref bl), .val (.int (0 : Int32)), .val (.double (FP.dconst0)), .second, .val (.double (FP.dconst0)), .second, .val (.ref fe), .val (.int (1 : Int32)), .unset]) rfl ?_
  refine OGo.iconst (pc' := 63) (z := (0 : Int32)) C X30 d31_62 rfl (by decide) ?_
  refine OGo.istore (pc' := 65) C X30 d31_63 rfl (l' := #[.val (.ref tk), .val (.ref vt), .val (.ref bl), .val (.int (0 : Int32)), .val (.double (FP.dconst0)), .second, .val (.double (FP.dconst0)), .second, .val (.ref fe), .val (.int (1 : Int32)), .val (.int (0 : Int32))]) rfl ?_
  refine OGo.iload (pc' := 67) C X30 d31_65 rfl rfl ?_
  refine OGo.ifNo (pc' := 70) C X30 d31_67 rfl (feq (by decide : ¬ (1 : Int32) = (0 : Int32))).1 ?_
  refine OGo.iload (pc' := 72) C X30 d31_70 rfl rfl ?_
  refine OGo.aload (pc' := 74) C X30 d31_72 rfl rfl rfl ?_
  have f32 := (((((((Vf.other W2 (Ne.symm (Exa.neArv Et Vf (wd183 hw)))).other W6 (Ne.symm (Exa.neArv Et Vf (wd183 hw)))).other W10 (Ne.symm (Exa.neArv Et Vf (wd183 hw)))).other W14 (Ne.symm (Exa.neArv Et Vf (wd183 hw)))).other W22 (Ne.symm (Exa.neArv Et Vf (wd183 hw)))).other W26 (Ne.symm (Exa.neArv Et Vf (wd183 hw)))).other W30 (Ne.symm (Exa.neArv Et Vf (wd183 hw))))
  refine OGo.arraylength (pc' := 75) C X30 f32 d31_74 rfl ?_
  refine OGo.icmpYes (pc' := 101) C X30 d31_75 (flt (by decide : ¬ (0 : Int32) < (0 : Int32))).2.1 (by decide) (by decide) ?_
  refine OGo.aloadN (pc' := 102) C X30 d31_101 rfl rfl rfl ?_
  refine OGo.iload (pc' := 104) C X30 d31_102 rfl rfl ?_
  have f33 := (((((((F_feesAllZero.other W2 (Or.inr (slot_ne (Or.inr (wd215 hw)) (Or.inr (wd193 hw)) (by decide) (t := .boolean) (t' := (.object "com/example/makespan/makespan/model/VmType")) (by decide) (by decide)))).other W6 (Or.inr (slot_ne (Or.inr (wd215 hw)) (Or.inr (wd195 hw)) (by decide) (t := .boolean) (t' := (.object "com/example/makespan/makespan/model/Billing")) (by decide) (by decide)))).other W10 (Or.inr (slot_ne (Or.inr (wd215 hw)) (Or.inr (wd197 hw)) (by decide) (t := .boolean) (t' := .int) (by decide) (by decide)))).other W14 (Or.inr (slot_ne (Or.inr (wd215 hw)) (Or.inr (wd199 hw)) (by decide) (t := .boolean) (t' := .double) (by decide) (by decide)))).other W22 (Or.inr (slot_ne (Or.inr (wd215 hw)) (Or.inr (wd209 hw)) (by decide) (t := .boolean) (t' := .double) (by decide) (by decide)))).other W26 (Or.inr (slot_ne (Or.inr (wd215 hw)) (Or.inr (wd211 hw)) (by decide) (t := .boolean) (t' := .double) (by decide) (by decide)))).other W30 (Or.inr (slot_ne (Or.inr (wd215 hw)) (Or.inr (wd213 hw)) (by decide) (t := .boolean) (t' := (.array .double)) (by decide) (by decide))))
  have f34 := (f29.wr W30)
  refine OGo.putfield (pc' := 107) C X30 (host := "") (Or.inl (wd214 hw)) Via.refl f33 f34 gt (Or.inr ⟨(wd215 hw), rfl, hnm⟩) (wd183 hw) (ty := .boolean) (by decide) rfl rfl d31_104 rfl (fun T35 h35 X35 W35 F35 => ?_)
  have K36 : Keep h0 h35 [tk] := K31.wr W35 (Or.inl (List.mem_of_getElem? (i := 0) rfl))
  have f37 := (f34.wr W35)
  have f38 := (F30.other W35 (Or.inr (slot_ne (Or.inr (wd213 hw)) (Or.inr (wd215 hw)) (by decide) (t := (.array .double)) (t' := .boolean) (by decide) (by decide))))
  exact OGo.ret C X35 d31_107 hret hlk (⟨rfl, K36, f37, f38, F35⟩) (by decide) (by decide)
set_option maxRecDepth 65536 in
set_option maxHeartbeats 40000000 in
theorem ctTk10R {l : Launch} {Z : State} {a0 : Array Value} (hw : HW a0 Z) {n0 : Nat} {h0 : Heap} (hn0 : n0 ≤ h0.size) (tk vt fe bl : Addr) (kf : ClassId) (fa : Int32) (Et : Exa Z h0 tk "com/example/makespan/makespan/planning/TaskOnType") (F_type : Fld Z h0 tk "com/example/makespan/makespan/planning/TaskOnType" "type" "Lcom/example/makespan/makespan/model/VmType;" .null) (F_billing : Fld Z h0 tk "com/example/makespan/makespan/planning/TaskOnType" "billing" "Lcom/example/makespan/makespan/model/Billing;" .null) (F_input : Fld Z h0 tk "com/example/makespan/makespan/planning/TaskOnType" "input" "I" (.int (0 : Int32))) (F_arrival : Fld Z h0 tk "com/example/makespan/makespan/planning/TaskOnType" "arrival" "D" (.double (0 : UInt64))) (F_ready : Fld Z h0 tk "com/example/makespan/makespan/planning/TaskOnType" "ready" "D" (.double (0 : UInt64))) (F_seconds : Fld Z h0 tk "com/example/makespan/makespan/planning/TaskOnType" "seconds" "D" (.double (0 : UInt64))) (F_fees : Fld Z h0 tk "com/example/makespan/makespan/planning/TaskOnType" "fees" "[D" .null) (F_feesAllZero : Fld Z h0 tk "com/example/makespan/makespan/planning/TaskOnType" "feesAllZero" "Z" (.int (0 : Int32))) (gt : n0 ≤ tk) (Ev : Exa Z h0 vt "com/example/makespan/makespan/model/VmType") (Fb : Fld Z h0 vt "com/example/makespan/makespan/model/VmType" "bootSeconds" "D" (.double (FP.dconst0))) (Vf : Arv Z h0 fe kf .double (1 : Int32) [(.double (FP.i2d fa))] (.double (0 : UInt64))) (hz0 : ¬ fa = 0) :
    Ctr l Z (⟨"com/example/makespan/makespan/planning/TaskOnType", "<init>", "(Lcom/example/makespan/makespan/model/VmType;Lcom/example/makespan/makespan/model/Billing;IDD[D)V"⟩ : MethodName) prog_105_method_1_code 11 none ({ frames := 1, cells := 0, slots := 0, locals := 30 } : Room) n0 #[(.ref tk), (.ref vt), (.ref bl), (.int (0 : Int32)), (.double (FP.dconst0)), (.double (FP.dconst0)), (.ref fe)] h0 (fun v h => v = none ∧ Keep h0 h [tk] ∧ Exa Z h tk "com/example/makespan/makespan/planning/TaskOnType" ∧ Fld Z h tk "com/example/makespan/makespan/planning/TaskOnType" "fees" "[D" (.ref fe) ∧ Fld Z h tk "com/example/makespan/makespan/planning/TaskOnType" "feesAllZero" "Z" (.int (0 : Int32))) := by
  refine Ctr.of (plainFor_of_name pn4) hn0 ?_
  intro p e s m below meth c T0 C hnm hret hlk X0
  rw [ef31 m tk vt bl (0 : Int32) (FP.dconst0) (FP.dconst0) fe]
  refine OGo.aloadN (pc' := 1) C X0 d31_0 rfl rfl rfl ?_
  refine OGo.initObj (pc' := 4) C X0 (wd191 hw) (wd20 hw) (wd21 hw) d31_1 rfl rfl (by decide) (Nat.le_of_ble_eq_true rfl) (fun T1 X1 => ?_)
  refine OGo.aloadN (pc' := 5) C X1 d31_4 rfl rfl rfl ?_
  refine OGo.aloadN (pc' := 6) C X1 d31_5 rfl rfl rfl ?_
  refine OGo.putfield (pc' := 9) C X1 (host := "") (Or.inl (wd192 hw)) Via.refl F_type Et gt (Or.inr ⟨(wd193 hw), rfl, hnm⟩) (wd183 hw) (ty := (.object "com/example/makespan/makespan/model/VmType")) (by decide) rfl rfl d31_6 rfl (fun T2 h2 X2 W2 F2 => ?_)
  have K3 : Keep h0 h2 [tk] := (Keep.refl h0 [tk]).wr W2 (Or.inl (List.mem_of_getElem? (i := 0) rfl))
  refine OGo.aloadN (pc' := 10) C X2 d31_9 rfl rfl rfl ?_
  refine OGo.aloadN (pc' := 11) C X2 d31_10 rfl rfl rfl ?_
  have f4 := (F_billing.other W2 (Or.inr (slot_ne (Or.inr (wd195 hw)) (Or.inr (wd193 hw)) (by decide) (t := (.object "com/example/makespan/makespan/model/Billing")) (t' := (.object "com/example/makespan/makespan/model/VmType")) (by decide) (by decide))))
  have f5 := (Et.wr W2)
  refine OGo.putfield (pc' := 14) C X2 (host := "") (Or.inl (wd194 hw)) Via.refl f4 f5 gt (Or.inr ⟨(wd195 hw), rfl, hnm⟩) (wd183 hw) (ty := (.object "com/example/makespan/makespan/model/Billing")) (by decide) rfl rfl d31_11 rfl (fun T6 h6 X6 W6 F6 => ?_)
  have K7 : Keep h0 h6 [tk] := K3.wr W6 (Or.inl (List.mem_of_getElem? (i := 0) rfl))
  refine OGo.aloadN (pc' := 15) C X6 d31_14 rfl rfl rfl ?_
  refine OGo.iloadN (pc' := 16) C X6 d31_15 rfl rfl ?_
  have f8 := ((F_input.other W2 (Or.inr (slot_ne (Or.inr (wd197 hw)) (Or.inr (wd193 hw)) (by decide) (t := .int) (t' := (.object "com/example/makespan/makespan/model/VmType")) (by decide) (by decide)))).other W6 (Or.inr (slot_ne (Or.inr (wd197 hw)) (Or.inr (wd195 hw)) (by decide) (t := .int) (t' := (.object "com/example/makespan/makespan/model/Billing")) (by decide) (by decide))))
  have f9 := (f5.wr W6)
  refine OGo.putfield (pc' := 19) C X6 (host := "") (Or.inl (wd196 hw)) Via.refl f8 f9 gt (Or.inr ⟨(wd197 hw), rfl, hnm⟩) (wd183 hw) (ty := .int) (by decide) rfl rfl d31_16 rfl (fun T10 h10 X10 W10 F10 => ?_)
  have K11 : Keep h0 h10 [tk] := K7.wr W10 (Or.inl (List.mem_of_getElem? (i := 0) rfl))
  refine OGo.aloadN (pc' := 20) C X10 d31_19 rfl rfl rfl ?_
  refine OGo.dload (pc' := 22) C X10 d31_20 rfl rfl ?_
  have f12 := (((F_arrival.other W2 (Or.inr (slot_ne (Or.inr (wd199 hw)) (Or.inr (wd193 hw)) (by decide) (t := .double) (t' := (.object "com/example/makespan/makespan/model/VmType")) (by decide) (by decide)))).other W6 (Or.inr (slot_ne (Or.inr (wd199 hw)) (Or.inr (wd195 hw)) (by decide) (t := .double) (t' := (.object "com/example/makespan/makespan/model/Billing")) (by decide) (by decide)))).other W10 (Or.inr (slot_ne (Or.inr (wd199 hw)) (Or.inr (wd197 hw)) (by decide) (t := .double) (t' := .int) (by decide) (by decide))))
  have f13 := (f9.wr W10)
  refine OGo.putfield (pc' := 25) C X10 (host := "") (Or.inl (wd198 hw)) Via.refl f12 f13 gt (Or.inr ⟨(wd199 hw), rfl, hnm⟩) (wd183 hw) (ty := .double) (by decide) rfl rfl d31_22 rfl (fun T14 h14 X14 W14 F14 => ?_)
  have K15 : Keep h0 h14 [tk] := K11.wr W14 (Or.inl (List.mem_of_getElem? (i := 0) rfl))
  refine OGo.aloadN (pc' := 26) C X14 d31_25 rfl rfl rfl ?_
  refine OGo.aloadN (pc' := 27) C X14 d31_26 rfl rfl rfl ?_
  have f16 := ((((Fb.other W2 (Or.inl (Ne.symm (Exa.ne Et Ev (by decide))))).other W6 (Or.inl (Ne.symm (Exa.ne Et Ev (by decide))))).other W10 (Or.inl (Ne.symm (Exa.ne Et Ev (by decide))))).other W14 (Or.inl (Ne.symm (Exa.ne Et Ev (by decide)))))
  have f18 := ((((Ev.wr W2).wr W6).wr W10).wr W14)
  refine OGo.callV (pc' := 30) (cells' := 0) (slots' := 0) (argsL := []) (St := [(.ref tk)]) C X14 (wd200 hw) (wd201 hw) (wd203 hw) (wd202 hw) (by decide) f18 (wd204 hw) (wd4 hw) (ctBoot hw X14.2.1 vt f16) (lenOf pd22 rfl) rfl d31_27 rfl rfl (by decide) (Nat.le_of_ble_eq_true rfl) rfl rfl (by decide) (by decide) (fun v17 T17 h17 Q17 X17 z17 => ?_)
  obtain ⟨hv17, hh17⟩ := Q17
  subst hv17; rw [hh17] at X17
  show OGo p e below _ T17 (mkF m 30 #[.val (.ref tk), .val (.ref vt), .val (.ref bl), .val (.int (0 : Int32)), .val (.double (FP.dconst0)), .second, .val (.double (FP.dconst0)), .second, .val (.ref fe), .unset, .unset] [(.double (FP.dconst0)), (.ref tk)])
  refine OGo.dload (pc' := 32) C X17 d31_30 rfl rfl ?_
  refine OGo.natS (pc' := 35) (argsL := [(.double (FP.dconst0)), (.double (FP.dconst0))]) (St := [(.ref tk)]) (val := .double (Native.java_lang_Math.nans.pick64 true (FP.dconst0) (FP.dconst0))) C X17 (wd205 hw) (wd206 hw) (wd143 hw) (wd207 hw) (by decide) (lenOf pd23 rfl) d31_32 rfl rfl (by decide) (by decide) (fun hq => Jvm.Free.Fl.Abs.maxD_pays (FP.dconst0) (FP.dconst0) hq (by decide) (Nat.le_of_ble_eq_true rfl)) (⟨rfl, by unfold NoNaN64; decide +kernel, by unfold NoNaN64; decide +kernel⟩) (fun T19 X19 => ?_)
  rw [show Native.java_lang_Math.nans.pick64 true (FP.dconst0) (FP.dconst0) = FP.dconst0 from by decide +kernel]
  have f20 := ((((F_ready.other W2 (Or.inr (slot_ne (Or.inr (wd209 hw)) (Or.inr (wd193 hw)) (by decide) (t := .double) (t' := (.object "com/example/makespan/makespan/model/VmType")) (by decide) (by decide)))).other W6 (Or.inr (slot_ne (Or.inr (wd209 hw)) (Or.inr (wd195 hw)) (by decide) (t := .double) (t' := (.object "com/example/makespan/makespan/model/Billing")) (by decide) (by decide)))).other W10 (Or.inr (slot_ne (Or.inr (wd209 hw)) (Or.inr (wd197 hw)) (by decide) (t := .double) (t' := .int) (by decide) (by decide)))).other W14 (Or.inr (slot_ne (Or.inr (wd209 hw)) (Or.inr (wd199 hw)) (by decide) (t := .double) (t' := .double) (by decide) (by decide))))
  have f21 := (f13.wr W14)
  refine OGo.putfield (pc' := 38) C X19 (host := "") (Or.inl (wd208 hw)) Via.refl f20 f21 gt (Or.inr ⟨(wd209 hw), rfl, hnm⟩) (wd183 hw) (ty := .double) (by decide) rfl rfl d31_35 rfl (fun T22 h22 X22 W22 F22 => ?_)
  have K23 : Keep h0 h22 [tk] := K15.wr W22 (Or.inl (List.mem_of_getElem? (i := 0) rfl))
  refine OGo.aloadN (pc' := 39) C X22 d31_38 rfl rfl rfl ?_
  refine OGo.dload (pc' := 41) C X22 d31_39 rfl rfl ?_
  have f24 := (((((F_seconds.other W2 (Or.inr (slot_ne (Or.inr (wd211 hw)) (Or.inr (wd193 hw)) (by decide) (t := .double) (t' := (.object "com/example/makespan/makespan/model/VmType")) (by decide) (by decide)))).other W6 (Or.inr (slot_ne (Or.inr (wd211 hw)) (Or.inr (wd195 hw)) (by decide) (t := .double) (t' := (.object "com/example/makespan/makespan/model/Billing")) (by decide) (by decide)))).other W10 (Or.inr (slot_ne (Or.inr (wd211 hw)) (Or.inr (wd197 hw)) (by decide) (t := .double) (t' := .int) (by decide) (by decide)))).other W14 (Or.inr (slot_ne (Or.inr (wd211 hw)) (Or.inr (wd199 hw)) (by decide) (t := .double) (t' := .double) (by decide) (by decide)))).other W22 (Or.inr (slot_ne (Or.inr (wd211 hw)) (Or.inr (wd209 hw)) (by decide) (t := .double) (t' := .double) (by decide) (by decide))))
  have f25 := (f21.wr W22)
  refine OGo.putfield (pc' := 44) C X22 (host := "") (Or.inl (wd210 hw)) Via.refl f24 f25 gt (Or.inr ⟨(wd211 hw), rfl, hnm⟩) (wd183 hw) (ty := .double) (by decide) rfl rfl d31_41 rfl (fun T26 h26 X26 W26 F26 => ?_)
  have K27 : Keep h0 h26 [tk] := K23.wr W26 (Or.inl (List.mem_of_getElem? (i := 0) rfl))
  refine OGo.aloadN (pc' := 45) C X26 d31_44 rfl rfl rfl ?_
  refine OGo.aload (pc' := 47) C X26 d31_45 rfl rfl rfl ?_
  have f28 := ((((((F_fees.other W2 (Or.inr (slot_ne (Or.inr (wd213 hw)) (Or.inr (wd193 hw)) (by decide) (t := (.array .double)) (t' := (.object "com/example/makespan/makespan/model/VmType")) (by decide) (by decide)))).other W6 (Or.inr (slot_ne (Or.inr (wd213 hw)) (Or.inr (wd195 hw)) (by decide) (t := (.array .double)) (t' := (.object "com/example/makespan/makespan/model/Billing")) (by decide) (by decide)))).other W10 (Or.inr (slot_ne (Or.inr (wd213 hw)) (Or.inr (wd197 hw)) (by decide) (t := (.array .double)) (t' := .int) (by decide) (by decide)))).other W14 (Or.inr (slot_ne (Or.inr (wd213 hw)) (Or.inr (wd199 hw)) (by decide) (t := (.array .double)) (t' := .double) (by decide) (by decide)))).other W22 (Or.inr (slot_ne (Or.inr (wd213 hw)) (Or.inr (wd209 hw)) (by decide) (t := (.array .double)) (t' := .double) (by decide) (by decide)))).other W26 (Or.inr (slot_ne (Or.inr (wd213 hw)) (Or.inr (wd211 hw)) (by decide) (t := (.array .double)) (t' := .double) (by decide) (by decide))))
  have f29 := (f25.wr W26)
  refine OGo.putfield (pc' := 50) C X26 (host := "") (Or.inl (wd212 hw)) Via.refl f28 f29 gt (Or.inr ⟨(wd213 hw), rfl, hnm⟩) (wd183 hw) (ty := (.array .double)) (by decide) rfl rfl d31_47 rfl (fun T30 h30 X30 W30 F30 => ?_)
  have K31 : Keep h0 h30 [tk] := K27.wr W30 (Or.inl (List.mem_of_getElem? (i := 0) rfl))
  refine OGo.aload (pc' := 52) C X30 d31_50 rfl rfl rfl ?_
  refine OGo.ifnullNo (pc' := 55) C X30 d31_52 rfl ?_
  refine OGo.iconst (pc' := 56) (z := (1 : Int32)) C X30 d31_55 rfl (by decide) ?_
  refine OGo.goto (pc' := 60) C X30 d31_56 (by decide) (by decide) ?_
  refine OGo.istore (pc' := 62) C X30 d31_60 rfl (l' := #[.val (.ref tk), .val (.ref vt), .val (.ref bl), .val (.int (0 : Int32)), .val (.double (FP.dconst0)), .second, .val (.double (FP.dconst0)), .second, .val (.ref fe), .val (.int (1 : Int32)), .unset]) rfl ?_
  refine OGo.iconst (pc' := 63) (z := (0 : Int32)) C X30 d31_62 rfl (by decide) ?_
  refine OGo.istore (pc' := 65) C X30 d31_63 rfl (l' := #[.val (.ref tk), .val (.ref vt), .val (.ref bl), .val (.int (0 : Int32)), .val (.double (FP.dconst0)), .second, .val (.double (FP.dconst0)), .second, .val (.ref fe), .val (.int (1 : Int32)), .val (.int (0 : Int32))]) rfl ?_
  refine OGo.iload (pc' := 67) C X30 d31_65 rfl rfl ?_
  refine OGo.ifNo (pc' := 70) C X30 d31_67 rfl (feq (by decide : ¬ (1 : Int32) = (0 : Int32))).1 ?_
  refine OGo.iload (pc' := 72) C X30 d31_70 rfl rfl ?_
  refine OGo.aload (pc' := 74) C X30 d31_72 rfl rfl rfl ?_
  have f32 := (((((((Vf.other W2 (Ne.symm (Exa.neArv Et Vf (wd183 hw)))).other W6 (Ne.symm (Exa.neArv Et Vf (wd183 hw)))).other W10 (Ne.symm (Exa.neArv Et Vf (wd183 hw)))).other W14 (Ne.symm (Exa.neArv Et Vf (wd183 hw)))).other W22 (Ne.symm (Exa.neArv Et Vf (wd183 hw)))).other W26 (Ne.symm (Exa.neArv Et Vf (wd183 hw)))).other W30 (Ne.symm (Exa.neArv Et Vf (wd183 hw))))
  refine OGo.arraylength (pc' := 75) C X30 f32 d31_74 rfl ?_
  refine OGo.icmpNo (pc' := 78) C X30 d31_75 rfl (tlt (by decide : (0 : Int32) < (1 : Int32))).2.1 ?_
  refine OGo.aload (pc' := 80) C X30 d31_78 rfl rfl rfl ?_
  refine OGo.iload (pc' := 82) C X30 d31_80 rfl rfl ?_
  refine OGo.daload (pc' := 83) C X30 f32 d31_82 rfl ⟨by decide, by decide⟩ (v := (FP.i2d fa)) rfl ?_
  refine OGo.dconst0 (pc' := 84) (v := (FP.dconst0)) C X30 d31_83 rfl rfl ?_
  refine OGo.dcmp (pc' := 85) (v := (cmpValue (FP.dcmp (FP.i2d fa) (FP.dconst0)) .l)) C X30 d31_84 rfl rfl ?_
  refine OGo.ifYes (pc' := 92) C X30 d31_85 (feq (own_nz hz0)).2 (by decide) (by decide) ?_
  refine OGo.iconst (pc' := 93) (z := (0 : Int32)) C X30 d31_92 rfl (by decide) ?_
  refine OGo.istore (pc' := 95) C X30 d31_93 rfl (l' := #[.val (.ref tk), .val (.ref vt), .val (.ref bl), .val (.int (0 : Int32)), .val (.double (FP.dconst0)), .second, .val (.double (FP.dconst0)), .second, .val (.ref fe), .val (.int (0 : Int32)), .val (.int (0 : Int32))]) rfl ?_
  refine OGo.iinc (pc' := 98) C X30 d31_95 rfl rfl (z := (1 : Int32)) (by decide) (l' := #[.val (.ref tk), .val (.ref vt), .val (.ref bl), .val (.int (0 : Int32)), .val (.double (FP.dconst0)), .second, .val (.double (FP.dconst0)), .second, .val (.ref fe), .val (.int (0 : Int32)), .val (.int (1 : Int32))]) rfl ?_
  refine OGo.goto (pc' := 65) C X30 d31_98 (by decide) (by decide) ?_
  refine OGo.iload (pc' := 67) C X30 d31_65 rfl rfl ?_
  refine OGo.ifYes (pc' := 101) C X30 d31_67 (teq (by decide : (0 : Int32) = (0 : Int32))).1 (by decide) (by decide) ?_
  refine OGo.aloadN (pc' := 102) C X30 d31_101 rfl rfl rfl ?_
  refine OGo.iload (pc' := 104) C X30 d31_102 rfl rfl ?_
  have f33 := (((((((F_feesAllZero.other W2 (Or.inr (slot_ne (Or.inr (wd215 hw)) (Or.inr (wd193 hw)) (by decide) (t := .boolean) (t' := (.object "com/example/makespan/makespan/model/VmType")) (by decide) (by decide)))).other W6 (Or.inr (slot_ne (Or.inr (wd215 hw)) (Or.inr (wd195 hw)) (by decide) (t := .boolean) (t' := (.object "com/example/makespan/makespan/model/Billing")) (by decide) (by decide)))).other W10 (Or.inr (slot_ne (Or.inr (wd215 hw)) (Or.inr (wd197 hw)) (by decide) (t := .boolean) (t' := .int) (by decide) (by decide)))).other W14 (Or.inr (slot_ne (Or.inr (wd215 hw)) (Or.inr (wd199 hw)) (by decide) (t := .boolean) (t' := .double) (by decide) (by decide)))).other W22 (Or.inr (slot_ne (Or.inr (wd215 hw)) (Or.inr (wd209 hw)) (by decide) (t := .boolean) (t' := .double) (by decide) (by decide)))).other W26 (Or.inr (slot_ne (Or.inr (wd215 hw)) (Or.inr (wd211 hw)) (by decide) (t := .boolean) (t' := .double) (by decide) (by decide)))).other W30 (Or.inr (slot_ne (Or.inr (wd215 hw)) (Or.inr (wd213 hw)) (by decide) (t := .boolean) (t' := (.array .double)) (by decide) (by decide))))
  have f34 := (f29.wr W30)
  refine OGo.putfield (pc' := 107) C X30 (host := "") (Or.inl (wd214 hw)) Via.refl f33 f34 gt (Or.inr ⟨(wd215 hw), rfl, hnm⟩) (wd183 hw) (ty := .boolean) (by decide) rfl rfl d31_104 rfl (fun T35 h35 X35 W35 F35 => ?_)
  have K36 : Keep h0 h35 [tk] := K31.wr W35 (Or.inl (List.mem_of_getElem? (i := 0) rfl))
  have f37 := (f34.wr W35)
  have f38 := (F30.other W35 (Or.inr (slot_ne (Or.inr (wd213 hw)) (Or.inr (wd215 hw)) (by decide) (t := (.array .double)) (t' := .boolean) (by decide) (by decide))))
  exact OGo.ret C X35 d31_107 hret hlk (⟨rfl, K36, f37, f38, F35⟩) (by decide) (by decide)
set_option maxRecDepth 65536 in
set_option maxHeartbeats 40000000 in
theorem ctTk11R {l : Launch} {Z : State} {a0 : Array Value} (hw : HW a0 Z) {n0 : Nat} {h0 : Heap} (hn0 : n0 ≤ h0.size) (tk vt fe bl : Addr) (kf : ClassId) (fa : Int32) (Et : Exa Z h0 tk "com/example/makespan/makespan/planning/TaskOnType") (F_type : Fld Z h0 tk "com/example/makespan/makespan/planning/TaskOnType" "type" "Lcom/example/makespan/makespan/model/VmType;" .null) (F_billing : Fld Z h0 tk "com/example/makespan/makespan/planning/TaskOnType" "billing" "Lcom/example/makespan/makespan/model/Billing;" .null) (F_input : Fld Z h0 tk "com/example/makespan/makespan/planning/TaskOnType" "input" "I" (.int (0 : Int32))) (F_arrival : Fld Z h0 tk "com/example/makespan/makespan/planning/TaskOnType" "arrival" "D" (.double (0 : UInt64))) (F_ready : Fld Z h0 tk "com/example/makespan/makespan/planning/TaskOnType" "ready" "D" (.double (0 : UInt64))) (F_seconds : Fld Z h0 tk "com/example/makespan/makespan/planning/TaskOnType" "seconds" "D" (.double (0 : UInt64))) (F_fees : Fld Z h0 tk "com/example/makespan/makespan/planning/TaskOnType" "fees" "[D" .null) (F_feesAllZero : Fld Z h0 tk "com/example/makespan/makespan/planning/TaskOnType" "feesAllZero" "Z" (.int (0 : Int32))) (gt : n0 ≤ tk) (Ev : Exa Z h0 vt "com/example/makespan/makespan/model/VmType") (Fb : Fld Z h0 vt "com/example/makespan/makespan/model/VmType" "bootSeconds" "D" (.double (FP.dconst0))) (Vf : Arv Z h0 fe kf .double (1 : Int32) [(.double (FP.i2d fa))] (.double (0 : UInt64))) (hz0 : fa = 0) :
    Ctr l Z (⟨"com/example/makespan/makespan/planning/TaskOnType", "<init>", "(Lcom/example/makespan/makespan/model/VmType;Lcom/example/makespan/makespan/model/Billing;IDD[D)V"⟩ : MethodName) prog_105_method_1_code 11 none ({ frames := 1, cells := 0, slots := 0, locals := 30 } : Room) n0 #[(.ref tk), (.ref vt), (.ref bl), (.int (0 : Int32)), (.double (FP.dconst0)), (.double (FP.dconst0)), (.ref fe)] h0 (fun v h => v = none ∧ Keep h0 h [tk] ∧ Exa Z h tk "com/example/makespan/makespan/planning/TaskOnType" ∧ Fld Z h tk "com/example/makespan/makespan/planning/TaskOnType" "fees" "[D" (.ref fe) ∧ Fld Z h tk "com/example/makespan/makespan/planning/TaskOnType" "feesAllZero" "Z" (.int (1 : Int32))) := by
  refine Ctr.of (plainFor_of_name pn4) hn0 ?_
  intro p e s m below meth c T0 C hnm hret hlk X0
  rw [ef31 m tk vt bl (0 : Int32) (FP.dconst0) (FP.dconst0) fe]
  refine OGo.aloadN (pc' := 1) C X0 d31_0 rfl rfl rfl ?_
  refine OGo.initObj (pc' := 4) C X0 (wd191 hw) (wd20 hw) (wd21 hw) d31_1 rfl rfl (by decide) (Nat.le_of_ble_eq_true rfl) (fun T1 X1 => ?_)
  refine OGo.aloadN (pc' := 5) C X1 d31_4 rfl rfl rfl ?_
  refine OGo.aloadN (pc' := 6) C X1 d31_5 rfl rfl rfl ?_
  refine OGo.putfield (pc' := 9) C X1 (host := "") (Or.inl (wd192 hw)) Via.refl F_type Et gt (Or.inr ⟨(wd193 hw), rfl, hnm⟩) (wd183 hw) (ty := (.object "com/example/makespan/makespan/model/VmType")) (by decide) rfl rfl d31_6 rfl (fun T2 h2 X2 W2 F2 => ?_)
  have K3 : Keep h0 h2 [tk] := (Keep.refl h0 [tk]).wr W2 (Or.inl (List.mem_of_getElem? (i := 0) rfl))
  refine OGo.aloadN (pc' := 10) C X2 d31_9 rfl rfl rfl ?_
  refine OGo.aloadN (pc' := 11) C X2 d31_10 rfl rfl rfl ?_
  have f4 := (F_billing.other W2 (Or.inr (slot_ne (Or.inr (wd195 hw)) (Or.inr (wd193 hw)) (by decide) (t := (.object "com/example/makespan/makespan/model/Billing")) (t' := (.object "com/example/makespan/makespan/model/VmType")) (by decide) (by decide))))
  have f5 := (Et.wr W2)
  refine OGo.putfield (pc' := 14) C X2 (host := "") (Or.inl (wd194 hw)) Via.refl f4 f5 gt (Or.inr ⟨(wd195 hw), rfl, hnm⟩) (wd183 hw) (ty := (.object "com/example/makespan/makespan/model/Billing")) (by decide) rfl rfl d31_11 rfl (fun T6 h6 X6 W6 F6 => ?_)
  have K7 : Keep h0 h6 [tk] := K3.wr W6 (Or.inl (List.mem_of_getElem? (i := 0) rfl))
  refine OGo.aloadN (pc' := 15) C X6 d31_14 rfl rfl rfl ?_
  refine OGo.iloadN (pc' := 16) C X6 d31_15 rfl rfl ?_
  have f8 := ((F_input.other W2 (Or.inr (slot_ne (Or.inr (wd197 hw)) (Or.inr (wd193 hw)) (by decide) (t := .int) (t' := (.object "com/example/makespan/makespan/model/VmType")) (by decide) (by decide)))).other W6 (Or.inr (slot_ne (Or.inr (wd197 hw)) (Or.inr (wd195 hw)) (by decide) (t := .int) (t' := (.object "com/example/makespan/makespan/model/Billing")) (by decide) (by decide))))
  have f9 := (f5.wr W6)
  refine OGo.putfield (pc' := 19) C X6 (host := "") (Or.inl (wd196 hw)) Via.refl f8 f9 gt (Or.inr ⟨(wd197 hw), rfl, hnm⟩) (wd183 hw) (ty := .int) (by decide) rfl rfl d31_16 rfl (fun T10 h10 X10 W10 F10 => ?_)
  have K11 : Keep h0 h10 [tk] := K7.wr W10 (Or.inl (List.mem_of_getElem? (i := 0) rfl))
  refine OGo.aloadN (pc' := 20) C X10 d31_19 rfl rfl rfl ?_
  refine OGo.dload (pc' := 22) C X10 d31_20 rfl rfl ?_
  have f12 := (((F_arrival.other W2 (Or.inr (slot_ne (Or.inr (wd199 hw)) (Or.inr (wd193 hw)) (by decide) (t := .double) (t' := (.object "com/example/makespan/makespan/model/VmType")) (by decide) (by decide)))).other W6 (Or.inr (slot_ne (Or.inr (wd199 hw)) (Or.inr (wd195 hw)) (by decide) (t := .double) (t' := (.object "com/example/makespan/makespan/model/Billing")) (by decide) (by decide)))).other W10 (Or.inr (slot_ne (Or.inr (wd199 hw)) (Or.inr (wd197 hw)) (by decide) (t := .double) (t' := .int) (by decide) (by decide))))
  have f13 := (f9.wr W10)
  refine OGo.putfield (pc' := 25) C X10 (host := "") (Or.inl (wd198 hw)) Via.refl f12 f13 gt (Or.inr ⟨(wd199 hw), rfl, hnm⟩) (wd183 hw) (ty := .double) (by decide) rfl rfl d31_22 rfl (fun T14 h14 X14 W14 F14 => ?_)
  have K15 : Keep h0 h14 [tk] := K11.wr W14 (Or.inl (List.mem_of_getElem? (i := 0) rfl))
  refine OGo.aloadN (pc' := 26) C X14 d31_25 rfl rfl rfl ?_
  refine OGo.aloadN (pc' := 27) C X14 d31_26 rfl rfl rfl ?_
  have f16 := ((((Fb.other W2 (Or.inl (Ne.symm (Exa.ne Et Ev (by decide))))).other W6 (Or.inl (Ne.symm (Exa.ne Et Ev (by decide))))).other W10 (Or.inl (Ne.symm (Exa.ne Et Ev (by decide))))).other W14 (Or.inl (Ne.symm (Exa.ne Et Ev (by decide)))))
  have f18 := ((((Ev.wr W2).wr W6).wr W10).wr W14)
  refine OGo.callV (pc' := 30) (cells' := 0) (slots' := 0) (argsL := []) (St := [(.ref tk)]) C X14 (wd200 hw) (wd201 hw) (wd203 hw) (wd202 hw) (by decide) f18 (wd204 hw) (wd4 hw) (ctBoot hw X14.2.1 vt f16) (lenOf pd22 rfl) rfl d31_27 rfl rfl (by decide) (Nat.le_of_ble_eq_true rfl) rfl rfl (by decide) (by decide) (fun v17 T17 h17 Q17 X17 z17 => ?_)
  obtain ⟨hv17, hh17⟩ := Q17
  subst hv17; rw [hh17] at X17
  show OGo p e below _ T17 (mkF m 30 #[.val (.ref tk), .val (.ref vt), .val (.ref bl), .val (.int (0 : Int32)), .val (.double (FP.dconst0)), .second, .val (.double (FP.dconst0)), .second, .val (.ref fe), .unset, .unset] [(.double (FP.dconst0)), (.ref tk)])
  refine OGo.dload (pc' := 32) C X17 d31_30 rfl rfl ?_
  refine OGo.natS (pc' := 35) (argsL := [(.double (FP.dconst0)), (.double (FP.dconst0))]) (St := [(.ref tk)]) (val := .double (Native.java_lang_Math.nans.pick64 true (FP.dconst0) (FP.dconst0))) C X17 (wd205 hw) (wd206 hw) (wd143 hw) (wd207 hw) (by decide) (lenOf pd23 rfl) d31_32 rfl rfl (by decide) (by decide) (fun hq => Jvm.Free.Fl.Abs.maxD_pays (FP.dconst0) (FP.dconst0) hq (by decide) (Nat.le_of_ble_eq_true rfl)) (⟨rfl, by unfold NoNaN64; decide +kernel, by unfold NoNaN64; decide +kernel⟩) (fun T19 X19 => ?_)
  rw [show Native.java_lang_Math.nans.pick64 true (FP.dconst0) (FP.dconst0) = FP.dconst0 from by decide +kernel]
  have f20 := ((((F_ready.other W2 (Or.inr (slot_ne (Or.inr (wd209 hw)) (Or.inr (wd193 hw)) (by decide) (t := .double) (t' := (.object "com/example/makespan/makespan/model/VmType")) (by decide) (by decide)))).other W6 (Or.inr (slot_ne (Or.inr (wd209 hw)) (Or.inr (wd195 hw)) (by decide) (t := .double) (t' := (.object "com/example/makespan/makespan/model/Billing")) (by decide) (by decide)))).other W10 (Or.inr (slot_ne (Or.inr (wd209 hw)) (Or.inr (wd197 hw)) (by decide) (t := .double) (t' := .int) (by decide) (by decide)))).other W14 (Or.inr (slot_ne (Or.inr (wd209 hw)) (Or.inr (wd199 hw)) (by decide) (t := .double) (t' := .double) (by decide) (by decide))))
  have f21 := (f13.wr W14)
  refine OGo.putfield (pc' := 38) C X19 (host := "") (Or.inl (wd208 hw)) Via.refl f20 f21 gt (Or.inr ⟨(wd209 hw), rfl, hnm⟩) (wd183 hw) (ty := .double) (by decide) rfl rfl d31_35 rfl (fun T22 h22 X22 W22 F22 => ?_)
  have K23 : Keep h0 h22 [tk] := K15.wr W22 (Or.inl (List.mem_of_getElem? (i := 0) rfl))
  refine OGo.aloadN (pc' := 39) C X22 d31_38 rfl rfl rfl ?_
  refine OGo.dload (pc' := 41) C X22 d31_39 rfl rfl ?_
  have f24 := (((((F_seconds.other W2 (Or.inr (slot_ne (Or.inr (wd211 hw)) (Or.inr (wd193 hw)) (by decide) (t := .double) (t' := (.object "com/example/makespan/makespan/model/VmType")) (by decide) (by decide)))).other W6 (Or.inr (slot_ne (Or.inr (wd211 hw)) (Or.inr (wd195 hw)) (by decide) (t := .double) (t' := (.object "com/example/makespan/makespan/model/Billing")) (by decide) (by decide)))).other W10 (Or.inr (slot_ne (Or.inr (wd211 hw)) (Or.inr (wd197 hw)) (by decide) (t := .double) (t' := .int) (by decide) (by decide)))).other W14 (Or.inr (slot_ne (Or.inr (wd211 hw)) (Or.inr (wd199 hw)) (by decide) (t := .double) (t' := .double) (by decide) (by decide)))).other W22 (Or.inr (slot_ne (Or.inr (wd211 hw)) (Or.inr (wd209 hw)) (by decide) (t := .double) (t' := .double) (by decide) (by decide))))
  have f25 := (f21.wr W22)
  refine OGo.putfield (pc' := 44) C X22 (host := "") (Or.inl (wd210 hw)) Via.refl f24 f25 gt (Or.inr ⟨(wd211 hw), rfl, hnm⟩) (wd183 hw) (ty := .double) (by decide) rfl rfl d31_41 rfl (fun T26 h26 X26 W26 F26 => ?_)
  have K27 : Keep h0 h26 [tk] := K23.wr W26 (Or.inl (List.mem_of_getElem? (i := 0) rfl))
  refine OGo.aloadN (pc' := 45) C X26 d31_44 rfl rfl rfl ?_
  refine OGo.aload (pc' := 47) C X26 d31_45 rfl rfl rfl ?_
  have f28 := ((((((F_fees.other W2 (Or.inr (slot_ne (Or.inr (wd213 hw)) (Or.inr (wd193 hw)) (by decide) (t := (.array .double)) (t' := (.object "com/example/makespan/makespan/model/VmType")) (by decide) (by decide)))).other W6 (Or.inr (slot_ne (Or.inr (wd213 hw)) (Or.inr (wd195 hw)) (by decide) (t := (.array .double)) (t' := (.object "com/example/makespan/makespan/model/Billing")) (by decide) (by decide)))).other W10 (Or.inr (slot_ne (Or.inr (wd213 hw)) (Or.inr (wd197 hw)) (by decide) (t := (.array .double)) (t' := .int) (by decide) (by decide)))).other W14 (Or.inr (slot_ne (Or.inr (wd213 hw)) (Or.inr (wd199 hw)) (by decide) (t := (.array .double)) (t' := .double) (by decide) (by decide)))).other W22 (Or.inr (slot_ne (Or.inr (wd213 hw)) (Or.inr (wd209 hw)) (by decide) (t := (.array .double)) (t' := .double) (by decide) (by decide)))).other W26 (Or.inr (slot_ne (Or.inr (wd213 hw)) (Or.inr (wd211 hw)) (by decide) (t := (.array .double)) (t' := .double) (by decide) (by decide))))
  have f29 := (f25.wr W26)
  refine OGo.putfield (pc' := 50) C X26 (host := "") (Or.inl (wd212 hw)) Via.refl f28 f29 gt (Or.inr ⟨(wd213 hw), rfl, hnm⟩) (wd183 hw) (ty := (.array .double)) (by decide) rfl rfl d31_47 rfl (fun T30 h30 X30 W30 F30 => ?_)
  have K31 : Keep h0 h30 [tk] := K27.wr W30 (Or.inl (List.mem_of_getElem? (i := 0) rfl))
  refine OGo.aload (pc' := 52) C X30 d31_50 rfl rfl rfl ?_
  refine OGo.ifnullNo (pc' := 55) C X30 d31_52 rfl ?_
  refine OGo.iconst (pc' := 56) (z := (1 : Int32)) C X30 d31_55 rfl (by decide) ?_
  refine OGo.goto (pc' := 60) C X30 d31_56 (by decide) (by decide) ?_
  refine OGo.istore (pc' := 62) C X30 d31_60 rfl (l' := #[.val (.ref tk), .val (.ref vt), .val (.ref bl), .val (.int (0 : Int32)), .val (.double (FP.dconst0)), .second, .val (.double (FP.dconst0)), .second, .val (.ref fe), .val (.int (1 : Int32)), .unset]) rfl ?_
  refine OGo.iconst (pc' := 63) (z := (0 : Int32)) C X30 d31_62 rfl (by decide) ?_
  refine OGo.istore (pc' := 65) C X30 d31_63 rfl (l' := #[.val (.ref tk), .val (.ref vt), .val (.ref bl), .val (.int (0 : Int32)), .val (.double (FP.dconst0)), .second, .val (.double (FP.dconst0)), .second, .val (.ref fe), .val (.int (1 : Int32)), .val (.int (0 : Int32))]) rfl ?_
  refine OGo.iload (pc' := 67) C X30 d31_65 rfl rfl ?_
  refine OGo.ifNo (pc' := 70) C X30 d31_67 rfl (feq (by decide : ¬ (1 : Int32) = (0 : Int32))).1 ?_
  refine OGo.iload (pc' := 72) C X30 d31_70 rfl rfl ?_
  refine OGo.aload (pc' := 74) C X30 d31_72 rfl rfl rfl ?_
  have f32 := (((((((Vf.other W2 (Ne.symm (Exa.neArv Et Vf (wd183 hw)))).other W6 (Ne.symm (Exa.neArv Et Vf (wd183 hw)))).other W10 (Ne.symm (Exa.neArv Et Vf (wd183 hw)))).other W14 (Ne.symm (Exa.neArv Et Vf (wd183 hw)))).other W22 (Ne.symm (Exa.neArv Et Vf (wd183 hw)))).other W26 (Ne.symm (Exa.neArv Et Vf (wd183 hw)))).other W30 (Ne.symm (Exa.neArv Et Vf (wd183 hw))))
  refine OGo.arraylength (pc' := 75) C X30 f32 d31_74 rfl ?_
  refine OGo.icmpNo (pc' := 78) C X30 d31_75 rfl (tlt (by decide : (0 : Int32) < (1 : Int32))).2.1 ?_
  refine OGo.aload (pc' := 80) C X30 d31_78 rfl rfl rfl ?_
  refine OGo.iload (pc' := 82) C X30 d31_80 rfl rfl ?_
  refine OGo.daload (pc' := 83) C X30 f32 d31_82 rfl ⟨by decide, by decide⟩ (v := (FP.i2d fa)) rfl ?_
  refine OGo.dconst0 (pc' := 84) (v := (FP.dconst0)) C X30 d31_83 rfl rfl ?_
  refine OGo.dcmp (pc' := 85) (v := (0 : Int32)) C X30 d31_84 rfl (own_z0 hz0) ?_
  refine OGo.ifNo (pc' := 88) C X30 d31_85 rfl (teq (by decide : (0 : Int32) = (0 : Int32))).2 ?_
  refine OGo.iconst (pc' := 89) (z := (1 : Int32)) C X30 d31_88 rfl (by decide) ?_
  refine OGo.goto (pc' := 93) C X30 d31_89 (by decide) (by decide) ?_
  refine OGo.istore (pc' := 95) C X30 d31_93 rfl (l' := #[.val (.ref tk), .val (.ref vt), .val (.ref bl), .val (.int (0 : Int32)), .val (.double (FP.dconst0)), .second, .val (.double (FP.dconst0)), .second, .val (.ref fe), .val (.int (1 : Int32)), .val (.int (0 : Int32))]) rfl ?_
  refine OGo.iinc (pc' := 98) C X30 d31_95 rfl rfl (z := (1 : Int32)) (by decide) (l' := #[.val (.ref tk), .val (.ref vt), .val (.ref bl), .val (.int (0 : Int32)), .val (.double (FP.dconst0)), .second, .val (.double (FP.dconst0)), .second, .val (.ref fe), .val (.int (1 : Int32)), .val (.int (1 : Int32))]) rfl ?_
  refine OGo.goto (pc' := 65) C X30 d31_98 (by decide) (by decide) ?_
  refine OGo.iload (pc' := 67) C X30 d31_65 rfl rfl ?_
  refine OGo.ifNo (pc' := 70) C X30 d31_67 rfl (feq (by decide : ¬ (1 : Int32) = (0 : Int32))).1 ?_
  refine OGo.iload (pc' := 72) C X30 d31_70 rfl rfl ?_
  refine OGo.aload (pc' := 74) C X30 d31_72 rfl rfl rfl ?_
  refine OGo.arraylength (pc' := 75) C X30 f32 d31_74 rfl ?_
  refine OGo.icmpYes (pc' := 101) C X30 d31_75 (flt (by decide : ¬ (1 : Int32) < (1 : Int32))).2.1 (by decide) (by decide) ?_
  refine OGo.aloadN (pc' := 102) C X30 d31_101 rfl rfl rfl ?_
  refine OGo.iload (pc' := 104) C X30 d31_102 rfl rfl ?_
  have f33 := (((((((F_feesAllZero.other W2 (Or.inr (slot_ne (Or.inr (wd215 hw)) (Or.inr (wd193 hw)) (by decide) (t := .boolean) (t' := (.object "com/example/makespan/makespan/model/VmType")) (by decide) (by decide)))).other W6 (Or.inr (slot_ne (Or.inr (wd215 hw)) (Or.inr (wd195 hw)) (by decide) (t := .boolean) (t' := (.object "com/example/makespan/makespan/model/Billing")) (by decide) (by decide)))).other W10 (Or.inr (slot_ne (Or.inr (wd215 hw)) (Or.inr (wd197 hw)) (by decide) (t := .boolean) (t' := .int) (by decide) (by decide)))).other W14 (Or.inr (slot_ne (Or.inr (wd215 hw)) (Or.inr (wd199 hw)) (by decide) (t := .boolean) (t' := .double) (by decide) (by decide)))).other W22 (Or.inr (slot_ne (Or.inr (wd215 hw)) (Or.inr (wd209 hw)) (by decide) (t := .boolean) (t' := .double) (by decide) (by decide)))).other W26 (Or.inr (slot_ne (Or.inr (wd215 hw)) (Or.inr (wd211 hw)) (by decide) (t := .boolean) (t' := .double) (by decide) (by decide)))).other W30 (Or.inr (slot_ne (Or.inr (wd215 hw)) (Or.inr (wd213 hw)) (by decide) (t := .boolean) (t' := (.array .double)) (by decide) (by decide))))
  have f34 := (f29.wr W30)
  refine OGo.putfield (pc' := 107) C X30 (host := "") (Or.inl (wd214 hw)) Via.refl f33 f34 gt (Or.inr ⟨(wd215 hw), rfl, hnm⟩) (wd183 hw) (ty := .boolean) (by decide) rfl rfl d31_104 rfl (fun T35 h35 X35 W35 F35 => ?_)
  have K36 : Keep h0 h35 [tk] := K31.wr W35 (Or.inl (List.mem_of_getElem? (i := 0) rfl))
  have f37 := (f34.wr W35)
  have f38 := (F30.other W35 (Or.inr (slot_ne (Or.inr (wd213 hw)) (Or.inr (wd215 hw)) (by decide) (t := (.array .double)) (t' := .boolean) (by decide) (by decide))))
  exact OGo.ret C X35 d31_107 hret hlk (⟨rfl, K36, f37, f38, F35⟩) (by decide) (by decide)
set_option maxRecDepth 65536 in
set_option maxHeartbeats 40000000 in
theorem ctTk20R {l : Launch} {Z : State} {a0 : Array Value} (hw : HW a0 Z) {n0 : Nat} {h0 : Heap} (hn0 : n0 ≤ h0.size) (tk vt fe bl : Addr) (kf : ClassId) (fa fb : Int32) (Et : Exa Z h0 tk "com/example/makespan/makespan/planning/TaskOnType") (F_type : Fld Z h0 tk "com/example/makespan/makespan/planning/TaskOnType" "type" "Lcom/example/makespan/makespan/model/VmType;" .null) (F_billing : Fld Z h0 tk "com/example/makespan/makespan/planning/TaskOnType" "billing" "Lcom/example/makespan/makespan/model/Billing;" .null) (F_input : Fld Z h0 tk "com/example/makespan/makespan/planning/TaskOnType" "input" "I" (.int (0 : Int32))) (F_arrival : Fld Z h0 tk "com/example/makespan/makespan/planning/TaskOnType" "arrival" "D" (.double (0 : UInt64))) (F_ready : Fld Z h0 tk "com/example/makespan/makespan/planning/TaskOnType" "ready" "D" (.double (0 : UInt64))) (F_seconds : Fld Z h0 tk "com/example/makespan/makespan/planning/TaskOnType" "seconds" "D" (.double (0 : UInt64))) (F_fees : Fld Z h0 tk "com/example/makespan/makespan/planning/TaskOnType" "fees" "[D" .null) (F_feesAllZero : Fld Z h0 tk "com/example/makespan/makespan/planning/TaskOnType" "feesAllZero" "Z" (.int (0 : Int32))) (gt : n0 ≤ tk) (Ev : Exa Z h0 vt "com/example/makespan/makespan/model/VmType") (Fb : Fld Z h0 vt "com/example/makespan/makespan/model/VmType" "bootSeconds" "D" (.double (FP.dconst0))) (Vf : Arv Z h0 fe kf .double (2 : Int32) [(.double (FP.i2d fa)), (.double (FP.i2d fb))] (.double (0 : UInt64))) (hz0 : ¬ fa = 0) :
    Ctr l Z (⟨"com/example/makespan/makespan/planning/TaskOnType", "<init>", "(Lcom/example/makespan/makespan/model/VmType;Lcom/example/makespan/makespan/model/Billing;IDD[D)V"⟩ : MethodName) prog_105_method_1_code 11 none ({ frames := 1, cells := 0, slots := 0, locals := 30 } : Room) n0 #[(.ref tk), (.ref vt), (.ref bl), (.int (0 : Int32)), (.double (FP.dconst0)), (.double (FP.dconst0)), (.ref fe)] h0 (fun v h => v = none ∧ Keep h0 h [tk] ∧ Exa Z h tk "com/example/makespan/makespan/planning/TaskOnType" ∧ Fld Z h tk "com/example/makespan/makespan/planning/TaskOnType" "fees" "[D" (.ref fe) ∧ Fld Z h tk "com/example/makespan/makespan/planning/TaskOnType" "feesAllZero" "Z" (.int (0 : Int32))) := by
  refine Ctr.of (plainFor_of_name pn4) hn0 ?_
  intro p e s m below meth c T0 C hnm hret hlk X0
  rw [ef31 m tk vt bl (0 : Int32) (FP.dconst0) (FP.dconst0) fe]
  refine OGo.aloadN (pc' := 1) C X0 d31_0 rfl rfl rfl ?_
  refine OGo.initObj (pc' := 4) C X0 (wd191 hw) (wd20 hw) (wd21 hw) d31_1 rfl rfl (by decide) (Nat.le_of_ble_eq_true rfl) (fun T1 X1 => ?_)
  refine OGo.aloadN (pc' := 5) C X1 d31_4 rfl rfl rfl ?_
  refine OGo.aloadN (pc' := 6) C X1 d31_5 rfl rfl rfl ?_
  refine OGo.putfield (pc' := 9) C X1 (host := "") (Or.inl (wd192 hw)) Via.refl F_type Et gt (Or.inr ⟨(wd193 hw), rfl, hnm⟩) (wd183 hw) (ty := (.object "com/example/makespan/makespan/model/VmType")) (by decide) rfl rfl d31_6 rfl (fun T2 h2 X2 W2 F2 => ?_)
  have K3 : Keep h0 h2 [tk] := (Keep.refl h0 [tk]).wr W2 (Or.inl (List.mem_of_getElem? (i := 0) rfl))
  refine OGo.aloadN (pc' := 10) C X2 d31_9 rfl rfl rfl ?_
  refine OGo.aloadN (pc' := 11) C X2 d31_10 rfl rfl rfl ?_
  have f4 := (F_billing.other W2 (Or.inr (slot_ne (Or.inr (wd195 hw)) (Or.inr (wd193 hw)) (by decide) (t := (.object "com/example/makespan/makespan/model/Billing")) (t' := (.object "com/example/makespan/makespan/model/VmType")) (by decide) (by decide))))
  have f5 := (Et.wr W2)
  refine OGo.putfield (pc' := 14) C X2 (host := "") (Or.inl (wd194 hw)) Via.refl f4 f5 gt (Or.inr ⟨(wd195 hw), rfl, hnm⟩) (wd183 hw) (ty := (.object "com/example/makespan/makespan/model/Billing")) (by decide) rfl rfl d31_11 rfl (fun T6 h6 X6 W6 F6 => ?_)
  have K7 : Keep h0 h6 [tk] := K3.wr W6 (Or.inl (List.mem_of_getElem? (i := 0) rfl))
  refine OGo.aloadN (pc' := 15) C X6 d31_14 rfl rfl rfl ?_
  refine OGo.iloadN (pc' := 16) C X6 d31_15 rfl rfl ?_
  have f8 := ((F_input.other W2 (Or.inr (slot_ne (Or.inr (wd197 hw)) (Or.inr (wd193 hw)) (by decide) (t := .int) (t' := (.object "com/example/makespan/makespan/model/VmType")) (by decide) (by decide)))).other W6 (Or.inr (slot_ne (Or.inr (wd197 hw)) (Or.inr (wd195 hw)) (by decide) (t := .int) (t' := (.object "com/example/makespan/makespan/model/Billing")) (by decide) (by decide))))
  have f9 := (f5.wr W6)
  refine OGo.putfield (pc' := 19) C X6 (host := "") (Or.inl (wd196 hw)) Via.refl f8 f9 gt (Or.inr ⟨(wd197 hw), rfl, hnm⟩) (wd183 hw) (ty := .int) (by decide) rfl rfl d31_16 rfl (fun T10 h10 X10 W10 F10 => ?_)
  have K11 : Keep h0 h10 [tk] := K7.wr W10 (Or.inl (List.mem_of_getElem? (i := 0) rfl))
  refine OGo.aloadN (pc' := 20) C X10 d31_19 rfl rfl rfl ?_
  refine OGo.dload (pc' := 22) C X10 d31_20 rfl rfl ?_
  have f12 := (((F_arrival.other W2 (Or.inr (slot_ne (Or.inr (wd199 hw)) (Or.inr (wd193 hw)) (by decide) (t := .double) (t' := (.object "com/example/makespan/makespan/model/VmType")) (by decide) (by decide)))).other W6 (Or.inr (slot_ne (Or.inr (wd199 hw)) (Or.inr (wd195 hw)) (by decide) (t := .double) (t' := (.object "com/example/makespan/makespan/model/Billing")) (by decide) (by decide)))).other W10 (Or.inr (slot_ne (Or.inr (wd199 hw)) (Or.inr (wd197 hw)) (by decide) (t := .double) (t' := .int) (by decide) (by decide))))
  have f13 := (f9.wr W10)
  refine OGo.putfield (pc' := 25) C X10 (host := "") (Or.inl (wd198 hw)) Via.refl f12 f13 gt (Or.inr ⟨(wd199 hw), rfl, hnm⟩) (wd183 hw) (ty := .double) (by decide) rfl rfl d31_22 rfl (fun T14 h14 X14 W14 F14 => ?_)
  have K15 : Keep h0 h14 [tk] := K11.wr W14 (Or.inl (List.mem_of_getElem? (i := 0) rfl))
  refine OGo.aloadN (pc' := 26) C X14 d31_25 rfl rfl rfl ?_
  refine OGo.aloadN (pc' := 27) C X14 d31_26 rfl rfl rfl ?_
  have f16 := ((((Fb.other W2 (Or.inl (Ne.symm (Exa.ne Et Ev (by decide))))).other W6 (Or.inl (Ne.symm (Exa.ne Et Ev (by decide))))).other W10 (Or.inl (Ne.symm (Exa.ne Et Ev (by decide))))).other W14 (Or.inl (Ne.symm (Exa.ne Et Ev (by decide)))))
  have f18 := ((((Ev.wr W2).wr W6).wr W10).wr W14)
  refine OGo.callV (pc' := 30) (cells' := 0) (slots' := 0) (argsL := []) (St := [(.ref tk)]) C X14 (wd200 hw) (wd201 hw) (wd203 hw) (wd202 hw) (by decide) f18 (wd204 hw) (wd4 hw) (ctBoot hw X14.2.1 vt f16) (lenOf pd22 rfl) rfl d31_27 rfl rfl (by decide) (Nat.le_of_ble_eq_true rfl) rfl rfl (by decide) (by decide) (fun v17 T17 h17 Q17 X17 z17 => ?_)
  obtain ⟨hv17, hh17⟩ := Q17
  subst hv17; rw [hh17] at X17
  show OGo p e below _ T17 (mkF m 30 #[.val (.ref tk), .val (.ref vt), .val (.ref bl), .val (.int (0 : Int32)), .val (.double (FP.dconst0)), .second, .val (.double (FP.dconst0)), .second, .val (.ref fe), .unset, .unset] [(.double (FP.dconst0)), (.ref tk)])
  refine OGo.dload (pc' := 32) C X17 d31_30 rfl rfl ?_
  refine OGo.natS (pc' := 35) (argsL := [(.double (FP.dconst0)), (.double (FP.dconst0))]) (St := [(.ref tk)]) (val := .double (Native.java_lang_Math.nans.pick64 true (FP.dconst0) (FP.dconst0))) C X17 (wd205 hw) (wd206 hw) (wd143 hw) (wd207 hw) (by decide) (lenOf pd23 rfl) d31_32 rfl rfl (by decide) (by decide) (fun hq => Jvm.Free.Fl.Abs.maxD_pays (FP.dconst0) (FP.dconst0) hq (by decide) (Nat.le_of_ble_eq_true rfl)) (⟨rfl, by unfold NoNaN64; decide +kernel, by unfold NoNaN64; decide +kernel⟩) (fun T19 X19 => ?_)
  rw [show Native.java_lang_Math.nans.pick64 true (FP.dconst0) (FP.dconst0) = FP.dconst0 from by decide +kernel]
  have f20 := ((((F_ready.other W2 (Or.inr (slot_ne (Or.inr (wd209 hw)) (Or.inr (wd193 hw)) (by decide) (t := .double) (t' := (.object "com/example/makespan/makespan/model/VmType")) (by decide) (by decide)))).other W6 (Or.inr (slot_ne (Or.inr (wd209 hw)) (Or.inr (wd195 hw)) (by decide) (t := .double) (t' := (.object "com/example/makespan/makespan/model/Billing")) (by decide) (by decide)))).other W10 (Or.inr (slot_ne (Or.inr (wd209 hw)) (Or.inr (wd197 hw)) (by decide) (t := .double) (t' := .int) (by decide) (by decide)))).other W14 (Or.inr (slot_ne (Or.inr (wd209 hw)) (Or.inr (wd199 hw)) (by decide) (t := .double) (t' := .double) (by decide) (by decide))))
  have f21 := (f13.wr W14)
  refine OGo.putfield (pc' := 38) C X19 (host := "") (Or.inl (wd208 hw)) Via.refl f20 f21 gt (Or.inr ⟨(wd209 hw), rfl, hnm⟩) (wd183 hw) (ty := .double) (by decide) rfl rfl d31_35 rfl (fun T22 h22 X22 W22 F22 => ?_)
  have K23 : Keep h0 h22 [tk] := K15.wr W22 (Or.inl (List.mem_of_getElem? (i := 0) rfl))
  refine OGo.aloadN (pc' := 39) C X22 d31_38 rfl rfl rfl ?_
  refine OGo.dload (pc' := 41) C X22 d31_39 rfl rfl ?_
  have f24 := (((((F_seconds.other W2 (Or.inr (slot_ne (Or.inr (wd211 hw)) (Or.inr (wd193 hw)) (by decide) (t := .double) (t' := (.object "com/example/makespan/makespan/model/VmType")) (by decide) (by decide)))).other W6 (Or.inr (slot_ne (Or.inr (wd211 hw)) (Or.inr (wd195 hw)) (by decide) (t := .double) (t' := (.object "com/example/makespan/makespan/model/Billing")) (by decide) (by decide)))).other W10 (Or.inr (slot_ne (Or.inr (wd211 hw)) (Or.inr (wd197 hw)) (by decide) (t := .double) (t' := .int) (by decide) (by decide)))).other W14 (Or.inr (slot_ne (Or.inr (wd211 hw)) (Or.inr (wd199 hw)) (by decide) (t := .double) (t' := .double) (by decide) (by decide)))).other W22 (Or.inr (slot_ne (Or.inr (wd211 hw)) (Or.inr (wd209 hw)) (by decide) (t := .double) (t' := .double) (by decide) (by decide))))
  have f25 := (f21.wr W22)
  refine OGo.putfield (pc' := 44) C X22 (host := "") (Or.inl (wd210 hw)) Via.refl f24 f25 gt (Or.inr ⟨(wd211 hw), rfl, hnm⟩) (wd183 hw) (ty := .double) (by decide) rfl rfl d31_41 rfl (fun T26 h26 X26 W26 F26 => ?_)
  have K27 : Keep h0 h26 [tk] := K23.wr W26 (Or.inl (List.mem_of_getElem? (i := 0) rfl))
  refine OGo.aloadN (pc' := 45) C X26 d31_44 rfl rfl rfl ?_
  refine OGo.aload (pc' := 47) C X26 d31_45 rfl rfl rfl ?_
  have f28 := ((((((F_fees.other W2 (Or.inr (slot_ne (Or.inr (wd213 hw)) (Or.inr (wd193 hw)) (by decide) (t := (.array .double)) (t' := (.object "com/example/makespan/makespan/model/VmType")) (by decide) (by decide)))).other W6 (Or.inr (slot_ne (Or.inr (wd213 hw)) (Or.inr (wd195 hw)) (by decide) (t := (.array .double)) (t' := (.object "com/example/makespan/makespan/model/Billing")) (by decide) (by decide)))).other W10 (Or.inr (slot_ne (Or.inr (wd213 hw)) (Or.inr (wd197 hw)) (by decide) (t := (.array .double)) (t' := .int) (by decide) (by decide)))).other W14 (Or.inr (slot_ne (Or.inr (wd213 hw)) (Or.inr (wd199 hw)) (by decide) (t := (.array .double)) (t' := .double) (by decide) (by decide)))).other W22 (Or.inr (slot_ne (Or.inr (wd213 hw)) (Or.inr (wd209 hw)) (by decide) (t := (.array .double)) (t' := .double) (by decide) (by decide)))).other W26 (Or.inr (slot_ne (Or.inr (wd213 hw)) (Or.inr (wd211 hw)) (by decide) (t := (.array .double)) (t' := .double) (by decide) (by decide))))
  have f29 := (f25.wr W26)
  refine OGo.putfield (pc' := 50) C X26 (host := "") (Or.inl (wd212 hw)) Via.refl f28 f29 gt (Or.inr ⟨(wd213 hw), rfl, hnm⟩) (wd183 hw) (ty := (.array .double)) (by decide) rfl rfl d31_47 rfl (fun T30 h30 X30 W30 F30 => ?_)
  have K31 : Keep h0 h30 [tk] := K27.wr W30 (Or.inl (List.mem_of_getElem? (i := 0) rfl))
  refine OGo.aload (pc' := 52) C X30 d31_50 rfl rfl rfl ?_
  refine OGo.ifnullNo (pc' := 55) C X30 d31_52 rfl ?_
  refine OGo.iconst (pc' := 56) (z := (1 : Int32)) C X30 d31_55 rfl (by decide) ?_
  refine OGo.goto (pc' := 60) C X30 d31_56 (by decide) (by decide) ?_
  refine OGo.istore (pc' := 62) C X30 d31_60 rfl (l' := #[.val (.ref tk), .val (.ref vt), .val (.ref bl), .val (.int (0 : Int32)), .val (.double (FP.dconst0)), .second, .val (.double (FP.dconst0)), .second, .val (.ref fe), .val (.int (1 : Int32)), .unset]) rfl ?_
  refine OGo.iconst (pc' := 63) (z := (0 : Int32)) C X30 d31_62 rfl (by decide) ?_
  refine OGo.istore (pc' := 65) C X30 d31_63 rfl (l' := #[.val (.ref tk), .val (.ref vt), .val (.ref bl), .val (.int (0 : Int32)), .val (.double (FP.dconst0)), .second, .val (.double (FP.dconst0)), .second, .val (.ref fe), .val (.int (1 : Int32)), .val (.int (0 : Int32))]) rfl ?_
  refine OGo.iload (pc' := 67) C X30 d31_65 rfl rfl ?_
  refine OGo.ifNo (pc' := 70) C X30 d31_67 rfl (feq (by decide : ¬ (1 : Int32) = (0 : Int32))).1 ?_
  refine OGo.iload (pc' := 72) C X30 d31_70 rfl rfl ?_
  refine OGo.aload (pc' := 74) C X30 d31_72 rfl rfl rfl ?_
  have f32 := (((((((Vf.other W2 (Ne.symm (Exa.neArv Et Vf (wd183 hw)))).other W6 (Ne.symm (Exa.neArv Et Vf (wd183 hw)))).other W10 (Ne.symm (Exa.neArv Et Vf (wd183 hw)))).other W14 (Ne.symm (Exa.neArv Et Vf (wd183 hw)))).other W22 (Ne.symm (Exa.neArv Et Vf (wd183 hw)))).other W26 (Ne.symm (Exa.neArv Et Vf (wd183 hw)))).other W30 (Ne.symm (Exa.neArv Et Vf (wd183 hw))))
  refine OGo.arraylength (pc' := 75) C X30 f32 d31_74 rfl ?_
  refine OGo.icmpNo (pc' := 78) C X30 d31_75 rfl (tlt (by decide : (0 : Int32) < (2 : Int32))).2.1 ?_
  refine OGo.aload (pc' := 80) C X30 d31_78 rfl rfl rfl ?_
  refine OGo.iload (pc' := 82) C X30 d31_80 rfl rfl ?_
  refine OGo.daload (pc' := 83) C X30 f32 d31_82 rfl ⟨by decide, by decide⟩ (v := (FP.i2d fa)) rfl ?_
  refine OGo.dconst0 (pc' := 84) (v := (FP.dconst0)) C X30 d31_83 rfl rfl ?_
  refine OGo.dcmp (pc' := 85) (v := (cmpValue (FP.dcmp (FP.i2d fa) (FP.dconst0)) .l)) C X30 d31_84 rfl rfl ?_
  refine OGo.ifYes (pc' := 92) C X30 d31_85 (feq (own_nz hz0)).2 (by decide) (by decide) ?_
  refine OGo.iconst (pc' := 93) (z := (0 : Int32)) C X30 d31_92 rfl (by decide) ?_
  refine OGo.istore (pc' := 95) C X30 d31_93 rfl (l' := #[.val (.ref tk), .val (.ref vt), .val (.ref bl), .val (.int (0 : Int32)), .val (.double (FP.dconst0)), .second, .val (.double (FP.dconst0)), .second, .val (.ref fe), .val (.int (0 : Int32)), .val (.int (0 : Int32))]) rfl ?_
  refine OGo.iinc (pc' := 98) C X30 d31_95 rfl rfl (z := (1 : Int32)) (by decide) (l' := #[.val (.ref tk), .val (.ref vt), .val (.ref bl), .val (.int (0 : Int32)), .val (.double (FP.dconst0)), .second, .val (.double (FP.dconst0)), .second, .val (.ref fe), .val (.int (0 : Int32)), .val (.int (1 : Int32))]) rfl ?_
  refine OGo.goto (pc' := 65) C X30 d31_98 (by decide) (by decide) ?_
  refine OGo.iload (pc' := 67) C X30 d31_65 rfl rfl ?_
  refine OGo.ifYes (pc' := 101) C X30 d31_67 (teq (by decide : (0 : Int32) = (0 : Int32))).1 (by decide) (by decide) ?_
  refine OGo.aloadN (pc' := 102) C X30 d31_101 rfl rfl rfl ?_
  refine OGo.iload (pc' := 104) C X30 d31_102 rfl rfl ?_
  have f33 := (((((((F_feesAllZero.other W2 (Or.inr (slot_ne (Or.inr (wd215 hw)) (Or.inr (wd193 hw)) (by decide) (t := .boolean) (t' := (.object "com/example/makespan/makespan/model/VmType")) (by decide) (by decide)))).other W6 (Or.inr (slot_ne (Or.inr (wd215 hw)) (Or.inr (wd195 hw)) (by decide) (t := .boolean) (t' := (.object "com/example/makespan/makespan/model/Billing")) (by decide) (by decide)))).other W10 (Or.inr (slot_ne (Or.inr (wd215 hw)) (Or.inr (wd197 hw)) (by decide) (t := .boolean) (t' := .int) (by decide) (by decide)))).other W14 (Or.inr (slot_ne (Or.inr (wd215 hw)) (Or.inr (wd199 hw)) (by decide) (t := .boolean) (t' := .double) (by decide) (by decide)))).other W22 (Or.inr (slot_ne (Or.inr (wd215 hw)) (Or.inr (wd209 hw)) (by decide) (t := .boolean) (t' := .double) (by decide) (by decide)))).other W26 (Or.inr (slot_ne (Or.inr (wd215 hw)) (Or.inr (wd211 hw)) (by decide) (t := .boolean) (t' := .double) (by decide) (by decide)))).other W30 (Or.inr (slot_ne (Or.inr (wd215 hw)) (Or.inr (wd213 hw)) (by decide) (t := .boolean) (t' := (.array .double)) (by decide) (by decide))))
  have f34 := (f29.wr W30)
  refine OGo.putfield (pc' := 107) C X30 (host := "") (Or.inl (wd214 hw)) Via.refl f33 f34 gt (Or.inr ⟨(wd215 hw), rfl, hnm⟩) (wd183 hw) (ty := .boolean) (by decide) rfl rfl d31_104 rfl (fun T35 h35 X35 W35 F35 => ?_)
  have K36 : Keep h0 h35 [tk] := K31.wr W35 (Or.inl (List.mem_of_getElem? (i := 0) rfl))
  have f37 := (f34.wr W35)
  have f38 := (F30.other W35 (Or.inr (slot_ne (Or.inr (wd213 hw)) (Or.inr (wd215 hw)) (by decide) (t := (.array .double)) (t' := .boolean) (by decide) (by decide))))
  exact OGo.ret C X35 d31_107 hret hlk (⟨rfl, K36, f37, f38, F35⟩) (by decide) (by decide)
set_option maxRecDepth 65536 in
set_option maxHeartbeats 40000000 in
theorem ctTk21R {l : Launch} {Z : State} {a0 : Array Value} (hw : HW a0 Z) {n0 : Nat} {h0 : Heap} (hn0 : n0 ≤ h0.size) (tk vt fe bl : Addr) (kf : ClassId) (fa fb : Int32) (Et : Exa Z h0 tk "com/example/makespan/makespan/planning/TaskOnType") (F_type : Fld Z h0 tk "com/example/makespan/makespan/planning/TaskOnType" "type" "Lcom/example/makespan/makespan/model/VmType;" .null) (F_billing : Fld Z h0 tk "com/example/makespan/makespan/planning/TaskOnType" "billing" "Lcom/example/makespan/makespan/model/Billing;" .null) (F_input : Fld Z h0 tk "com/example/makespan/makespan/planning/TaskOnType" "input" "I" (.int (0 : Int32))) (F_arrival : Fld Z h0 tk "com/example/makespan/makespan/planning/TaskOnType" "arrival" "D" (.double (0 : UInt64))) (F_ready : Fld Z h0 tk "com/example/makespan/makespan/planning/TaskOnType" "ready" "D" (.double (0 : UInt64))) (F_seconds : Fld Z h0 tk "com/example/makespan/makespan/planning/TaskOnType" "seconds" "D" (.double (0 : UInt64))) (F_fees : Fld Z h0 tk "com/example/makespan/makespan/planning/TaskOnType" "fees" "[D" .null) (F_feesAllZero : Fld Z h0 tk "com/example/makespan/makespan/planning/TaskOnType" "feesAllZero" "Z" (.int (0 : Int32))) (gt : n0 ≤ tk) (Ev : Exa Z h0 vt "com/example/makespan/makespan/model/VmType") (Fb : Fld Z h0 vt "com/example/makespan/makespan/model/VmType" "bootSeconds" "D" (.double (FP.dconst0))) (Vf : Arv Z h0 fe kf .double (2 : Int32) [(.double (FP.i2d fa)), (.double (FP.i2d fb))] (.double (0 : UInt64))) (hz0 : fa = 0) (hz1 : ¬ fb = 0) :
    Ctr l Z (⟨"com/example/makespan/makespan/planning/TaskOnType", "<init>", "(Lcom/example/makespan/makespan/model/VmType;Lcom/example/makespan/makespan/model/Billing;IDD[D)V"⟩ : MethodName) prog_105_method_1_code 11 none ({ frames := 1, cells := 0, slots := 0, locals := 30 } : Room) n0 #[(.ref tk), (.ref vt), (.ref bl), (.int (0 : Int32)), (.double (FP.dconst0)), (.double (FP.dconst0)), (.ref fe)] h0 (fun v h => v = none ∧ Keep h0 h [tk] ∧ Exa Z h tk "com/example/makespan/makespan/planning/TaskOnType" ∧ Fld Z h tk "com/example/makespan/makespan/planning/TaskOnType" "fees" "[D" (.ref fe) ∧ Fld Z h tk "com/example/makespan/makespan/planning/TaskOnType" "feesAllZero" "Z" (.int (0 : Int32))) := by
  refine Ctr.of (plainFor_of_name pn4) hn0 ?_
  intro p e s m below meth c T0 C hnm hret hlk X0
  rw [ef31 m tk vt bl (0 : Int32) (FP.dconst0) (FP.dconst0) fe]
  refine OGo.aloadN (pc' := 1) C X0 d31_0 rfl rfl rfl ?_
  refine OGo.initObj (pc' := 4) C X0 (wd191 hw) (wd20 hw) (wd21 hw) d31_1 rfl rfl (by decide) (Nat.le_of_ble_eq_true rfl) (fun T1 X1 => ?_)
  refine OGo.aloadN (pc' := 5) C X1 d31_4 rfl rfl rfl ?_
  refine OGo.aloadN (pc' := 6) C X1 d31_5 rfl rfl rfl ?_
  refine OGo.putfield (pc' := 9) C X1 (host := "") (Or.inl (wd192 hw)) Via.refl F_type Et gt (Or.inr ⟨(wd193 hw), rfl, hnm⟩) (wd183 hw) (ty := (.object "com/example/makespan/makespan/model/VmType")) (by decide) rfl rfl d31_6 rfl (fun T2 h2 X2 W2 F2 => ?_)
  have K3 : Keep h0 h2 [tk] := (Keep.refl h0 [tk]).wr W2 (Or.inl (List.mem_of_getElem? (i := 0) rfl))
  refine OGo.aloadN (pc' := 10) C X2 d31_9 rfl rfl rfl ?_
  refine OGo.aloadN (pc' := 11) C X2 d31_10 rfl rfl rfl ?_
  have f4 := (F_billing.other W2 (Or.inr (slot_ne (Or.inr (wd195 hw)) (Or.inr (wd193 hw)) (by decide) (t := (.object "com/example/makespan/makespan/model/Billing")) (t' := (.object "com/example/makespan/makespan/model/VmType")) (by decide) (by decide))))
  have f5 := (Et.wr W2)
  refine OGo.putfield (pc' := 14) C X2 (host := "") (Or.inl (wd194 hw)) Via.refl f4 f5 gt (Or.inr ⟨(wd195 hw), rfl, hnm⟩) (wd183 hw) (ty := (.object "com/example/makespan/makespan/model/Billing")) (by decide) rfl rfl d31_11 rfl (fun T6 h6 X6 W6 F6 => ?_)
  have K7 : Keep h0 h6 [tk] := K3.wr W6 (Or.inl (List.mem_of_getElem? (i := 0) rfl))
  refine OGo.aloadN (pc' := 15) C X6 d31_14 rfl rfl rfl ?_
  refine OGo.iloadN (pc' := 16) C X6 d31_15 rfl rfl ?_
  have f8 := ((F_input.other W2 (Or.inr (slot_ne (Or.inr (wd197 hw)) (Or.inr (wd193 hw)) (by decide) (t := .int) (t' := (.object "com/example/makespan/makespan/model/VmType")) (by decide) (by decide)))).other W6 (Or.inr (slot_ne (Or.inr (wd197 hw)) (Or.inr (wd195 hw)) (by decide) (t := .int) (t' := (.object "com/example/makespan/makespan/model/Billing")) (by decide) (by decide))))
  have f9 := (f5.wr W6)
  refine OGo.putfield (pc' := 19) C X6 (host := "") (Or.inl (wd196 hw)) Via.refl f8 f9 gt (Or.inr ⟨(wd197 hw), rfl, hnm⟩) (wd183 hw) (ty := .int) (by decide) rfl rfl d31_16 rfl (fun T10 h10 X10 W10 F10 => ?_)
  have K11 : Keep h0 h10 [tk] := K7.wr W10 (Or.inl (List.mem_of_getElem? (i := 0) rfl))
  refine OGo.aloadN (pc' := 20) C X10 d31_19 rfl rfl rfl ?_
  refine OGo.dload (pc' := 22) C X10 d31_20 rfl rfl ?_
  have f12 := (((F_arrival.other W2 (Or.inr (slot_ne (Or.inr (wd199 hw)) (Or.inr (wd193 hw)) (by decide) (t := .double) (t' := (.object "com/example/makespan/makespan/model/VmType")) (by decide) (by decide)))).other W6 (Or.inr (slot_ne (Or.inr (wd199 hw)) (Or.inr (wd195 hw)) (by decide) (t := .double) (t' := (.object "com/example/makespan/makespan/model/Billing")) (by decide) (by decide)))).other W10 (Or.inr (slot_ne (Or.inr (wd199 hw)) (Or.inr (wd197 hw)) (by decide) (t := .double) (t' := .int) (by decide) (by decide))))
  have f13 := (f9.wr W10)
  refine OGo.putfield (pc' := 25) C X10 (host := "") (Or.inl (wd198 hw)) Via.refl f12 f13 gt (Or.inr ⟨(wd199 hw), rfl, hnm⟩) (wd183 hw) (ty := .double) (by decide) rfl rfl d31_22 rfl (fun T14 h14 X14 W14 F14 => ?_)
  have K15 : Keep h0 h14 [tk] := K11.wr W14 (Or.inl (List.mem_of_getElem? (i := 0) rfl))
  refine OGo.aloadN (pc' := 26) C X14 d31_25 rfl rfl rfl ?_
  refine OGo.aloadN (pc' := 27) C X14 d31_26 rfl rfl rfl ?_
  have f16 := ((((Fb.other W2 (Or.inl (Ne.symm (Exa.ne Et Ev (by decide))))).other W6 (Or.inl (Ne.symm (Exa.ne Et Ev (by decide))))).other W10 (Or.inl (Ne.symm (Exa.ne Et Ev (by decide))))).other W14 (Or.inl (Ne.symm (Exa.ne Et Ev (by decide)))))
  have f18 := ((((Ev.wr W2).wr W6).wr W10).wr W14)
  refine OGo.callV (pc' := 30) (cells' := 0) (slots' := 0) (argsL := []) (St := [(.ref tk)]) C X14 (wd200 hw) (wd201 hw) (wd203 hw) (wd202 hw) (by decide) f18 (wd204 hw) (wd4 hw) (ctBoot hw X14.2.1 vt f16) (lenOf pd22 rfl) rfl d31_27 rfl rfl (by decide) (Nat.le_of_ble_eq_true rfl) rfl rfl (by decide) (by decide) (fun v17 T17 h17 Q17 X17 z17 => ?_)
  obtain ⟨hv17, hh17⟩ := Q17
  subst hv17; rw [hh17] at X17
  show OGo p e below _ T17 (mkF m 30 #[.val (.ref tk), .val (.ref vt), .val (.ref bl), .val (.int (0 : Int32)), .val (.double (FP.dconst0)), .second, .val (.double (FP.dconst0)), .second, .val (.ref fe), .unset, .unset] [(.double (FP.dconst0)), (.ref tk)])
  refine OGo.dload (pc' := 32) C X17 d31_30 rfl rfl ?_
  refine OGo.natS (pc' := 35) (argsL := [(.double (FP.dconst0)), (.double (FP.dconst0))]) (St := [(.ref tk)]) (val := .double (Native.java_lang_Math.nans.pick64 true (FP.dconst0) (FP.dconst0))) C X17 (wd205 hw) (wd206 hw) (wd143 hw) (wd207 hw) (by decide) (lenOf pd23 rfl) d31_32 rfl rfl (by decide) (by decide) (fun hq => Jvm.Free.Fl.Abs.maxD_pays (FP.dconst0) (FP.dconst0) hq (by decide) (Nat.le_of_ble_eq_true rfl)) (⟨rfl, by unfold NoNaN64; decide +kernel, by unfold NoNaN64; decide +kernel⟩) (fun T19 X19 => ?_)
  rw [show Native.java_lang_Math.nans.pick64 true (FP.dconst0) (FP.dconst0) = FP.dconst0 from by decide +kernel]
  have f20 := ((((F_ready.other W2 (Or.inr (slot_ne (Or.inr (wd209 hw)) (Or.inr (wd193 hw)) (by decide) (t := .double) (t' := (.object "com/example/makespan/makespan/model/VmType")) (by decide) (by decide)))).other W6 (Or.inr (slot_ne (Or.inr (wd209 hw)) (Or.inr (wd195 hw)) (by decide) (t := .double) (t' := (.object "com/example/makespan/makespan/model/Billing")) (by decide) (by decide)))).other W10 (Or.inr (slot_ne (Or.inr (wd209 hw)) (Or.inr (wd197 hw)) (by decide) (t := .double) (t' := .int) (by decide) (by decide)))).other W14 (Or.inr (slot_ne (Or.inr (wd209 hw)) (Or.inr (wd199 hw)) (by decide) (t := .double) (t' := .double) (by decide) (by decide))))
  have f21 := (f13.wr W14)
  refine OGo.putfield (pc' := 38) C X19 (host := "") (Or.inl (wd208 hw)) Via.refl f20 f21 gt (Or.inr ⟨(wd209 hw), rfl, hnm⟩) (wd183 hw) (ty := .double) (by decide) rfl rfl d31_35 rfl (fun T22 h22 X22 W22 F22 => ?_)
  have K23 : Keep h0 h22 [tk] := K15.wr W22 (Or.inl (List.mem_of_getElem? (i := 0) rfl))
  refine OGo.aloadN (pc' := 39) C X22 d31_38 rfl rfl rfl ?_
  refine OGo.dload (pc' := 41) C X22 d31_39 rfl rfl ?_
  have f24 := (((((F_seconds.other W2 (Or.inr (slot_ne (Or.inr (wd211 hw)) (Or.inr (wd193 hw)) (by decide) (t := .double) (t' := (.object "com/example/makespan/makespan/model/VmType")) (by decide) (by decide)))).other W6 (Or.inr (slot_ne (Or.inr (wd211 hw)) (Or.inr (wd195 hw)) (by decide) (t := .double) (t' := (.object "com/example/makespan/makespan/model/Billing")) (by decide) (by decide)))).other W10 (Or.inr (slot_ne (Or.inr (wd211 hw)) (Or.inr (wd197 hw)) (by decide) (t := .double) (t' := .int) (by decide) (by decide)))).other W14 (Or.inr (slot_ne (Or.inr (wd211 hw)) (Or.inr (wd199 hw)) (by decide) (t := .double) (t' := .double) (by decide) (by decide)))).other W22 (Or.inr (slot_ne (Or.inr (wd211 hw)) (Or.inr (wd209 hw)) (by decide) (t := .double) (t' := .double) (by decide) (by decide))))
  have f25 := (f21.wr W22)
  refine OGo.putfield (pc' := 44) C X22 (host := "") (Or.inl (wd210 hw)) Via.refl f24 f25 gt (Or.inr ⟨(wd211 hw), rfl, hnm⟩) (wd183 hw) (ty := .double) (by decide) rfl rfl d31_41 rfl (fun T26 h26 X26 W26 F26 => ?_)
  have K27 : Keep h0 h26 [tk] := K23.wr W26 (Or.inl (List.mem_of_getElem? (i := 0) rfl))
  refine OGo.aloadN (pc' := 45) C X26 d31_44 rfl rfl rfl ?_
  refine OGo.aload (pc' := 47) C X26 d31_45 rfl rfl rfl ?_
  have f28 := ((((((F_fees.other W2 (Or.inr (slot_ne (Or.inr (wd213 hw)) (Or.inr (wd193 hw)) (by decide) (t := (.array .double)) (t' := (.object "com/example/makespan/makespan/model/VmType")) (by decide) (by decide)))).other W6 (Or.inr (slot_ne (Or.inr (wd213 hw)) (Or.inr (wd195 hw)) (by decide) (t := (.array .double)) (t' := (.object "com/example/makespan/makespan/model/Billing")) (by decide) (by decide)))).other W10 (Or.inr (slot_ne (Or.inr (wd213 hw)) (Or.inr (wd197 hw)) (by decide) (t := (.array .double)) (t' := .int) (by decide) (by decide)))).other W14 (Or.inr (slot_ne (Or.inr (wd213 hw)) (Or.inr (wd199 hw)) (by decide) (t := (.array .double)) (t' := .double) (by decide) (by decide)))).other W22 (Or.inr (slot_ne (Or.inr (wd213 hw)) (Or.inr (wd209 hw)) (by decide) (t := (.array .double)) (t' := .double) (by decide) (by decide)))).other W26 (Or.inr (slot_ne (Or.inr (wd213 hw)) (Or.inr (wd211 hw)) (by decide) (t := (.array .double)) (t' := .double) (by decide) (by decide))))
  have f29 := (f25.wr W26)
  refine OGo.putfield (pc' := 50) C X26 (host := "") (Or.inl (wd212 hw)) Via.refl f28 f29 gt (Or.inr ⟨(wd213 hw), rfl, hnm⟩) (wd183 hw) (ty := (.array .double)) (by decide) rfl rfl d31_47 rfl (fun T30 h30 X30 W30 F30 => ?_)
  have K31 : Keep h0 h30 [tk] := K27.wr W30 (Or.inl (List.mem_of_getElem? (i := 0) rfl))
  refine OGo.aload (pc' := 52) C X30 d31_50 rfl rfl rfl ?_
  refine OGo.ifnullNo (pc' := 55) C X30 d31_52 rfl ?_
  refine OGo.iconst (pc' := 56) (z := (1 : Int32)) C X30 d31_55 rfl (by decide) ?_
  refine OGo.goto (pc' := 60) C X30 d31_56 (by decide) (by decide) ?_
  refine OGo.istore (pc' := 62) C X30 d31_60 rfl (l' := #[.val (.ref tk), .val (.ref vt), .val (.ref bl), .val (.int (0 : Int32)), .val (.double (FP.dconst0)), .second, .val (.double (FP.dconst0)), .second, .val (.ref fe), .val (.int (1 : Int32)), .unset]) rfl ?_
  refine OGo.iconst (pc' := 63) (z := (0 : Int32)) C X30 d31_62 rfl (by decide) ?_
  refine OGo.istore (pc' := 65) C X30 d31_63 rfl (l' := #[.val (.ref tk), .val (.ref vt), .val (.ref bl), .val (.int (0 : Int32)), .val (.double (FP.dconst0)), .second, .val (.double (FP.dconst0)), .second, .val (.ref fe), .val (.int (1 : Int32)), .val (.int (0 : Int32))]) rfl ?_
  refine OGo.iload (pc' := 67) C X30 d31_65 rfl rfl ?_
  refine OGo.ifNo (pc' := 70) C X30 d31_67 rfl (feq (by decide : ¬ (1 : Int32) = (0 : Int32))).1 ?_
  refine OGo.iload (pc' := 72) C X30 d31_70 rfl rfl ?_
  refine OGo.aload (pc' := 74) C X30 d31_72 rfl rfl rfl ?_
  have f32 := (((((((Vf.other W2 (Ne.symm (Exa.neArv Et Vf (wd183 hw)))).other W6 (Ne.symm (Exa.neArv Et Vf (wd183 hw)))).other W10 (Ne.symm (Exa.neArv Et Vf (wd183 hw)))).other W14 (Ne.symm (Exa.neArv Et Vf (wd183 hw)))).other W22 (Ne.symm (Exa.neArv Et Vf (wd183 hw)))).other W26 (Ne.symm (Exa.neArv Et Vf (wd183 hw)))).other W30 (Ne.symm (Exa.neArv Et Vf (wd183 hw))))
  refine OGo.arraylength (pc' := 75) C X30 f32 d31_74 rfl ?_
  refine OGo.icmpNo (pc' := 78) C X30 d31_75 rfl (tlt (by decide : (0 : Int32) < (2 : Int32))).2.1 ?_
  refine OGo.aload (pc' := 80) C X30 d31_78 rfl rfl rfl ?_
  refine OGo.iload (pc' := 82) C X30 d31_80 rfl rfl ?_
  refine OGo.daload (pc' := 83) C X30 f32 d31_82 rfl ⟨by decide, by decide⟩ (v := (FP.i2d fa)) rfl ?_
  refine OGo.dconst0 (pc' := 84) (v := (FP.dconst0)) C X30 d31_83 rfl rfl ?_
  refine OGo.dcmp (pc' := 85) (v := (0 : Int32)) C X30 d31_84 rfl (own_z0 hz0) ?_
  refine OGo.ifNo (pc' := 88) C X30 d31_85 rfl (teq (by decide : (0 : Int32) = (0 : Int32))).2 ?_
  refine OGo.iconst (pc' := 89) (z := (1 : Int32)) C X30 d31_88 rfl (by decide) ?_
  refine OGo.goto (pc' := 93) C X30 d31_89 (by decide) (by decide) ?_
  refine OGo.istore (pc' := 95) C X30 d31_93 rfl (l' := #[.val (.ref tk), .val (.ref vt), .val (.ref bl), .val (.int (0 : Int32)), .val (.double (FP.dconst0)), .second, .val (.double (FP.dconst0)), .second, .val (.ref fe), .val (.int (1 : Int32)), .val (.int (0 : Int32))]) rfl ?_
  refine OGo.iinc (pc' := 98) C X30 d31_95 rfl rfl (z := (1 : Int32)) (by decide) (l' := #[.val (.ref tk), .val (.ref vt), .val (.ref bl), .val (.int (0 : Int32)), .val (.double (FP.dconst0)), .second, .val (.double (FP.dconst0)), .second, .val (.ref fe), .val (.int (1 : Int32)), .val (.int (1 : Int32))]) rfl ?_
  refine OGo.goto (pc' := 65) C X30 d31_98 (by decide) (by decide) ?_
  refine OGo.iload (pc' := 67) C X30 d31_65 rfl rfl ?_
  refine OGo.ifNo (pc' := 70) C X30 d31_67 rfl (feq (by decide : ¬ (1 : Int32) = (0 : Int32))).1 ?_
  refine OGo.iload (pc' := 72) C X30 d31_70 rfl rfl ?_
  refine OGo.aload (pc' := 74) C X30 d31_72 rfl rfl rfl ?_
  refine OGo.arraylength (pc' := 75) C X30 f32 d31_74 rfl ?_
  refine OGo.icmpNo (pc' := 78) C X30 d31_75 rfl (tlt (by decide : (1 : Int32) < (2 : Int32))).2.1 ?_
  refine OGo.aload (pc' := 80) C X30 d31_78 rfl rfl rfl ?_
  refine OGo.iload (pc' := 82) C X30 d31_80 rfl rfl ?_
  refine OGo.daload (pc' := 83) C X30 f32 d31_82 rfl ⟨by decide, by decide⟩ (v := (FP.i2d fb)) rfl ?_
  refine OGo.dconst0 (pc' := 84) (v := (FP.dconst0)) C X30 d31_83 rfl rfl ?_
  refine OGo.dcmp (pc' := 85) (v := (cmpValue (FP.dcmp (FP.i2d fb) (FP.dconst0)) .l)) C X30 d31_84 rfl rfl ?_
  refine OGo.ifYes (pc' := 92) C X30 d31_85 (feq (own_nz hz1)).2 (by decide) (by decide) ?_
  refine OGo.iconst (pc' := 93) (z := (0 : Int32)) C X30 d31_92 rfl (by decide) ?_
  refine OGo.istore (pc' := 95) C X30 d31_93 rfl (l' := #[.val (.ref tk), .val (.ref vt), .val (.ref bl), .val (.int (0 : Int32)), .val (.double (FP.dconst0)), .second, .val (.double (FP.dconst0)), .second, .val (.ref fe), .val (.int (0 : Int32)), .val (.int (1 : Int32))]) rfl ?_
  refine OGo.iinc (pc' := 98) C X30 d31_95 rfl rfl (z := (2 : Int32)) (by decide) (l' := #[.val (.ref tk), .val (.ref vt), .val (.ref bl), .val (.int (0 : Int32)), .val (.double (FP.dconst0)), .second, .val (.double (FP.dconst0)), .second, .val (.ref fe), .val (.int (0 : Int32)), .val (.int (2 : Int32))]) rfl ?_
  refine OGo.goto (pc' := 65) C X30 d31_98 (by decide) (by decide) ?_
  refine OGo.iload (pc' := 67) C X30 d31_65 rfl rfl ?_
  refine OGo.ifYes (pc' := 101) C X30 d31_67 (teq (by decide : (0 : Int32) = (0 : Int32))).1 (by decide) (by decide) ?_
  refine OGo.aloadN (pc' := 102) C X30 d31_101 rfl rfl rfl ?_
  refine OGo.iload (pc' := 104) C X30 d31_102 rfl rfl ?_
  have f33 := (((((((F_feesAllZero.other W2 (Or.inr (slot_ne (Or.inr (wd215 hw)) (Or.inr (wd193 hw)) (by decide) (t := .boolean) (t' := (.object "com/example/makespan/makespan/model/VmType")) (by decide) (by decide)))).other W6 (Or.inr (slot_ne (Or.inr (wd215 hw)) (Or.inr (wd195 hw)) (by decide) (t := .boolean) (t' := (.object "com/example/makespan/makespan/model/Billing")) (by decide) (by decide)))).other W10 (Or.inr (slot_ne (Or.inr (wd215 hw)) (Or.inr (wd197 hw)) (by decide) (t := .boolean) (t' := .int) (by decide) (by decide)))).other W14 (Or.inr (slot_ne (Or.inr (wd215 hw)) (Or.inr (wd199 hw)) (by decide) (t := .boolean) (t' := .double) (by decide) (by decide)))).other W22 (Or.inr (slot_ne (Or.inr (wd215 hw)) (Or.inr (wd209 hw)) (by decide) (t := .boolean) (t' := .double) (by decide) (by decide)))).other W26 (Or.inr (slot_ne (Or.inr (wd215 hw)) (Or.inr (wd211 hw)) (by decide) (t := .boolean) (t' := .double) (by decide) (by decide)))).other W30 (Or.inr (slot_ne (Or.inr (wd215 hw)) (Or.inr (wd213 hw)) (by decide) (t := .boolean) (t' := (.array .double)) (by decide) (by decide))))
  have f34 := (f29.wr W30)
  refine OGo.putfield (pc' := 107) C X30 (host := "") (Or.inl (wd214 hw)) Via.refl f33 f34 gt (Or.inr ⟨(wd215 hw), rfl, hnm⟩) (wd183 hw) (ty := .boolean) (by decide) rfl rfl d31_104 rfl (fun T35 h35 X35 W35 F35 => ?_)
  have K36 : Keep h0 h35 [tk] := K31.wr W35 (Or.inl (List.mem_of_getElem? (i := 0) rfl))
  have f37 := (f34.wr W35)
  have f38 := (F30.other W35 (Or.inr (slot_ne (Or.inr (wd213 hw)) (Or.inr (wd215 hw)) (by decide) (t := (.array .double)) (t' := .boolean) (by decide) (by decide))))
  exact OGo.ret C X35 d31_107 hret hlk (⟨rfl, K36, f37, f38, F35⟩) (by decide) (by decide)
set_option maxRecDepth 65536 in
set_option maxHeartbeats 40000000 in
theorem ctTk22R {l : Launch} {Z : State} {a0 : Array Value} (hw : HW a0 Z) {n0 : Nat} {h0 : Heap} (hn0 : n0 ≤ h0.size) (tk vt fe bl : Addr) (kf : ClassId) (fa fb : Int32) (Et : Exa Z h0 tk "com/example/makespan/makespan/planning/TaskOnType") (F_type : Fld Z h0 tk "com/example/makespan/makespan/planning/TaskOnType" "type" "Lcom/example/makespan/makespan/model/VmType;" .null) (F_billing : Fld Z h0 tk "com/example/makespan/makespan/planning/TaskOnType" "billing" "Lcom/example/makespan/makespan/model/Billing;" .null) (F_input : Fld Z h0 tk "com/example/makespan/makespan/planning/TaskOnType" "input" "I" (.int (0 : Int32))) (F_arrival : Fld Z h0 tk "com/example/makespan/makespan/planning/TaskOnType" "arrival" "D" (.double (0 : UInt64))) (F_ready : Fld Z h0 tk "com/example/makespan/makespan/planning/TaskOnType" "ready" "D" (.double (0 : UInt64))) (F_seconds : Fld Z h0 tk "com/example/makespan/makespan/planning/TaskOnType" "seconds" "D" (.double (0 : UInt64))) (F_fees : Fld Z h0 tk "com/example/makespan/makespan/planning/TaskOnType" "fees" "[D" .null) (F_feesAllZero : Fld Z h0 tk "com/example/makespan/makespan/planning/TaskOnType" "feesAllZero" "Z" (.int (0 : Int32))) (gt : n0 ≤ tk) (Ev : Exa Z h0 vt "com/example/makespan/makespan/model/VmType") (Fb : Fld Z h0 vt "com/example/makespan/makespan/model/VmType" "bootSeconds" "D" (.double (FP.dconst0))) (Vf : Arv Z h0 fe kf .double (2 : Int32) [(.double (FP.i2d fa)), (.double (FP.i2d fb))] (.double (0 : UInt64))) (hz0 : fa = 0) (hz1 : fb = 0) :
    Ctr l Z (⟨"com/example/makespan/makespan/planning/TaskOnType", "<init>", "(Lcom/example/makespan/makespan/model/VmType;Lcom/example/makespan/makespan/model/Billing;IDD[D)V"⟩ : MethodName) prog_105_method_1_code 11 none ({ frames := 1, cells := 0, slots := 0, locals := 30 } : Room) n0 #[(.ref tk), (.ref vt), (.ref bl), (.int (0 : Int32)), (.double (FP.dconst0)), (.double (FP.dconst0)), (.ref fe)] h0 (fun v h => v = none ∧ Keep h0 h [tk] ∧ Exa Z h tk "com/example/makespan/makespan/planning/TaskOnType" ∧ Fld Z h tk "com/example/makespan/makespan/planning/TaskOnType" "fees" "[D" (.ref fe) ∧ Fld Z h tk "com/example/makespan/makespan/planning/TaskOnType" "feesAllZero" "Z" (.int (1 : Int32))) := by
  refine Ctr.of (plainFor_of_name pn4) hn0 ?_
  intro p e s m below meth c T0 C hnm hret hlk X0
  rw [ef31 m tk vt bl (0 : Int32) (FP.dconst0) (FP.dconst0) fe]
  refine OGo.aloadN (pc' := 1) C X0 d31_0 rfl rfl rfl ?_
  refine OGo.initObj (pc' := 4) C X0 (wd191 hw) (wd20 hw) (wd21 hw) d31_1 rfl rfl (by decide) (Nat.le_of_ble_eq_true rfl) (fun T1 X1 => ?_)
  refine OGo.aloadN (pc' := 5) C X1 d31_4 rfl rfl rfl ?_
  refine OGo.aloadN (pc' := 6) C X1 d31_5 rfl rfl rfl ?_
  refine OGo.putfield (pc' := 9) C X1 (host := "") (Or.inl (wd192 hw)) Via.refl F_type Et gt (Or.inr ⟨(wd193 hw), rfl, hnm⟩) (wd183 hw) (ty := (.object "com/example/makespan/makespan/model/VmType")) (by decide) rfl rfl d31_6 rfl (fun T2 h2 X2 W2 F2 => ?_)
  have K3 : Keep h0 h2 [tk] := (Keep.refl h0 [tk]).wr W2 (Or.inl (List.mem_of_getElem? (i := 0) rfl))
  refine OGo.aloadN (pc' := 10) C X2 d31_9 rfl rfl rfl ?_
  refine OGo.aloadN (pc' := 11) C X2 d31_10 rfl rfl rfl ?_
  have f4 := (F_billing.other W2 (Or.inr (slot_ne (Or.inr (wd195 hw)) (Or.inr (wd193 hw)) (by decide) (t := (.object "com/example/makespan/makespan/model/Billing")) (t' := (.object "com/example/makespan/makespan/model/VmType")) (by decide) (by decide))))
  have f5 := (Et.wr W2)
  refine OGo.putfield (pc' := 14) C X2 (host := "") (Or.inl (wd194 hw)) Via.refl f4 f5 gt (Or.inr ⟨(wd195 hw), rfl, hnm⟩) (wd183 hw) (ty := (.object "com/example/makespan/makespan/model/Billing")) (by decide) rfl rfl d31_11 rfl (fun T6 h6 X6 W6 F6 => ?_)
  have K7 : Keep h0 h6 [tk] := K3.wr W6 (Or.inl (List.mem_of_getElem? (i := 0) rfl))
  refine OGo.aloadN (pc' := 15) C X6 d31_14 rfl rfl rfl ?_
  refine OGo.iloadN (pc' := 16) C X6 d31_15 rfl rfl ?_
  have f8 := ((F_input.other W2 (Or.inr (slot_ne (Or.inr (wd197 hw)) (Or.inr (wd193 hw)) (by decide) (t := .int) (t' := (.object "com/example/makespan/makespan/model/VmType")) (by decide) (by decide)))).other W6 (Or.inr (slot_ne (Or.inr (wd197 hw)) (Or.inr (wd195 hw)) (by decide) (t := .int) (t' := (.object "com/example/makespan/makespan/model/Billing")) (by decide) (by decide))))
  have f9 := (f5.wr W6)
  refine OGo.putfield (pc' := 19) C X6 (host := "") (Or.inl (wd196 hw)) Via.refl f8 f9 gt (Or.inr ⟨(wd197 hw), rfl, hnm⟩) (wd183 hw) (ty := .int) (by decide) rfl rfl d31_16 rfl (fun T10 h10 X10 W10 F10 => ?_)
  have K11 : Keep h0 h10 [tk] := K7.wr W10 (Or.inl (List.mem_of_getElem? (i := 0) rfl))
  refine OGo.aloadN (pc' := 20) C X10 d31_19 rfl rfl rfl ?_
  refine OGo.dload (pc' := 22) C X10 d31_20 rfl rfl ?_
  have f12 := (((F_arrival.other W2 (Or.inr (slot_ne (Or.inr (wd199 hw)) (Or.inr (wd193 hw)) (by decide) (t := .double) (t' := (.object "com/example/makespan/makespan/model/VmType")) (by decide) (by decide)))).other W6 (Or.inr (slot_ne (Or.inr (wd199 hw)) (Or.inr (wd195 hw)) (by decide) (t := .double) (t' := (.object "com/example/makespan/makespan/model/Billing")) (by decide) (by decide)))).other W10 (Or.inr (slot_ne (Or.inr (wd199 hw)) (Or.inr (wd197 hw)) (by decide) (t := .double) (t' := .int) (by decide) (by decide))))
  have f13 := (f9.wr W10)
  refine OGo.putfield (pc' := 25) C X10 (host := "") (Or.inl (wd198 hw)) Via.refl f12 f13 gt (Or.inr ⟨(wd199 hw), rfl, hnm⟩) (wd183 hw) (ty := .double) (by decide) rfl rfl d31_22 rfl (fun T14 h14 X14 W14 F14 => ?_)
  have K15 : Keep h0 h14 [tk] := K11.wr W14 (Or.inl (List.mem_of_getElem? (i := 0) rfl))
  refine OGo.aloadN (pc' := 26) C X14 d31_25 rfl rfl rfl ?_
  refine OGo.aloadN (pc' := 27) C X14 d31_26 rfl rfl rfl ?_
  have f16 := ((((Fb.other W2 (Or.inl (Ne.symm (Exa.ne Et Ev (by decide))))).other W6 (Or.inl (Ne.symm (Exa.ne Et Ev (by decide))))).other W10 (Or.inl (Ne.symm (Exa.ne Et Ev (by decide))))).other W14 (Or.inl (Ne.symm (Exa.ne Et Ev (by decide)))))
  have f18 := ((((Ev.wr W2).wr W6).wr W10).wr W14)
  refine OGo.callV (pc' := 30) (cells' := 0) (slots' := 0) (argsL := []) (St := [(.ref tk)]) C X14 (wd200 hw) (wd201 hw) (wd203 hw) (wd202 hw) (by decide) f18 (wd204 hw) (wd4 hw) (ctBoot hw X14.2.1 vt f16) (lenOf pd22 rfl) rfl d31_27 rfl rfl (by decide) (Nat.le_of_ble_eq_true rfl) rfl rfl (by decide) (by decide) (fun v17 T17 h17 Q17 X17 z17 => ?_)
  obtain ⟨hv17, hh17⟩ := Q17
  subst hv17; rw [hh17] at X17
  show OGo p e below _ T17 (mkF m 30 #[.val (.ref tk), .val (.ref vt), .val (.ref bl), .val (.int (0 : Int32)), .val (.double (FP.dconst0)), .second, .val (.double (FP.dconst0)), .second, .val (.ref fe), .unset, .unset] [(.double (FP.dconst0)), (.ref tk)])
  refine OGo.dload (pc' := 32) C X17 d31_30 rfl rfl ?_
  refine OGo.natS (pc' := 35) (argsL := [(.double (FP.dconst0)), (.double (FP.dconst0))]) (St := [(.ref tk)]) (val := .double (Native.java_lang_Math.nans.pick64 true (FP.dconst0) (FP.dconst0))) C X17 (wd205 hw) (wd206 hw) (wd143 hw) (wd207 hw) (by decide) (lenOf pd23 rfl) d31_32 rfl rfl (by decide) (by decide) (fun hq => Jvm.Free.Fl.Abs.maxD_pays (FP.dconst0) (FP.dconst0) hq (by decide) (Nat.le_of_ble_eq_true rfl)) (⟨rfl, by unfold NoNaN64; decide +kernel, by unfold NoNaN64; decide +kernel⟩) (fun T19 X19 => ?_)
  rw [show Native.java_lang_Math.nans.pick64 true (FP.dconst0) (FP.dconst0) = FP.dconst0 from by decide +kernel]
  have f20 := ((((F_ready.other W2 (Or.inr (slot_ne (Or.inr (wd209 hw)) (Or.inr (wd193 hw)) (by decide) (t := .double) (t' := (.object "com/example/makespan/makespan/model/VmType")) (by decide) (by decide)))).other W6 (Or.inr (slot_ne (Or.inr (wd209 hw)) (Or.inr (wd195 hw)) (by decide) (t := .double) (t' := (.object "com/example/makespan/makespan/model/Billing")) (by decide) (by decide)))).other W10 (Or.inr (slot_ne (Or.inr (wd209 hw)) (Or.inr (wd197 hw)) (by decide) (t := .double) (t' := .int) (by decide) (by decide)))).other W14 (Or.inr (slot_ne (Or.inr (wd209 hw)) (Or.inr (wd199 hw)) (by decide) (t := .double) (t' := .double) (by decide) (by decide))))
  have f21 := (f13.wr W14)
  refine OGo.putfield (pc' := 38) C X19 (host := "") (Or.inl (wd208 hw)) Via.refl f20 f21 gt (Or.inr ⟨(wd209 hw), rfl, hnm⟩) (wd183 hw) (ty := .double) (by decide) rfl rfl d31_35 rfl (fun T22 h22 X22 W22 F22 => ?_)
  have K23 : Keep h0 h22 [tk] := K15.wr W22 (Or.inl (List.mem_of_getElem? (i := 0) rfl))
  refine OGo.aloadN (pc' := 39) C X22 d31_38 rfl rfl rfl ?_
  refine OGo.dload (pc' := 41) C X22 d31_39 rfl rfl ?_
  have f24 := (((((F_seconds.other W2 (Or.inr (slot_ne (Or.inr (wd211 hw)) (Or.inr (wd193 hw)) (by decide) (t := .double) (t' := (.object "com/example/makespan/makespan/model/VmType")) (by decide) (by decide)))).other W6 (Or.inr (slot_ne (Or.inr (wd211 hw)) (Or.inr (wd195 hw)) (by decide) (t := .double) (t' := (.object "com/example/makespan/makespan/model/Billing")) (by decide) (by decide)))).other W10 (Or.inr (slot_ne (Or.inr (wd211 hw)) (Or.inr (wd197 hw)) (by decide) (t := .double) (t' := .int) (by decide) (by decide)))).other W14 (Or.inr (slot_ne (Or.inr (wd211 hw)) (Or.inr (wd199 hw)) (by decide) (t := .double) (t' := .double) (by decide) (by decide)))).other W22 (Or.inr (slot_ne (Or.inr (wd211 hw)) (Or.inr (wd209 hw)) (by decide) (t := .double) (t' := .double) (by decide) (by decide))))
  have f25 := (f21.wr W22)
  refine OGo.putfield (pc' := 44) C X22 (host := "") (Or.inl (wd210 hw)) Via.refl f24 f25 gt (Or.inr ⟨(wd211 hw), rfl, hnm⟩) (wd183 hw) (ty := .double) (by decide) rfl rfl d31_41 rfl (fun T26 h26 X26 W26 F26 => ?_)
  have K27 : Keep h0 h26 [tk] := K23.wr W26 (Or.inl (List.mem_of_getElem? (i := 0) rfl))
  refine OGo.aloadN (pc' := 45) C X26 d31_44 rfl rfl rfl ?_
  refine OGo.aload (pc' := 47) C X26 d31_45 rfl rfl rfl ?_
  have f28 := ((((((F_fees.other W2 (Or.inr (slot_ne (Or.inr (wd213 hw)) (Or.inr (wd193 hw)) (by decide) (t := (.array .double)) (t' := (.object "com/example/makespan/makespan/model/VmType")) (by decide) (by decide)))).other W6 (Or.inr (slot_ne (Or.inr (wd213 hw)) (Or.inr (wd195 hw)) (by decide) (t := (.array .double)) (t' := (.object "com/example/makespan/makespan/model/Billing")) (by decide) (by decide)))).other W10 (Or.inr (slot_ne (Or.inr (wd213 hw)) (Or.inr (wd197 hw)) (by decide) (t := (.array .double)) (t' := .int) (by decide) (by decide)))).other W14 (Or.inr (slot_ne (Or.inr (wd213 hw)) (Or.inr (wd199 hw)) (by decide) (t := (.array .double)) (t' := .double) (by decide) (by decide)))).other W22 (Or.inr (slot_ne (Or.inr (wd213 hw)) (Or.inr (wd209 hw)) (by decide) (t := (.array .double)) (t' := .double) (by decide) (by decide)))).other W26 (Or.inr (slot_ne (Or.inr (wd213 hw)) (Or.inr (wd211 hw)) (by decide) (t := (.array .double)) (t' := .double) (by decide) (by decide))))
  have f29 := (f25.wr W26)
  refine OGo.putfield (pc' := 50) C X26 (host := "") (Or.inl (wd212 hw)) Via.refl f28 f29 gt (Or.inr ⟨(wd213 hw), rfl, hnm⟩) (wd183 hw) (ty := (.array .double)) (by decide) rfl rfl d31_47 rfl (fun T30 h30 X30 W30 F30 => ?_)
  have K31 : Keep h0 h30 [tk] := K27.wr W30 (Or.inl (List.mem_of_getElem? (i := 0) rfl))
  refine OGo.aload (pc' := 52) C X30 d31_50 rfl rfl rfl ?_
  refine OGo.ifnullNo (pc' := 55) C X30 d31_52 rfl ?_
  refine OGo.iconst (pc' := 56) (z := (1 : Int32)) C X30 d31_55 rfl (by decide) ?_
  refine OGo.goto (pc' := 60) C X30 d31_56 (by decide) (by decide) ?_
  refine OGo.istore (pc' := 62) C X30 d31_60 rfl (l' := #[.val (.ref tk), .val (.ref vt), .val (.ref bl), .val (.int (0 : Int32)), .val (.double (FP.dconst0)), .second, .val (.double (FP.dconst0)), .second, .val (.ref fe), .val (.int (1 : Int32)), .unset]) rfl ?_
  refine OGo.iconst (pc' := 63) (z := (0 : Int32)) C X30 d31_62 rfl (by decide) ?_
  refine OGo.istore (pc' := 65) C X30 d31_63 rfl (l' := #[.val (.ref tk), .val (.ref vt), .val (.ref bl), .val (.int (0 : Int32)), .val (.double (FP.dconst0)), .second, .val (.double (FP.dconst0)), .second, .val (.ref fe), .val (.int (1 : Int32)), .val (.int (0 : Int32))]) rfl ?_
  refine OGo.iload (pc' := 67) C X30 d31_65 rfl rfl ?_
  refine OGo.ifNo (pc' := 70) C X30 d31_67 rfl (feq (by decide : ¬ (1 : Int32) = (0 : Int32))).1 ?_
  refine OGo.iload (pc' := 72) C X30 d31_70 rfl rfl ?_
  refine OGo.aload (pc' := 74) C X30 d31_72 rfl rfl rfl ?_
  have f32 := (((((((Vf.other W2 (Ne.symm (Exa.neArv Et Vf (wd183 hw)))).other W6 (Ne.symm (Exa.neArv Et Vf (wd183 hw)))).other W10 (Ne.symm (Exa.neArv Et Vf (wd183 hw)))).other W14 (Ne.symm (Exa.neArv Et Vf (wd183 hw)))).other W22 (Ne.symm (Exa.neArv Et Vf (wd183 hw)))).other W26 (Ne.symm (Exa.neArv Et Vf (wd183 hw)))).other W30 (Ne.symm (Exa.neArv Et Vf (wd183 hw))))
  refine OGo.arraylength (pc' := 75) C X30 f32 d31_74 rfl ?_
  refine OGo.icmpNo (pc' := 78) C X30 d31_75 rfl (tlt (by decide : (0 : Int32) < (2 : Int32))).2.1 ?_
  refine OGo.aload (pc' := 80) C X30 d31_78 rfl rfl rfl ?_
  refine OGo.iload (pc' := 82) C X30 d31_80 rfl rfl ?_
  refine OGo.daload (pc' := 83) C X30 f32 d31_82 rfl ⟨by decide, by decide⟩ (v := (FP.i2d fa)) rfl ?_
  refine OGo.dconst0 (pc' := 84) (v := (FP.dconst0)) C X30 d31_83 rfl rfl ?_
  refine OGo.dcmp (pc' := 85) (v := (0 : Int32)) C X30 d31_84 rfl (own_z0 hz0) ?_
  refine OGo.ifNo (pc' := 88) C X30 d31_85 rfl (teq (by decide : (0 : Int32) = (0 : Int32))).2 ?_
  refine OGo.iconst (pc' := 89) (z := (1 : Int32)) C X30 d31_88 rfl (by decide) ?_
  refine OGo.goto (pc' := 93) C X30 d31_89 (by decide) (by decide) ?_
  refine OGo.istore (pc' := 95) C X30 d31_93 rfl (l' := #[.val (.ref tk), .val (.ref vt), .val (.ref bl), .val (.int (0 : Int32)), .val (.double (FP.dconst0)), .second, .val (.double (FP.dconst0)), .second, .val (.ref fe), .val (.int (1 : Int32)), .val (.int (0 : Int32))]) rfl ?_
  refine OGo.iinc (pc' := 98) C X30 d31_95 rfl rfl (z := (1 : Int32)) (by decide) (l' := #[.val (.ref tk), .val (.ref vt), .val (.ref bl), .val (.int (0 : Int32)), .val (.double (FP.dconst0)), .second, .val (.double (FP.dconst0)), .second, .val (.ref fe), .val (.int (1 : Int32)), .val (.int (1 : Int32))]) rfl ?_
  refine OGo.goto (pc' := 65) C X30 d31_98 (by decide) (by decide) ?_
  refine OGo.iload (pc' := 67) C X30 d31_65 rfl rfl ?_
  refine OGo.ifNo (pc' := 70) C X30 d31_67 rfl (feq (by decide : ¬ (1 : Int32) = (0 : Int32))).1 ?_
  refine OGo.iload (pc' := 72) C X30 d31_70 rfl rfl ?_
  refine OGo.aload (pc' := 74) C X30 d31_72 rfl rfl rfl ?_
  refine OGo.arraylength (pc' := 75) C X30 f32 d31_74 rfl ?_
  refine OGo.icmpNo (pc' := 78) C X30 d31_75 rfl (tlt (by decide : (1 : Int32) < (2 : Int32))).2.1 ?_
  refine OGo.aload (pc' := 80) C X30 d31_78 rfl rfl rfl ?_
  refine OGo.iload (pc' := 82) C X30 d31_80 rfl rfl ?_
  refine OGo.daload (pc' := 83) C X30 f32 d31_82 rfl ⟨by decide, by decide⟩ (v := (FP.i2d fb)) rfl ?_
  refine OGo.dconst0 (pc' := 84) (v := (FP.dconst0)) C X30 d31_83 rfl rfl ?_
  refine OGo.dcmp (pc' := 85) (v := (0 : Int32)) C X30 d31_84 rfl (own_z0 hz1) ?_
  refine OGo.ifNo (pc' := 88) C X30 d31_85 rfl (teq (by decide : (0 : Int32) = (0 : Int32))).2 ?_
  refine OGo.iconst (pc' := 89) (z := (1 : Int32)) C X30 d31_88 rfl (by decide) ?_
  refine OGo.goto (pc' := 93) C X30 d31_89 (by decide) (by decide) ?_
  refine OGo.istore (pc' := 95) C X30 d31_93 rfl (l' := #[.val (.ref tk), .val (.ref vt), .val (.ref bl), .val (.int (0 : Int32)), .val (.double (FP.dconst0)), .second, .val (.double (FP.dconst0)), .second, .val (.ref fe), .val (.int (1 : Int32)), .val (.int (1 : Int32))]) rfl ?_
  refine OGo.iinc (pc' := 98) C X30 d31_95 rfl rfl (z := (2 : Int32)) (by decide) (l' := #[.val (.ref tk), .val (.ref vt), .val (.ref bl), .val (.int (0 : Int32)), .val (.double (FP.dconst0)), .second, .val (.double (FP.dconst0)), .second, .val (.ref fe), .val (.int (1 : Int32)), .val (.int (2 : Int32))]) rfl ?_
  refine OGo.goto (pc' := 65) C X30 d31_98 (by decide) (by decide) ?_
  refine OGo.iload (pc' := 67) C X30 d31_65 rfl rfl ?_
  refine OGo.ifNo (pc' := 70) C X30 d31_67 rfl (feq (by decide : ¬ (1 : Int32) = (0 : Int32))).1 ?_
  refine OGo.iload (pc' := 72) C X30 d31_70 rfl rfl ?_
  refine OGo.aload (pc' := 74) C X30 d31_72 rfl rfl rfl ?_
  refine OGo.arraylength (pc' := 75) C X30 f32 d31_74 rfl ?_
  refine OGo.icmpYes (pc' := 101) C X30 d31_75 (flt (by decide : ¬ (2 : Int32) < (2 : Int32))).2.1 (by decide) (by decide) ?_
  refine OGo.aloadN (pc' := 102) C X30 d31_101 rfl rfl rfl ?_
  refine OGo.iload (pc' := 104) C X30 d31_102 rfl rfl ?_
  have f33 := (((((((F_feesAllZero.other W2 (Or.inr (slot_ne (Or.inr (wd215 hw)) (Or.inr (wd193 hw)) (by decide) (t := .boolean) (t' := (.object "com/example/makespan/makespan/model/VmType")) (by decide) (by decide)))).other W6 (Or.inr (slot_ne (Or.inr (wd215 hw)) (Or.inr (wd195 hw)) (by decide) (t := .boolean) (t' := (.object "com/example/makespan/makespan/model/Billing")) (by decide) (by decide)))).other W10 (Or.inr (slot_ne (Or.inr (wd215 hw)) (Or.inr (wd197 hw)) (by decide) (t := .boolean) (t' := .int) (by decide) (by decide)))).other W14 (Or.inr (slot_ne (Or.inr (wd215 hw)) (Or.inr (wd199 hw)) (by decide) (t := .boolean) (t' := .double) (by decide) (by decide)))).other W22 (Or.inr (slot_ne (Or.inr (wd215 hw)) (Or.inr (wd209 hw)) (by decide) (t := .boolean) (t' := .double) (by decide) (by decide)))).other W26 (Or.inr (slot_ne (Or.inr (wd215 hw)) (Or.inr (wd211 hw)) (by decide) (t := .boolean) (t' := .double) (by decide) (by decide)))).other W30 (Or.inr (slot_ne (Or.inr (wd215 hw)) (Or.inr (wd213 hw)) (by decide) (t := .boolean) (t' := (.array .double)) (by decide) (by decide))))
  have f34 := (f29.wr W30)
  refine OGo.putfield (pc' := 107) C X30 (host := "") (Or.inl (wd214 hw)) Via.refl f33 f34 gt (Or.inr ⟨(wd215 hw), rfl, hnm⟩) (wd183 hw) (ty := .boolean) (by decide) rfl rfl d31_104 rfl (fun T35 h35 X35 W35 F35 => ?_)
  have K36 : Keep h0 h35 [tk] := K31.wr W35 (Or.inl (List.mem_of_getElem? (i := 0) rfl))
  have f37 := (f34.wr W35)
  have f38 := (F30.other W35 (Or.inr (slot_ne (Or.inr (wd213 hw)) (Or.inr (wd215 hw)) (by decide) (t := (.array .double)) (t' := .boolean) (by decide) (by decide))))
  exact OGo.ret C X35 d31_107 hret hlk (⟨rfl, K36, f37, f38, F35⟩) (by decide) (by decide)
set_option maxRecDepth 65536 in
set_option maxHeartbeats 40000000 in
theorem ctTk30R {l : Launch} {Z : State} {a0 : Array Value} (hw : HW a0 Z) {n0 : Nat} {h0 : Heap} (hn0 : n0 ≤ h0.size) (tk vt fe bl : Addr) (kf : ClassId) (fa fb fc : Int32) (Et : Exa Z h0 tk "com/example/makespan/makespan/planning/TaskOnType") (F_type : Fld Z h0 tk "com/example/makespan/makespan/planning/TaskOnType" "type" "Lcom/example/makespan/makespan/model/VmType;" .null) (F_billing : Fld Z h0 tk "com/example/makespan/makespan/planning/TaskOnType" "billing" "Lcom/example/makespan/makespan/model/Billing;" .null) (F_input : Fld Z h0 tk "com/example/makespan/makespan/planning/TaskOnType" "input" "I" (.int (0 : Int32))) (F_arrival : Fld Z h0 tk "com/example/makespan/makespan/planning/TaskOnType" "arrival" "D" (.double (0 : UInt64))) (F_ready : Fld Z h0 tk "com/example/makespan/makespan/planning/TaskOnType" "ready" "D" (.double (0 : UInt64))) (F_seconds : Fld Z h0 tk "com/example/makespan/makespan/planning/TaskOnType" "seconds" "D" (.double (0 : UInt64))) (F_fees : Fld Z h0 tk "com/example/makespan/makespan/planning/TaskOnType" "fees" "[D" .null) (F_feesAllZero : Fld Z h0 tk "com/example/makespan/makespan/planning/TaskOnType" "feesAllZero" "Z" (.int (0 : Int32))) (gt : n0 ≤ tk) (Ev : Exa Z h0 vt "com/example/makespan/makespan/model/VmType") (Fb : Fld Z h0 vt "com/example/makespan/makespan/model/VmType" "bootSeconds" "D" (.double (FP.dconst0))) (Vf : Arv Z h0 fe kf .double (3 : Int32) [(.double (FP.i2d fa)), (.double (FP.i2d fb)), (.double (FP.i2d fc))] (.double (0 : UInt64))) (hz0 : ¬ fa = 0) :
    Ctr l Z (⟨"com/example/makespan/makespan/planning/TaskOnType", "<init>", "(Lcom/example/makespan/makespan/model/VmType;Lcom/example/makespan/makespan/model/Billing;IDD[D)V"⟩ : MethodName) prog_105_method_1_code 11 none ({ frames := 1, cells := 0, slots := 0, locals := 30 } : Room) n0 #[(.ref tk), (.ref vt), (.ref bl), (.int (0 : Int32)), (.double (FP.dconst0)), (.double (FP.dconst0)), (.ref fe)] h0 (fun v h => v = none ∧ Keep h0 h [tk] ∧ Exa Z h tk "com/example/makespan/makespan/planning/TaskOnType" ∧ Fld Z h tk "com/example/makespan/makespan/planning/TaskOnType" "fees" "[D" (.ref fe) ∧ Fld Z h tk "com/example/makespan/makespan/planning/TaskOnType" "feesAllZero" "Z" (.int (0 : Int32))) := by
  refine Ctr.of (plainFor_of_name pn4) hn0 ?_
  intro p e s m below meth c T0 C hnm hret hlk X0
  rw [ef31 m tk vt bl (0 : Int32) (FP.dconst0) (FP.dconst0) fe]
  refine OGo.aloadN (pc' := 1) C X0 d31_0 rfl rfl rfl ?_
  refine OGo.initObj (pc' := 4) C X0 (wd191 hw) (wd20 hw) (wd21 hw) d31_1 rfl rfl (by decide) (Nat.le_of_ble_eq_true rfl) (fun T1 X1 => ?_)
  refine OGo.aloadN (pc' := 5) C X1 d31_4 rfl rfl rfl ?_
  refine OGo.aloadN (pc' := 6) C X1 d31_5 rfl rfl rfl ?_
  refine OGo.putfield (pc' := 9) C X1 (host := "") (Or.inl (wd192 hw)) Via.refl F_type Et gt (Or.inr ⟨(wd193 hw), rfl, hnm⟩) (wd183 hw) (ty := (.object "com/example/makespan/makespan/model/VmType")) (by decide) rfl rfl d31_6 rfl (fun T2 h2 X2 W2 F2 => ?_)
  have K3 : Keep h0 h2 [tk] := (Keep.refl h0 [tk]).wr W2 (Or.inl (List.mem_of_getElem? (i := 0) rfl))
  refine OGo.aloadN (pc' := 10) C X2 d31_9 rfl rfl rfl ?_
  refine OGo.aloadN (pc' := 11) C X2 d31_10 rfl rfl rfl ?_
  have f4 := (F_billing.other W2 (Or.inr (slot_ne (Or.inr (wd195 hw)) (Or.inr (wd193 hw)) (by decide) (t := (.object "com/example/makespan/makespan/model/Billing")) (t' := (.object "com/example/makespan/makespan/model/VmType")) (by decide) (by decide))))
  have f5 := (Et.wr W2)
  refine OGo.putfield (pc' := 14) C X2 (host := "") (Or.inl (wd194 hw)) Via.refl f4 f5 gt (Or.inr ⟨(wd195 hw), rfl, hnm⟩) (wd183 hw) (ty := (.object "com/example/makespan/makespan/model/Billing")) (by decide) rfl rfl d31_11 rfl (fun T6 h6 X6 W6 F6 => ?_)
  have K7 : Keep h0 h6 [tk] := K3.wr W6 (Or.inl (List.mem_of_getElem? (i := 0) rfl))
  refine OGo.aloadN (pc' := 15) C X6 d31_14 rfl rfl rfl ?_
  refine OGo.iloadN (pc' := 16) C X6 d31_15 rfl rfl ?_
  have f8 := ((F_input.other W2 (Or.inr (slot_ne (Or.inr (wd197 hw)) (Or.inr (wd193 hw)) (by decide) (t := .int) (t' := (.object "com/example/makespan/makespan/model/VmType")) (by decide) (by decide)))).other W6 (Or.inr (slot_ne (Or.inr (wd197 hw)) (Or.inr (wd195 hw)) (by decide) (t := .int) (t' := (.object "com/example/makespan/makespan/model/Billing")) (by decide) (by decide))))
  have f9 := (f5.wr W6)
  refine OGo.putfield (pc' := 19) C X6 (host := "") (Or.inl (wd196 hw)) Via.refl f8 f9 gt (Or.inr ⟨(wd197 hw), rfl, hnm⟩) (wd183 hw) (ty := .int) (by decide) rfl rfl d31_16 rfl (fun T10 h10 X10 W10 F10 => ?_)
  have K11 : Keep h0 h10 [tk] := K7.wr W10 (Or.inl (List.mem_of_getElem? (i := 0) rfl))
  refine OGo.aloadN (pc' := 20) C X10 d31_19 rfl rfl rfl ?_
  refine OGo.dload (pc' := 22) C X10 d31_20 rfl rfl ?_
  have f12 := (((F_arrival.other W2 (Or.inr (slot_ne (Or.inr (wd199 hw)) (Or.inr (wd193 hw)) (by decide) (t := .double) (t' := (.object "com/example/makespan/makespan/model/VmType")) (by decide) (by decide)))).other W6 (Or.inr (slot_ne (Or.inr (wd199 hw)) (Or.inr (wd195 hw)) (by decide) (t := .double) (t' := (.object "com/example/makespan/makespan/model/Billing")) (by decide) (by decide)))).other W10 (Or.inr (slot_ne (Or.inr (wd199 hw)) (Or.inr (wd197 hw)) (by decide) (t := .double) (t' := .int) (by decide) (by decide))))
  have f13 := (f9.wr W10)
  refine OGo.putfield (pc' := 25) C X10 (host := "") (Or.inl (wd198 hw)) Via.refl f12 f13 gt (Or.inr ⟨(wd199 hw), rfl, hnm⟩) (wd183 hw) (ty := .double) (by decide) rfl rfl d31_22 rfl (fun T14 h14 X14 W14 F14 => ?_)
  have K15 : Keep h0 h14 [tk] := K11.wr W14 (Or.inl (List.mem_of_getElem? (i := 0) rfl))
  refine OGo.aloadN (pc' := 26) C X14 d31_25 rfl rfl rfl ?_
  refine OGo.aloadN (pc' := 27) C X14 d31_26 rfl rfl rfl ?_
  have f16 := ((((Fb.other W2 (Or.inl (Ne.symm (Exa.ne Et Ev (by decide))))).other W6 (Or.inl (Ne.symm (Exa.ne Et Ev (by decide))))).other W10 (Or.inl (Ne.symm (Exa.ne Et Ev (by decide))))).other W14 (Or.inl (Ne.symm (Exa.ne Et Ev (by decide)))))
  have f18 := ((((Ev.wr W2).wr W6).wr W10).wr W14)
  refine OGo.callV (pc' := 30) (cells' := 0) (slots' := 0) (argsL := []) (St := [(.ref tk)]) C X14 (wd200 hw) (wd201 hw) (wd203 hw) (wd202 hw) (by decide) f18 (wd204 hw) (wd4 hw) (ctBoot hw X14.2.1 vt f16) (lenOf pd22 rfl) rfl d31_27 rfl rfl (by decide) (Nat.le_of_ble_eq_true rfl) rfl rfl (by decide) (by decide) (fun v17 T17 h17 Q17 X17 z17 => ?_)
  obtain ⟨hv17, hh17⟩ := Q17
  subst hv17; rw [hh17] at X17
  show OGo p e below _ T17 (mkF m 30 #[.val (.ref tk), .val (.ref vt), .val (.ref bl), .val (.int (0 : Int32)), .val (.double (FP.dconst0)), .second, .val (.double (FP.dconst0)), .second, .val (.ref fe), .unset, .unset] [(.double (FP.dconst0)), (.ref tk)])
  refine OGo.dload (pc' := 32) C X17 d31_30 rfl rfl ?_
  refine OGo.natS (pc' := 35) (argsL := [(.double (FP.dconst0)), (.double (FP.dconst0))]) (St := [(.ref tk)]) (val := .double (Native.java_lang_Math.nans.pick64 true (FP.dconst0) (FP.dconst0))) C X17 (wd205 hw) (wd206 hw) (wd143 hw) (wd207 hw) (by decide) (lenOf pd23 rfl) d31_32 rfl rfl (by decide) (by decide) (fun hq => Jvm.Free.Fl.Abs.maxD_pays (FP.dconst0) (FP.dconst0) hq (by decide) (Nat.le_of_ble_eq_true rfl)) (⟨rfl, by unfold NoNaN64; decide +kernel, by unfold NoNaN64; decide +kernel⟩) (fun T19 X19 => ?_)
  rw [show Native.java_lang_Math.nans.pick64 true (FP.dconst0) (FP.dconst0) = FP.dconst0 from by decide +kernel]
  have f20 := ((((F_ready.other W2 (Or.inr (slot_ne (Or.inr (wd209 hw)) (Or.inr (wd193 hw)) (by decide) (t := .double) (t' := (.object "com/example/makespan/makespan/model/VmType")) (by decide) (by decide)))).other W6 (Or.inr (slot_ne (Or.inr (wd209 hw)) (Or.inr (wd195 hw)) (by decide) (t := .double) (t' := (.object "com/example/makespan/makespan/model/Billing")) (by decide) (by decide)))).other W10 (Or.inr (slot_ne (Or.inr (wd209 hw)) (Or.inr (wd197 hw)) (by decide) (t := .double) (t' := .int) (by decide) (by decide)))).other W14 (Or.inr (slot_ne (Or.inr (wd209 hw)) (Or.inr (wd199 hw)) (by decide) (t := .double) (t' := .double) (by decide) (by decide))))
  have f21 := (f13.wr W14)
  refine OGo.putfield (pc' := 38) C X19 (host := "") (Or.inl (wd208 hw)) Via.refl f20 f21 gt (Or.inr ⟨(wd209 hw), rfl, hnm⟩) (wd183 hw) (ty := .double) (by decide) rfl rfl d31_35 rfl (fun T22 h22 X22 W22 F22 => ?_)
  have K23 : Keep h0 h22 [tk] := K15.wr W22 (Or.inl (List.mem_of_getElem? (i := 0) rfl))
  refine OGo.aloadN (pc' := 39) C X22 d31_38 rfl rfl rfl ?_
  refine OGo.dload (pc' := 41) C X22 d31_39 rfl rfl ?_
  have f24 := (((((F_seconds.other W2 (Or.inr (slot_ne (Or.inr (wd211 hw)) (Or.inr (wd193 hw)) (by decide) (t := .double) (t' := (.object "com/example/makespan/makespan/model/VmType")) (by decide) (by decide)))).other W6 (Or.inr (slot_ne (Or.inr (wd211 hw)) (Or.inr (wd195 hw)) (by decide) (t := .double) (t' := (.object "com/example/makespan/makespan/model/Billing")) (by decide) (by decide)))).other W10 (Or.inr (slot_ne (Or.inr (wd211 hw)) (Or.inr (wd197 hw)) (by decide) (t := .double) (t' := .int) (by decide) (by decide)))).other W14 (Or.inr (slot_ne (Or.inr (wd211 hw)) (Or.inr (wd199 hw)) (by decide) (t := .double) (t' := .double) (by decide) (by decide)))).other W22 (Or.inr (slot_ne (Or.inr (wd211 hw)) (Or.inr (wd209 hw)) (by decide) (t := .double) (t' := .double) (by decide) (by decide))))
  have f25 := (f21.wr W22)
  refine OGo.putfield (pc' := 44) C X22 (host := "") (Or.inl (wd210 hw)) Via.refl f24 f25 gt (Or.inr ⟨(wd211 hw), rfl, hnm⟩) (wd183 hw) (ty := .double) (by decide) rfl rfl d31_41 rfl (fun T26 h26 X26 W26 F26 => ?_)
  have K27 : Keep h0 h26 [tk] := K23.wr W26 (Or.inl (List.mem_of_getElem? (i := 0) rfl))
  refine OGo.aloadN (pc' := 45) C X26 d31_44 rfl rfl rfl ?_
  refine OGo.aload (pc' := 47) C X26 d31_45 rfl rfl rfl ?_
  have f28 := ((((((F_fees.other W2 (Or.inr (slot_ne (Or.inr (wd213 hw)) (Or.inr (wd193 hw)) (by decide) (t := (.array .double)) (t' := (.object "com/example/makespan/makespan/model/VmType")) (by decide) (by decide)))).other W6 (Or.inr (slot_ne (Or.inr (wd213 hw)) (Or.inr (wd195 hw)) (by decide) (t := (.array .double)) (t' := (.object "com/example/makespan/makespan/model/Billing")) (by decide) (by decide)))).other W10 (Or.inr (slot_ne (Or.inr (wd213 hw)) (Or.inr (wd197 hw)) (by decide) (t := (.array .double)) (t' := .int) (by decide) (by decide)))).other W14 (Or.inr (slot_ne (Or.inr (wd213 hw)) (Or.inr (wd199 hw)) (by decide) (t := (.array .double)) (t' := .double) (by decide) (by decide)))).other W22 (Or.inr (slot_ne (Or.inr (wd213 hw)) (Or.inr (wd209 hw)) (by decide) (t := (.array .double)) (t' := .double) (by decide) (by decide)))).other W26 (Or.inr (slot_ne (Or.inr (wd213 hw)) (Or.inr (wd211 hw)) (by decide) (t := (.array .double)) (t' := .double) (by decide) (by decide))))
  have f29 := (f25.wr W26)
  refine OGo.putfield (pc' := 50) C X26 (host := "") (Or.inl (wd212 hw)) Via.refl f28 f29 gt (Or.inr ⟨(wd213 hw), rfl, hnm⟩) (wd183 hw) (ty := (.array .double)) (by decide) rfl rfl d31_47 rfl (fun T30 h30 X30 W30 F30 => ?_)
  have K31 : Keep h0 h30 [tk] := K27.wr W30 (Or.inl (List.mem_of_getElem? (i := 0) rfl))
  refine OGo.aload (pc' := 52) C X30 d31_50 rfl rfl rfl ?_
  refine OGo.ifnullNo (pc' := 55) C X30 d31_52 rfl ?_
  refine OGo.iconst (pc' := 56) (z := (1 : Int32)) C X30 d31_55 rfl (by decide) ?_
  refine OGo.goto (pc' := 60) C X30 d31_56 (by decide) (by decide) ?_
  refine OGo.istore (pc' := 62) C X30 d31_60 rfl (l' := #[.val (.ref tk), .val (.ref vt), .val (.ref bl), .val (.int (0 : Int32)), .val (.double (FP.dconst0)), .second, .val (.double (FP.dconst0)), .second, .val (.ref fe), .val (.int (1 : Int32)), .unset]) rfl ?_
  refine OGo.iconst (pc' := 63) (z := (0 : Int32)) C X30 d31_62 rfl (by decide) ?_
  refine OGo.istore (pc' := 65) C X30 d31_63 rfl (l' := #[.val (.ref tk), .val (.ref vt), .val (.ref bl), .val (.int (0 : Int32)), .val (.double (FP.dconst0)), .second, .val (.double (FP.dconst0)), .second, .val (.ref fe), .val (.int (1 : Int32)), .val (.int (0 : Int32))]) rfl ?_
  refine OGo.iload (pc' := 67) C X30 d31_65 rfl rfl ?_
  refine OGo.ifNo (pc' := 70) C X30 d31_67 rfl (feq (by decide : ¬ (1 : Int32) = (0 : Int32))).1 ?_
  refine OGo.iload (pc' := 72) C X30 d31_70 rfl rfl ?_
  refine OGo.aload (pc' := 74) C X30 d31_72 rfl rfl rfl ?_
  have f32 := (((((((Vf.other W2 (Ne.symm (Exa.neArv Et Vf (wd183 hw)))).other W6 (Ne.symm (Exa.neArv Et Vf (wd183 hw)))).other W10 (Ne.symm (Exa.neArv Et Vf (wd183 hw)))).other W14 (Ne.symm (Exa.neArv Et Vf (wd183 hw)))).other W22 (Ne.symm (Exa.neArv Et Vf (wd183 hw)))).other W26 (Ne.symm (Exa.neArv Et Vf (wd183 hw)))).other W30 (Ne.symm (Exa.neArv Et Vf (wd183 hw))))
  refine OGo.arraylength (pc' := 75) C X30 f32 d31_74 rfl ?_
  refine OGo.icmpNo (pc' := 78) C X30 d31_75 rfl (tlt (by decide : (0 : Int32) < (3 : Int32))).2.1 ?_
  refine OGo.aload (pc' := 80) C X30 d31_78 rfl rfl rfl ?_
  refine OGo.iload (pc' := 82) C X30 d31_80 rfl rfl ?_
  refine OGo.daload (pc' := 83) C X30 f32 d31_82 rfl ⟨by decide, by decide⟩ (v := (FP.i2d fa)) rfl ?_
  refine OGo.dconst0 (pc' := 84) (v := (FP.dconst0)) C X30 d31_83 rfl rfl ?_
  refine OGo.dcmp (pc' := 85) (v := (cmpValue (FP.dcmp (FP.i2d fa) (FP.dconst0)) .l)) C X30 d31_84 rfl rfl ?_
  refine OGo.ifYes (pc' := 92) C X30 d31_85 (feq (own_nz hz0)).2 (by decide) (by decide) ?_
  refine OGo.iconst (pc' := 93) (z := (0 : Int32)) C X30 d31_92 rfl (by decide) ?_
  refine OGo.istore (pc' := 95) C X30 d31_93 rfl (l' := #[.val (.ref tk), .val (.ref vt), .val (.ref bl), .val (.int (0 : Int32)), .val (.double (FP.dconst0)), .second, .val (.double (FP.dconst0)), .second, .val (.ref fe), .val (.int (0 : Int32)), .val (.int (0 : Int32))]) rfl ?_
  refine OGo.iinc (pc' := 98) C X30 d31_95 rfl rfl (z := (1 : Int32)) (by decide) (l' := #[.val (.ref tk), .val (.ref vt), .val (.ref bl), .val (.int (0 : Int32)), .val (.double (FP.dconst0)), .second, .val (.double (FP.dconst0)), .second, .val (.ref fe), .val (.int (0 : Int32)), .val (.int (1 : Int32))]) rfl ?_
  refine OGo.goto (pc' := 65) C X30 d31_98 (by decide) (by decide) ?_
  refine OGo.iload (pc' := 67) C X30 d31_65 rfl rfl ?_
  refine OGo.ifYes (pc' := 101) C X30 d31_67 (teq (by decide : (0 : Int32) = (0 : Int32))).1 (by decide) (by decide) ?_
  refine OGo.aloadN (pc' := 102) C X30 d31_101 rfl rfl rfl ?_
  refine OGo.iload (pc' := 104) C X30 d31_102 rfl rfl ?_
  have f33 := (((((((F_feesAllZero.other W2 (Or.inr (slot_ne (Or.inr (wd215 hw)) (Or.inr (wd193 hw)) (by decide) (t := .boolean) (t' := (.object "com/example/makespan/makespan/model/VmType")) (by decide) (by decide)))).other W6 (Or.inr (slot_ne (Or.inr (wd215 hw)) (Or.inr (wd195 hw)) (by decide) (t := .boolean) (t' := (.object "com/example/makespan/makespan/model/Billing")) (by decide) (by decide)))).other W10 (Or.inr (slot_ne (Or.inr (wd215 hw)) (Or.inr (wd197 hw)) (by decide) (t := .boolean) (t' := .int) (by decide) (by decide)))).other W14 (Or.inr (slot_ne (Or.inr (wd215 hw)) (Or.inr (wd199 hw)) (by decide) (t := .boolean) (t' := .double) (by decide) (by decide)))).other W22 (Or.inr (slot_ne (Or.inr (wd215 hw)) (Or.inr (wd209 hw)) (by decide) (t := .boolean) (t' := .double) (by decide) (by decide)))).other W26 (Or.inr (slot_ne (Or.inr (wd215 hw)) (Or.inr (wd211 hw)) (by decide) (t := .boolean) (t' := .double) (by decide) (by decide)))).other W30 (Or.inr (slot_ne (Or.inr (wd215 hw)) (Or.inr (wd213 hw)) (by decide) (t := .boolean) (t' := (.array .double)) (by decide) (by decide))))
  have f34 := (f29.wr W30)
  refine OGo.putfield (pc' := 107) C X30 (host := "") (Or.inl (wd214 hw)) Via.refl f33 f34 gt (Or.inr ⟨(wd215 hw), rfl, hnm⟩) (wd183 hw) (ty := .boolean) (by decide) rfl rfl d31_104 rfl (fun T35 h35 X35 W35 F35 => ?_)
  have K36 : Keep h0 h35 [tk] := K31.wr W35 (Or.inl (List.mem_of_getElem? (i := 0) rfl))
  have f37 := (f34.wr W35)
  have f38 := (F30.other W35 (Or.inr (slot_ne (Or.inr (wd213 hw)) (Or.inr (wd215 hw)) (by decide) (t := (.array .double)) (t' := .boolean) (by decide) (by decide))))
  exact OGo.ret C X35 d31_107 hret hlk (⟨rfl, K36, f37, f38, F35⟩) (by decide) (by decide)
set_option maxRecDepth 65536 in
set_option maxHeartbeats 40000000 in
theorem ctTk31R {l : Launch} {Z : State} {a0 : Array Value} (hw : HW a0 Z) {n0 : Nat} {h0 : Heap} (hn0 : n0 ≤ h0.size) (tk vt fe bl : Addr) (kf : ClassId) (fa fb fc : Int32) (Et : Exa Z h0 tk "com/example/makespan/makespan/planning/TaskOnType") (F_type : Fld Z h0 tk "com/example/makespan/makespan/planning/TaskOnType" "type" "Lcom/example/makespan/makespan/model/VmType;" .null) (F_billing : Fld Z h0 tk "com/example/makespan/makespan/planning/TaskOnType" "billing" "Lcom/example/makespan/makespan/model/Billing;" .null) (F_input : Fld Z h0 tk "com/example/makespan/makespan/planning/TaskOnType" "input" "I" (.int (0 : Int32))) (F_arrival : Fld Z h0 tk "com/example/makespan/makespan/planning/TaskOnType" "arrival" "D" (.double (0 : UInt64))) (F_ready : Fld Z h0 tk "com/example/makespan/makespan/planning/TaskOnType" "ready" "D" (.double (0 : UInt64))) (F_seconds : Fld Z h0 tk "com/example/makespan/makespan/planning/TaskOnType" "seconds" "D" (.double (0 : UInt64))) (F_fees : Fld Z h0 tk "com/example/makespan/makespan/planning/TaskOnType" "fees" "[D" .null) (F_feesAllZero : Fld Z h0 tk "com/example/makespan/makespan/planning/TaskOnType" "feesAllZero" "Z" (.int (0 : Int32))) (gt : n0 ≤ tk) (Ev : Exa Z h0 vt "com/example/makespan/makespan/model/VmType") (Fb : Fld Z h0 vt "com/example/makespan/makespan/model/VmType" "bootSeconds" "D" (.double (FP.dconst0))) (Vf : Arv Z h0 fe kf .double (3 : Int32) [(.double (FP.i2d fa)), (.double (FP.i2d fb)), (.double (FP.i2d fc))] (.double (0 : UInt64))) (hz0 : fa = 0) (hz1 : ¬ fb = 0) :
    Ctr l Z (⟨"com/example/makespan/makespan/planning/TaskOnType", "<init>", "(Lcom/example/makespan/makespan/model/VmType;Lcom/example/makespan/makespan/model/Billing;IDD[D)V"⟩ : MethodName) prog_105_method_1_code 11 none ({ frames := 1, cells := 0, slots := 0, locals := 30 } : Room) n0 #[(.ref tk), (.ref vt), (.ref bl), (.int (0 : Int32)), (.double (FP.dconst0)), (.double (FP.dconst0)), (.ref fe)] h0 (fun v h => v = none ∧ Keep h0 h [tk] ∧ Exa Z h tk "com/example/makespan/makespan/planning/TaskOnType" ∧ Fld Z h tk "com/example/makespan/makespan/planning/TaskOnType" "fees" "[D" (.ref fe) ∧ Fld Z h tk "com/example/makespan/makespan/planning/TaskOnType" "feesAllZero" "Z" (.int (0 : Int32))) := by
  refine Ctr.of (plainFor_of_name pn4) hn0 ?_
  intro p e s m below meth c T0 C hnm hret hlk X0
  rw [ef31 m tk vt bl (0 : Int32) (FP.dconst0) (FP.dconst0) fe]
  refine OGo.aloadN (pc' := 1) C X0 d31_0 rfl rfl rfl ?_
  refine OGo.initObj (pc' := 4) C X0 (wd191 hw) (wd20 hw) (wd21 hw) d31_1 rfl rfl (by decide) (Nat.le_of_ble_eq_true rfl) (fun T1 X1 => ?_)
  refine OGo.aloadN (pc' := 5) C X1 d31_4 rfl rfl rfl ?_
  refine OGo.aloadN (pc' := 6) C X1 d31_5 rfl rfl rfl ?_
  refine OGo.putfield (pc' := 9) C X1 (host := "") (Or.inl (wd192 hw)) Via.refl F_type Et gt (Or.inr ⟨(wd193 hw), rfl, hnm⟩) (wd183 hw) (ty := (.object "com/example/makespan/makespan/model/VmType")) (by decide) rfl rfl d31_6 rfl (fun T2 h2 X2 W2 F2 => ?_)
  have K3 : Keep h0 h2 [tk] := (Keep.refl h0 [tk]).wr W2 (Or.inl (List.mem_of_getElem? (i := 0) rfl))
  refine OGo.aloadN (pc' := 10) C X2 d31_9 rfl rfl rfl ?_
  refine OGo.aloadN (pc' := 11) C X2 d31_10 rfl rfl rfl ?_
  have f4 := (F_billing.other W2 (Or.inr (slot_ne (Or.inr (wd195 hw)) (Or.inr (wd193 hw)) (by decide) (t := (.object "com/example/makespan/makespan/model/Billing")) (t' := (.object "com/example/makespan/makespan/model/VmType")) (by decide) (by decide))))
  have f5 := (Et.wr W2)
  refine OGo.putfield (pc' := 14) C X2 (host := "") (Or.inl (wd194 hw)) Via.refl f4 f5 gt (Or.inr ⟨(wd195 hw), rfl, hnm⟩) (wd183 hw) (ty := (.object "com/example/makespan/makespan/model/Billing")) (by decide) rfl rfl d31_11 rfl (fun T6 h6 X6 W6 F6 => ?_)
  have K7 : Keep h0 h6 [tk] := K3.wr W6 (Or.inl (List.mem_of_getElem? (i := 0) rfl))
  refine OGo.aloadN (pc' := 15) C X6 d31_14 rfl rfl rfl ?_
  refine OGo.iloadN (pc' := 16) C X6 d31_15 rfl rfl ?_
  have f8 := ((F_input.other W2 (Or.inr (slot_ne (Or.inr (wd197 hw)) (Or.inr (wd193 hw)) (by decide) (t := .int) (t' := (.object "com/example/makespan/makespan/model/VmType")) (by decide) (by decide)))).other W6 (Or.inr (slot_ne (Or.inr (wd197 hw)) (Or.inr (wd195 hw)) (by decide) (t := .int) (t' := (.object "com/example/makespan/makespan/model/Billing")) (by decide) (by decide))))
  have f9 := (f5.wr W6)
  refine OGo.putfield (pc' := 19) C X6 (host := "") (Or.inl (wd196 hw)) Via.refl f8 f9 gt (Or.inr ⟨(wd197 hw), rfl, hnm⟩) (wd183 hw) (ty := .int) (by decide) rfl rfl d31_16 rfl (fun T10 h10 X10 W10 F10 => ?_)
  have K11 : Keep h0 h10 [tk] := K7.wr W10 (Or.inl (List.mem_of_getElem? (i := 0) rfl))
  refine OGo.aloadN (pc' := 20) C X10 d31_19 rfl rfl rfl ?_
  refine OGo.dload (pc' := 22) C X10 d31_20 rfl rfl ?_
  have f12 := (((F_arrival.other W2 (Or.inr (slot_ne (Or.inr (wd199 hw)) (Or.inr (wd193 hw)) (by decide) (t := .double) (t' := (.object "com/example/makespan/makespan/model/VmType")) (by decide) (by decide)))).other W6 (Or.inr (slot_ne (Or.inr (wd199 hw)) (Or.inr (wd195 hw)) (by decide) (t := .double) (t' := (.object "com/example/makespan/makespan/model/Billing")) (by decide) (by decide)))).other W10 (Or.inr (slot_ne (Or.inr (wd199 hw)) (Or.inr (wd197 hw)) (by decide) (t := .double) (t' := .int) (by decide) (by decide))))
  have f13 := (f9.wr W10)
  refine OGo.putfield (pc' := 25) C X10 (host := "") (Or.inl (wd198 hw)) Via.refl f12 f13 gt (Or.inr ⟨(wd199 hw), rfl, hnm⟩) (wd183 hw) (ty := .double) (by decide) rfl rfl d31_22 rfl (fun T14 h14 X14 W14 F14 => ?_)
  have K15 : Keep h0 h14 [tk] := K11.wr W14 (Or.inl (List.mem_of_getElem? (i := 0) rfl))
  refine OGo.aloadN (pc' := 26) C X14 d31_25 rfl rfl rfl ?_
  refine OGo.aloadN (pc' := 27) C X14 d31_26 rfl rfl rfl ?_
  have f16 := ((((Fb.other W2 (Or.inl (Ne.symm (Exa.ne Et Ev (by decide))))).other W6 (Or.inl (Ne.symm (Exa.ne Et Ev (by decide))))).other W10 (Or.inl (Ne.symm (Exa.ne Et Ev (by decide))))).other W14 (Or.inl (Ne.symm (Exa.ne Et Ev (by decide)))))
  have f18 := ((((Ev.wr W2).wr W6).wr W10).wr W14)
  refine OGo.callV (pc' := 30) (cells' := 0) (slots' := 0) (argsL := []) (St := [(.ref tk)]) C X14 (wd200 hw) (wd201 hw) (wd203 hw) (wd202 hw) (by decide) f18 (wd204 hw) (wd4 hw) (ctBoot hw X14.2.1 vt f16) (lenOf pd22 rfl) rfl d31_27 rfl rfl (by decide) (Nat.le_of_ble_eq_true rfl) rfl rfl (by decide) (by decide) (fun v17 T17 h17 Q17 X17 z17 => ?_)
  obtain ⟨hv17, hh17⟩ := Q17
  subst hv17; rw [hh17] at X17
  show OGo p e below _ T17 (mkF m 30 #[.val (.ref tk), .val (.ref vt), .val (.ref bl), .val (.int (0 : Int32)), .val (.double (FP.dconst0)), .second, .val (.double (FP.dconst0)), .second, .val (.ref fe), .unset, .unset] [(.double (FP.dconst0)), (.ref tk)])
  refine OGo.dload (pc' := 32) C X17 d31_30 rfl rfl ?_
  refine OGo.natS (pc' := 35) (argsL := [(.double (FP.dconst0)), (.double (FP.dconst0))]) (St := [(.ref tk)]) (val := .double (Native.java_lang_Math.nans.pick64 true (FP.dconst0) (FP.dconst0))) C X17 (wd205 hw) (wd206 hw) (wd143 hw) (wd207 hw) (by decide) (lenOf pd23 rfl) d31_32 rfl rfl (by decide) (by decide) (fun hq => Jvm.Free.Fl.Abs.maxD_pays (FP.dconst0) (FP.dconst0) hq (by decide) (Nat.le_of_ble_eq_true rfl)) (⟨rfl, by unfold NoNaN64; decide +kernel, by unfold NoNaN64; decide +kernel⟩) (fun T19 X19 => ?_)
  rw [show Native.java_lang_Math.nans.pick64 true (FP.dconst0) (FP.dconst0) = FP.dconst0 from by decide +kernel]
  have f20 := ((((F_ready.other W2 (Or.inr (slot_ne (Or.inr (wd209 hw)) (Or.inr (wd193 hw)) (by decide) (t := .double) (t' := (.object "com/example/makespan/makespan/model/VmType")) (by decide) (by decide)))).other W6 (Or.inr (slot_ne (Or.inr (wd209 hw)) (Or.inr (wd195 hw)) (by decide) (t := .double) (t' := (.object "com/example/makespan/makespan/model/Billing")) (by decide) (by decide)))).other W10 (Or.inr (slot_ne (Or.inr (wd209 hw)) (Or.inr (wd197 hw)) (by decide) (t := .double) (t' := .int) (by decide) (by decide)))).other W14 (Or.inr (slot_ne (Or.inr (wd209 hw)) (Or.inr (wd199 hw)) (by decide) (t := .double) (t' := .double) (by decide) (by decide))))
  have f21 := (f13.wr W14)
  refine OGo.putfield (pc' := 38) C X19 (host := "") (Or.inl (wd208 hw)) Via.refl f20 f21 gt (Or.inr ⟨(wd209 hw), rfl, hnm⟩) (wd183 hw) (ty := .double) (by decide) rfl rfl d31_35 rfl (fun T22 h22 X22 W22 F22 => ?_)
  have K23 : Keep h0 h22 [tk] := K15.wr W22 (Or.inl (List.mem_of_getElem? (i := 0) rfl))
  refine OGo.aloadN (pc' := 39) C X22 d31_38 rfl rfl rfl ?_
  refine OGo.dload (pc' := 41) C X22 d31_39 rfl rfl ?_
  have f24 := (((((F_seconds.other W2 (Or.inr (slot_ne (Or.inr (wd211 hw)) (Or.inr (wd193 hw)) (by decide) (t := .double) (t' := (.object "com/example/makespan/makespan/model/VmType")) (by decide) (by decide)))).other W6 (Or.inr (slot_ne (Or.inr (wd211 hw)) (Or.inr (wd195 hw)) (by decide) (t := .double) (t' := (.object "com/example/makespan/makespan/model/Billing")) (by decide) (by decide)))).other W10 (Or.inr (slot_ne (Or.inr (wd211 hw)) (Or.inr (wd197 hw)) (by decide) (t := .double) (t' := .int) (by decide) (by decide)))).other W14 (Or.inr (slot_ne (Or.inr (wd211 hw)) (Or.inr (wd199 hw)) (by decide) (t := .double) (t' := .double) (by decide) (by decide)))).other W22 (Or.inr (slot_ne (Or.inr (wd211 hw)) (Or.inr (wd209 hw)) (by decide) (t := .double) (t' := .double) (by decide) (by decide))))
  have f25 := (f21.wr W22)
  refine OGo.putfield (pc' := 44) C X22 (host := "") (Or.inl (wd210 hw)) Via.refl f24 f25 gt (Or.inr ⟨(wd211 hw), rfl, hnm⟩) (wd183 hw) (ty := .double) (by decide) rfl rfl d31_41 rfl (fun T26 h26 X26 W26 F26 => ?_)
  have K27 : Keep h0 h26 [tk] := K23.wr W26 (Or.inl (List.mem_of_getElem? (i := 0) rfl))
  refine OGo.aloadN (pc' := 45) C X26 d31_44 rfl rfl rfl ?_
  refine OGo.aload (pc' := 47) C X26 d31_45 rfl rfl rfl ?_
  have f28 := ((((((F_fees.other W2 (Or.inr (slot_ne (Or.inr (wd213 hw)) (Or.inr (wd193 hw)) (by decide) (t := (.array .double)) (t' := (.object "com/example/makespan/makespan/model/VmType")) (by decide) (by decide)))).other W6 (Or.inr (slot_ne (Or.inr (wd213 hw)) (Or.inr (wd195 hw)) (by decide) (t := (.array .double)) (t' := (.object "com/example/makespan/makespan/model/Billing")) (by decide) (by decide)))).other W10 (Or.inr (slot_ne (Or.inr (wd213 hw)) (Or.inr (wd197 hw)) (by decide) (t := (.array .double)) (t' := .int) (by decide) (by decide)))).other W14 (Or.inr (slot_ne (Or.inr (wd213 hw)) (Or.inr (wd199 hw)) (by decide) (t := (.array .double)) (t' := .double) (by decide) (by decide)))).other W22 (Or.inr (slot_ne (Or.inr (wd213 hw)) (Or.inr (wd209 hw)) (by decide) (t := (.array .double)) (t' := .double) (by decide) (by decide)))).other W26 (Or.inr (slot_ne (Or.inr (wd213 hw)) (Or.inr (wd211 hw)) (by decide) (t := (.array .double)) (t' := .double) (by decide) (by decide))))
  have f29 := (f25.wr W26)
  refine OGo.putfield (pc' := 50) C X26 (host := "") (Or.inl (wd212 hw)) Via.refl f28 f29 gt (Or.inr ⟨(wd213 hw), rfl, hnm⟩) (wd183 hw) (ty := (.array .double)) (by decide) rfl rfl d31_47 rfl (fun T30 h30 X30 W30 F30 => ?_)
  have K31 : Keep h0 h30 [tk] := K27.wr W30 (Or.inl (List.mem_of_getElem? (i := 0) rfl))
  refine OGo.aload (pc' := 52) C X30 d31_50 rfl rfl rfl ?_
  refine OGo.ifnullNo (pc' := 55) C X30 d31_52 rfl ?_
  refine OGo.iconst (pc' := 56) (z := (1 : Int32)) C X30 d31_55 rfl (by decide) ?_
  refine OGo.goto (pc' := 60) C X30 d31_56 (by decide) (by decide) ?_
  refine OGo.istore (pc' := 62) C X30 d31_60 rfl (l' := #[.val (.ref tk), .val (.ref vt), .val (.ref bl), .val (.int (0 : Int32)), .val (.double (FP.dconst0)), .second, .val (.double (FP.dconst0)), .second, .val (.ref fe), .val (.int (1 : Int32)), .unset]) rfl ?_
  refine OGo.iconst (pc' := 63) (z := (0 : Int32)) C X30 d31_62 rfl (by decide) ?_
  refine OGo.istore (pc' := 65) C X30 d31_63 rfl (l' := #[.val (.ref tk), .val (.ref vt), .val (.ref bl), .val (.int (0 : Int32)), .val (.double (FP.dconst0)), .second, .val (.double (FP.dconst0)), .second, .val (.ref fe), .val (.int (1 : Int32)), .val (.int (0 : Int32))]) rfl ?_
  refine OGo.iload (pc' := 67) C X30 d31_65 rfl rfl ?_
  refine OGo.ifNo (pc' := 70) C X30 d31_67 rfl (feq (by decide : ¬ (1 : Int32) = (0 : Int32))).1 ?_
  refine OGo.iload (pc' := 72) C X30 d31_70 rfl rfl ?_
  refine OGo.aload (pc' := 74) C X30 d31_72 rfl rfl rfl ?_
  have f32 := (((((((Vf.other W2 (Ne.symm (Exa.neArv Et Vf (wd183 hw)))).other W6 (Ne.symm (Exa.neArv Et Vf (wd183 hw)))).other W10 (Ne.symm (Exa.neArv Et Vf (wd183 hw)))).other W14 (Ne.symm (Exa.neArv Et Vf (wd183 hw)))).other W22 (Ne.symm (Exa.neArv Et Vf (wd183 hw)))).other W26 (Ne.symm (Exa.neArv Et Vf (wd183 hw)))).other W30 (Ne.symm (Exa.neArv Et Vf (wd183 hw))))
  refine OGo.arraylength (pc' := 75) C X30 f32 d31_74 rfl ?_
  refine OGo.icmpNo (pc' := 78) C X30 d31_75 rfl (tlt (by decide : (0 : Int32) < (3 : Int32))).2.1 ?_
  refine OGo.aload (pc' := 80) C X30 d31_78 rfl rfl rfl ?_
  refine OGo.iload (pc' := 82) C X30 d31_80 rfl rfl ?_
  refine OGo.daload (pc' := 83) C X30 f32 d31_82 rfl ⟨by decide, by decide⟩ (v := (FP.i2d fa)) rfl ?_
  refine OGo.dconst0 (pc' := 84) (v := (FP.dconst0)) C X30 d31_83 rfl rfl ?_
  refine OGo.dcmp (pc' := 85) (v := (0 : Int32)) C X30 d31_84 rfl (own_z0 hz0) ?_
  refine OGo.ifNo (pc' := 88) C X30 d31_85 rfl (teq (by decide : (0 : Int32) = (0 : Int32))).2 ?_
  refine OGo.iconst (pc' := 89) (z := (1 : Int32)) C X30 d31_88 rfl (by decide) ?_
  refine OGo.goto (pc' := 93) C X30 d31_89 (by decide) (by decide) ?_
  refine OGo.istore (pc' := 95) C X30 d31_93 rfl (l' := #[.val (.ref tk), .val (.ref vt), .val (.ref bl), .val (.int (0 : Int32)), .val (.double (FP.dconst0)), .second, .val (.double (FP.dconst0)), .second, .val (.ref fe), .val (.int (1 : Int32)), .val (.int (0 : Int32))]) rfl ?_
  refine OGo.iinc (pc' := 98) C X30 d31_95 rfl rfl (z := (1 : Int32)) (by decide) (l' := #[.val (.ref tk), .val (.ref vt), .val (.ref bl), .val (.int (0 : Int32)), .val (.double (FP.dconst0)), .second, .val (.double (FP.dconst0)), .second, .val (.ref fe), .val (.int (1 : Int32)), .val (.int (1 : Int32))]) rfl ?_
  refine OGo.goto (pc' := 65) C X30 d31_98 (by decide) (by decide) ?_
  refine OGo.iload (pc' := 67) C X30 d31_65 rfl rfl ?_
  refine OGo.ifNo (pc' := 70) C X30 d31_67 rfl (feq (by decide : ¬ (1 : Int32) = (0 : Int32))).1 ?_
  refine OGo.iload (pc' := 72) C X30 d31_70 rfl rfl ?_
  refine OGo.aload (pc' := 74) C X30 d31_72 rfl rfl rfl ?_
  refine OGo.arraylength (pc' := 75) C X30 f32 d31_74 rfl ?_
  refine OGo.icmpNo (pc' := 78) C X30 d31_75 rfl (tlt (by decide : (1 : Int32) < (3 : Int32))).2.1 ?_
  refine OGo.aload (pc' := 80) C X30 d31_78 rfl rfl rfl ?_
  refine OGo.iload (pc' := 82) C X30 d31_80 rfl rfl ?_
  refine OGo.daload (pc' := 83) C X30 f32 d31_82 rfl ⟨by decide, by decide⟩ (v := (FP.i2d fb)) rfl ?_
  refine OGo.dconst0 (pc' := 84) (v := (FP.dconst0)) C X30 d31_83 rfl rfl ?_
  refine OGo.dcmp (pc' := 85) (v := (cmpValue (FP.dcmp (FP.i2d fb) (FP.dconst0)) .l)) C X30 d31_84 rfl rfl ?_
  refine OGo.ifYes (pc' := 92) C X30 d31_85 (feq (own_nz hz1)).2 (by decide) (by decide) ?_
  refine OGo.iconst (pc' := 93) (z := (0 : Int32)) C X30 d31_92 rfl (by decide) ?_
  refine OGo.istore (pc' := 95) C X30 d31_93 rfl (l' := #[.val (.ref tk), .val (.ref vt), .val (.ref bl), .val (.int (0 : Int32)), .val (.double (FP.dconst0)), .second, .val (.double (FP.dconst0)), .second, .val (.ref fe), .val (.int (0 : Int32)), .val (.int (1 : Int32))]) rfl ?_
  refine OGo.iinc (pc' := 98) C X30 d31_95 rfl rfl (z := (2 : Int32)) (by decide) (l' := #[.val (.ref tk), .val (.ref vt), .val (.ref bl), .val (.int (0 : Int32)), .val (.double (FP.dconst0)), .second, .val (.double (FP.dconst0)), .second, .val (.ref fe), .val (.int (0 : Int32)), .val (.int (2 : Int32))]) rfl ?_
  refine OGo.goto (pc' := 65) C X30 d31_98 (by decide) (by decide) ?_
  refine OGo.iload (pc' := 67) C X30 d31_65 rfl rfl ?_
  refine OGo.ifYes (pc' := 101) C X30 d31_67 (teq (by decide : (0 : Int32) = (0 : Int32))).1 (by decide) (by decide) ?_
  refine OGo.aloadN (pc' := 102) C X30 d31_101 rfl rfl rfl ?_
  refine OGo.iload (pc' := 104) C X30 d31_102 rfl rfl ?_
  have f33 := (((((((F_feesAllZero.other W2 (Or.inr (slot_ne (Or.inr (wd215 hw)) (Or.inr (wd193 hw)) (by decide) (t := .boolean) (t' := (.object "com/example/makespan/makespan/model/VmType")) (by decide) (by decide)))).other W6 (Or.inr (slot_ne (Or.inr (wd215 hw)) (Or.inr (wd195 hw)) (by decide) (t := .boolean) (t' := (.object "com/example/makespan/makespan/model/Billing")) (by decide) (by decide)))).other W10 (Or.inr (slot_ne (Or.inr (wd215 hw)) (Or.inr (wd197 hw)) (by decide) (t := .boolean) (t' := .int) (by decide) (by decide)))).other W14 (Or.inr (slot_ne (Or.inr (wd215 hw)) (Or.inr (wd199 hw)) (by decide) (t := .boolean) (t' := .double) (by decide) (by decide)))).other W22 (Or.inr (slot_ne (Or.inr (wd215 hw)) (Or.inr (wd209 hw)) (by decide) (t := .boolean) (t' := .double) (by decide) (by decide)))).other W26 (Or.inr (slot_ne (Or.inr (wd215 hw)) (Or.inr (wd211 hw)) (by decide) (t := .boolean) (t' := .double) (by decide) (by decide)))).other W30 (Or.inr (slot_ne (Or.inr (wd215 hw)) (Or.inr (wd213 hw)) (by decide) (t := .boolean) (t' := (.array .double)) (by decide) (by decide))))
  have f34 := (f29.wr W30)
  refine OGo.putfield (pc' := 107) C X30 (host := "") (Or.inl (wd214 hw)) Via.refl f33 f34 gt (Or.inr ⟨(wd215 hw), rfl, hnm⟩) (wd183 hw) (ty := .boolean) (by decide) rfl rfl d31_104 rfl (fun T35 h35 X35 W35 F35 => ?_)
  have K36 : Keep h0 h35 [tk] := K31.wr W35 (Or.inl (List.mem_of_getElem? (i := 0) rfl))
  have f37 := (f34.wr W35)
  have f38 := (F30.other W35 (Or.inr (slot_ne (Or.inr (wd213 hw)) (Or.inr (wd215 hw)) (by decide) (t := (.array .double)) (t' := .boolean) (by decide) (by decide))))
  exact OGo.ret C X35 d31_107 hret hlk (⟨rfl, K36, f37, f38, F35⟩) (by decide) (by decide)
set_option maxRecDepth 65536 in
set_option maxHeartbeats 40000000 in
theorem ctTk32R {l : Launch} {Z : State} {a0 : Array Value} (hw : HW a0 Z) {n0 : Nat} {h0 : Heap} (hn0 : n0 ≤ h0.size) (tk vt fe bl : Addr) (kf : ClassId) (fa fb fc : Int32) (Et : Exa Z h0 tk "com/example/makespan/makespan/planning/TaskOnType") (F_type : Fld Z h0 tk "com/example/makespan/makespan/planning/TaskOnType" "type" "Lcom/example/makespan/makespan/model/VmType;" .null) (F_billing : Fld Z h0 tk "com/example/makespan/makespan/planning/TaskOnType" "billing" "Lcom/example/makespan/makespan/model/Billing;" .null) (F_input : Fld Z h0 tk "com/example/makespan/makespan/planning/TaskOnType" "input" "I" (.int (0 : Int32))) (F_arrival : Fld Z h0 tk "com/example/makespan/makespan/planning/TaskOnType" "arrival" "D" (.double (0 : UInt64))) (F_ready : Fld Z h0 tk "com/example/makespan/makespan/planning/TaskOnType" "ready" "D" (.double (0 : UInt64))) (F_seconds : Fld Z h0 tk "com/example/makespan/makespan/planning/TaskOnType" "seconds" "D" (.double (0 : UInt64))) (F_fees : Fld Z h0 tk "com/example/makespan/makespan/planning/TaskOnType" "fees" "[D" .null) (F_feesAllZero : Fld Z h0 tk "com/example/makespan/makespan/planning/TaskOnType" "feesAllZero" "Z" (.int (0 : Int32))) (gt : n0 ≤ tk) (Ev : Exa Z h0 vt "com/example/makespan/makespan/model/VmType") (Fb : Fld Z h0 vt "com/example/makespan/makespan/model/VmType" "bootSeconds" "D" (.double (FP.dconst0))) (Vf : Arv Z h0 fe kf .double (3 : Int32) [(.double (FP.i2d fa)), (.double (FP.i2d fb)), (.double (FP.i2d fc))] (.double (0 : UInt64))) (hz0 : fa = 0) (hz1 : fb = 0) (hz2 : ¬ fc = 0) :
    Ctr l Z (⟨"com/example/makespan/makespan/planning/TaskOnType", "<init>", "(Lcom/example/makespan/makespan/model/VmType;Lcom/example/makespan/makespan/model/Billing;IDD[D)V"⟩ : MethodName) prog_105_method_1_code 11 none ({ frames := 1, cells := 0, slots := 0, locals := 30 } : Room) n0 #[(.ref tk), (.ref vt), (.ref bl), (.int (0 : Int32)), (.double (FP.dconst0)), (.double (FP.dconst0)), (.ref fe)] h0 (fun v h => v = none ∧ Keep h0 h [tk] ∧ Exa Z h tk "com/example/makespan/makespan/planning/TaskOnType" ∧ Fld Z h tk "com/example/makespan/makespan/planning/TaskOnType" "fees" "[D" (.ref fe) ∧ Fld Z h tk "com/example/makespan/makespan/planning/TaskOnType" "feesAllZero" "Z" (.int (0 : Int32))) := by
  refine Ctr.of (plainFor_of_name pn4) hn0 ?_
  intro p e s m below meth c T0 C hnm hret hlk X0
  rw [ef31 m tk vt bl (0 : Int32) (FP.dconst0) (FP.dconst0) fe]
  refine OGo.aloadN (pc' := 1) C X0 d31_0 rfl rfl rfl ?_
  refine OGo.initObj (pc' := 4) C X0 (wd191 hw) (wd20 hw) (wd21 hw) d31_1 rfl rfl (by decide) (Nat.le_of_ble_eq_true rfl) (fun T1 X1 => ?_)
  refine OGo.aloadN (pc' := 5) C X1 d31_4 rfl rfl rfl ?_
  refine OGo.aloadN (pc' := 6) C X1 d31_5 rfl rfl rfl ?_
  refine OGo.putfield (pc' := 9) C X1 (host := "") (Or.inl (wd192 hw)) Via.refl F_type Et gt (Or.inr ⟨(wd193 hw), rfl, hnm⟩) (wd183 hw) (ty := (.object "com/example/makespan/makespan/model/VmType")) (by decide) rfl rfl d31_6 rfl (fun T2 h2 X2 W2 F2 => ?_)
  have K3 : Keep h0 h2 [tk] := (Keep.refl h0 [tk]).wr W2 (Or.inl (List.mem_of_getElem? (i := 0) rfl))
  refine OGo.aloadN (pc' := 10) C X2 d31_9 rfl rfl rfl ?_
  refine OGo.aloadN (pc' := 11) C X2 d31_10 rfl rfl rfl ?_
  have f4 := (F_billing.other W2 (Or.inr (slot_ne (Or.inr (wd195 hw)) (Or.inr (wd193 hw)) (by decide) (t := (.object "com/example/makespan/makespan/model/Billing")) (t' := (.object "com/example/makespan/makespan/model/VmType")) (by decide) (by decide))))
  have f5 := (Et.wr W2)
  refine OGo.putfield (pc' := 14) C X2 (host := "") (Or.inl (wd194 hw)) Via.refl f4 f5 gt (Or.inr ⟨(wd195 hw), rfl, hnm⟩) (wd183 hw) (ty := (.object "com/example/makespan/makespan/model/Billing")) (by decide) rfl rfl d31_11 rfl (fun T6 h6 X6 W6 F6 => ?_)
  have K7 : Keep h0 h6 [tk] := K3.wr W6 (Or.inl (List.mem_of_getElem? (i := 0) rfl))
  refine OGo.aloadN (pc' := 15) C X6 d31_14 rfl rfl rfl ?_
  refine OGo.iloadN (pc' := 16) C X6 d31_15 rfl rfl ?_
  have f8 := ((F_input.other W2 (Or.inr (slot_ne (Or.inr (wd197 hw)) (Or.inr (wd193 hw)) (by decide) (t := .int) (t' := (.object "com/example/makespan/makespan/model/VmType")) (by decide) (by decide)))).other W6 (Or.inr (slot_ne (Or.inr (wd197 hw)) (Or.inr (wd195 hw)) (by decide) (t := .int) (t' := (.object "com/example/makespan/makespan/model/Billing")) (by decide) (by decide))))
  have f9 := (f5.wr W6)
  refine OGo.putfield (pc' := 19) C X6 (host := "") (Or.inl (wd196 hw)) Via.refl f8 f9 gt (Or.inr ⟨(wd197 hw), rfl, hnm⟩) (wd183 hw) (ty := .int) (by decide) rfl rfl d31_16 rfl (fun T10 h10 X10 W10 F10 => ?_)
  have K11 : Keep h0 h10 [tk] := K7.wr W10 (Or.inl (List.mem_of_getElem? (i := 0) rfl))
  refine OGo.aloadN (pc' := 20) C X10 d31_19 rfl rfl rfl ?_
  refine OGo.dload (pc' := 22) C X10 d31_20 rfl rfl ?_
  have f12 := (((F_arrival.other W2 (Or.inr (slot_ne (Or.inr (wd199 hw)) (Or.inr (wd193 hw)) (by decide) (t := .double) (t' := (.object "com/example/makespan/makespan/model/VmType")) (by decide) (by decide)))).other W6 (Or.inr (slot_ne (Or.inr (wd199 hw)) (Or.inr (wd195 hw)) (by decide) (t := .double) (t' := (.object "com/example/makespan/makespan/model/Billing")) (by decide) (by decide)))).other W10 (Or.inr (slot_ne (Or.inr (wd199 hw)) (Or.inr (wd197 hw)) (by decide) (t := .double) (t' := .int) (by decide) (by decide))))
  have f13 := (f9.wr W10)
  refine OGo.putfield (pc' := 25) C X10 (host := "") (Or.inl (wd198 hw)) Via.refl f12 f13 gt (Or.inr ⟨(wd199 hw), rfl, hnm⟩) (wd183 hw) (ty := .double) (by decide) rfl rfl d31_22 rfl (fun T14 h14 X14 W14 F14 => ?_)
  have K15 : Keep h0 h14 [tk] := K11.wr W14 (Or.inl (List.mem_of_getElem? (i := 0) rfl))
  refine OGo.aloadN (pc' := 26) C X14 d31_25 rfl rfl rfl ?_
  refine OGo.aloadN (pc' := 27) C X14 d31_26 rfl rfl rfl ?_
  have f16 := ((((Fb.other W2 (Or.inl (Ne.symm (Exa.ne Et Ev (by decide))))).other W6 (Or.inl (Ne.symm (Exa.ne Et Ev (by decide))))).other W10 (Or.inl (Ne.symm (Exa.ne Et Ev (by decide))))).other W14 (Or.inl (Ne.symm (Exa.ne Et Ev (by decide)))))
  have f18 := ((((Ev.wr W2).wr W6).wr W10).wr W14)
  refine OGo.callV (pc' := 30) (cells' := 0) (slots' := 0) (argsL := []) (St := [(.ref tk)]) C X14 (wd200 hw) (wd201 hw) (wd203 hw) (wd202 hw) (by decide) f18 (wd204 hw) (wd4 hw) (ctBoot hw X14.2.1 vt f16) (lenOf pd22 rfl) rfl d31_27 rfl rfl (by decide) (Nat.le_of_ble_eq_true rfl) rfl rfl (by decide) (by decide) (fun v17 T17 h17 Q17 X17 z17 => ?_)
  obtain ⟨hv17, hh17⟩ := Q17
  subst hv17; rw [hh17] at X17
  show OGo p e below _ T17 (mkF m 30 #[.val (.ref tk), .val (.ref vt), .val (.ref bl), .val (.int (0 : Int32)), .val (.double (FP.dconst0)), .second, .val (.double (FP.dconst0)), .second, .val (.ref fe), .unset, .unset] [(.double (FP.dconst0)), (.ref tk)])
  refine OGo.dload (pc' := 32) C X17 d31_30 rfl rfl ?_
  refine OGo.natS (pc' := 35) (argsL := [(.double (FP.dconst0)), (.double (FP.dconst0))]) (St := [(.ref tk)]) (val := .double (Native.java_lang_Math.nans.pick64 true (FP.dconst0) (FP.dconst0))) C X17 (wd205 hw) (wd206 hw) (wd143 hw) (wd207 hw) (by decide) (lenOf pd23 rfl) d31_32 rfl rfl (by decide) (by decide) (fun hq => Jvm.Free.Fl.Abs.maxD_pays (FP.dconst0) (FP.dconst0) hq (by decide) (Nat.le_of_ble_eq_true rfl)) (⟨rfl, by unfold NoNaN64; decide +kernel, by unfold NoNaN64; decide +kernel⟩) (fun T19 X19 => ?_)
  rw [show Native.java_lang_Math.nans.pick64 true (FP.dconst0) (FP.dconst0) = FP.dconst0 from by decide +kernel]
  have f20 := ((((F_ready.other W2 (Or.inr (slot_ne (Or.inr (wd209 hw)) (Or.inr (wd193 hw)) (by decide) (t := .double) (t' := (.object "com/example/makespan/makespan/model/VmType")) (by decide) (by decide)))).other W6 (Or.inr (slot_ne (Or.inr (wd209 hw)) (Or.inr (wd195 hw)) (by decide) (t := .double) (t' := (.object "com/example/makespan/makespan/model/Billing")) (by decide) (by decide)))).other W10 (Or.inr (slot_ne (Or.inr (wd209 hw)) (Or.inr (wd197 hw)) (by decide) (t := .double) (t' := .int) (by decide) (by decide)))).other W14 (Or.inr (slot_ne (Or.inr (wd209 hw)) (Or.inr (wd199 hw)) (by decide) (t := .double) (t' := .double) (by decide) (by decide))))
  have f21 := (f13.wr W14)
  refine OGo.putfield (pc' := 38) C X19 (host := "") (Or.inl (wd208 hw)) Via.refl f20 f21 gt (Or.inr ⟨(wd209 hw), rfl, hnm⟩) (wd183 hw) (ty := .double) (by decide) rfl rfl d31_35 rfl (fun T22 h22 X22 W22 F22 => ?_)
  have K23 : Keep h0 h22 [tk] := K15.wr W22 (Or.inl (List.mem_of_getElem? (i := 0) rfl))
  refine OGo.aloadN (pc' := 39) C X22 d31_38 rfl rfl rfl ?_
  refine OGo.dload (pc' := 41) C X22 d31_39 rfl rfl ?_
  have f24 := (((((F_seconds.other W2 (Or.inr (slot_ne (Or.inr (wd211 hw)) (Or.inr (wd193 hw)) (by decide) (t := .double) (t' := (.object "com/example/makespan/makespan/model/VmType")) (by decide) (by decide)))).other W6 (Or.inr (slot_ne (Or.inr (wd211 hw)) (Or.inr (wd195 hw)) (by decide) (t := .double) (t' := (.object "com/example/makespan/makespan/model/Billing")) (by decide) (by decide)))).other W10 (Or.inr (slot_ne (Or.inr (wd211 hw)) (Or.inr (wd197 hw)) (by decide) (t := .double) (t' := .int) (by decide) (by decide)))).other W14 (Or.inr (slot_ne (Or.inr (wd211 hw)) (Or.inr (wd199 hw)) (by decide) (t := .double) (t' := .double) (by decide) (by decide)))).other W22 (Or.inr (slot_ne (Or.inr (wd211 hw)) (Or.inr (wd209 hw)) (by decide) (t := .double) (t' := .double) (by decide) (by decide))))
  have f25 := (f21.wr W22)
  refine OGo.putfield (pc' := 44) C X22 (host := "") (Or.inl (wd210 hw)) Via.refl f24 f25 gt (Or.inr ⟨(wd211 hw), rfl, hnm⟩) (wd183 hw) (ty := .double) (by decide) rfl rfl d31_41 rfl (fun T26 h26 X26 W26 F26 => ?_)
  have K27 : Keep h0 h26 [tk] := K23.wr W26 (Or.inl (List.mem_of_getElem? (i := 0) rfl))
  refine OGo.aloadN (pc' := 45) C X26 d31_44 rfl rfl rfl ?_
  refine OGo.aload (pc' := 47) C X26 d31_45 rfl rfl rfl ?_
  have f28 := ((((((F_fees.other W2 (Or.inr (slot_ne (Or.inr (wd213 hw)) (Or.inr (wd193 hw)) (by decide) (t := (.array .double)) (t' := (.object "com/example/makespan/makespan/model/VmType")) (by decide) (by decide)))).other W6 (Or.inr (slot_ne (Or.inr (wd213 hw)) (Or.inr (wd195 hw)) (by decide) (t := (.array .double)) (t' := (.object "com/example/makespan/makespan/model/Billing")) (by decide) (by decide)))).other W10 (Or.inr (slot_ne (Or.inr (wd213 hw)) (Or.inr (wd197 hw)) (by decide) (t := (.array .double)) (t' := .int) (by decide) (by decide)))).other W14 (Or.inr (slot_ne (Or.inr (wd213 hw)) (Or.inr (wd199 hw)) (by decide) (t := (.array .double)) (t' := .double) (by decide) (by decide)))).other W22 (Or.inr (slot_ne (Or.inr (wd213 hw)) (Or.inr (wd209 hw)) (by decide) (t := (.array .double)) (t' := .double) (by decide) (by decide)))).other W26 (Or.inr (slot_ne (Or.inr (wd213 hw)) (Or.inr (wd211 hw)) (by decide) (t := (.array .double)) (t' := .double) (by decide) (by decide))))
  have f29 := (f25.wr W26)
  refine OGo.putfield (pc' := 50) C X26 (host := "") (Or.inl (wd212 hw)) Via.refl f28 f29 gt (Or.inr ⟨(wd213 hw), rfl, hnm⟩) (wd183 hw) (ty := (.array .double)) (by decide) rfl rfl d31_47 rfl (fun T30 h30 X30 W30 F30 => ?_)
  have K31 : Keep h0 h30 [tk] := K27.wr W30 (Or.inl (List.mem_of_getElem? (i := 0) rfl))
  refine OGo.aload (pc' := 52) C X30 d31_50 rfl rfl rfl ?_
  refine OGo.ifnullNo (pc' := 55) C X30 d31_52 rfl ?_
  refine OGo.iconst (pc' := 56) (z := (1 : Int32)) C X30 d31_55 rfl (by decide) ?_
  refine OGo.goto (pc' := 60) C X30 d31_56 (by decide) (by decide) ?_
  refine OGo.istore (pc' := 62) C X30 d31_60 rfl (l' := #[.val (.ref tk), .val (.ref vt), .val (.ref bl), .val (.int (0 : Int32)), .val (.double (FP.dconst0)), .second, .val (.double (FP.dconst0)), .second, .val (.ref fe), .val (.int (1 : Int32)), .unset]) rfl ?_
  refine OGo.iconst (pc' := 63) (z := (0 : Int32)) C X30 d31_62 rfl (by decide) ?_
  refine OGo.istore (pc' := 65) C X30 d31_63 rfl (l' := #[.val (.ref tk), .val (.ref vt), .val (.ref bl), .val (.int (0 : Int32)), .val (.double (FP.dconst0)), .second, .val (.double (FP.dconst0)), .second, .val (.ref fe), .val (.int (1 : Int32)), .val (.int (0 : Int32))]) rfl ?_
  refine OGo.iload (pc' := 67) C X30 d31_65 rfl rfl ?_
  refine OGo.ifNo (pc' := 70) C X30 d31_67 rfl (feq (by decide : ¬ (1 : Int32) = (0 : Int32))).1 ?_
  refine OGo.iload (pc' := 72) C X30 d31_70 rfl rfl ?_
  refine OGo.aload (pc' := 74) C X30 d31_72 rfl rfl rfl ?_
  have f32 := (((((((Vf.other W2 (Ne.symm (Exa.neArv Et Vf (wd183 hw)))).other W6 (Ne.symm (Exa.neArv Et Vf (wd183 hw)))).other W10 (Ne.symm (Exa.neArv Et Vf (wd183 hw)))).other W14 (Ne.symm (Exa.neArv Et Vf (wd183 hw)))).other W22 (Ne.symm (Exa.neArv Et Vf (wd183 hw)))).other W26 (Ne.symm (Exa.neArv Et Vf (wd183 hw)))).other W30 (Ne.symm (Exa.neArv Et Vf (wd183 hw))))
  refine OGo.arraylength (pc' := 75) C X30 f32 d31_74 rfl ?_
  refine OGo.icmpNo (pc' := 78) C X30 d31_75 rfl (tlt (by decide : (0 : Int32) < (3 : Int32))).2.1 ?_
  refine OGo.aload (pc' := 80) C X30 d31_78 rfl rfl rfl ?_
  refine OGo.iload (pc' := 82) C X30 d31_80 rfl rfl ?_
  refine OGo.daload (pc' := 83) C X30 f32 d31_82 rfl ⟨by decide, by decide⟩ (v := (FP.i2d fa)) rfl ?_
  refine OGo.dconst0 (pc' := 84) (v := (FP.dconst0)) C X30 d31_83 rfl rfl ?_
  refine OGo.dcmp (pc' := 85) (v := (0 : Int32)) C X30 d31_84 rfl (own_z0 hz0) ?_
  refine OGo.ifNo (pc' := 88) C X30 d31_85 rfl (teq (by decide : (0 : Int32) = (0 : Int32))).2 ?_
  refine OGo.iconst (pc' := 89) (z := (1 : Int32)) C X30 d31_88 rfl (by decide) ?_
  refine OGo.goto (pc' := 93) C X30 d31_89 (by decide) (by decide) ?_
  refine OGo.istore (pc' := 95) C X30 d31_93 rfl (l' := #[.val (.ref tk), .val (.ref vt), .val (.ref bl), .val (.int (0 : Int32)), .val (.double (FP.dconst0)), .second, .val (.double (FP.dconst0)), .second, .val (.ref fe), .val (.int (1 : Int32)), .val (.int (0 : Int32))]) rfl ?_
  refine OGo.iinc (pc' := 98) C X30 d31_95 rfl rfl (z := (1 : Int32)) (by decide) (l' := #[.val (.ref tk), .val (.ref vt), .val (.ref bl), .val (.int (0 : Int32)), .val (.double (FP.dconst0)), .second, .val (.double (FP.dconst0)), .second, .val (.ref fe), .val (.int (1 : Int32)), .val (.int (1 : Int32))]) rfl ?_
  refine OGo.goto (pc' := 65) C X30 d31_98 (by decide) (by decide) ?_
  refine OGo.iload (pc' := 67) C X30 d31_65 rfl rfl ?_
  refine OGo.ifNo (pc' := 70) C X30 d31_67 rfl (feq (by decide : ¬ (1 : Int32) = (0 : Int32))).1 ?_
  refine OGo.iload (pc' := 72) C X30 d31_70 rfl rfl ?_
  refine OGo.aload (pc' := 74) C X30 d31_72 rfl rfl rfl ?_
  refine OGo.arraylength (pc' := 75) C X30 f32 d31_74 rfl ?_
  refine OGo.icmpNo (pc' := 78) C X30 d31_75 rfl (tlt (by decide : (1 : Int32) < (3 : Int32))).2.1 ?_
  refine OGo.aload (pc' := 80) C X30 d31_78 rfl rfl rfl ?_
  refine OGo.iload (pc' := 82) C X30 d31_80 rfl rfl ?_
  refine OGo.daload (pc' := 83) C X30 f32 d31_82 rfl ⟨by decide, by decide⟩ (v := (FP.i2d fb)) rfl ?_
  refine OGo.dconst0 (pc' := 84) (v := (FP.dconst0)) C X30 d31_83 rfl rfl ?_
  refine OGo.dcmp (pc' := 85) (v := (0 : Int32)) C X30 d31_84 rfl (own_z0 hz1) ?_
  refine OGo.ifNo (pc' := 88) C X30 d31_85 rfl (teq (by decide : (0 : Int32) = (0 : Int32))).2 ?_
  refine OGo.iconst (pc' := 89) (z := (1 : Int32)) C X30 d31_88 rfl (by decide) ?_
  refine OGo.goto (pc' := 93) C X30 d31_89 (by decide) (by decide) ?_
  refine OGo.istore (pc' := 95) C X30 d31_93 rfl (l' := #[.val (.ref tk), .val (.ref vt), .val (.ref bl), .val (.int (0 : Int32)), .val (.double (FP.dconst0)), .second, .val (.double (FP.dconst0)), .second, .val (.ref fe), .val (.int (1 : Int32)), .val (.int (1 : Int32))]) rfl ?_
  refine OGo.iinc (pc' := 98) C X30 d31_95 rfl rfl (z := (2 : Int32)) (by decide) (l' := #[.val (.ref tk), .val (.ref vt), .val (.ref bl), .val (.int (0 : Int32)), .val (.double (FP.dconst0)), .second, .val (.double (FP.dconst0)), .second, .val (.ref fe), .val (.int (1 : Int32)), .val (.int (2 : Int32))]) rfl ?_
  refine OGo.goto (pc' := 65) C X30 d31_98 (by decide) (by decide) ?_
  refine OGo.iload (pc' := 67) C X30 d31_65 rfl rfl ?_
  refine OGo.ifNo (pc' := 70) C X30 d31_67 rfl (feq (by decide : ¬ (1 : Int32) = (0 : Int32))).1 ?_
  refine OGo.iload (pc' := 72) C X30 d31_70 rfl rfl ?_
  refine OGo.aload (pc' := 74) C X30 d31_72 rfl rfl rfl ?_
  refine OGo.arraylength (pc' := 75) C X30 f32 d31_74 rfl ?_
  refine OGo.icmpNo (pc' := 78) C X30 d31_75 rfl (tlt (by decide : (2 : Int32) < (3 : Int32))).2.1 ?_
  refine OGo.aload (pc' := 80) C X30 d31_78 rfl rfl rfl ?_
  refine OGo.iload (pc' := 82) C X30 d31_80 rfl rfl ?_
  refine OGo.daload (pc' := 83) C X30 f32 d31_82 rfl ⟨by decide, by decide⟩ (v := (FP.i2d fc)) rfl ?_
  refine OGo.dconst0 (pc' := 84) (v := (FP.dconst0)) C X30 d31_83 rfl rfl ?_
  refine OGo.dcmp (pc' := 85) (v := (cmpValue (FP.dcmp (FP.i2d fc) (FP.dconst0)) .l)) C X30 d31_84 rfl rfl ?_
  refine OGo.ifYes (pc' := 92) C X30 d31_85 (feq (own_nz hz2)).2 (by decide) (by decide) ?_
  refine OGo.iconst (pc' := 93) (z := (0 : Int32)) C X30 d31_92 rfl (by decide) ?_
  refine OGo.istore (pc' := 95) C X30 d31_93 rfl (l' := #[.val (.ref tk), .val (.ref vt), .val (.ref bl), .val (.int (0 : Int32)), .val (.double (FP.dconst0)), .second, .val (.double (FP.dconst0)), .second, .val (.ref fe), .val (.int (0 : Int32)), .val (.int (2 : Int32))]) rfl ?_
  refine OGo.iinc (pc' := 98) C X30 d31_95 rfl rfl (z := (3 : Int32)) (by decide) (l' := #[.val (.ref tk), .val (.ref vt), .val (.ref bl), .val (.int (0 : Int32)), .val (.double (FP.dconst0)), .second, .val (.double (FP.dconst0)), .second, .val (.ref fe), .val (.int (0 : Int32)), .val (.int (3 : Int32))]) rfl ?_
  refine OGo.goto (pc' := 65) C X30 d31_98 (by decide) (by decide) ?_
  refine OGo.iload (pc' := 67) C X30 d31_65 rfl rfl ?_
  refine OGo.ifYes (pc' := 101) C X30 d31_67 (teq (by decide : (0 : Int32) = (0 : Int32))).1 (by decide) (by decide) ?_
  refine OGo.aloadN (pc' := 102) C X30 d31_101 rfl rfl rfl ?_
  refine OGo.iload (pc' := 104) C X30 d31_102 rfl rfl ?_
  have f33 := (((((((F_feesAllZero.other W2 (Or.inr (slot_ne (Or.inr (wd215 hw)) (Or.inr (wd193 hw)) (by decide) (t := .boolean) (t' := (.object "com/example/makespan/makespan/model/VmType")) (by decide) (by decide)))).other W6 (Or.inr (slot_ne (Or.inr (wd215 hw)) (Or.inr (wd195 hw)) (by decide) (t := .boolean) (t' := (.object "com/example/makespan/makespan/model/Billing")) (by decide) (by decide)))).other W10 (Or.inr (slot_ne (Or.inr (wd215 hw)) (Or.inr (wd197 hw)) (by decide) (t := .boolean) (t' := .int) (by decide) (by decide)))).other W14 (Or.inr (slot_ne (Or.inr (wd215 hw)) (Or.inr (wd199 hw)) (by decide) (t := .boolean) (t' := .double) (by decide) (by decide)))).other W22 (Or.inr (slot_ne (Or.inr (wd215 hw)) (Or.inr (wd209 hw)) (by decide) (t := .boolean) (t' := .double) (by decide) (by decide)))).other W26 (Or.inr (slot_ne (Or.inr (wd215 hw)) (Or.inr (wd211 hw)) (by decide) (t := .boolean) (t' := .double) (by decide) (by decide)))).other W30 (Or.inr (slot_ne (Or.inr (wd215 hw)) (Or.inr (wd213 hw)) (by decide) (t := .boolean) (t' := (.array .double)) (by decide) (by decide))))
  have f34 := (f29.wr W30)
  refine OGo.putfield (pc' := 107) C X30 (host := "") (Or.inl (wd214 hw)) Via.refl f33 f34 gt (Or.inr ⟨(wd215 hw), rfl, hnm⟩) (wd183 hw) (ty := .boolean) (by decide) rfl rfl d31_104 rfl (fun T35 h35 X35 W35 F35 => ?_)
  have K36 : Keep h0 h35 [tk] := K31.wr W35 (Or.inl (List.mem_of_getElem? (i := 0) rfl))
  have f37 := (f34.wr W35)
  have f38 := (F30.other W35 (Or.inr (slot_ne (Or.inr (wd213 hw)) (Or.inr (wd215 hw)) (by decide) (t := (.array .double)) (t' := .boolean) (by decide) (by decide))))
  exact OGo.ret C X35 d31_107 hret hlk (⟨rfl, K36, f37, f38, F35⟩) (by decide) (by decide)
set_option maxRecDepth 65536 in
set_option maxHeartbeats 40000000 in
theorem ctTk33R {l : Launch} {Z : State} {a0 : Array Value} (hw : HW a0 Z) {n0 : Nat} {h0 : Heap} (hn0 : n0 ≤ h0.size) (tk vt fe bl : Addr) (kf : ClassId) (fa fb fc : Int32) (Et : Exa Z h0 tk "com/example/makespan/makespan/planning/TaskOnType") (F_type : Fld Z h0 tk "com/example/makespan/makespan/planning/TaskOnType" "type" "Lcom/example/makespan/makespan/model/VmType;" .null) (F_billing : Fld Z h0 tk "com/example/makespan/makespan/planning/TaskOnType" "billing" "Lcom/example/makespan/makespan/model/Billing;" .null) (F_input : Fld Z h0 tk "com/example/makespan/makespan/planning/TaskOnType" "input" "I" (.int (0 : Int32))) (F_arrival : Fld Z h0 tk "com/example/makespan/makespan/planning/TaskOnType" "arrival" "D" (.double (0 : UInt64))) (F_ready : Fld Z h0 tk "com/example/makespan/makespan/planning/TaskOnType" "ready" "D" (.double (0 : UInt64))) (F_seconds : Fld Z h0 tk "com/example/makespan/makespan/planning/TaskOnType" "seconds" "D" (.double (0 : UInt64))) (F_fees : Fld Z h0 tk "com/example/makespan/makespan/planning/TaskOnType" "fees" "[D" .null) (F_feesAllZero : Fld Z h0 tk "com/example/makespan/makespan/planning/TaskOnType" "feesAllZero" "Z" (.int (0 : Int32))) (gt : n0 ≤ tk) (Ev : Exa Z h0 vt "com/example/makespan/makespan/model/VmType") (Fb : Fld Z h0 vt "com/example/makespan/makespan/model/VmType" "bootSeconds" "D" (.double (FP.dconst0))) (Vf : Arv Z h0 fe kf .double (3 : Int32) [(.double (FP.i2d fa)), (.double (FP.i2d fb)), (.double (FP.i2d fc))] (.double (0 : UInt64))) (hz0 : fa = 0) (hz1 : fb = 0) (hz2 : fc = 0) :
    Ctr l Z (⟨"com/example/makespan/makespan/planning/TaskOnType", "<init>", "(Lcom/example/makespan/makespan/model/VmType;Lcom/example/makespan/makespan/model/Billing;IDD[D)V"⟩ : MethodName) prog_105_method_1_code 11 none ({ frames := 1, cells := 0, slots := 0, locals := 30 } : Room) n0 #[(.ref tk), (.ref vt), (.ref bl), (.int (0 : Int32)), (.double (FP.dconst0)), (.double (FP.dconst0)), (.ref fe)] h0 (fun v h => v = none ∧ Keep h0 h [tk] ∧ Exa Z h tk "com/example/makespan/makespan/planning/TaskOnType" ∧ Fld Z h tk "com/example/makespan/makespan/planning/TaskOnType" "fees" "[D" (.ref fe) ∧ Fld Z h tk "com/example/makespan/makespan/planning/TaskOnType" "feesAllZero" "Z" (.int (1 : Int32))) := by
  refine Ctr.of (plainFor_of_name pn4) hn0 ?_
  intro p e s m below meth c T0 C hnm hret hlk X0
  rw [ef31 m tk vt bl (0 : Int32) (FP.dconst0) (FP.dconst0) fe]
  refine OGo.aloadN (pc' := 1) C X0 d31_0 rfl rfl rfl ?_
  refine OGo.initObj (pc' := 4) C X0 (wd191 hw) (wd20 hw) (wd21 hw) d31_1 rfl rfl (by decide) (Nat.le_of_ble_eq_true rfl) (fun T1 X1 => ?_)
  refine OGo.aloadN (pc' := 5) C X1 d31_4 rfl rfl rfl ?_
  refine OGo.aloadN (pc' := 6) C X1 d31_5 rfl rfl rfl ?_
  refine OGo.putfield (pc' := 9) C X1 (host := "") (Or.inl (wd192 hw)) Via.refl F_type Et gt (Or.inr ⟨(wd193 hw), rfl, hnm⟩) (wd183 hw) (ty := (.object "com/example/makespan/makespan/model/VmType")) (by decide) rfl rfl d31_6 rfl (fun T2 h2 X2 W2 F2 => ?_)
  have K3 : Keep h0 h2 [tk] := (Keep.refl h0 [tk]).wr W2 (Or.inl (List.mem_of_getElem? (i := 0) rfl))
  refine OGo.aloadN (pc' := 10) C X2 d31_9 rfl rfl rfl ?_
  refine OGo.aloadN (pc' := 11) C X2 d31_10 rfl rfl rfl ?_
  have f4 := (F_billing.other W2 (Or.inr (slot_ne (Or.inr (wd195 hw)) (Or.inr (wd193 hw)) (by decide) (t := (.object "com/example/makespan/makespan/model/Billing")) (t' := (.object "com/example/makespan/makespan/model/VmType")) (by decide) (by decide))))
  have f5 := (Et.wr W2)
  refine OGo.putfield (pc' := 14) C X2 (host := "") (Or.inl (wd194 hw)) Via.refl f4 f5 gt (Or.inr ⟨(wd195 hw), rfl, hnm⟩) (wd183 hw) (ty := (.object "com/example/makespan/makespan/model/Billing")) (by decide) rfl rfl d31_11 rfl (fun T6 h6 X6 W6 F6 => ?_)
  have K7 : Keep h0 h6 [tk] := K3.wr W6 (Or.inl (List.mem_of_getElem? (i := 0) rfl))
  refine OGo.aloadN (pc' := 15) C X6 d31_14 rfl rfl rfl ?_
  refine OGo.iloadN (pc' := 16) C X6 d31_15 rfl rfl ?_
  have f8 := ((F_input.other W2 (Or.inr (slot_ne (Or.inr (wd197 hw)) (Or.inr (wd193 hw)) (by decide) (t := .int) (t' := (.object "com/example/makespan/makespan/model/VmType")) (by decide) (by decide)))).other W6 (Or.inr (slot_ne (Or.inr (wd197 hw)) (Or.inr (wd195 hw)) (by decide) (t := .int) (t' := (.object "com/example/makespan/makespan/model/Billing")) (by decide) (by decide))))
  have f9 := (f5.wr W6)
  refine OGo.putfield (pc' := 19) C X6 (host := "") (Or.inl (wd196 hw)) Via.refl f8 f9 gt (Or.inr ⟨(wd197 hw), rfl, hnm⟩) (wd183 hw) (ty := .int) (by decide) rfl rfl d31_16 rfl (fun T10 h10 X10 W10 F10 => ?_)
  have K11 : Keep h0 h10 [tk] := K7.wr W10 (Or.inl (List.mem_of_getElem? (i := 0) rfl))
  refine OGo.aloadN (pc' := 20) C X10 d31_19 rfl rfl rfl ?_
  refine OGo.dload (pc' := 22) C X10 d31_20 rfl rfl ?_
  have f12 := (((F_arrival.other W2 (Or.inr (slot_ne (Or.inr (wd199 hw)) (Or.inr (wd193 hw)) (by decide) (t := .double) (t' := (.object "com/example/makespan/makespan/model/VmType")) (by decide) (by decide)))).other W6 (Or.inr (slot_ne (Or.inr (wd199 hw)) (Or.inr (wd195 hw)) (by decide) (t := .double) (t' := (.object "com/example/makespan/makespan/model/Billing")) (by decide) (by decide)))).other W10 (Or.inr (slot_ne (Or.inr (wd199 hw)) (Or.inr (wd197 hw)) (by decide) (t := .double) (t' := .int) (by decide) (by decide))))
  have f13 := (f9.wr W10)
  refine OGo.putfield (pc' := 25) C X10 (host := "") (Or.inl (wd198 hw)) Via.refl f12 f13 gt (Or.inr ⟨(wd199 hw), rfl, hnm⟩) (wd183 hw) (ty := .double) (by decide) rfl rfl d31_22 rfl (fun T14 h14 X14 W14 F14 => ?_)
  have K15 : Keep h0 h14 [tk] := K11.wr W14 (Or.inl (List.mem_of_getElem? (i := 0) rfl))
  refine OGo.aloadN (pc' := 26) C X14 d31_25 rfl rfl rfl ?_
  refine OGo.aloadN (pc' := 27) C X14 d31_26 rfl rfl rfl ?_
  have f16 := ((((Fb.other W2 (Or.inl (Ne.symm (Exa.ne Et Ev (by decide))))).other W6 (Or.inl (Ne.symm (Exa.ne Et Ev (by decide))))).other W10 (Or.inl (Ne.symm (Exa.ne Et Ev (by decide))))).other W14 (Or.inl (Ne.symm (Exa.ne Et Ev (by decide)))))
  have f18 := ((((Ev.wr W2).wr W6).wr W10).wr W14)
  refine OGo.callV (pc' := 30) (cells' := 0) (slots' := 0) (argsL := []) (St := [(.ref tk)]) C X14 (wd200 hw) (wd201 hw) (wd203 hw) (wd202 hw) (by decide) f18 (wd204 hw) (wd4 hw) (ctBoot hw X14.2.1 vt f16) (lenOf pd22 rfl) rfl d31_27 rfl rfl (by decide) (Nat.le_of_ble_eq_true rfl) rfl rfl (by decide) (by decide) (fun v17 T17 h17 Q17 X17 z17 => ?_)
  obtain ⟨hv17, hh17⟩ := Q17
  subst hv17; rw [hh17] at X17
  show OGo p e below _ T17 (mkF m 30 #[.val (.ref tk), .val (.ref vt), .val (.ref bl), .val (.int (0 : Int32)), .val (.double (FP.dconst0)), .second, .val (.double (FP.dconst0)), .second, .val (.ref fe), .unset, .unset] [(.double (FP.dconst0)), (.ref tk)])
  refine OGo.dload (pc' := 32) C X17 d31_30 rfl rfl ?_
  refine OGo.natS (pc' := 35) (argsL := [(.double (FP.dconst0)), (.double (FP.dconst0))]) (St := [(.ref tk)]) (val := .double (Native.java_lang_Math.nans.pick64 true (FP.dconst0) (FP.dconst0))) C X17 (wd205 hw) (wd206 hw) (wd143 hw) (wd207 hw) (by decide) (lenOf pd23 rfl) d31_32 rfl rfl (by decide) (by decide) (fun hq => Jvm.Free.Fl.Abs.maxD_pays (FP.dconst0) (FP.dconst0) hq (by decide) (Nat.le_of_ble_eq_true rfl)) (⟨rfl, by unfold NoNaN64; decide +kernel, by unfold NoNaN64; decide +kernel⟩) (fun T19 X19 => ?_)
  rw [show Native.java_lang_Math.nans.pick64 true (FP.dconst0) (FP.dconst0) = FP.dconst0 from by decide +kernel]
  have f20 := ((((F_ready.other W2 (Or.inr (slot_ne (Or.inr (wd209 hw)) (Or.inr (wd193 hw)) (by decide) (t := .double) (t' := (.object "com/example/makespan/makespan/model/VmType")) (by decide) (by decide)))).other W6 (Or.inr (slot_ne (Or.inr (wd209 hw)) (Or.inr (wd195 hw)) (by decide) (t := .double) (t' := (.object "com/example/makespan/makespan/model/Billing")) (by decide) (by decide)))).other W10 (Or.inr (slot_ne (Or.inr (wd209 hw)) (Or.inr (wd197 hw)) (by decide) (t := .double) (t' := .int) (by decide) (by decide)))).other W14 (Or.inr (slot_ne (Or.inr (wd209 hw)) (Or.inr (wd199 hw)) (by decide) (t := .double) (t' := .double) (by decide) (by decide))))
  have f21 := (f13.wr W14)
  refine OGo.putfield (pc' := 38) C X19 (host := "") (Or.inl (wd208 hw)) Via.refl f20 f21 gt (Or.inr ⟨(wd209 hw), rfl, hnm⟩) (wd183 hw) (ty := .double) (by decide) rfl rfl d31_35 rfl (fun T22 h22 X22 W22 F22 => ?_)
  have K23 : Keep h0 h22 [tk] := K15.wr W22 (Or.inl (List.mem_of_getElem? (i := 0) rfl))
  refine OGo.aloadN (pc' := 39) C X22 d31_38 rfl rfl rfl ?_
  refine OGo.dload (pc' := 41) C X22 d31_39 rfl rfl ?_
  have f24 := (((((F_seconds.other W2 (Or.inr (slot_ne (Or.inr (wd211 hw)) (Or.inr (wd193 hw)) (by decide) (t := .double) (t' := (.object "com/example/makespan/makespan/model/VmType")) (by decide) (by decide)))).other W6 (Or.inr (slot_ne (Or.inr (wd211 hw)) (Or.inr (wd195 hw)) (by decide) (t := .double) (t' := (.object "com/example/makespan/makespan/model/Billing")) (by decide) (by decide)))).other W10 (Or.inr (slot_ne (Or.inr (wd211 hw)) (Or.inr (wd197 hw)) (by decide) (t := .double) (t' := .int) (by decide) (by decide)))).other W14 (Or.inr (slot_ne (Or.inr (wd211 hw)) (Or.inr (wd199 hw)) (by decide) (t := .double) (t' := .double) (by decide) (by decide)))).other W22 (Or.inr (slot_ne (Or.inr (wd211 hw)) (Or.inr (wd209 hw)) (by decide) (t := .double) (t' := .double) (by decide) (by decide))))
  have f25 := (f21.wr W22)
  refine OGo.putfield (pc' := 44) C X22 (host := "") (Or.inl (wd210 hw)) Via.refl f24 f25 gt (Or.inr ⟨(wd211 hw), rfl, hnm⟩) (wd183 hw) (ty := .double) (by decide) rfl rfl d31_41 rfl (fun T26 h26 X26 W26 F26 => ?_)
  have K27 : Keep h0 h26 [tk] := K23.wr W26 (Or.inl (List.mem_of_getElem? (i := 0) rfl))
  refine OGo.aloadN (pc' := 45) C X26 d31_44 rfl rfl rfl ?_
  refine OGo.aload (pc' := 47) C X26 d31_45 rfl rfl rfl ?_
  have f28 := ((((((F_fees.other W2 (Or.inr (slot_ne (Or.inr (wd213 hw)) (Or.inr (wd193 hw)) (by decide) (t := (.array .double)) (t' := (.object "com/example/makespan/makespan/model/VmType")) (by decide) (by decide)))).other W6 (Or.inr (slot_ne (Or.inr (wd213 hw)) (Or.inr (wd195 hw)) (by decide) (t := (.array .double)) (t' := (.object "com/example/makespan/makespan/model/Billing")) (by decide) (by decide)))).other W10 (Or.inr (slot_ne (Or.inr (wd213 hw)) (Or.inr (wd197 hw)) (by decide) (t := (.array .double)) (t' := .int) (by decide) (by decide)))).other W14 (Or.inr (slot_ne (Or.inr (wd213 hw)) (Or.inr (wd199 hw)) (by decide) (t := (.array .double)) (t' := .double) (by decide) (by decide)))).other W22 (Or.inr (slot_ne (Or.inr (wd213 hw)) (Or.inr (wd209 hw)) (by decide) (t := (.array .double)) (t' := .double) (by decide) (by decide)))).other W26 (Or.inr (slot_ne (Or.inr (wd213 hw)) (Or.inr (wd211 hw)) (by decide) (t := (.array .double)) (t' := .double) (by decide) (by decide))))
  have f29 := (f25.wr W26)
  refine OGo.putfield (pc' := 50) C X26 (host := "") (Or.inl (wd212 hw)) Via.refl f28 f29 gt (Or.inr ⟨(wd213 hw), rfl, hnm⟩) (wd183 hw) (ty := (.array .double)) (by decide) rfl rfl d31_47 rfl (fun T30 h30 X30 W30 F30 => ?_)
  have K31 : Keep h0 h30 [tk] := K27.wr W30 (Or.inl (List.mem_of_getElem? (i := 0) rfl))
  refine OGo.aload (pc' := 52) C X30 d31_50 rfl rfl rfl ?_
  refine OGo.ifnullNo (pc' := 55) C X30 d31_52 rfl ?_
  refine OGo.iconst (pc' := 56) (z := (1 : Int32)) C X30 d31_55 rfl (by decide) ?_
  refine OGo.goto (pc' := 60) C X30 d31_56 (by decide) (by decide) ?_
  refine OGo.istore (pc' := 62) C X30 d31_60 rfl (l' := #[.val (.ref tk), .val (.ref vt), .val (.ref bl), .val (.int (0 : Int32)), .val (.double (FP.dconst0)), .second, .val (.double (FP.dconst0)), .second, .val (.ref fe), .val (.int (1 : Int32)), .unset]) rfl ?_
  refine OGo.iconst (pc' := 63) (z := (0 : Int32)) C X30 d31_62 rfl (by decide) ?_
  refine OGo.istore (pc' := 65) C X30 d31_63 rfl (l' := #[.val (.ref tk), .val (.ref vt), .val (.ref bl), .val (.int (0 : Int32)), .val (.double (FP.dconst0)), .second, .val (.double (FP.dconst0)), .second, .val (.ref fe), .val (.int (1 : Int32)), .val (.int (0 : Int32))]) rfl ?_
  refine OGo.iload (pc' := 67) C X30 d31_65 rfl rfl ?_
  refine OGo.ifNo (pc' := 70) C X30 d31_67 rfl (feq (by decide : ¬ (1 : Int32) = (0 : Int32))).1 ?_
  refine OGo.iload (pc' := 72) C X30 d31_70 rfl rfl ?_
  refine OGo.aload (pc' := 74) C X30 d31_72 rfl rfl rfl ?_
  have f32 := (((((((Vf.other W2 (Ne.symm (Exa.neArv Et Vf (wd183 hw)))).other W6 (Ne.symm (Exa.neArv Et Vf (wd183 hw)))).other W10 (Ne.symm (Exa.neArv Et Vf (wd183 hw)))).other W14 (Ne.symm (Exa.neArv Et Vf (wd183 hw)))).other W22 (Ne.symm (Exa.neArv Et Vf (wd183 hw)))).other W26 (Ne.symm (Exa.neArv Et Vf (wd183 hw)))).other W30 (Ne.symm (Exa.neArv Et Vf (wd183 hw))))
  refine OGo.arraylength (pc' := 75) C X30 f32 d31_74 rfl ?_
  refine OGo.icmpNo (pc' := 78) C X30 d31_75 rfl (tlt (by decide : (0 : Int32) < (3 : Int32))).2.1 ?_
  refine OGo.aload (pc' := 80) C X30 d31_78 rfl rfl rfl ?_
  refine OGo.iload (pc' := 82) C X30 d31_80 rfl rfl ?_
  refine OGo.daload (pc' := 83) C X30 f32 d31_82 rfl ⟨by decide, by decide⟩ (v := (FP.i2d fa)) rfl ?_
  refine OGo.dconst0 (pc' := 84) (v := (FP.dconst0)) C X30 d31_83 rfl rfl ?_
  refine OGo.dcmp (pc' := 85) (v := (0 : Int32)) C X30 d31_84 rfl (own_z0 hz0) ?_
  refine OGo.ifNo (pc' := 88) C X30 d31_85 rfl (teq (by decide : (0 : Int32) = (0 : Int32))).2 ?_
  refine OGo.iconst (pc' := 89) (z := (1 : Int32)) C X30 d31_88 rfl (by decide) ?_
  refine OGo.goto (pc' := 93) C X30 d31_89 (by decide) (by decide) ?_
  refine OGo.istore (pc' := 95) C X30 d31_93 rfl (l' := #[.val (.ref tk), .val (.ref vt), .val (.ref bl), .val (.int (0 : Int32)), .val (.double (FP.dconst0)), .second, .val (.double (FP.dconst0)), .second, .val (.ref fe), .val (.int (1 : Int32)), .val (.int (0 : Int32))]) rfl ?_
  refine OGo.iinc (pc' := 98) C X30 d31_95 rfl rfl (z := (1 : Int32)) (by decide) (l' := #[.val (.ref tk), .val (.ref vt), .val (.ref bl), .val (.int (0 : Int32)), .val (.double (FP.dconst0)), .second, .val (.double (FP.dconst0)), .second, .val (.ref fe), .val (.int (1 : Int32)), .val (.int (1 : Int32))]) rfl ?_
  refine OGo.goto (pc' := 65) C X30 d31_98 (by decide) (by decide) ?_
  refine OGo.iload (pc' := 67) C X30 d31_65 rfl rfl ?_
  refine OGo.ifNo (pc' := 70) C X30 d31_67 rfl (feq (by decide : ¬ (1 : Int32) = (0 : Int32))).1 ?_
  refine OGo.iload (pc' := 72) C X30 d31_70 rfl rfl ?_
  refine OGo.aload (pc' := 74) C X30 d31_72 rfl rfl rfl ?_
  refine OGo.arraylength (pc' := 75) C X30 f32 d31_74 rfl ?_
  refine OGo.icmpNo (pc' := 78) C X30 d31_75 rfl (tlt (by decide : (1 : Int32) < (3 : Int32))).2.1 ?_
  refine OGo.aload (pc' := 80) C X30 d31_78 rfl rfl rfl ?_
  refine OGo.iload (pc' := 82) C X30 d31_80 rfl rfl ?_
  refine OGo.daload (pc' := 83) C X30 f32 d31_82 rfl ⟨by decide, by decide⟩ (v := (FP.i2d fb)) rfl ?_
  refine OGo.dconst0 (pc' := 84) (v := (FP.dconst0)) C X30 d31_83 rfl rfl ?_
  refine OGo.dcmp (pc' := 85) (v := (0 : Int32)) C X30 d31_84 rfl (own_z0 hz1) ?_
  refine OGo.ifNo (pc' := 88) C X30 d31_85 rfl (teq (by decide : (0 : Int32) = (0 : Int32))).2 ?_
  refine OGo.iconst (pc' := 89) (z := (1 : Int32)) C X30 d31_88 rfl (by decide) ?_
  refine OGo.goto (pc' := 93) C X30 d31_89 (by decide) (by decide) ?_
  refine OGo.istore (pc' := 95) C X30 d31_93 rfl (l' := #[.val (.ref tk), .val (.ref vt), .val (.ref bl), .val (.int (0 : Int32)), .val (.double (FP.dconst0)), .second, .val (.double (FP.dconst0)), .second, .val (.ref fe), .val (.int (1 : Int32)), .val (.int (1 : Int32))]) rfl ?_
  refine OGo.iinc (pc' := 98) C X30 d31_95 rfl rfl (z := (2 : Int32)) (by decide) (l' := #[.val (.ref tk), .val (.ref vt), .val (.ref bl), .val (.int (0 : Int32)), .val (.double (FP.dconst0)), .second, .val (.double (FP.dconst0)), .second, .val (.ref fe), .val (.int (1 : Int32)), .val (.int (2 : Int32))]) rfl ?_
  refine OGo.goto (pc' := 65) C X30 d31_98 (by decide) (by decide) ?_
  refine OGo.iload (pc' := 67) C X30 d31_65 rfl rfl ?_
  refine OGo.ifNo (pc' := 70) C X30 d31_67 rfl (feq (by decide : ¬ (1 : Int32) = (0 : Int32))).1 ?_
  refine OGo.iload (pc' := 72) C X30 d31_70 rfl rfl ?_
  refine OGo.aload (pc' := 74) C X30 d31_72 rfl rfl rfl ?_
  refine OGo.arraylength (pc' := 75) C X30 f32 d31_74 rfl ?_
  refine OGo.icmpNo (pc' := 78) C X30 d31_75 rfl (tlt (by decide : (2 : Int32) < (3 : Int32))).2.1 ?_
  refine OGo.aload (pc' := 80) C X30 d31_78 rfl rfl rfl ?_
  refine OGo.iload (pc' := 82) C X30 d31_80 rfl rfl ?_
  refine OGo.daload (pc' := 83) C X30 f32 d31_82 rfl ⟨by decide, by decide⟩ (v := (FP.i2d fc)) rfl ?_
  refine OGo.dconst0 (pc' := 84) (v := (FP.dconst0)) C X30 d31_83 rfl rfl ?_
  refine OGo.dcmp (pc' := 85) (v := (0 : Int32)) C X30 d31_84 rfl (own_z0 hz2) ?_
  refine OGo.ifNo (pc' := 88) C X30 d31_85 rfl (teq (by decide : (0 : Int32) = (0 : Int32))).2 ?_
  refine OGo.iconst (pc' := 89) (z := (1 : Int32)) C X30 d31_88 rfl (by decide) ?_
  refine OGo.goto (pc' := 93) C X30 d31_89 (by decide) (by decide) ?_
  refine OGo.istore (pc' := 95) C X30 d31_93 rfl (l' := #[.val (.ref tk), .val (.ref vt), .val (.ref bl), .val (.int (0 : Int32)), .val (.double (FP.dconst0)), .second, .val (.double (FP.dconst0)), .second, .val (.ref fe), .val (.int (1 : Int32)), .val (.int (2 : Int32))]) rfl ?_
  refine OGo.iinc (pc' := 98) C X30 d31_95 rfl rfl (z := (3 : Int32)) (by decide) (l' := #[.val (.ref tk), .val (.ref vt), .val (.ref bl), .val (.int (0 : Int32)), .val (.double (FP.dconst0)), .second, .val (.double (FP.dconst0)), .second, .val (.ref fe), .val (.int (1 : Int32)), .val (.int (3 : Int32))]) rfl ?_
  refine OGo.goto (pc' := 65) C X30 d31_98 (by decide) (by decide) ?_
  refine OGo.iload (pc' := 67) C X30 d31_65 rfl rfl ?_
  refine OGo.ifNo (pc' := 70) C X30 d31_67 rfl (feq (by decide : ¬ (1 : Int32) = (0 : Int32))).1 ?_
  refine OGo.iload (pc' := 72) C X30 d31_70 rfl rfl ?_
  refine OGo.aload (pc' := 74) C X30 d31_72 rfl rfl rfl ?_
  refine OGo.arraylength (pc' := 75) C X30 f32 d31_74 rfl ?_
  refine OGo.icmpYes (pc' := 101) C X30 d31_75 (flt (by decide : ¬ (3 : Int32) < (3 : Int32))).2.1 (by decide) (by decide) ?_
  refine OGo.aloadN (pc' := 102) C X30 d31_101 rfl rfl rfl ?_
  refine OGo.iload (pc' := 104) C X30 d31_102 rfl rfl ?_
  have f33 := (((((((F_feesAllZero.other W2 (Or.inr (slot_ne (Or.inr (wd215 hw)) (Or.inr (wd193 hw)) (by decide) (t := .boolean) (t' := (.object "com/example/makespan/makespan/model/VmType")) (by decide) (by decide)))).other W6 (Or.inr (slot_ne (Or.inr (wd215 hw)) (Or.inr (wd195 hw)) (by decide) (t := .boolean) (t' := (.object "com/example/makespan/makespan/model/Billing")) (by decide) (by decide)))).other W10 (Or.inr (slot_ne (Or.inr (wd215 hw)) (Or.inr (wd197 hw)) (by decide) (t := .boolean) (t' := .int) (by decide) (by decide)))).other W14 (Or.inr (slot_ne (Or.inr (wd215 hw)) (Or.inr (wd199 hw)) (by decide) (t := .boolean) (t' := .double) (by decide) (by decide)))).other W22 (Or.inr (slot_ne (Or.inr (wd215 hw)) (Or.inr (wd209 hw)) (by decide) (t := .boolean) (t' := .double) (by decide) (by decide)))).other W26 (Or.inr (slot_ne (Or.inr (wd215 hw)) (Or.inr (wd211 hw)) (by decide) (t := .boolean) (t' := .double) (by decide) (by decide)))).other W30 (Or.inr (slot_ne (Or.inr (wd215 hw)) (Or.inr (wd213 hw)) (by decide) (t := .boolean) (t' := (.array .double)) (by decide) (by decide))))
  have f34 := (f29.wr W30)
  refine OGo.putfield (pc' := 107) C X30 (host := "") (Or.inl (wd214 hw)) Via.refl f33 f34 gt (Or.inr ⟨(wd215 hw), rfl, hnm⟩) (wd183 hw) (ty := .boolean) (by decide) rfl rfl d31_104 rfl (fun T35 h35 X35 W35 F35 => ?_)
  have K36 : Keep h0 h35 [tk] := K31.wr W35 (Or.inl (List.mem_of_getElem? (i := 0) rfl))
  have f37 := (f34.wr W35)
  have f38 := (F30.other W35 (Or.inr (slot_ne (Or.inr (wd213 hw)) (Or.inr (wd215 hw)) (by decide) (t := (.array .double)) (t' := .boolean) (by decide) (by decide))))
  exact OGo.ret C X35 d31_107 hret hlk (⟨rfl, K36, f37, f38, F35⟩) (by decide) (by decide)
theorem ef34 (m : MethodId) (x0 : Addr) (x1 : UInt64) : entryFrame m #[(.ref x0), (.double x1)] 10 = mkF m 0 #[.val (.ref x0), .val (.double x1), .second, .unset, .unset, .unset, .unset, .unset, .unset, .unset] [] := by first | (simp [entryFrame, mkF, argsToLocals, Value.category]; done) | rfl
set_option maxRecDepth 65536 in
set_option maxHeartbeats 40000000 in
theorem ctWf0Z {l : Launch} {Z : State} {a0 : Array Value} (hw : HW a0 Z) {n0 : Nat} {h0 : Heap} (hn0 : n0 ≤ h0.size) (tk fe : Addr) (kf : ClassId) (le : UInt64) (Ff : Fld Z h0 tk "com/example/makespan/makespan/planning/TaskOnType" "fees" "[D" (.ref fe)) (Fz : Fld Z h0 tk "com/example/makespan/makespan/planning/TaskOnType" "feesAllZero" "Z" (.int (1 : Int32))) (Vf : Arv Z h0 fe kf .double (0 : Int32) [] (.double (0 : UInt64))) (hle : NoNaN64 le) :
    Ctr l Z (⟨"com/example/makespan/makespan/planning/TaskOnType", "withFees", "(D)D"⟩ : MethodName) prog_105_method_12_code 10 (some .double) ({ frames := 0, cells := 0, slots := 0, locals := 0 } : Room) n0 #[(.ref tk), (.double le)] h0 (fun v h => v = some (.double le) ∧ h = h0) := by
  refine Ctr.of (plainFor_of_name pn4) hn0 ?_
  intro p e s m below meth c T0 C hnm hret hlk X0
  rw [ef34 m tk le]
  refine OGo.dloadN (pc' := 1) C X0 d34_0 rfl rfl ?_
  refine OGo.dstoreN (pc' := 2) C X0 d34_1 rfl (l' := #[.val (.ref tk), .val (.double le), .second, .val (.double le), .second, .unset, .unset, .unset, .unset, .unset]) rfl ?_
  refine OGo.aloadN (pc' := 3) C X0 d34_2 rfl rfl rfl ?_
  refine OGo.getfield (pc' := 6) C X0 (host := "") (Or.inl (wd214 hw)) Via.refl Fz d34_3 rfl (fun T1 X1 => ?_)
  refine OGo.ifYes (pc' := 51) C X1 d34_6 (feq (by decide : ¬ (1 : Int32) = (0 : Int32))).2 (by decide) (by decide) ?_
  refine OGo.aloadN (pc' := 52) C X1 d34_51 rfl rfl rfl ?_
  refine OGo.getfield (pc' := 55) C X1 (host := "") (Or.inl (wd212 hw)) Via.refl Ff d34_52 rfl (fun T2 X2 => ?_)
  refine OGo.arraylength (pc' := 56) C X2 Vf d34_55 rfl ?_
  refine OGo.ifYes (pc' := 63) C X2 d34_56 (flt (by decide : ¬ (0 : Int32) < (0 : Int32))).2.2.2 (by decide) (by decide) ?_
  refine OGo.dloadN (pc' := 64) C X2 d34_63 rfl rfl ?_
  exact OGo.retD C X2 d34_64 hret hlk (⟨rfl, rfl⟩) (by decide) (by decide)
set_option maxRecDepth 65536 in
set_option maxHeartbeats 40000000 in
theorem ctWf1Z {l : Launch} {Z : State} {a0 : Array Value} (hw : HW a0 Z) {n0 : Nat} {h0 : Heap} (hn0 : n0 ≤ h0.size) (tk fe : Addr) (kf : ClassId) (fa : Int32) (le : UInt64) (Ff : Fld Z h0 tk "com/example/makespan/makespan/planning/TaskOnType" "fees" "[D" (.ref fe)) (Fz : Fld Z h0 tk "com/example/makespan/makespan/planning/TaskOnType" "feesAllZero" "Z" (.int (1 : Int32))) (Vf : Arv Z h0 fe kf .double (1 : Int32) [(.double (FP.i2d fa))] (.double (0 : UInt64))) (hle : NoNaN64 le) :
    Ctr l Z (⟨"com/example/makespan/makespan/planning/TaskOnType", "withFees", "(D)D"⟩ : MethodName) prog_105_method_12_code 10 (some .double) ({ frames := 0, cells := 0, slots := 0, locals := 0 } : Room) n0 #[(.ref tk), (.double le)] h0 (fun v h => v = some (.double (FP.dadd le (FP.dconst0))) ∧ h = h0) := by
  refine Ctr.of (plainFor_of_name pn4) hn0 ?_
  intro p e s m below meth c T0 C hnm hret hlk X0
  rw [ef34 m tk le]
  refine OGo.dloadN (pc' := 1) C X0 d34_0 rfl rfl ?_
  refine OGo.dstoreN (pc' := 2) C X0 d34_1 rfl (l' := #[.val (.ref tk), .val (.double le), .second, .val (.double le), .second, .unset, .unset, .unset, .unset, .unset]) rfl ?_
  refine OGo.aloadN (pc' := 3) C X0 d34_2 rfl rfl rfl ?_
  refine OGo.getfield (pc' := 6) C X0 (host := "") (Or.inl (wd214 hw)) Via.refl Fz d34_3 rfl (fun T1 X1 => ?_)
  refine OGo.ifYes (pc' := 51) C X1 d34_6 (feq (by decide : ¬ (1 : Int32) = (0 : Int32))).2 (by decide) (by decide) ?_
  refine OGo.aloadN (pc' := 52) C X1 d34_51 rfl rfl rfl ?_
  refine OGo.getfield (pc' := 55) C X1 (host := "") (Or.inl (wd212 hw)) Via.refl Ff d34_52 rfl (fun T2 X2 => ?_)
  refine OGo.arraylength (pc' := 56) C X2 Vf d34_55 rfl ?_
  refine OGo.ifNo (pc' := 59) C X2 d34_56 rfl (tlt (by decide : (0 : Int32) < (1 : Int32))).2.2.2 ?_
  refine OGo.dloadN (pc' := 60) C X2 d34_59 rfl rfl ?_
  refine OGo.dconst0 (pc' := 61) (v := (FP.dconst0)) C X2 d34_60 rfl rfl ?_
  refine OGo.dadd (pc' := 62) (v := (FP.dadd le (FP.dconst0))) C X2 d34_61 rfl (dadd_out hle own_f0) rfl ?_
  refine OGo.dstoreN (pc' := 63) C X2 d34_62 rfl (l' := #[.val (.ref tk), .val (.double le), .second, .val (.double (FP.dadd le (FP.dconst0))), .second, .unset, .unset, .unset, .unset, .unset]) rfl ?_
  refine OGo.dloadN (pc' := 64) C X2 d34_63 rfl rfl ?_
  exact OGo.retD C X2 d34_64 hret hlk (⟨rfl, rfl⟩) (by decide) (by decide)
set_option maxRecDepth 65536 in
set_option maxHeartbeats 40000000 in
theorem ctWf1S {l : Launch} {Z : State} {a0 : Array Value} (hw : HW a0 Z) {n0 : Nat} {h0 : Heap} (hn0 : n0 ≤ h0.size) (tk fe : Addr) (kf : ClassId) (fa : Int32) (le : UInt64) (Ff : Fld Z h0 tk "com/example/makespan/makespan/planning/TaskOnType" "fees" "[D" (.ref fe)) (Fz : Fld Z h0 tk "com/example/makespan/makespan/planning/TaskOnType" "feesAllZero" "Z" (.int (0 : Int32))) (Vf : Arv Z h0 fe kf .double (1 : Int32) [(.double (FP.i2d fa))] (.double (0 : UInt64))) (hle : NoNaN64 le) :
    Ctr l Z (⟨"com/example/makespan/makespan/planning/TaskOnType", "withFees", "(D)D"⟩ : MethodName) prog_105_method_12_code 10 (some .double) ({ frames := 0, cells := 0, slots := 0, locals := 0 } : Room) n0 #[(.ref tk), (.double le)] h0 (fun v h => v = some (.double (FP.dadd le (FP.i2d fa))) ∧ h = h0) := by
  refine Ctr.of (plainFor_of_name pn4) hn0 ?_
  intro p e s m below meth c T0 C hnm hret hlk X0
  rw [ef34 m tk le]
  refine OGo.dloadN (pc' := 1) C X0 d34_0 rfl rfl ?_
  refine OGo.dstoreN (pc' := 2) C X0 d34_1 rfl (l' := #[.val (.ref tk), .val (.double le), .second, .val (.double le), .second, .unset, .unset, .unset, .unset, .unset]) rfl ?_
  refine OGo.aloadN (pc' := 3) C X0 d34_2 rfl rfl rfl ?_
  refine OGo.getfield (pc' := 6) C X0 (host := "") (Or.inl (wd214 hw)) Via.refl Fz d34_3 rfl (fun T1 X1 => ?_)
  refine OGo.ifNo (pc' := 9) C X1 d34_6 rfl (teq (by decide : (0 : Int32) = (0 : Int32))).2 ?_
  refine OGo.aloadN (pc' := 10) C X1 d34_9 rfl rfl rfl ?_
  refine OGo.getfield (pc' := 13) C X1 (host := "") (Or.inl (wd212 hw)) Via.refl Ff d34_10 rfl (fun T2 X2 => ?_)
  refine OGo.astore (pc' := 15) C X2 d34_13 rfl rfl (l' := #[.val (.ref tk), .val (.double le), .second, .val (.double le), .second, .val (.ref fe), .unset, .unset, .unset, .unset]) rfl ?_
  refine OGo.aload (pc' := 17) C X2 d34_15 rfl rfl rfl ?_
  refine OGo.arraylength (pc' := 18) C X2 Vf d34_17 rfl ?_
  refine OGo.istore (pc' := 20) C X2 d34_18 rfl (l' := #[.val (.ref tk), .val (.double le), .second, .val (.double le), .second, .val (.ref fe), .val (.int (1 : Int32)), .unset, .unset, .unset]) rfl ?_
  refine OGo.iconst (pc' := 21) (z := (0 : Int32)) C X2 d34_20 rfl (by decide) ?_
  refine OGo.istore (pc' := 23) C X2 d34_21 rfl (l' := #[.val (.ref tk), .val (.double le), .second, .val (.double le), .second, .val (.ref fe), .val (.int (1 : Int32)), .val (.int (0 : Int32)), .unset, .unset]) rfl ?_
  refine OGo.iload (pc' := 25) C X2 d34_23 rfl rfl ?_
  refine OGo.iload (pc' := 27) C X2 d34_25 rfl rfl ?_
  refine OGo.icmpNo (pc' := 30) C X2 d34_27 rfl (tlt (by decide : (0 : Int32) < (1 : Int32))).2.1 ?_
  refine OGo.aload (pc' := 32) C X2 d34_30 rfl rfl rfl ?_
  refine OGo.iload (pc' := 34) C X2 d34_32 rfl rfl ?_
  refine OGo.daload (pc' := 35) C X2 Vf d34_34 rfl ⟨by decide, by decide⟩ (v := (FP.i2d fa)) rfl ?_
  refine OGo.dstore (pc' := 37) C X2 d34_35 rfl (l' := #[.val (.ref tk), .val (.double le), .second, .val (.double le), .second, .val (.ref fe), .val (.int (1 : Int32)), .val (.int (0 : Int32)), .val (.double (FP.i2d fa)), .second]) rfl ?_
  refine OGo.dloadN (pc' := 38) C X2 d34_37 rfl rfl ?_
  refine OGo.dload (pc' := 40) C X2 d34_38 rfl rfl ?_
  refine OGo.dadd (pc' := 41) (v := (FP.dadd le (FP.i2d fa))) C X2 d34_40 rfl (dadd_out hle (i2d_fin _)) rfl ?_
  refine OGo.dstoreN (pc' := 42) C X2 d34_41 rfl (l' := #[.val (.ref tk), .val (.double le), .second, .val (.double (FP.dadd le (FP.i2d fa))), .second, .val (.ref fe), .val (.int (1 : Int32)), .val (.int (0 : Int32)), .val (.double (FP.i2d fa)), .second]) rfl ?_
  refine OGo.iinc (pc' := 45) C X2 d34_42 rfl rfl (z := (1 : Int32)) (by decide) (l' := #[.val (.ref tk), .val (.double le), .second, .val (.double (FP.dadd le (FP.i2d fa))), .second, .val (.ref fe), .val (.int (1 : Int32)), .val (.int (1 : Int32)), .val (.double (FP.i2d fa)), .second]) rfl ?_
  refine OGo.goto (pc' := 23) C X2 d34_45 (by decide) (by decide) ?_
  refine OGo.iload (pc' := 25) C X2 d34_23 rfl rfl ?_
  refine OGo.iload (pc' := 27) C X2 d34_25 rfl rfl ?_
  refine OGo.icmpYes (pc' := 48) C X2 d34_27 (flt (by decide : ¬ (1 : Int32) < (1 : Int32))).2.1 (by decide) (by decide) ?_
  refine OGo.goto (pc' := 63) C X2 d34_48 (by decide) (by decide) ?_
  refine OGo.dloadN (pc' := 64) C X2 d34_63 rfl rfl ?_
  exact OGo.retD C X2 d34_64 hret hlk (⟨rfl, rfl⟩) (by decide) (by decide)
set_option maxRecDepth 65536 in
set_option maxHeartbeats 40000000 in
theorem ctWf2Z {l : Launch} {Z : State} {a0 : Array Value} (hw : HW a0 Z) {n0 : Nat} {h0 : Heap} (hn0 : n0 ≤ h0.size) (tk fe : Addr) (kf : ClassId) (fa fb : Int32) (le : UInt64) (Ff : Fld Z h0 tk "com/example/makespan/makespan/planning/TaskOnType" "fees" "[D" (.ref fe)) (Fz : Fld Z h0 tk "com/example/makespan/makespan/planning/TaskOnType" "feesAllZero" "Z" (.int (1 : Int32))) (Vf : Arv Z h0 fe kf .double (2 : Int32) [(.double (FP.i2d fa)), (.double (FP.i2d fb))] (.double (0 : UInt64))) (hle : NoNaN64 le) :
    Ctr l Z (⟨"com/example/makespan/makespan/planning/TaskOnType", "withFees", "(D)D"⟩ : MethodName) prog_105_method_12_code 10 (some .double) ({ frames := 0, cells := 0, slots := 0, locals := 0 } : Room) n0 #[(.ref tk), (.double le)] h0 (fun v h => v = some (.double (FP.dadd le (FP.dconst0))) ∧ h = h0) := by
  refine Ctr.of (plainFor_of_name pn4) hn0 ?_
  intro p e s m below meth c T0 C hnm hret hlk X0
  rw [ef34 m tk le]
  refine OGo.dloadN (pc' := 1) C X0 d34_0 rfl rfl ?_
  refine OGo.dstoreN (pc' := 2) C X0 d34_1 rfl (l' := #[.val (.ref tk), .val (.double le), .second, .val (.double le), .second, .unset, .unset, .unset, .unset, .unset]) rfl ?_
  refine OGo.aloadN (pc' := 3) C X0 d34_2 rfl rfl rfl ?_
  refine OGo.getfield (pc' := 6) C X0 (host := "") (Or.inl (wd214 hw)) Via.refl Fz d34_3 rfl (fun T1 X1 => ?_)
  refine OGo.ifYes (pc' := 51) C X1 d34_6 (feq (by decide : ¬ (1 : Int32) = (0 : Int32))).2 (by decide) (by decide) ?_
  refine OGo.aloadN (pc' := 52) C X1 d34_51 rfl rfl rfl ?_
  refine OGo.getfield (pc' := 55) C X1 (host := "") (Or.inl (wd212 hw)) Via.refl Ff d34_52 rfl (fun T2 X2 => ?_)
  refine OGo.arraylength (pc' := 56) C X2 Vf d34_55 rfl ?_
  refine OGo.ifNo (pc' := 59) C X2 d34_56 rfl (tlt (by decide : (0 : Int32) < (2 : Int32))).2.2.2 ?_
  refine OGo.dloadN (pc' := 60) C X2 d34_59 rfl rfl ?_
  refine OGo.dconst0 (pc' := 61) (v := (FP.dconst0)) C X2 d34_60 rfl rfl ?_
  refine OGo.dadd (pc' := 62) (v := (FP.dadd le (FP.dconst0))) C X2 d34_61 rfl (dadd_out hle own_f0) rfl ?_
  refine OGo.dstoreN (pc' := 63) C X2 d34_62 rfl (l' := #[.val (.ref tk), .val (.double le), .second, .val (.double (FP.dadd le (FP.dconst0))), .second, .unset, .unset, .unset, .unset, .unset]) rfl ?_
  refine OGo.dloadN (pc' := 64) C X2 d34_63 rfl rfl ?_
  exact OGo.retD C X2 d34_64 hret hlk (⟨rfl, rfl⟩) (by decide) (by decide)
set_option maxRecDepth 65536 in
set_option maxHeartbeats 40000000 in
theorem ctWf2S {l : Launch} {Z : State} {a0 : Array Value} (hw : HW a0 Z) {n0 : Nat} {h0 : Heap} (hn0 : n0 ≤ h0.size) (tk fe : Addr) (kf : ClassId) (fa fb : Int32) (le : UInt64) (Ff : Fld Z h0 tk "com/example/makespan/makespan/planning/TaskOnType" "fees" "[D" (.ref fe)) (Fz : Fld Z h0 tk "com/example/makespan/makespan/planning/TaskOnType" "feesAllZero" "Z" (.int (0 : Int32))) (Vf : Arv Z h0 fe kf .double (2 : Int32) [(.double (FP.i2d fa)), (.double (FP.i2d fb))] (.double (0 : UInt64))) (hle : NoNaN64 le) :
    Ctr l Z (⟨"com/example/makespan/makespan/planning/TaskOnType", "withFees", "(D)D"⟩ : MethodName) prog_105_method_12_code 10 (some .double) ({ frames := 0, cells := 0, slots := 0, locals := 0 } : Room) n0 #[(.ref tk), (.double le)] h0 (fun v h => v = some (.double (FP.dadd (FP.dadd le (FP.i2d fa)) (FP.i2d fb))) ∧ h = h0) := by
  refine Ctr.of (plainFor_of_name pn4) hn0 ?_
  intro p e s m below meth c T0 C hnm hret hlk X0
  rw [ef34 m tk le]
  refine OGo.dloadN (pc' := 1) C X0 d34_0 rfl rfl ?_
  refine OGo.dstoreN (pc' := 2) C X0 d34_1 rfl (l' := #[.val (.ref tk), .val (.double le), .second, .val (.double le), .second, .unset, .unset, .unset, .unset, .unset]) rfl ?_
  refine OGo.aloadN (pc' := 3) C X0 d34_2 rfl rfl rfl ?_
  refine OGo.getfield (pc' := 6) C X0 (host := "") (Or.inl (wd214 hw)) Via.refl Fz d34_3 rfl (fun T1 X1 => ?_)
  refine OGo.ifNo (pc' := 9) C X1 d34_6 rfl (teq (by decide : (0 : Int32) = (0 : Int32))).2 ?_
  refine OGo.aloadN (pc' := 10) C X1 d34_9 rfl rfl rfl ?_
  refine OGo.getfield (pc' := 13) C X1 (host := "") (Or.inl (wd212 hw)) Via.refl Ff d34_10 rfl (fun T2 X2 => ?_)
  refine OGo.astore (pc' := 15) C X2 d34_13 rfl rfl (l' := #[.val (.ref tk), .val (.double le), .second, .val (.double le), .second, .val (.ref fe), .unset, .unset, .unset, .unset]) rfl ?_
  refine OGo.aload (pc' := 17) C X2 d34_15 rfl rfl rfl ?_
  refine OGo.arraylength (pc' := 18) C X2 Vf d34_17 rfl ?_
  refine OGo.istore (pc' := 20) C X2 d34_18 rfl (l' := #[.val (.ref tk), .val (.double le), .second, .val (.double le), .second, .val (.ref fe), .val (.int (2 : Int32)), .unset, .unset, .unset]) rfl ?_
  refine OGo.iconst (pc' := 21) (z := (0 : Int32)) C X2 d34_20 rfl (by decide) ?_
  refine OGo.istore (pc' := 23) C X2 d34_21 rfl (l' := #[.val (.ref tk), .val (.double le), .second, .val (.double le), .second, .val (.ref fe), .val (.int (2 : Int32)), .val (.int (0 : Int32)), .unset, .unset]) rfl ?_
  refine OGo.iload (pc' := 25) C X2 d34_23 rfl rfl ?_
  refine OGo.iload (pc' := 27) C X2 d34_25 rfl rfl ?_
  refine OGo.icmpNo (pc' := 30) C X2 d34_27 rfl (tlt (by decide : (0 : Int32) < (2 : Int32))).2.1 ?_
  refine OGo.aload (pc' := 32) C X2 d34_30 rfl rfl rfl ?_
  refine OGo.iload (pc' := 34) C X2 d34_32 rfl rfl ?_
  refine OGo.daload (pc' := 35) C X2 Vf d34_34 rfl ⟨by decide, by decide⟩ (v := (FP.i2d fa)) rfl ?_
  refine OGo.dstore (pc' := 37) C X2 d34_35 rfl (l' := #[.val (.ref tk), .val (.double le), .second, .val (.double le), .second, .val (.ref fe), .val (.int (2 : Int32)), .val (.int (0 : Int32)), .val (.double (FP.i2d fa)), .second]) rfl ?_
  refine OGo.dloadN (pc' := 38) C X2 d34_37 rfl rfl ?_
  refine OGo.dload (pc' := 40) C X2 d34_38 rfl rfl ?_
  refine OGo.dadd (pc' := 41) (v := (FP.dadd le (FP.i2d fa))) C X2 d34_40 rfl (dadd_out hle (i2d_fin _)) rfl ?_
  refine OGo.dstoreN (pc' := 42) C X2 d34_41 rfl (l' := #[.val (.ref tk), .val (.double le), .second, .val (.double (FP.dadd le (FP.i2d fa))), .second, .val (.ref fe), .val (.int (2 : Int32)), .val (.int (0 : Int32)), .val (.double (FP.i2d fa)), .second]) rfl ?_
  refine OGo.iinc (pc' := 45) C X2 d34_42 rfl rfl (z := (1 : Int32)) (by decide) (l' := #[.val (.ref tk), .val (.double le), .second, .val (.double (FP.dadd le (FP.i2d fa))), .second, .val (.ref fe), .val (.int (2 : Int32)), .val (.int (1 : Int32)), .val (.double (FP.i2d fa)), .second]) rfl ?_
  refine OGo.goto (pc' := 23) C X2 d34_45 (by decide) (by decide) ?_
  refine OGo.iload (pc' := 25) C X2 d34_23 rfl rfl ?_
  refine OGo.iload (pc' := 27) C X2 d34_25 rfl rfl ?_
  refine OGo.icmpNo (pc' := 30) C X2 d34_27 rfl (tlt (by decide : (1 : Int32) < (2 : Int32))).2.1 ?_
  refine OGo.aload (pc' := 32) C X2 d34_30 rfl rfl rfl ?_
  refine OGo.iload (pc' := 34) C X2 d34_32 rfl rfl ?_
  refine OGo.daload (pc' := 35) C X2 Vf d34_34 rfl ⟨by decide, by decide⟩ (v := (FP.i2d fb)) rfl ?_
  refine OGo.dstore (pc' := 37) C X2 d34_35 rfl (l' := #[.val (.ref tk), .val (.double le), .second, .val (.double (FP.dadd le (FP.i2d fa))), .second, .val (.ref fe), .val (.int (2 : Int32)), .val (.int (1 : Int32)), .val (.double (FP.i2d fb)), .second]) rfl ?_
  refine OGo.dloadN (pc' := 38) C X2 d34_37 rfl rfl ?_
  refine OGo.dload (pc' := 40) C X2 d34_38 rfl rfl ?_
  refine OGo.dadd (pc' := 41) (v := (FP.dadd (FP.dadd le (FP.i2d fa)) (FP.i2d fb))) C X2 d34_40 rfl (dadd_out (dadd_out hle (i2d_fin _)) (i2d_fin _)) rfl ?_
  refine OGo.dstoreN (pc' := 42) C X2 d34_41 rfl (l' := #[.val (.ref tk), .val (.double le), .second, .val (.double (FP.dadd (FP.dadd le (FP.i2d fa)) (FP.i2d fb))), .second, .val (.ref fe), .val (.int (2 : Int32)), .val (.int (1 : Int32)), .val (.double (FP.i2d fb)), .second]) rfl ?_
  refine OGo.iinc (pc' := 45) C X2 d34_42 rfl rfl (z := (2 : Int32)) (by decide) (l' := #[.val (.ref tk), .val (.double le), .second, .val (.double (FP.dadd (FP.dadd le (FP.i2d fa)) (FP.i2d fb))), .second, .val (.ref fe), .val (.int (2 : Int32)), .val (.int (2 : Int32)), .val (.double (FP.i2d fb)), .second]) rfl ?_
  refine OGo.goto (pc' := 23) C X2 d34_45 (by decide) (by decide) ?_
  refine OGo.iload (pc' := 25) C X2 d34_23 rfl rfl ?_
  refine OGo.iload (pc' := 27) C X2 d34_25 rfl rfl ?_
  refine OGo.icmpYes (pc' := 48) C X2 d34_27 (flt (by decide : ¬ (2 : Int32) < (2 : Int32))).2.1 (by decide) (by decide) ?_
  refine OGo.goto (pc' := 63) C X2 d34_48 (by decide) (by decide) ?_
  refine OGo.dloadN (pc' := 64) C X2 d34_63 rfl rfl ?_
  exact OGo.retD C X2 d34_64 hret hlk (⟨rfl, rfl⟩) (by decide) (by decide)
set_option maxRecDepth 65536 in
set_option maxHeartbeats 40000000 in
theorem ctWf3Z {l : Launch} {Z : State} {a0 : Array Value} (hw : HW a0 Z) {n0 : Nat} {h0 : Heap} (hn0 : n0 ≤ h0.size) (tk fe : Addr) (kf : ClassId) (fa fb fc : Int32) (le : UInt64) (Ff : Fld Z h0 tk "com/example/makespan/makespan/planning/TaskOnType" "fees" "[D" (.ref fe)) (Fz : Fld Z h0 tk "com/example/makespan/makespan/planning/TaskOnType" "feesAllZero" "Z" (.int (1 : Int32))) (Vf : Arv Z h0 fe kf .double (3 : Int32) [(.double (FP.i2d fa)), (.double (FP.i2d fb)), (.double (FP.i2d fc))] (.double (0 : UInt64))) (hle : NoNaN64 le) :
    Ctr l Z (⟨"com/example/makespan/makespan/planning/TaskOnType", "withFees", "(D)D"⟩ : MethodName) prog_105_method_12_code 10 (some .double) ({ frames := 0, cells := 0, slots := 0, locals := 0 } : Room) n0 #[(.ref tk), (.double le)] h0 (fun v h => v = some (.double (FP.dadd le (FP.dconst0))) ∧ h = h0) := by
  refine Ctr.of (plainFor_of_name pn4) hn0 ?_
  intro p e s m below meth c T0 C hnm hret hlk X0
  rw [ef34 m tk le]
  refine OGo.dloadN (pc' := 1) C X0 d34_0 rfl rfl ?_
  refine OGo.dstoreN (pc' := 2) C X0 d34_1 rfl (l' := #[.val (.ref tk), .val (.double le), .second, .val (.double le), .second, .unset, .unset, .unset, .unset, .unset]) rfl ?_
  refine OGo.aloadN (pc' := 3) C X0 d34_2 rfl rfl rfl ?_
  refine OGo.getfield (pc' := 6) C X0 (host := "") (Or.inl (wd214 hw)) Via.refl Fz d34_3 rfl (fun T1 X1 => ?_)
  refine OGo.ifYes (pc' := 51) C X1 d34_6 (feq (by decide : ¬ (1 : Int32) = (0 : Int32))).2 (by decide) (by decide) ?_
  refine OGo.aloadN (pc' := 52) C X1 d34_51 rfl rfl rfl ?_
  refine OGo.getfield (pc' := 55) C X1 (host := "") (Or.inl (wd212 hw)) Via.refl Ff d34_52 rfl (fun T2 X2 => ?_)
  refine OGo.arraylength (pc' := 56) C X2 Vf d34_55 rfl ?_
  refine OGo.ifNo (pc' := 59) C X2 d34_56 rfl (tlt (by decide : (0 : Int32) < (3 : Int32))).2.2.2 ?_
  refine OGo.dloadN (pc' := 60) C X2 d34_59 rfl rfl ?_
  refine OGo.dconst0 (pc' := 61) (v := (FP.dconst0)) C X2 d34_60 rfl rfl ?_
  refine OGo.dadd (pc' := 62) (v := (FP.dadd le (FP.dconst0))) C X2 d34_61 rfl (dadd_out hle own_f0) rfl ?_
  refine OGo.dstoreN (pc' := 63) C X2 d34_62 rfl (l' := #[.val (.ref tk), .val (.double le), .second, .val (.double (FP.dadd le (FP.dconst0))), .second, .unset, .unset, .unset, .unset, .unset]) rfl ?_
  refine OGo.dloadN (pc' := 64) C X2 d34_63 rfl rfl ?_
  exact OGo.retD C X2 d34_64 hret hlk (⟨rfl, rfl⟩) (by decide) (by decide)
set_option maxRecDepth 65536 in
set_option maxHeartbeats 40000000 in
theorem ctWf3S {l : Launch} {Z : State} {a0 : Array Value} (hw : HW a0 Z) {n0 : Nat} {h0 : Heap} (hn0 : n0 ≤ h0.size) (tk fe : Addr) (kf : ClassId) (fa fb fc : Int32) (le : UInt64) (Ff : Fld Z h0 tk "com/example/makespan/makespan/planning/TaskOnType" "fees" "[D" (.ref fe)) (Fz : Fld Z h0 tk "com/example/makespan/makespan/planning/TaskOnType" "feesAllZero" "Z" (.int (0 : Int32))) (Vf : Arv Z h0 fe kf .double (3 : Int32) [(.double (FP.i2d fa)), (.double (FP.i2d fb)), (.double (FP.i2d fc))] (.double (0 : UInt64))) (hle : NoNaN64 le) :
    Ctr l Z (⟨"com/example/makespan/makespan/planning/TaskOnType", "withFees", "(D)D"⟩ : MethodName) prog_105_method_12_code 10 (some .double) ({ frames := 0, cells := 0, slots := 0, locals := 0 } : Room) n0 #[(.ref tk), (.double le)] h0 (fun v h => v = some (.double (FP.dadd (FP.dadd (FP.dadd le (FP.i2d fa)) (FP.i2d fb)) (FP.i2d fc))) ∧ h = h0) := by
  refine Ctr.of (plainFor_of_name pn4) hn0 ?_
  intro p e s m below meth c T0 C hnm hret hlk X0
  rw [ef34 m tk le]
  refine OGo.dloadN (pc' := 1) C X0 d34_0 rfl rfl ?_
  refine OGo.dstoreN (pc' := 2) C X0 d34_1 rfl (l' := #[.val (.ref tk), .val (.double le), .second, .val (.double le), .second, .unset, .unset, .unset, .unset, .unset]) rfl ?_
  refine OGo.aloadN (pc' := 3) C X0 d34_2 rfl rfl rfl ?_
  refine OGo.getfield (pc' := 6) C X0 (host := "") (Or.inl (wd214 hw)) Via.refl Fz d34_3 rfl (fun T1 X1 => ?_)
  refine OGo.ifNo (pc' := 9) C X1 d34_6 rfl (teq (by decide : (0 : Int32) = (0 : Int32))).2 ?_
  refine OGo.aloadN (pc' := 10) C X1 d34_9 rfl rfl rfl ?_
  refine OGo.getfield (pc' := 13) C X1 (host := "") (Or.inl (wd212 hw)) Via.refl Ff d34_10 rfl (fun T2 X2 => ?_)
  refine OGo.astore (pc' := 15) C X2 d34_13 rfl rfl (l' := #[.val (.ref tk), .val (.double le), .second, .val (.double le), .second, .val (.ref fe), .unset, .unset, .unset, .unset]) rfl ?_
  refine OGo.aload (pc' := 17) C X2 d34_15 rfl rfl rfl ?_
  refine OGo.arraylength (pc' := 18) C X2 Vf d34_17 rfl ?_
  refine OGo.istore (pc' := 20) C X2 d34_18 rfl (l' := #[.val (.ref tk), .val (.double le), .second, .val (.double le), .second, .val (.ref fe), .val (.int (3 : Int32)), .unset, .unset, .unset]) rfl ?_
  refine OGo.iconst (pc' := 21) (z := (0 : Int32)) C X2 d34_20 rfl (by decide) ?_
  refine OGo.istore (pc' := 23) C X2 d34_21 rfl (l' := #[.val (.ref tk), .val (.double le), .second, .val (.double le), .second, .val (.ref fe), .val (.int (3 : Int32)), .val (.int (0 : Int32)), .unset, .unset]) rfl ?_
  refine OGo.iload (pc' := 25) C X2 d34_23 rfl rfl ?_
  refine OGo.iload (pc' := 27) C X2 d34_25 rfl rfl ?_
  refine OGo.icmpNo (pc' := 30) C X2 d34_27 rfl (tlt (by decide : (0 : Int32) < (3 : Int32))).2.1 ?_
  refine OGo.aload (pc' := 32) C X2 d34_30 rfl rfl rfl ?_
  refine OGo.iload (pc' := 34) C X2 d34_32 rfl rfl ?_
  refine OGo.daload (pc' := 35) C X2 Vf d34_34 rfl ⟨by decide, by decide⟩ (v := (FP.i2d fa)) rfl ?_
  refine OGo.dstore (pc' := 37) C X2 d34_35 rfl (l' := #[.val (.ref tk), .val (.double le), .second, .val (.double le), .second, .val (.ref fe), .val (.int (3 : Int32)), .val (.int (0 : Int32)), .val (.double (FP.i2d fa)), .second]) rfl ?_
  refine OGo.dloadN (pc' := 38) C X2 d34_37 rfl rfl ?_
  refine OGo.dload (pc' := 40) C X2 d34_38 rfl rfl ?_
  refine OGo.dadd (pc' := 41) (v := (FP.dadd le (FP.i2d fa))) C X2 d34_40 rfl (dadd_out hle (i2d_fin _)) rfl ?_
  refine OGo.dstoreN (pc' := 42) C X2 d34_41 rfl (l' := #[.val (.ref tk), .val (.double le), .second, .val (.double (FP.dadd le (FP.i2d fa))), .second, .val (.ref fe), .val (.int (3 : Int32)), .val (.int (0 : Int32)), .val (.double (FP.i2d fa)), .second]) rfl ?_
  refine OGo.iinc (pc' := 45) C X2 d34_42 rfl rfl (z := (1 : Int32)) (by decide) (l' := #[.val (.ref tk), .val (.double le), .second, .val (.double (FP.dadd le (FP.i2d fa))), .second, .val (.ref fe), .val (.int (3 : Int32)), .val (.int (1 : Int32)), .val (.double (FP.i2d fa)), .second]) rfl ?_
  refine OGo.goto (pc' := 23) C X2 d34_45 (by decide) (by decide) ?_
  refine OGo.iload (pc' := 25) C X2 d34_23 rfl rfl ?_
  refine OGo.iload (pc' := 27) C X2 d34_25 rfl rfl ?_
  refine OGo.icmpNo (pc' := 30) C X2 d34_27 rfl (tlt (by decide : (1 : Int32) < (3 : Int32))).2.1 ?_
  refine OGo.aload (pc' := 32) C X2 d34_30 rfl rfl rfl ?_
  refine OGo.iload (pc' := 34) C X2 d34_32 rfl rfl ?_
  refine OGo.daload (pc' := 35) C X2 Vf d34_34 rfl ⟨by decide, by decide⟩ (v := (FP.i2d fb)) rfl ?_
  refine OGo.dstore (pc' := 37) C X2 d34_35 rfl (l' := #[.val (.ref tk), .val (.double le), .second, .val (.double (FP.dadd le (FP.i2d fa))), .second, .val (.ref fe), .val (.int (3 : Int32)), .val (.int (1 : Int32)), .val (.double (FP.i2d fb)), .second]) rfl ?_
  refine OGo.dloadN (pc' := 38) C X2 d34_37 rfl rfl ?_
  refine OGo.dload (pc' := 40) C X2 d34_38 rfl rfl ?_
  refine OGo.dadd (pc' := 41) (v := (FP.dadd (FP.dadd le (FP.i2d fa)) (FP.i2d fb))) C X2 d34_40 rfl (dadd_out (dadd_out hle (i2d_fin _)) (i2d_fin _)) rfl ?_
  refine OGo.dstoreN (pc' := 42) C X2 d34_41 rfl (l' := #[.val (.ref tk), .val (.double le), .second, .val (.double (FP.dadd (FP.dadd le (FP.i2d fa)) (FP.i2d fb))), .second, .val (.ref fe), .val (.int (3 : Int32)), .val (.int (1 : Int32)), .val (.double (FP.i2d fb)), .second]) rfl ?_
  refine OGo.iinc (pc' := 45) C X2 d34_42 rfl rfl (z := (2 : Int32)) (by decide) (l' := #[.val (.ref tk), .val (.double le), .second, .val (.double (FP.dadd (FP.dadd le (FP.i2d fa)) (FP.i2d fb))), .second, .val (.ref fe), .val (.int (3 : Int32)), .val (.int (2 : Int32)), .val (.double (FP.i2d fb)), .second]) rfl ?_
  refine OGo.goto (pc' := 23) C X2 d34_45 (by decide) (by decide) ?_
  refine OGo.iload (pc' := 25) C X2 d34_23 rfl rfl ?_
  refine OGo.iload (pc' := 27) C X2 d34_25 rfl rfl ?_
  refine OGo.icmpNo (pc' := 30) C X2 d34_27 rfl (tlt (by decide : (2 : Int32) < (3 : Int32))).2.1 ?_
  refine OGo.aload (pc' := 32) C X2 d34_30 rfl rfl rfl ?_
  refine OGo.iload (pc' := 34) C X2 d34_32 rfl rfl ?_
  refine OGo.daload (pc' := 35) C X2 Vf d34_34 rfl ⟨by decide, by decide⟩ (v := (FP.i2d fc)) rfl ?_
  refine OGo.dstore (pc' := 37) C X2 d34_35 rfl (l' := #[.val (.ref tk), .val (.double le), .second, .val (.double (FP.dadd (FP.dadd le (FP.i2d fa)) (FP.i2d fb))), .second, .val (.ref fe), .val (.int (3 : Int32)), .val (.int (2 : Int32)), .val (.double (FP.i2d fc)), .second]) rfl ?_
  refine OGo.dloadN (pc' := 38) C X2 d34_37 rfl rfl ?_
  refine OGo.dload (pc' := 40) C X2 d34_38 rfl rfl ?_
  refine OGo.dadd (pc' := 41) (v := (FP.dadd (FP.dadd (FP.dadd le (FP.i2d fa)) (FP.i2d fb)) (FP.i2d fc))) C X2 d34_40 rfl (dadd_out (dadd_out (dadd_out hle (i2d_fin _)) (i2d_fin _)) (i2d_fin _)) rfl ?_
  refine OGo.dstoreN (pc' := 42) C X2 d34_41 rfl (l' := #[.val (.ref tk), .val (.double le), .second, .val (.double (FP.dadd (FP.dadd (FP.dadd le (FP.i2d fa)) (FP.i2d fb)) (FP.i2d fc))), .second, .val (.ref fe), .val (.int (3 : Int32)), .val (.int (2 : Int32)), .val (.double (FP.i2d fc)), .second]) rfl ?_
  refine OGo.iinc (pc' := 45) C X2 d34_42 rfl rfl (z := (3 : Int32)) (by decide) (l' := #[.val (.ref tk), .val (.double le), .second, .val (.double (FP.dadd (FP.dadd (FP.dadd le (FP.i2d fa)) (FP.i2d fb)) (FP.i2d fc))), .second, .val (.ref fe), .val (.int (3 : Int32)), .val (.int (3 : Int32)), .val (.double (FP.i2d fc)), .second]) rfl ?_
  refine OGo.goto (pc' := 23) C X2 d34_45 (by decide) (by decide) ?_
  refine OGo.iload (pc' := 25) C X2 d34_23 rfl rfl ?_
  refine OGo.iload (pc' := 27) C X2 d34_25 rfl rfl ?_
  refine OGo.icmpYes (pc' := 48) C X2 d34_27 (flt (by decide : ¬ (3 : Int32) < (3 : Int32))).2.1 (by decide) (by decide) ?_
  refine OGo.goto (pc' := 63) C X2 d34_48 (by decide) (by decide) ?_
  refine OGo.dloadN (pc' := 64) C X2 d34_63 rfl rfl ?_
  exact OGo.retD C X2 d34_64 hret hlk (⟨rfl, rfl⟩) (by decide) (by decide)
theorem ef35 (m : MethodId) (x0 : UInt64) (x1 : UInt64) : entryFrame m #[(.double x0), (.double x1)] 4 = mkF m 0 #[.val (.double x0), .second, .val (.double x1), .second] [] := by first | (simp [entryFrame, mkF, argsToLocals, Value.category]; done) | rfl
set_option maxRecDepth 65536 in
set_option maxHeartbeats 40000000 in
theorem ctSame {l : Launch} {Z : State} {a0 : Array Value} (hw : HW a0 Z) {n0 : Nat} {h0 : Heap} (hn0 : n0 ≤ h0.size) (x : UInt64) (hx : NoNaN64 x) :
    Ctr l Z (⟨"com/example/makespan/makespan/planning/TaskOnTypeWithFeesPinLaw", "sameDouble", "(DD)Z"⟩ : MethodName) method_3_code 4 (some .boolean) ({ frames := 0, cells := 0, slots := 0, locals := 0 } : Room) n0 #[(.double x), (.double x)] h0 (fun v h => v = some (.int (1 : Int32)) ∧ h = h0) := by
  refine Ctr.of (plainFor_of_name pn5) hn0 ?_
  intro p e s m below meth c T0 C hnm hret hlk X0
  rw [ef35 m x x]
  refine OGo.dloadN (pc' := 1) C X0 d35_0 rfl rfl ?_
  refine OGo.dloadN (pc' := 2) C X0 d35_1 rfl rfl ?_
  refine OGo.dcmp (pc' := 3) (v := (0 : Int32)) C X0 d35_2 rfl (dcmpV_self hx _) ?_
  refine OGo.ifYes (pc' := 8) C X0 d35_3 (teq (by decide : (0 : Int32) = (0 : Int32))).1 (by decide) (by decide) ?_
  refine OGo.dloadN (pc' := 9) C X0 d35_8 rfl rfl ?_
  refine OGo.dconst0 (pc' := 10) (v := (FP.dconst0)) C X0 d35_9 rfl rfl ?_
  obtain ⟨cq, h_cq⟩ : ∃ z : Int32, cmpValue (FP.dcmp x (FP.dconst0)) .l = z := ⟨_, rfl⟩
  refine OGo.dcmp (pc' := 11) (v := cq) C X0 d35_10 rfl h_cq ?_
  by_cases hc1 : cq = (0 : Int32)
  · refine OGo.ifYes (pc' := 16) C X0 d35_11 (teq hc1).1 (by decide) (by decide) ?_
    refine OGo.dconst1 (pc' := 17) (v := (FP.dconst1)) C X0 d35_16 rfl rfl ?_
    refine OGo.dloadN (pc' := 18) C X0 d35_17 rfl rfl ?_
    refine OGo.ddiv (pc' := 19) (v := (FP.ddiv (FP.dconst1) x)) C X0 d35_18 rfl (own_dv1 hx) rfl ?_
    refine OGo.dconst1 (pc' := 20) (v := (FP.dconst1)) C X0 d35_19 rfl rfl ?_
    refine OGo.dloadN (pc' := 21) C X0 d35_20 rfl rfl ?_
    refine OGo.ddiv (pc' := 22) (v := (FP.ddiv (FP.dconst1) x)) C X0 d35_21 rfl (own_dv1 hx) rfl ?_
    refine OGo.dcmp (pc' := 23) (v := (0 : Int32)) C X0 d35_22 rfl (dcmpV_self (own_dv1 hx) _) ?_
    refine OGo.ifNo (pc' := 26) C X0 d35_23 rfl (teq (by decide : (0 : Int32) = (0 : Int32))).2 ?_
    refine OGo.iconst (pc' := 27) (z := (1 : Int32)) C X0 d35_26 rfl (by decide) ?_
    refine OGo.goto (pc' := 31) C X0 d35_27 (by decide) (by decide) ?_
    exact OGo.retN C X0 d35_31 hret (by simp) (z' := (1 : Int32)) (by decide) hlk (⟨rfl, rfl⟩) (by decide) (by decide)
  · refine OGo.ifNo (pc' := 14) C X0 d35_11 rfl (feq hc1).1 ?_
    refine OGo.iconst (pc' := 15) (z := (1 : Int32)) C X0 d35_14 rfl (by decide) ?_
    exact OGo.retN C X0 d35_15 hret (by simp) (z' := (1 : Int32)) (by decide) hlk (⟨rfl, rfl⟩) (by decide) (by decide)
theorem ef0 (m : MethodId) (x0 : Int64) (x1 : Int32) (x2 : Int32) (x3 : Int32) (x4 : Int32) : entryFrame m #[(.long x0), (.int x1), (.int x2), (.int x3), (.int x4)] maxLocals = mkF m 0 #[.val (.long x0), .second, .val (.int x1), .val (.int x2), .val (.int x3), .val (.int x4), .unset, .unset, .unset, .unset, .unset, .unset, .unset, .unset, .unset, .unset, .unset, .unset, .unset, .unset, .unset, .unset] [] := by first | (simp [entryFrame, mkF, argsToLocals, Value.category, maxLocals]; done) | rfl
set_option maxRecDepth 65536 in
set_option maxHeartbeats 40000000 in
theorem ct0 {l : Launch} {Z : State} {a0 : Array Value} (hw : HW a0 Z) {n0 : Nat} {h0 : Heap} (hn0 : n0 ≤ h0.size) (i0 : Int64) (i1 : Int32) (i2 : Int32) (i3 : Int32) (i4 : Int32) (bl : Addr) (cz : Int32) (OD : Old Z n0 h0) (Sl : Sta Z Z.heap "com/example/makespan/makespan/model/Billing" "LEASE" "Lcom/example/makespan/makespan/model/Billing;" (.ref bl)) (S2 : Sta Z Z.heap "java/lang/String" "COMPACT_STRINGS" "Z" (.int cz)) (hcz : ¬ cz = 0) :
    CtrW l Z consts_1 [] x code maxLocals ret room_1 n0 #[(.long i0), (.int i1), (.int i2), (.int i3), (.int i4)] h0 (fun v h sfe => v = some (.int 1)) := by
  refine CtrW.of (plainFor_of_name pn5) hn0 ?_
  intro p e s m below meth c T0 C hnm hret hlk X0 H0 hSf
  rw [ef0 m i0 i1 i2 i3 i4]
  refine OGo.iloadN (pc' := 1) C X0 at_0 rfl rfl ?_
  refine OGo.iconst (pc' := 2) (z := (3 : Int32)) C X0 at_1 rfl (by decide) ?_
  obtain ⟨ln, h_ln⟩ : ∃ z : Int32, i1 &&& (3 : Int32) = z := ⟨_, rfl⟩
  refine OGo.iand (pc' := 3) (z := ln) C X0 at_2 rfl h_ln ?_
  have hln : ln = 0 ∨ ln = 1 ∨ ln = 2 ∨ ln = 3 := own_k4 h_ln
  rcases hln with rfl | rfl | rfl | rfl
  · refine OGo.istore (pc' := 5) C X0 at_3 rfl (l' := #[.val (.long i0), .second, .val (.int i1), .val (.int i2), .val (.int i3), .val (.int i4), .val (.int (0 : Int32)), .unset, .unset, .unset, .unset, .unset, .unset, .unset, .unset, .unset, .unset, .unset, .unset, .unset, .unset, .unset]) rfl ?_
    refine OGo.lloadN (pc' := 6) C X0 at_5 rfl rfl ?_
    refine OGo.l2d (pc' := 7) (v := (FP.l2d i0)) C X0 at_6 rfl rfl ?_
    refine OGo.dstore (pc' := 9) C X0 at_7 rfl (l' := #[.val (.long i0), .second, .val (.int i1), .val (.int i2), .val (.int i3), .val (.int i4), .val (.int (0 : Int32)), .val (.double (FP.l2d i0)), .second, .unset, .unset, .unset, .unset, .unset, .unset, .unset, .unset, .unset, .unset, .unset, .unset, .unset]) rfl ?_
    refine OGo.iloadN (pc' := 10) C X0 at_9 rfl rfl ?_
    refine OGo.iconst (pc' := 11) (z := (4 : Int32)) C X0 at_10 rfl (by decide) ?_
    obtain ⟨sg, h_sg⟩ : ∃ z : Int32, i1 &&& (4 : Int32) = z := ⟨_, rfl⟩
    refine OGo.iand (pc' := 12) (z := sg) C X0 at_11 rfl h_sg ?_
    by_cases hc1 : sg = (0 : Int32)
    · refine OGo.ifYes (pc' := 20) C X0 at_12 (teq hc1).1 (by decide) (by decide) ?_
      refine OGo.iloadN (pc' := 21) C X0 at_20 rfl rfl ?_
      refine OGo.ldcInt (pc' := 23) C X0 (wd0 hw) at_21 rfl ?_
      obtain ⟨fa, h_fa⟩ : ∃ z : Int32, i2 &&& (2147483647 : Int32) = z := ⟨_, rfl⟩
      refine OGo.iand (pc' := 24) (z := fa) C X0 at_23 rfl h_fa ?_
      refine OGo.i2d (pc' := 25) (v := (FP.i2d fa)) C X0 at_24 rfl rfl ?_
      refine OGo.dstore (pc' := 27) C X0 at_25 rfl (l' := #[.val (.long i0), .second, .val (.int i1), .val (.int i2), .val (.int i3), .val (.int i4), .val (.int (0 : Int32)), .val (.double (FP.l2d i0)), .second, .val (.double (FP.i2d fa)), .second, .unset, .unset, .unset, .unset, .unset, .unset, .unset, .unset, .unset, .unset, .unset]) rfl ?_
      refine OGo.iload (pc' := 29) C X0 at_27 rfl rfl ?_
      refine OGo.ldcInt (pc' := 31) C X0 (wd0 hw) at_29 rfl ?_
      obtain ⟨fb, h_fb⟩ : ∃ z : Int32, i3 &&& (2147483647 : Int32) = z := ⟨_, rfl⟩
      refine OGo.iand (pc' := 32) (z := fb) C X0 at_31 rfl h_fb ?_
      refine OGo.i2d (pc' := 33) (v := (FP.i2d fb)) C X0 at_32 rfl rfl ?_
      refine OGo.dstore (pc' := 35) C X0 at_33 rfl (l' := #[.val (.long i0), .second, .val (.int i1), .val (.int i2), .val (.int i3), .val (.int i4), .val (.int (0 : Int32)), .val (.double (FP.l2d i0)), .second, .val (.double (FP.i2d fa)), .second, .val (.double (FP.i2d fb)), .second, .unset, .unset, .unset, .unset, .unset, .unset, .unset, .unset, .unset]) rfl ?_
      refine OGo.iload (pc' := 37) C X0 at_35 rfl rfl ?_
      refine OGo.ldcInt (pc' := 39) C X0 (wd0 hw) at_37 rfl ?_
      obtain ⟨fc, h_fc⟩ : ∃ z : Int32, i4 &&& (2147483647 : Int32) = z := ⟨_, rfl⟩
      refine OGo.iand (pc' := 40) (z := fc) C X0 at_39 rfl h_fc ?_
      refine OGo.i2d (pc' := 41) (v := (FP.i2d fc)) C X0 at_40 rfl rfl ?_
      refine OGo.dstore (pc' := 43) C X0 at_41 rfl (l' := #[.val (.long i0), .second, .val (.int i1), .val (.int i2), .val (.int i3), .val (.int i4), .val (.int (0 : Int32)), .val (.double (FP.l2d i0)), .second, .val (.double (FP.i2d fa)), .second, .val (.double (FP.i2d fb)), .second, .val (.double (FP.i2d fc)), .second, .unset, .unset, .unset, .unset, .unset, .unset, .unset]) rfl ?_
      refine OGo.iload (pc' := 45) C X0 at_43 rfl rfl ?_
      refine OGo.ifNo (pc' := 48) C X0 at_45 rfl (teq (by decide : (0 : Int32) = (0 : Int32))).2 ?_
      refine OGo.iconst (pc' := 49) (z := (0 : Int32)) C X0 at_48 rfl (by decide) ?_
      refine OGo.newarray (pc' := 51) (cap := 0) (d0 := (.double (0 : UInt64))) (cells' := 1) (slots' := 0) C X0 (wd1 hw) rfl at_49 rfl (by decide) (by decide) (by decide) rfl rfl rfl (by decide) (by decide) (fun T2 h2 a2 k2 X2 g2 q2 E2 V2 => ?_)
      have Hd3 := H0.ext E2
      refine OGo.astore (pc' := 53) C X2 at_51 rfl rfl (l' := #[.val (.long i0), .second, .val (.int i1), .val (.int i2), .val (.int i3), .val (.int i4), .val (.int (0 : Int32)), .val (.double (FP.l2d i0)), .second, .val (.double (FP.i2d fa)), .second, .val (.double (FP.i2d fb)), .second, .val (.double (FP.i2d fc)), .second, .val (.ref a2), .unset, .unset, .unset, .unset, .unset, .unset]) rfl ?_
      refine OGo.goto (pc' := 119) C X2 at_53 (by decide) (by decide) ?_
      refine OGo.new (pc' := 122) (cells' := 2) (slots' := 7) C X2 (wd2 hw) (wd3 hw) (wd4 hw) at_119 rfl rfl rfl (by decide) (by decide) (fun T4 h4 a4 X4 g4 q4 E4 A4 D4 U4 => ?_)
      have ne5 : a2 ≠ a4 := Nat.ne_of_lt (Nat.lt_of_lt_of_eq V2.lt g4.symm)
      have Hd6 := Hd3.ext E4
      have F4_name : Fld Z h4 a4 "com/example/makespan/makespan/model/VmType" "name" "Ljava/lang/String;" .null := D4 (Or.inr (wd30 hw)) (ty := (.object "java/lang/String")) (by decide)
      have F4_speed : Fld Z h4 a4 "com/example/makespan/makespan/model/VmType" "speed" "D" (.double (0 : UInt64)) := D4 (Or.inr (wd160 hw)) (ty := .double) (by decide)
      have F4_pricePerPeriod : Fld Z h4 a4 "com/example/makespan/makespan/model/VmType" "pricePerPeriod" "D" (.double (0 : UInt64)) := D4 (Or.inr (wd169 hw)) (ty := .double) (by decide)
      have F4_periodSeconds : Fld Z h4 a4 "com/example/makespan/makespan/model/VmType" "periodSeconds" "D" (.double (0 : UInt64)) := D4 (Or.inr (wd172 hw)) (ty := .double) (by decide)
      have F4_bootSeconds : Fld Z h4 a4 "com/example/makespan/makespan/model/VmType" "bootSeconds" "D" (.double (0 : UInt64)) := D4 (Or.inr (wd176 hw)) (ty := .double) (by decide)
      have F4_bootBilled : Fld Z h4 a4 "com/example/makespan/makespan/model/VmType" "bootBilled" "Z" (.int (0 : Int32)) := D4 (Or.inr (wd178 hw)) (ty := .boolean) (by decide)
      have F4_startupFee : Fld Z h4 a4 "com/example/makespan/makespan/model/VmType" "startupFee" "D" (.double (0 : UInt64)) := D4 (Or.inr (wd181 hw)) (ty := .double) (by decide)
      refine OGo.dup (pc' := 123) C X4 at_122 rfl rfl ?_
      refine OGo.ldcC (pc' := 125) (n := 4) (cells' := 4) (slots' := 15) (z := (1 : Int32)) (vs := [(.int (116 : Int32))]) C X4 (ew hw) Hd6 (wd5 hw) (wS hw) (List.mem_of_getElem? (i := 8) rfl) ⟨by decide +kernel, by first | rfl | decide +kernel⟩ (by decide) rfl at_123 rfl (by decide +kernel) (by decide) rfl rfl (by decide) (by decide) (fun vm7 T7 h7 a7 b7 k7 C7 X7 Hd7 E7 R7 A7 F7a F7b V7 sf7 => ?_)
      have f8 := ((V2.ext E4).ext E7)
      have sn9 := sf7 a2 (safe_arv (EL := consts_1) C7.2.1.alike f8 (by decide))
      have f10 := (A4.ext E7)
      have sn11 := sf7 a4 (Safe.exa (EL := consts_1) C7.2.1.alike f10 (by decide) (by decide))
      refine OGo.dconst1 (pc' := 126) (v := (FP.dconst1)) C7 X7 at_125 rfl rfl ?_
      refine OGo.dconst1 (pc' := 127) (v := (FP.dconst1)) C7 X7 at_126 rfl rfl ?_
      refine OGo.dconst1 (pc' := 128) (v := (FP.dconst1)) C7 X7 at_127 rfl rfl ?_
      have f12 := (F4_name.ext E7)
      have f13 := (F4_speed.ext E7)
      have f14 := (F4_pricePerPeriod.ext E7)
      have f15 := (F4_periodSeconds.ext E7)
      have f16 := (F4_bootSeconds.ext E7)
      have f17 := (F4_bootBilled.ext E7)
      have f18 := (F4_startupFee.ext E7)
      have f19 := (((OD.ext E2).ext E4).ext E7)
      refine OGo.callWInit (pc' := 131) (cells' := 34) (slots' := 715) (argsL := [(.ref a7), (.double (FP.dconst1)), (.double (FP.dconst1)), (.double (FP.dconst1))]) (St := [(.ref a4)]) C7 X7 (ew hw) Hd7 rfl rfl (wd13 hw) (wd14 hw) (by decide) (wd15 hw) (wd4 hw) (ctV4 hw X7.2.1 a4 a7 b7 k7 cz f10 f12 f13 f14 f15 f16 f17 f18 q4 A7 F7b F7a V7 f19 S2 hcz) (fun _ hx => by cases hx) (lenOf pd24 rfl) rfl at_128 rfl rfl (by decide) (Nat.le_of_ble_eq_true rfl) rfl rfl (by decide) (by decide) (fun v20 vm20 T20 h20 Q20 C20 X20 Hd20 R20 => ?_)
      obtain ⟨hv20, K20, Ev20, Fb20⟩ := Q20
      subst hv20
      show OGo p e below _ T20 (mkF m 131 #[.val (.long i0), .second, .val (.int i1), .val (.int i2), .val (.int i3), .val (.int i4), .val (.int (0 : Int32)), .val (.double (FP.l2d i0)), .second, .val (.double (FP.i2d fa)), .second, .val (.double (FP.i2d fb)), .second, .val (.double (FP.i2d fc)), .second, .val (.ref a2), .unset, .unset, .unset, .unset, .unset, .unset] [(.ref a4)])
      refine OGo.astore (pc' := 133) C20 X20 at_131 rfl rfl (l' := #[.val (.long i0), .second, .val (.int i1), .val (.int i2), .val (.int i3), .val (.int i4), .val (.int (0 : Int32)), .val (.double (FP.l2d i0)), .second, .val (.double (FP.i2d fa)), .second, .val (.double (FP.i2d fb)), .second, .val (.double (FP.i2d fc)), .second, .val (.ref a2), .val (.ref a4), .unset, .unset, .unset, .unset, .unset]) rfl ?_
      refine OGo.new (pc' := 136) (cells' := 35) (slots' := 723) C20 X20 (wd182 hw) (wd183 hw) (wd184 hw) at_133 rfl rfl rfl (by decide) (by decide) (fun T21 h21 a21 X21 g21 q21 E21 A21 D21 U21 => ?_)
      have f23 := (f8.keep K20 (ninS ne5 nin0))
      have ne22 : a2 ≠ a21 := Nat.ne_of_lt (Nat.lt_of_lt_of_eq f23.lt g21.symm)
      have ne24 : a4 ≠ a21 := Nat.ne_of_lt (Nat.lt_of_lt_of_eq Ev20.lt g21.symm)
      have f26 := (A7.keep K20)
      have ne25 : a7 ≠ a21 := Nat.ne_of_lt (Nat.lt_of_lt_of_eq f26.lt g21.symm)
      have f28 := (V7.keep K20 (ninS (Ne.symm sn11.2) nin0))
      have ne27 : b7 ≠ a21 := Nat.ne_of_lt (Nat.lt_of_lt_of_eq f28.lt g21.symm)
      have Hd29 := Hd20.ext E21
      have F21_type : Fld Z h21 a21 "com/example/makespan/makespan/planning/TaskOnType" "type" "Lcom/example/makespan/makespan/model/VmType;" .null := D21 (Or.inr (wd193 hw)) (ty := (.object "com/example/makespan/makespan/model/VmType")) (by decide)
      have F21_billing : Fld Z h21 a21 "com/example/makespan/makespan/planning/TaskOnType" "billing" "Lcom/example/makespan/makespan/model/Billing;" .null := D21 (Or.inr (wd195 hw)) (ty := (.object "com/example/makespan/makespan/model/Billing")) (by decide)
      have F21_input : Fld Z h21 a21 "com/example/makespan/makespan/planning/TaskOnType" "input" "I" (.int (0 : Int32)) := D21 (Or.inr (wd197 hw)) (ty := .int) (by decide)
      have F21_arrival : Fld Z h21 a21 "com/example/makespan/makespan/planning/TaskOnType" "arrival" "D" (.double (0 : UInt64)) := D21 (Or.inr (wd199 hw)) (ty := .double) (by decide)
      have F21_ready : Fld Z h21 a21 "com/example/makespan/makespan/planning/TaskOnType" "ready" "D" (.double (0 : UInt64)) := D21 (Or.inr (wd209 hw)) (ty := .double) (by decide)
      have F21_seconds : Fld Z h21 a21 "com/example/makespan/makespan/planning/TaskOnType" "seconds" "D" (.double (0 : UInt64)) := D21 (Or.inr (wd211 hw)) (ty := .double) (by decide)
      have F21_fees : Fld Z h21 a21 "com/example/makespan/makespan/planning/TaskOnType" "fees" "[D" .null := D21 (Or.inr (wd213 hw)) (ty := (.array .double)) (by decide)
      have F21_feesAllZero : Fld Z h21 a21 "com/example/makespan/makespan/planning/TaskOnType" "feesAllZero" "Z" (.int (0 : Int32)) := D21 (Or.inr (wd215 hw)) (ty := .boolean) (by decide)
      refine OGo.dup (pc' := 137) C20 X21 at_136 rfl rfl ?_
      refine OGo.aload (pc' := 139) C20 X21 at_137 rfl rfl rfl ?_
      have f30 := ((f19.keep K20 (allS q4 all0)).ext E21)
      refine OGo.getstatic (pc' := 142) C20 X21 (host := "") (Or.inl (wd185 hw)) Via.refl (Sl.ext f30.2) at_139 rfl (fun T31 X31 => ?_)
      refine OGo.iconst (pc' := 143) (z := (0 : Int32)) C20 X31 at_142 rfl (by decide) ?_
      refine OGo.dconst0 (pc' := 144) (v := (FP.dconst0)) C20 X31 at_143 rfl rfl ?_
      refine OGo.dconst0 (pc' := 145) (v := (FP.dconst0)) C20 X31 at_144 rfl rfl ?_
      refine OGo.aload (pc' := 147) C20 X31 at_145 rfl rfl rfl ?_
      have f32 := (Ev20.ext E21)
      have f33 := (Fb20.ext E21)
      have f34 := (f23.ext E21)
      refine OGo.callInit (pc' := 150) (cells' := 35) (slots' := 723) (argsL := [(.ref a4), (.ref bl), (.int (0 : Int32)), (.double (FP.dconst0)), (.double (FP.dconst0)), (.ref a2)]) (St := [(.ref a21)]) C20 X31 rfl rfl (wd188 hw) (wd189 hw) (by decide) (wd190 hw) (wd184 hw) (ctTk00R hw X31.2.1 a21 a4 a2 bl k2  A21 F21_type F21_billing F21_input F21_arrival F21_ready F21_seconds F21_fees F21_feesAllZero q21 f32 f33 f34 ) (lenOf pd25 rfl) rfl at_147 rfl rfl (by decide) (Nat.le_of_ble_eq_true rfl) rfl rfl (by decide) (by decide) (fun v35 T35 h35 Q35 X35 z35 => ?_)
      obtain ⟨hv35, K35, Et35, Ff35, Fz35⟩ := Q35
      subst hv35
      have Hd36 := Hd29.keep K35 (allS (Safe.exa (EL := consts_1) C20.2.1.alike A21 (by decide) (by decide)) all0)
      show OGo p e below _ T35 (mkF m 150 #[.val (.long i0), .second, .val (.int i1), .val (.int i2), .val (.int i3), .val (.int i4), .val (.int (0 : Int32)), .val (.double (FP.l2d i0)), .second, .val (.double (FP.i2d fa)), .second, .val (.double (FP.i2d fb)), .second, .val (.double (FP.i2d fc)), .second, .val (.ref a2), .val (.ref a4), .unset, .unset, .unset, .unset, .unset] [(.ref a21)])
      refine OGo.astore (pc' := 152) C20 X35 at_150 rfl rfl (l' := #[.val (.long i0), .second, .val (.int i1), .val (.int i2), .val (.int i3), .val (.int i4), .val (.int (0 : Int32)), .val (.double (FP.l2d i0)), .second, .val (.double (FP.i2d fa)), .second, .val (.double (FP.i2d fb)), .second, .val (.double (FP.i2d fc)), .second, .val (.ref a2), .val (.ref a4), .val (.ref a21), .unset, .unset, .unset, .unset]) rfl ?_
      refine OGo.aload (pc' := 154) C20 X35 at_152 rfl rfl rfl ?_
      refine OGo.dload (pc' := 156) C20 X35 at_154 rfl rfl ?_
      have f37 := (f34.keep K35 (ninS ne22 nin0))
      refine OGo.callV (pc' := 159) (cells' := 35) (slots' := 723) (argsL := [(.double (FP.l2d i0))]) (St := []) C20 X35 (wd216 hw) (wd217 hw) (wd219 hw) (wd218 hw) (by decide) Et35 (wd220 hw) (wd184 hw) (ctWf0Z hw X35.2.1 a21 a2 k2  (FP.l2d i0) Ff35 Fz35 f37 (own_ln i0)) (lenOf pd1 rfl) rfl at_156 rfl rfl (by decide) (Nat.le_of_ble_eq_true rfl) rfl rfl (by decide) (by decide) (fun v38 T38 h38 Q38 X38 z38 => ?_)
      obtain ⟨hv38, hh38⟩ := Q38
      subst hv38; rw [hh38] at X38
      show OGo p e below _ T38 (mkF m 159 #[.val (.long i0), .second, .val (.int i1), .val (.int i2), .val (.int i3), .val (.int i4), .val (.int (0 : Int32)), .val (.double (FP.l2d i0)), .second, .val (.double (FP.i2d fa)), .second, .val (.double (FP.i2d fb)), .second, .val (.double (FP.i2d fc)), .second, .val (.ref a2), .val (.ref a4), .val (.ref a21), .unset, .unset, .unset, .unset] [(.double (FP.l2d i0))])
      refine OGo.dstore (pc' := 161) C20 X38 at_159 rfl (l' := #[.val (.long i0), .second, .val (.int i1), .val (.int i2), .val (.int i3), .val (.int i4), .val (.int (0 : Int32)), .val (.double (FP.l2d i0)), .second, .val (.double (FP.i2d fa)), .second, .val (.double (FP.i2d fb)), .second, .val (.double (FP.i2d fc)), .second, .val (.ref a2), .val (.ref a4), .val (.ref a21), .val (.double (FP.l2d i0)), .second, .unset, .unset]) rfl ?_
      refine OGo.dload (pc' := 163) C20 X38 at_161 rfl rfl ?_
      refine OGo.dstore (pc' := 165) C20 X38 at_163 rfl (l' := #[.val (.long i0), .second, .val (.int i1), .val (.int i2), .val (.int i3), .val (.int i4), .val (.int (0 : Int32)), .val (.double (FP.l2d i0)), .second, .val (.double (FP.i2d fa)), .second, .val (.double (FP.i2d fb)), .second, .val (.double (FP.i2d fc)), .second, .val (.ref a2), .val (.ref a4), .val (.ref a21), .val (.double (FP.l2d i0)), .second, .val (.double (FP.l2d i0)), .second]) rfl ?_
      refine OGo.iload (pc' := 167) C20 X38 at_165 rfl rfl ?_
      refine OGo.iconst (pc' := 168) (z := (1 : Int32)) C20 X38 at_167 rfl (by decide) ?_
      refine OGo.icmpYes (pc' := 178) C20 X38 at_168 (tlt (by decide : (0 : Int32) < (1 : Int32))).1 (by decide) (by decide) ?_
      refine OGo.iload (pc' := 180) C20 X38 at_178 rfl rfl ?_
      refine OGo.iconst (pc' := 181) (z := (2 : Int32)) C20 X38 at_180 rfl (by decide) ?_
      refine OGo.icmpYes (pc' := 191) C20 X38 at_181 (tlt (by decide : (0 : Int32) < (2 : Int32))).1 (by decide) (by decide) ?_
      refine OGo.iload (pc' := 193) C20 X38 at_191 rfl rfl ?_
      refine OGo.iconst (pc' := 194) (z := (3 : Int32)) C20 X38 at_193 rfl (by decide) ?_
      refine OGo.icmpYes (pc' := 204) C20 X38 at_194 (tlt (by decide : (0 : Int32) < (3 : Int32))).1 (by decide) (by decide) ?_
      refine OGo.dload (pc' := 206) C20 X38 at_204 rfl rfl ?_
      refine OGo.dload (pc' := 208) C20 X38 at_206 rfl rfl ?_
      refine OGo.callS (pc' := 211) (cells' := 35) (slots' := 723) (argsL := [(.double (FP.l2d i0)), (.double (FP.l2d i0))]) (St := []) C20 X38 (wd221 hw) (wd222 hw) (by decide) (wd224 hw) (wd223 hw) (ctSame hw X38.2.1 (FP.l2d i0) (own_ln i0)) (lenOf pd26 rfl) rfl at_208 rfl rfl (by decide) (Nat.le_of_ble_eq_true rfl) rfl rfl (by decide) (by decide) (fun v39 T39 h39 Q39 X39 z39 => ?_)
      obtain ⟨hv39, hh39⟩ := Q39
      subst hv39; rw [hh39] at X39
      show OGo p e below _ T39 (mkF m 211 #[.val (.long i0), .second, .val (.int i1), .val (.int i2), .val (.int i3), .val (.int i4), .val (.int (0 : Int32)), .val (.double (FP.l2d i0)), .second, .val (.double (FP.i2d fa)), .second, .val (.double (FP.i2d fb)), .second, .val (.double (FP.i2d fc)), .second, .val (.ref a2), .val (.ref a4), .val (.ref a21), .val (.double (FP.l2d i0)), .second, .val (.double (FP.l2d i0)), .second] [(.int (1 : Int32))])
      exact OGo.retWN C20 X39 (ew hw) Hd36 at_211 hret (by simp) (z' := (1 : Int32)) (by decide) hlk (fun _ _ => rfl) (by decide) (by decide)
    · refine OGo.ifNo (pc' := 15) C X0 at_12 rfl (feq hc1).1 ?_
      refine OGo.dload (pc' := 17) C X0 at_15 rfl rfl ?_
      refine OGo.dneg (pc' := 18) (v := (FP.dneg (FP.l2d i0))) C X0 at_17 rfl rfl ?_
      refine OGo.dstore (pc' := 20) C X0 at_18 rfl (l' := #[.val (.long i0), .second, .val (.int i1), .val (.int i2), .val (.int i3), .val (.int i4), .val (.int (0 : Int32)), .val (.double (FP.dneg (FP.l2d i0))), .second, .unset, .unset, .unset, .unset, .unset, .unset, .unset, .unset, .unset, .unset, .unset, .unset, .unset]) rfl ?_
      refine OGo.iloadN (pc' := 21) C X0 at_20 rfl rfl ?_
      refine OGo.ldcInt (pc' := 23) C X0 (wd0 hw) at_21 rfl ?_
      obtain ⟨fa, h_fa⟩ : ∃ z : Int32, i2 &&& (2147483647 : Int32) = z := ⟨_, rfl⟩
      refine OGo.iand (pc' := 24) (z := fa) C X0 at_23 rfl h_fa ?_
      refine OGo.i2d (pc' := 25) (v := (FP.i2d fa)) C X0 at_24 rfl rfl ?_
      refine OGo.dstore (pc' := 27) C X0 at_25 rfl (l' := #[.val (.long i0), .second, .val (.int i1), .val (.int i2), .val (.int i3), .val (.int i4), .val (.int (0 : Int32)), .val (.double (FP.dneg (FP.l2d i0))), .second, .val (.double (FP.i2d fa)), .second, .unset, .unset, .unset, .unset, .unset, .unset, .unset, .unset, .unset, .unset, .unset]) rfl ?_
      refine OGo.iload (pc' := 29) C X0 at_27 rfl rfl ?_
      refine OGo.ldcInt (pc' := 31) C X0 (wd0 hw) at_29 rfl ?_
      obtain ⟨fb, h_fb⟩ : ∃ z : Int32, i3 &&& (2147483647 : Int32) = z := ⟨_, rfl⟩
      refine OGo.iand (pc' := 32) (z := fb) C X0 at_31 rfl h_fb ?_
      refine OGo.i2d (pc' := 33) (v := (FP.i2d fb)) C X0 at_32 rfl rfl ?_
      refine OGo.dstore (pc' := 35) C X0 at_33 rfl (l' := #[.val (.long i0), .second, .val (.int i1), .val (.int i2), .val (.int i3), .val (.int i4), .val (.int (0 : Int32)), .val (.double (FP.dneg (FP.l2d i0))), .second, .val (.double (FP.i2d fa)), .second, .val (.double (FP.i2d fb)), .second, .unset, .unset, .unset, .unset, .unset, .unset, .unset, .unset, .unset]) rfl ?_
      refine OGo.iload (pc' := 37) C X0 at_35 rfl rfl ?_
      refine OGo.ldcInt (pc' := 39) C X0 (wd0 hw) at_37 rfl ?_
      obtain ⟨fc, h_fc⟩ : ∃ z : Int32, i4 &&& (2147483647 : Int32) = z := ⟨_, rfl⟩
      refine OGo.iand (pc' := 40) (z := fc) C X0 at_39 rfl h_fc ?_
      refine OGo.i2d (pc' := 41) (v := (FP.i2d fc)) C X0 at_40 rfl rfl ?_
      refine OGo.dstore (pc' := 43) C X0 at_41 rfl (l' := #[.val (.long i0), .second, .val (.int i1), .val (.int i2), .val (.int i3), .val (.int i4), .val (.int (0 : Int32)), .val (.double (FP.dneg (FP.l2d i0))), .second, .val (.double (FP.i2d fa)), .second, .val (.double (FP.i2d fb)), .second, .val (.double (FP.i2d fc)), .second, .unset, .unset, .unset, .unset, .unset, .unset, .unset]) rfl ?_
      refine OGo.iload (pc' := 45) C X0 at_43 rfl rfl ?_
      refine OGo.ifNo (pc' := 48) C X0 at_45 rfl (teq (by decide : (0 : Int32) = (0 : Int32))).2 ?_
      refine OGo.iconst (pc' := 49) (z := (0 : Int32)) C X0 at_48 rfl (by decide) ?_
      refine OGo.newarray (pc' := 51) (cap := 0) (d0 := (.double (0 : UInt64))) (cells' := 1) (slots' := 0) C X0 (wd1 hw) rfl at_49 rfl (by decide) (by decide) (by decide) rfl rfl rfl (by decide) (by decide) (fun T40 h40 a40 k40 X40 g40 q40 E40 V40 => ?_)
      have Hd41 := H0.ext E40
      refine OGo.astore (pc' := 53) C X40 at_51 rfl rfl (l' := #[.val (.long i0), .second, .val (.int i1), .val (.int i2), .val (.int i3), .val (.int i4), .val (.int (0 : Int32)), .val (.double (FP.dneg (FP.l2d i0))), .second, .val (.double (FP.i2d fa)), .second, .val (.double (FP.i2d fb)), .second, .val (.double (FP.i2d fc)), .second, .val (.ref a40), .unset, .unset, .unset, .unset, .unset, .unset]) rfl ?_
      refine OGo.goto (pc' := 119) C X40 at_53 (by decide) (by decide) ?_
      refine OGo.new (pc' := 122) (cells' := 2) (slots' := 7) C X40 (wd2 hw) (wd3 hw) (wd4 hw) at_119 rfl rfl rfl (by decide) (by decide) (fun T42 h42 a42 X42 g42 q42 E42 A42 D42 U42 => ?_)
      have ne43 : a40 ≠ a42 := Nat.ne_of_lt (Nat.lt_of_lt_of_eq V40.lt g42.symm)
      have Hd44 := Hd41.ext E42
      have F42_name : Fld Z h42 a42 "com/example/makespan/makespan/model/VmType" "name" "Ljava/lang/String;" .null := D42 (Or.inr (wd30 hw)) (ty := (.object "java/lang/String")) (by decide)
      have F42_speed : Fld Z h42 a42 "com/example/makespan/makespan/model/VmType" "speed" "D" (.double (0 : UInt64)) := D42 (Or.inr (wd160 hw)) (ty := .double) (by decide)
      have F42_pricePerPeriod : Fld Z h42 a42 "com/example/makespan/makespan/model/VmType" "pricePerPeriod" "D" (.double (0 : UInt64)) := D42 (Or.inr (wd169 hw)) (ty := .double) (by decide)
      have F42_periodSeconds : Fld Z h42 a42 "com/example/makespan/makespan/model/VmType" "periodSeconds" "D" (.double (0 : UInt64)) := D42 (Or.inr (wd172 hw)) (ty := .double) (by decide)
      have F42_bootSeconds : Fld Z h42 a42 "com/example/makespan/makespan/model/VmType" "bootSeconds" "D" (.double (0 : UInt64)) := D42 (Or.inr (wd176 hw)) (ty := .double) (by decide)
      have F42_bootBilled : Fld Z h42 a42 "com/example/makespan/makespan/model/VmType" "bootBilled" "Z" (.int (0 : Int32)) := D42 (Or.inr (wd178 hw)) (ty := .boolean) (by decide)
      have F42_startupFee : Fld Z h42 a42 "com/example/makespan/makespan/model/VmType" "startupFee" "D" (.double (0 : UInt64)) := D42 (Or.inr (wd181 hw)) (ty := .double) (by decide)
      refine OGo.dup (pc' := 123) C X42 at_122 rfl rfl ?_
      refine OGo.ldcC (pc' := 125) (n := 4) (cells' := 4) (slots' := 15) (z := (1 : Int32)) (vs := [(.int (116 : Int32))]) C X42 (ew hw) Hd44 (wd5 hw) (wS hw) (List.mem_of_getElem? (i := 8) rfl) ⟨by decide +kernel, by first | rfl | decide +kernel⟩ (by decide) rfl at_123 rfl (by decide +kernel) (by decide) rfl rfl (by decide) (by decide) (fun vm45 T45 h45 a45 b45 k45 C45 X45 Hd45 E45 R45 A45 F45a F45b V45 sf45 => ?_)
      have f46 := ((V40.ext E42).ext E45)
      have sn47 := sf45 a40 (safe_arv (EL := consts_1) C45.2.1.alike f46 (by decide))
      have f48 := (A42.ext E45)
      have sn49 := sf45 a42 (Safe.exa (EL := consts_1) C45.2.1.alike f48 (by decide) (by decide))
      refine OGo.dconst1 (pc' := 126) (v := (FP.dconst1)) C45 X45 at_125 rfl rfl ?_
      refine OGo.dconst1 (pc' := 127) (v := (FP.dconst1)) C45 X45 at_126 rfl rfl ?_
      refine OGo.dconst1 (pc' := 128) (v := (FP.dconst1)) C45 X45 at_127 rfl rfl ?_
      have f50 := (F42_name.ext E45)
      have f51 := (F42_speed.ext E45)
      have f52 := (F42_pricePerPeriod.ext E45)
      have f53 := (F42_periodSeconds.ext E45)
      have f54 := (F42_bootSeconds.ext E45)
      have f55 := (F42_bootBilled.ext E45)
      have f56 := (F42_startupFee.ext E45)
      have f57 := (((OD.ext E40).ext E42).ext E45)
      refine OGo.callWInit (pc' := 131) (cells' := 34) (slots' := 715) (argsL := [(.ref a45), (.double (FP.dconst1)), (.double (FP.dconst1)), (.double (FP.dconst1))]) (St := [(.ref a42)]) C45 X45 (ew hw) Hd45 rfl rfl (wd13 hw) (wd14 hw) (by decide) (wd15 hw) (wd4 hw) (ctV4 hw X45.2.1 a42 a45 b45 k45 cz f48 f50 f51 f52 f53 f54 f55 f56 q42 A45 F45b F45a V45 f57 S2 hcz) (fun _ hx => by cases hx) (lenOf pd24 rfl) rfl at_128 rfl rfl (by decide) (Nat.le_of_ble_eq_true rfl) rfl rfl (by decide) (by decide) (fun v58 vm58 T58 h58 Q58 C58 X58 Hd58 R58 => ?_)
      obtain ⟨hv58, K58, Ev58, Fb58⟩ := Q58
      subst hv58
      show OGo p e below _ T58 (mkF m 131 #[.val (.long i0), .second, .val (.int i1), .val (.int i2), .val (.int i3), .val (.int i4), .val (.int (0 : Int32)), .val (.double (FP.dneg (FP.l2d i0))), .second, .val (.double (FP.i2d fa)), .second, .val (.double (FP.i2d fb)), .second, .val (.double (FP.i2d fc)), .second, .val (.ref a40), .unset, .unset, .unset, .unset, .unset, .unset] [(.ref a42)])
      refine OGo.astore (pc' := 133) C58 X58 at_131 rfl rfl (l' := #[.val (.long i0), .second, .val (.int i1), .val (.int i2), .val (.int i3), .val (.int i4), .val (.int (0 : Int32)), .val (.double (FP.dneg (FP.l2d i0))), .second, .val (.double (FP.i2d fa)), .second, .val (.double (FP.i2d fb)), .second, .val (.double (FP.i2d fc)), .second, .val (.ref a40), .val (.ref a42), .unset, .unset, .unset, .unset, .unset]) rfl ?_
      refine OGo.new (pc' := 136) (cells' := 35) (slots' := 723) C58 X58 (wd182 hw) (wd183 hw) (wd184 hw) at_133 rfl rfl rfl (by decide) (by decide) (fun T59 h59 a59 X59 g59 q59 E59 A59 D59 U59 => ?_)
      have f61 := (f46.keep K58 (ninS ne43 nin0))
      have ne60 : a40 ≠ a59 := Nat.ne_of_lt (Nat.lt_of_lt_of_eq f61.lt g59.symm)
      have ne62 : a42 ≠ a59 := Nat.ne_of_lt (Nat.lt_of_lt_of_eq Ev58.lt g59.symm)
      have f64 := (A45.keep K58)
      have ne63 : a45 ≠ a59 := Nat.ne_of_lt (Nat.lt_of_lt_of_eq f64.lt g59.symm)
      have f66 := (V45.keep K58 (ninS (Ne.symm sn49.2) nin0))
      have ne65 : b45 ≠ a59 := Nat.ne_of_lt (Nat.lt_of_lt_of_eq f66.lt g59.symm)
      have Hd67 := Hd58.ext E59
      have F59_type : Fld Z h59 a59 "com/example/makespan/makespan/planning/TaskOnType" "type" "Lcom/example/makespan/makespan/model/VmType;" .null := D59 (Or.inr (wd193 hw)) (ty := (.object "com/example/makespan/makespan/model/VmType")) (by decide)
      have F59_billing : Fld Z h59 a59 "com/example/makespan/makespan/planning/TaskOnType" "billing" "Lcom/example/makespan/makespan/model/Billing;" .null := D59 (Or.inr (wd195 hw)) (ty := (.object "com/example/makespan/makespan/model/Billing")) (by decide)
      have F59_input : Fld Z h59 a59 "com/example/makespan/makespan/planning/TaskOnType" "input" "I" (.int (0 : Int32)) := D59 (Or.inr (wd197 hw)) (ty := .int) (by decide)
      have F59_arrival : Fld Z h59 a59 "com/example/makespan/makespan/planning/TaskOnType" "arrival" "D" (.double (0 : UInt64)) := D59 (Or.inr (wd199 hw)) (ty := .double) (by decide)
      have F59_ready : Fld Z h59 a59 "com/example/makespan/makespan/planning/TaskOnType" "ready" "D" (.double (0 : UInt64)) := D59 (Or.inr (wd209 hw)) (ty := .double) (by decide)
      have F59_seconds : Fld Z h59 a59 "com/example/makespan/makespan/planning/TaskOnType" "seconds" "D" (.double (0 : UInt64)) := D59 (Or.inr (wd211 hw)) (ty := .double) (by decide)
      have F59_fees : Fld Z h59 a59 "com/example/makespan/makespan/planning/TaskOnType" "fees" "[D" .null := D59 (Or.inr (wd213 hw)) (ty := (.array .double)) (by decide)
      have F59_feesAllZero : Fld Z h59 a59 "com/example/makespan/makespan/planning/TaskOnType" "feesAllZero" "Z" (.int (0 : Int32)) := D59 (Or.inr (wd215 hw)) (ty := .boolean) (by decide)
      refine OGo.dup (pc' := 137) C58 X59 at_136 rfl rfl ?_
      refine OGo.aload (pc' := 139) C58 X59 at_137 rfl rfl rfl ?_
      have f68 := ((f57.keep K58 (allS q42 all0)).ext E59)
      refine OGo.getstatic (pc' := 142) C58 X59 (host := "") (Or.inl (wd185 hw)) Via.refl (Sl.ext f68.2) at_139 rfl (fun T69 X69 => ?_)
      refine OGo.iconst (pc' := 143) (z := (0 : Int32)) C58 X69 at_142 rfl (by decide) ?_
      refine OGo.dconst0 (pc' := 144) (v := (FP.dconst0)) C58 X69 at_143 rfl rfl ?_
      refine OGo.dconst0 (pc' := 145) (v := (FP.dconst0)) C58 X69 at_144 rfl rfl ?_
      refine OGo.aload (pc' := 147) C58 X69 at_145 rfl rfl rfl ?_
      have f70 := (Ev58.ext E59)
      have f71 := (Fb58.ext E59)
      have f72 := (f61.ext E59)
      refine OGo.callInit (pc' := 150) (cells' := 35) (slots' := 723) (argsL := [(.ref a42), (.ref bl), (.int (0 : Int32)), (.double (FP.dconst0)), (.double (FP.dconst0)), (.ref a40)]) (St := [(.ref a59)]) C58 X69 rfl rfl (wd188 hw) (wd189 hw) (by decide) (wd190 hw) (wd184 hw) (ctTk00R hw X69.2.1 a59 a42 a40 bl k40  A59 F59_type F59_billing F59_input F59_arrival F59_ready F59_seconds F59_fees F59_feesAllZero q59 f70 f71 f72 ) (lenOf pd25 rfl) rfl at_147 rfl rfl (by decide) (Nat.le_of_ble_eq_true rfl) rfl rfl (by decide) (by decide) (fun v73 T73 h73 Q73 X73 z73 => ?_)
      obtain ⟨hv73, K73, Et73, Ff73, Fz73⟩ := Q73
      subst hv73
      have Hd74 := Hd67.keep K73 (allS (Safe.exa (EL := consts_1) C58.2.1.alike A59 (by decide) (by decide)) all0)
      show OGo p e below _ T73 (mkF m 150 #[.val (.long i0), .second, .val (.int i1), .val (.int i2), .val (.int i3), .val (.int i4), .val (.int (0 : Int32)), .val (.double (FP.dneg (FP.l2d i0))), .second, .val (.double (FP.i2d fa)), .second, .val (.double (FP.i2d fb)), .second, .val (.double (FP.i2d fc)), .second, .val (.ref a40), .val (.ref a42), .unset, .unset, .unset, .unset, .unset] [(.ref a59)])
      refine OGo.astore (pc' := 152) C58 X73 at_150 rfl rfl (l' := #[.val (.long i0), .second, .val (.int i1), .val (.int i2), .val (.int i3), .val (.int i4), .val (.int (0 : Int32)), .val (.double (FP.dneg (FP.l2d i0))), .second, .val (.double (FP.i2d fa)), .second, .val (.double (FP.i2d fb)), .second, .val (.double (FP.i2d fc)), .second, .val (.ref a40), .val (.ref a42), .val (.ref a59), .unset, .unset, .unset, .unset]) rfl ?_
      refine OGo.aload (pc' := 154) C58 X73 at_152 rfl rfl rfl ?_
      refine OGo.dload (pc' := 156) C58 X73 at_154 rfl rfl ?_
      have f75 := (f72.keep K73 (ninS ne60 nin0))
      refine OGo.callV (pc' := 159) (cells' := 35) (slots' := 723) (argsL := [(.double (FP.dneg (FP.l2d i0)))]) (St := []) C58 X73 (wd216 hw) (wd217 hw) (wd219 hw) (wd218 hw) (by decide) Et73 (wd220 hw) (wd184 hw) (ctWf0Z hw X73.2.1 a59 a40 k40  (FP.dneg (FP.l2d i0)) Ff73 Fz73 f75 (own_lng i0)) (lenOf pd1 rfl) rfl at_156 rfl rfl (by decide) (Nat.le_of_ble_eq_true rfl) rfl rfl (by decide) (by decide) (fun v76 T76 h76 Q76 X76 z76 => ?_)
      obtain ⟨hv76, hh76⟩ := Q76
      subst hv76; rw [hh76] at X76
      show OGo p e below _ T76 (mkF m 159 #[.val (.long i0), .second, .val (.int i1), .val (.int i2), .val (.int i3), .val (.int i4), .val (.int (0 : Int32)), .val (.double (FP.dneg (FP.l2d i0))), .second, .val (.double (FP.i2d fa)), .second, .val (.double (FP.i2d fb)), .second, .val (.double (FP.i2d fc)), .second, .val (.ref a40), .val (.ref a42), .val (.ref a59), .unset, .unset, .unset, .unset] [(.double (FP.dneg (FP.l2d i0)))])
      refine OGo.dstore (pc' := 161) C58 X76 at_159 rfl (l' := #[.val (.long i0), .second, .val (.int i1), .val (.int i2), .val (.int i3), .val (.int i4), .val (.int (0 : Int32)), .val (.double (FP.dneg (FP.l2d i0))), .second, .val (.double (FP.i2d fa)), .second, .val (.double (FP.i2d fb)), .second, .val (.double (FP.i2d fc)), .second, .val (.ref a40), .val (.ref a42), .val (.ref a59), .val (.double (FP.dneg (FP.l2d i0))), .second, .unset, .unset]) rfl ?_
      refine OGo.dload (pc' := 163) C58 X76 at_161 rfl rfl ?_
      refine OGo.dstore (pc' := 165) C58 X76 at_163 rfl (l' := #[.val (.long i0), .second, .val (.int i1), .val (.int i2), .val (.int i3), .val (.int i4), .val (.int (0 : Int32)), .val (.double (FP.dneg (FP.l2d i0))), .second, .val (.double (FP.i2d fa)), .second, .val (.double (FP.i2d fb)), .second, .val (.double (FP.i2d fc)), .second, .val (.ref a40), .val (.ref a42), .val (.ref a59), .val (.double (FP.dneg (FP.l2d i0))), .second, .val (.double (FP.dneg (FP.l2d i0))), .second]) rfl ?_
      refine OGo.iload (pc' := 167) C58 X76 at_165 rfl rfl ?_
      refine OGo.iconst (pc' := 168) (z := (1 : Int32)) C58 X76 at_167 rfl (by decide) ?_
      refine OGo.icmpYes (pc' := 178) C58 X76 at_168 (tlt (by decide : (0 : Int32) < (1 : Int32))).1 (by decide) (by decide) ?_
      refine OGo.iload (pc' := 180) C58 X76 at_178 rfl rfl ?_
      refine OGo.iconst (pc' := 181) (z := (2 : Int32)) C58 X76 at_180 rfl (by decide) ?_
      refine OGo.icmpYes (pc' := 191) C58 X76 at_181 (tlt (by decide : (0 : Int32) < (2 : Int32))).1 (by decide) (by decide) ?_
      refine OGo.iload (pc' := 193) C58 X76 at_191 rfl rfl ?_
      refine OGo.iconst (pc' := 194) (z := (3 : Int32)) C58 X76 at_193 rfl (by decide) ?_
      refine OGo.icmpYes (pc' := 204) C58 X76 at_194 (tlt (by decide : (0 : Int32) < (3 : Int32))).1 (by decide) (by decide) ?_
      refine OGo.dload (pc' := 206) C58 X76 at_204 rfl rfl ?_
      refine OGo.dload (pc' := 208) C58 X76 at_206 rfl rfl ?_
      refine OGo.callS (pc' := 211) (cells' := 35) (slots' := 723) (argsL := [(.double (FP.dneg (FP.l2d i0))), (.double (FP.dneg (FP.l2d i0)))]) (St := []) C58 X76 (wd221 hw) (wd222 hw) (by decide) (wd224 hw) (wd223 hw) (ctSame hw X76.2.1 (FP.dneg (FP.l2d i0)) (own_lng i0)) (lenOf pd26 rfl) rfl at_208 rfl rfl (by decide) (Nat.le_of_ble_eq_true rfl) rfl rfl (by decide) (by decide) (fun v77 T77 h77 Q77 X77 z77 => ?_)
      obtain ⟨hv77, hh77⟩ := Q77
      subst hv77; rw [hh77] at X77
      show OGo p e below _ T77 (mkF m 211 #[.val (.long i0), .second, .val (.int i1), .val (.int i2), .val (.int i3), .val (.int i4), .val (.int (0 : Int32)), .val (.double (FP.dneg (FP.l2d i0))), .second, .val (.double (FP.i2d fa)), .second, .val (.double (FP.i2d fb)), .second, .val (.double (FP.i2d fc)), .second, .val (.ref a40), .val (.ref a42), .val (.ref a59), .val (.double (FP.dneg (FP.l2d i0))), .second, .val (.double (FP.dneg (FP.l2d i0))), .second] [(.int (1 : Int32))])
      exact OGo.retWN C58 X77 (ew hw) Hd74 at_211 hret (by simp) (z' := (1 : Int32)) (by decide) hlk (fun _ _ => rfl) (by decide) (by decide)
  · refine OGo.istore (pc' := 5) C X0 at_3 rfl (l' := #[.val (.long i0), .second, .val (.int i1), .val (.int i2), .val (.int i3), .val (.int i4), .val (.int (1 : Int32)), .unset, .unset, .unset, .unset, .unset, .unset, .unset, .unset, .unset, .unset, .unset, .unset, .unset, .unset, .unset]) rfl ?_
    refine OGo.lloadN (pc' := 6) C X0 at_5 rfl rfl ?_
    refine OGo.l2d (pc' := 7) (v := (FP.l2d i0)) C X0 at_6 rfl rfl ?_
    refine OGo.dstore (pc' := 9) C X0 at_7 rfl (l' := #[.val (.long i0), .second, .val (.int i1), .val (.int i2), .val (.int i3), .val (.int i4), .val (.int (1 : Int32)), .val (.double (FP.l2d i0)), .second, .unset, .unset, .unset, .unset, .unset, .unset, .unset, .unset, .unset, .unset, .unset, .unset, .unset]) rfl ?_
    refine OGo.iloadN (pc' := 10) C X0 at_9 rfl rfl ?_
    refine OGo.iconst (pc' := 11) (z := (4 : Int32)) C X0 at_10 rfl (by decide) ?_
    obtain ⟨sg, h_sg⟩ : ∃ z : Int32, i1 &&& (4 : Int32) = z := ⟨_, rfl⟩
    refine OGo.iand (pc' := 12) (z := sg) C X0 at_11 rfl h_sg ?_
    by_cases hc78 : sg = (0 : Int32)
    · refine OGo.ifYes (pc' := 20) C X0 at_12 (teq hc78).1 (by decide) (by decide) ?_
      refine OGo.iloadN (pc' := 21) C X0 at_20 rfl rfl ?_
      refine OGo.ldcInt (pc' := 23) C X0 (wd0 hw) at_21 rfl ?_
      obtain ⟨fa, h_fa⟩ : ∃ z : Int32, i2 &&& (2147483647 : Int32) = z := ⟨_, rfl⟩
      refine OGo.iand (pc' := 24) (z := fa) C X0 at_23 rfl h_fa ?_
      refine OGo.i2d (pc' := 25) (v := (FP.i2d fa)) C X0 at_24 rfl rfl ?_
      refine OGo.dstore (pc' := 27) C X0 at_25 rfl (l' := #[.val (.long i0), .second, .val (.int i1), .val (.int i2), .val (.int i3), .val (.int i4), .val (.int (1 : Int32)), .val (.double (FP.l2d i0)), .second, .val (.double (FP.i2d fa)), .second, .unset, .unset, .unset, .unset, .unset, .unset, .unset, .unset, .unset, .unset, .unset]) rfl ?_
      refine OGo.iload (pc' := 29) C X0 at_27 rfl rfl ?_
      refine OGo.ldcInt (pc' := 31) C X0 (wd0 hw) at_29 rfl ?_
      obtain ⟨fb, h_fb⟩ : ∃ z : Int32, i3 &&& (2147483647 : Int32) = z := ⟨_, rfl⟩
      refine OGo.iand (pc' := 32) (z := fb) C X0 at_31 rfl h_fb ?_
      refine OGo.i2d (pc' := 33) (v := (FP.i2d fb)) C X0 at_32 rfl rfl ?_
      refine OGo.dstore (pc' := 35) C X0 at_33 rfl (l' := #[.val (.long i0), .second, .val (.int i1), .val (.int i2), .val (.int i3), .val (.int i4), .val (.int (1 : Int32)), .val (.double (FP.l2d i0)), .second, .val (.double (FP.i2d fa)), .second, .val (.double (FP.i2d fb)), .second, .unset, .unset, .unset, .unset, .unset, .unset, .unset, .unset, .unset]) rfl ?_
      refine OGo.iload (pc' := 37) C X0 at_35 rfl rfl ?_
      refine OGo.ldcInt (pc' := 39) C X0 (wd0 hw) at_37 rfl ?_
      obtain ⟨fc, h_fc⟩ : ∃ z : Int32, i4 &&& (2147483647 : Int32) = z := ⟨_, rfl⟩
      refine OGo.iand (pc' := 40) (z := fc) C X0 at_39 rfl h_fc ?_
      refine OGo.i2d (pc' := 41) (v := (FP.i2d fc)) C X0 at_40 rfl rfl ?_
      refine OGo.dstore (pc' := 43) C X0 at_41 rfl (l' := #[.val (.long i0), .second, .val (.int i1), .val (.int i2), .val (.int i3), .val (.int i4), .val (.int (1 : Int32)), .val (.double (FP.l2d i0)), .second, .val (.double (FP.i2d fa)), .second, .val (.double (FP.i2d fb)), .second, .val (.double (FP.i2d fc)), .second, .unset, .unset, .unset, .unset, .unset, .unset, .unset]) rfl ?_
      refine OGo.iload (pc' := 45) C X0 at_43 rfl rfl ?_
      refine OGo.ifYes (pc' := 56) C X0 at_45 (feq (by decide : ¬ (1 : Int32) = (0 : Int32))).2 (by decide) (by decide) ?_
      refine OGo.iload (pc' := 58) C X0 at_56 rfl rfl ?_
      refine OGo.iconst (pc' := 59) (z := (1 : Int32)) C X0 at_58 rfl (by decide) ?_
      refine OGo.icmpNo (pc' := 62) C X0 at_59 rfl (teq (by decide : (1 : Int32) = (1 : Int32))).2 ?_
      refine OGo.iconst (pc' := 63) (z := (1 : Int32)) C X0 at_62 rfl (by decide) ?_
      refine OGo.newarray (pc' := 65) (cap := 1) (d0 := (.double (0 : UInt64))) (cells' := 1) (slots' := 1) C X0 (wd1 hw) rfl at_63 rfl (by decide) (by decide) (by decide) rfl rfl rfl (by decide) (by decide) (fun T79 h79 a79 k79 X79 g79 q79 E79 V79 => ?_)
      have Hd80 := H0.ext E79
      replace V79 : Arv Z h79 a79 k79 .double (1 : Int32) [(.double (0 : UInt64))] (.double (0 : UInt64)) := V79.pad (pad_rep [] (.double (0 : UInt64)) 1)
      refine OGo.dup (pc' := 66) C X79 at_65 rfl rfl ?_
      refine OGo.iconst (pc' := 67) (z := (0 : Int32)) C X79 at_66 rfl (by decide) ?_
      refine OGo.dload (pc' := 69) C X79 at_67 rfl rfl ?_
      refine OGo.dastore (pc' := 70) C X79 V79 q79 (i := 0) at_69 rfl ⟨by decide, by decide⟩ (by decide) (Nat.le_of_ble_eq_true rfl) (fun T81 h81 X81 W81 V81 => ?_)
      replace V81 : Arv Z h81 a79 k79 .double (1 : Int32) [(.double (FP.i2d fa))] (.double (0 : UInt64)) := V81
      have Hd82 := Hd80.wr W81 (safe_arv (EL := consts_1) C.2.1.alike V79 (by decide))
      refine OGo.astore (pc' := 72) C X81 at_70 rfl rfl (l' := #[.val (.long i0), .second, .val (.int i1), .val (.int i2), .val (.int i3), .val (.int i4), .val (.int (1 : Int32)), .val (.double (FP.l2d i0)), .second, .val (.double (FP.i2d fa)), .second, .val (.double (FP.i2d fb)), .second, .val (.double (FP.i2d fc)), .second, .val (.ref a79), .unset, .unset, .unset, .unset, .unset, .unset]) rfl ?_
      refine OGo.goto (pc' := 119) C X81 at_72 (by decide) (by decide) ?_
      refine OGo.new (pc' := 122) (cells' := 2) (slots' := 8) C X81 (wd2 hw) (wd3 hw) (wd4 hw) at_119 rfl rfl rfl (by decide) (by decide) (fun T83 h83 a83 X83 g83 q83 E83 A83 D83 U83 => ?_)
      have ne84 : a79 ≠ a83 := Nat.ne_of_lt (Nat.lt_of_lt_of_eq V81.lt g83.symm)
      have Hd85 := Hd82.ext E83
      have F83_name : Fld Z h83 a83 "com/example/makespan/makespan/model/VmType" "name" "Ljava/lang/String;" .null := D83 (Or.inr (wd30 hw)) (ty := (.object "java/lang/String")) (by decide)
      have F83_speed : Fld Z h83 a83 "com/example/makespan/makespan/model/VmType" "speed" "D" (.double (0 : UInt64)) := D83 (Or.inr (wd160 hw)) (ty := .double) (by decide)
      have F83_pricePerPeriod : Fld Z h83 a83 "com/example/makespan/makespan/model/VmType" "pricePerPeriod" "D" (.double (0 : UInt64)) := D83 (Or.inr (wd169 hw)) (ty := .double) (by decide)
      have F83_periodSeconds : Fld Z h83 a83 "com/example/makespan/makespan/model/VmType" "periodSeconds" "D" (.double (0 : UInt64)) := D83 (Or.inr (wd172 hw)) (ty := .double) (by decide)
      have F83_bootSeconds : Fld Z h83 a83 "com/example/makespan/makespan/model/VmType" "bootSeconds" "D" (.double (0 : UInt64)) := D83 (Or.inr (wd176 hw)) (ty := .double) (by decide)
      have F83_bootBilled : Fld Z h83 a83 "com/example/makespan/makespan/model/VmType" "bootBilled" "Z" (.int (0 : Int32)) := D83 (Or.inr (wd178 hw)) (ty := .boolean) (by decide)
      have F83_startupFee : Fld Z h83 a83 "com/example/makespan/makespan/model/VmType" "startupFee" "D" (.double (0 : UInt64)) := D83 (Or.inr (wd181 hw)) (ty := .double) (by decide)
      refine OGo.dup (pc' := 123) C X83 at_122 rfl rfl ?_
      refine OGo.ldcC (pc' := 125) (n := 4) (cells' := 4) (slots' := 16) (z := (1 : Int32)) (vs := [(.int (116 : Int32))]) C X83 (ew hw) Hd85 (wd5 hw) (wS hw) (List.mem_of_getElem? (i := 8) rfl) ⟨by decide +kernel, by first | rfl | decide +kernel⟩ (by decide) rfl at_123 rfl (by decide +kernel) (by decide) rfl rfl (by decide) (by decide) (fun vm86 T86 h86 a86 b86 k86 C86 X86 Hd86 E86 R86 A86 F86a F86b V86 sf86 => ?_)
      have f87 := ((V81.ext E83).ext E86)
      have sn88 := sf86 a79 (safe_arv (EL := consts_1) C86.2.1.alike f87 (by decide))
      have f89 := (A83.ext E86)
      have sn90 := sf86 a83 (Safe.exa (EL := consts_1) C86.2.1.alike f89 (by decide) (by decide))
      refine OGo.dconst1 (pc' := 126) (v := (FP.dconst1)) C86 X86 at_125 rfl rfl ?_
      refine OGo.dconst1 (pc' := 127) (v := (FP.dconst1)) C86 X86 at_126 rfl rfl ?_
      refine OGo.dconst1 (pc' := 128) (v := (FP.dconst1)) C86 X86 at_127 rfl rfl ?_
      have f91 := (F83_name.ext E86)
      have f92 := (F83_speed.ext E86)
      have f93 := (F83_pricePerPeriod.ext E86)
      have f94 := (F83_periodSeconds.ext E86)
      have f95 := (F83_bootSeconds.ext E86)
      have f96 := (F83_bootBilled.ext E86)
      have f97 := (F83_startupFee.ext E86)
      have f98 := ((((OD.ext E79).wr W81 q79).ext E83).ext E86)
      refine OGo.callWInit (pc' := 131) (cells' := 34) (slots' := 716) (argsL := [(.ref a86), (.double (FP.dconst1)), (.double (FP.dconst1)), (.double (FP.dconst1))]) (St := [(.ref a83)]) C86 X86 (ew hw) Hd86 rfl rfl (wd13 hw) (wd14 hw) (by decide) (wd15 hw) (wd4 hw) (ctV4 hw X86.2.1 a83 a86 b86 k86 cz f89 f91 f92 f93 f94 f95 f96 f97 q83 A86 F86b F86a V86 f98 S2 hcz) (fun _ hx => by cases hx) (lenOf pd24 rfl) rfl at_128 rfl rfl (by decide) (Nat.le_of_ble_eq_true rfl) rfl rfl (by decide) (by decide) (fun v99 vm99 T99 h99 Q99 C99 X99 Hd99 R99 => ?_)
      obtain ⟨hv99, K99, Ev99, Fb99⟩ := Q99
      subst hv99
      show OGo p e below _ T99 (mkF m 131 #[.val (.long i0), .second, .val (.int i1), .val (.int i2), .val (.int i3), .val (.int i4), .val (.int (1 : Int32)), .val (.double (FP.l2d i0)), .second, .val (.double (FP.i2d fa)), .second, .val (.double (FP.i2d fb)), .second, .val (.double (FP.i2d fc)), .second, .val (.ref a79), .unset, .unset, .unset, .unset, .unset, .unset] [(.ref a83)])
      refine OGo.astore (pc' := 133) C99 X99 at_131 rfl rfl (l' := #[.val (.long i0), .second, .val (.int i1), .val (.int i2), .val (.int i3), .val (.int i4), .val (.int (1 : Int32)), .val (.double (FP.l2d i0)), .second, .val (.double (FP.i2d fa)), .second, .val (.double (FP.i2d fb)), .second, .val (.double (FP.i2d fc)), .second, .val (.ref a79), .val (.ref a83), .unset, .unset, .unset, .unset, .unset]) rfl ?_
      refine OGo.new (pc' := 136) (cells' := 35) (slots' := 724) C99 X99 (wd182 hw) (wd183 hw) (wd184 hw) at_133 rfl rfl rfl (by decide) (by decide) (fun T100 h100 a100 X100 g100 q100 E100 A100 D100 U100 => ?_)
      have f102 := (f87.keep K99 (ninS ne84 nin0))
      have ne101 : a79 ≠ a100 := Nat.ne_of_lt (Nat.lt_of_lt_of_eq f102.lt g100.symm)
      have ne103 : a83 ≠ a100 := Nat.ne_of_lt (Nat.lt_of_lt_of_eq Ev99.lt g100.symm)
      have f105 := (A86.keep K99)
      have ne104 : a86 ≠ a100 := Nat.ne_of_lt (Nat.lt_of_lt_of_eq f105.lt g100.symm)
      have f107 := (V86.keep K99 (ninS (Ne.symm sn90.2) nin0))
      have ne106 : b86 ≠ a100 := Nat.ne_of_lt (Nat.lt_of_lt_of_eq f107.lt g100.symm)
      have Hd108 := Hd99.ext E100
      have F100_type : Fld Z h100 a100 "com/example/makespan/makespan/planning/TaskOnType" "type" "Lcom/example/makespan/makespan/model/VmType;" .null := D100 (Or.inr (wd193 hw)) (ty := (.object "com/example/makespan/makespan/model/VmType")) (by decide)
      have F100_billing : Fld Z h100 a100 "com/example/makespan/makespan/planning/TaskOnType" "billing" "Lcom/example/makespan/makespan/model/Billing;" .null := D100 (Or.inr (wd195 hw)) (ty := (.object "com/example/makespan/makespan/model/Billing")) (by decide)
      have F100_input : Fld Z h100 a100 "com/example/makespan/makespan/planning/TaskOnType" "input" "I" (.int (0 : Int32)) := D100 (Or.inr (wd197 hw)) (ty := .int) (by decide)
      have F100_arrival : Fld Z h100 a100 "com/example/makespan/makespan/planning/TaskOnType" "arrival" "D" (.double (0 : UInt64)) := D100 (Or.inr (wd199 hw)) (ty := .double) (by decide)
      have F100_ready : Fld Z h100 a100 "com/example/makespan/makespan/planning/TaskOnType" "ready" "D" (.double (0 : UInt64)) := D100 (Or.inr (wd209 hw)) (ty := .double) (by decide)
      have F100_seconds : Fld Z h100 a100 "com/example/makespan/makespan/planning/TaskOnType" "seconds" "D" (.double (0 : UInt64)) := D100 (Or.inr (wd211 hw)) (ty := .double) (by decide)
      have F100_fees : Fld Z h100 a100 "com/example/makespan/makespan/planning/TaskOnType" "fees" "[D" .null := D100 (Or.inr (wd213 hw)) (ty := (.array .double)) (by decide)
      have F100_feesAllZero : Fld Z h100 a100 "com/example/makespan/makespan/planning/TaskOnType" "feesAllZero" "Z" (.int (0 : Int32)) := D100 (Or.inr (wd215 hw)) (ty := .boolean) (by decide)
      refine OGo.dup (pc' := 137) C99 X100 at_136 rfl rfl ?_
      refine OGo.aload (pc' := 139) C99 X100 at_137 rfl rfl rfl ?_
      have f109 := ((f98.keep K99 (allS q83 all0)).ext E100)
      refine OGo.getstatic (pc' := 142) C99 X100 (host := "") (Or.inl (wd185 hw)) Via.refl (Sl.ext f109.2) at_139 rfl (fun T110 X110 => ?_)
      refine OGo.iconst (pc' := 143) (z := (0 : Int32)) C99 X110 at_142 rfl (by decide) ?_
      refine OGo.dconst0 (pc' := 144) (v := (FP.dconst0)) C99 X110 at_143 rfl rfl ?_
      refine OGo.dconst0 (pc' := 145) (v := (FP.dconst0)) C99 X110 at_144 rfl rfl ?_
      refine OGo.aload (pc' := 147) C99 X110 at_145 rfl rfl rfl ?_
      by_cases hz0 : fa = 0
      · have f111 := (Ev99.ext E100)
        have f112 := (Fb99.ext E100)
        have f113 := (f102.ext E100)
        refine OGo.callInit (pc' := 150) (cells' := 35) (slots' := 724) (argsL := [(.ref a83), (.ref bl), (.int (0 : Int32)), (.double (FP.dconst0)), (.double (FP.dconst0)), (.ref a79)]) (St := [(.ref a100)]) C99 X110 rfl rfl (wd188 hw) (wd189 hw) (by decide) (wd190 hw) (wd184 hw) (ctTk11R hw X110.2.1 a100 a83 a79 bl k79 fa A100 F100_type F100_billing F100_input F100_arrival F100_ready F100_seconds F100_fees F100_feesAllZero q100 f111 f112 f113 hz0) (lenOf pd25 rfl) rfl at_147 rfl rfl (by decide) (Nat.le_of_ble_eq_true rfl) rfl rfl (by decide) (by decide) (fun v114 T114 h114 Q114 X114 z114 => ?_)
        obtain ⟨hv114, K114, Et114, Ff114, Fz114⟩ := Q114
        subst hv114
        have Hd115 := Hd108.keep K114 (allS (Safe.exa (EL := consts_1) C99.2.1.alike A100 (by decide) (by decide)) all0)
        show OGo p e below _ T114 (mkF m 150 #[.val (.long i0), .second, .val (.int i1), .val (.int i2), .val (.int i3), .val (.int i4), .val (.int (1 : Int32)), .val (.double (FP.l2d i0)), .second, .val (.double (FP.i2d fa)), .second, .val (.double (FP.i2d fb)), .second, .val (.double (FP.i2d fc)), .second, .val (.ref a79), .val (.ref a83), .unset, .unset, .unset, .unset, .unset] [(.ref a100)])
        refine OGo.astore (pc' := 152) C99 X114 at_150 rfl rfl (l' := #[.val (.long i0), .second, .val (.int i1), .val (.int i2), .val (.int i3), .val (.int i4), .val (.int (1 : Int32)), .val (.double (FP.l2d i0)), .second, .val (.double (FP.i2d fa)), .second, .val (.double (FP.i2d fb)), .second, .val (.double (FP.i2d fc)), .second, .val (.ref a79), .val (.ref a83), .val (.ref a100), .unset, .unset, .unset, .unset]) rfl ?_
        refine OGo.aload (pc' := 154) C99 X114 at_152 rfl rfl rfl ?_
        refine OGo.dload (pc' := 156) C99 X114 at_154 rfl rfl ?_
        have f116 := (f113.keep K114 (ninS ne101 nin0))
        refine OGo.callV (pc' := 159) (cells' := 35) (slots' := 724) (argsL := [(.double (FP.l2d i0))]) (St := []) C99 X114 (wd216 hw) (wd217 hw) (wd219 hw) (wd218 hw) (by decide) Et114 (wd220 hw) (wd184 hw) (ctWf1Z hw X114.2.1 a100 a79 k79 fa (FP.l2d i0) Ff114 Fz114 f116 (own_ln i0)) (lenOf pd1 rfl) rfl at_156 rfl rfl (by decide) (Nat.le_of_ble_eq_true rfl) rfl rfl (by decide) (by decide) (fun v117 T117 h117 Q117 X117 z117 => ?_)
        obtain ⟨hv117, hh117⟩ := Q117
        subst hv117; rw [hh117] at X117
        show OGo p e below _ T117 (mkF m 159 #[.val (.long i0), .second, .val (.int i1), .val (.int i2), .val (.int i3), .val (.int i4), .val (.int (1 : Int32)), .val (.double (FP.l2d i0)), .second, .val (.double (FP.i2d fa)), .second, .val (.double (FP.i2d fb)), .second, .val (.double (FP.i2d fc)), .second, .val (.ref a79), .val (.ref a83), .val (.ref a100), .unset, .unset, .unset, .unset] [(.double (FP.dadd (FP.l2d i0) (FP.dconst0)))])
        refine OGo.dstore (pc' := 161) C99 X117 at_159 rfl (l' := #[.val (.long i0), .second, .val (.int i1), .val (.int i2), .val (.int i3), .val (.int i4), .val (.int (1 : Int32)), .val (.double (FP.l2d i0)), .second, .val (.double (FP.i2d fa)), .second, .val (.double (FP.i2d fb)), .second, .val (.double (FP.i2d fc)), .second, .val (.ref a79), .val (.ref a83), .val (.ref a100), .val (.double (FP.dadd (FP.l2d i0) (FP.dconst0))), .second, .unset, .unset]) rfl ?_
        refine OGo.dload (pc' := 163) C99 X117 at_161 rfl rfl ?_
        refine OGo.dstore (pc' := 165) C99 X117 at_163 rfl (l' := #[.val (.long i0), .second, .val (.int i1), .val (.int i2), .val (.int i3), .val (.int i4), .val (.int (1 : Int32)), .val (.double (FP.l2d i0)), .second, .val (.double (FP.i2d fa)), .second, .val (.double (FP.i2d fb)), .second, .val (.double (FP.i2d fc)), .second, .val (.ref a79), .val (.ref a83), .val (.ref a100), .val (.double (FP.dadd (FP.l2d i0) (FP.dconst0))), .second, .val (.double (FP.l2d i0)), .second]) rfl ?_
        refine OGo.iload (pc' := 167) C99 X117 at_165 rfl rfl ?_
        refine OGo.iconst (pc' := 168) (z := (1 : Int32)) C99 X117 at_167 rfl (by decide) ?_
        refine OGo.icmpNo (pc' := 171) C99 X117 at_168 rfl (flt (by decide : ¬ (1 : Int32) < (1 : Int32))).1 ?_
        refine OGo.dload (pc' := 173) C99 X117 at_171 rfl rfl ?_
        refine OGo.dload (pc' := 175) C99 X117 at_173 rfl rfl ?_
        refine OGo.dadd (pc' := 176) (v := (FP.dadd (FP.l2d i0) (FP.dconst0))) C99 X117 at_175 rfl (dadd_out (own_ln i0) (i2d_fin _)) (by rw [own_i0 hz0]) ?_
        refine OGo.dstore (pc' := 178) C99 X117 at_176 rfl (l' := #[.val (.long i0), .second, .val (.int i1), .val (.int i2), .val (.int i3), .val (.int i4), .val (.int (1 : Int32)), .val (.double (FP.l2d i0)), .second, .val (.double (FP.i2d fa)), .second, .val (.double (FP.i2d fb)), .second, .val (.double (FP.i2d fc)), .second, .val (.ref a79), .val (.ref a83), .val (.ref a100), .val (.double (FP.dadd (FP.l2d i0) (FP.dconst0))), .second, .val (.double (FP.dadd (FP.l2d i0) (FP.dconst0))), .second]) rfl ?_
        refine OGo.iload (pc' := 180) C99 X117 at_178 rfl rfl ?_
        refine OGo.iconst (pc' := 181) (z := (2 : Int32)) C99 X117 at_180 rfl (by decide) ?_
        refine OGo.icmpYes (pc' := 191) C99 X117 at_181 (tlt (by decide : (1 : Int32) < (2 : Int32))).1 (by decide) (by decide) ?_
        refine OGo.iload (pc' := 193) C99 X117 at_191 rfl rfl ?_
        refine OGo.iconst (pc' := 194) (z := (3 : Int32)) C99 X117 at_193 rfl (by decide) ?_
        refine OGo.icmpYes (pc' := 204) C99 X117 at_194 (tlt (by decide : (1 : Int32) < (3 : Int32))).1 (by decide) (by decide) ?_
        refine OGo.dload (pc' := 206) C99 X117 at_204 rfl rfl ?_
        refine OGo.dload (pc' := 208) C99 X117 at_206 rfl rfl ?_
        refine OGo.callS (pc' := 211) (cells' := 35) (slots' := 724) (argsL := [(.double (FP.dadd (FP.l2d i0) (FP.dconst0))), (.double (FP.dadd (FP.l2d i0) (FP.dconst0)))]) (St := []) C99 X117 (wd221 hw) (wd222 hw) (by decide) (wd224 hw) (wd223 hw) (ctSame hw X117.2.1 (FP.dadd (FP.l2d i0) (FP.dconst0)) (dadd_out (own_ln i0) own_f0)) (lenOf pd26 rfl) rfl at_208 rfl rfl (by decide) (Nat.le_of_ble_eq_true rfl) rfl rfl (by decide) (by decide) (fun v118 T118 h118 Q118 X118 z118 => ?_)
        obtain ⟨hv118, hh118⟩ := Q118
        subst hv118; rw [hh118] at X118
        show OGo p e below _ T118 (mkF m 211 #[.val (.long i0), .second, .val (.int i1), .val (.int i2), .val (.int i3), .val (.int i4), .val (.int (1 : Int32)), .val (.double (FP.l2d i0)), .second, .val (.double (FP.i2d fa)), .second, .val (.double (FP.i2d fb)), .second, .val (.double (FP.i2d fc)), .second, .val (.ref a79), .val (.ref a83), .val (.ref a100), .val (.double (FP.dadd (FP.l2d i0) (FP.dconst0))), .second, .val (.double (FP.dadd (FP.l2d i0) (FP.dconst0))), .second] [(.int (1 : Int32))])
        exact OGo.retWN C99 X118 (ew hw) Hd115 at_211 hret (by simp) (z' := (1 : Int32)) (by decide) hlk (fun _ _ => rfl) (by decide) (by decide)
      · have f119 := (Ev99.ext E100)
        have f120 := (Fb99.ext E100)
        have f121 := (f102.ext E100)
        refine OGo.callInit (pc' := 150) (cells' := 35) (slots' := 724) (argsL := [(.ref a83), (.ref bl), (.int (0 : Int32)), (.double (FP.dconst0)), (.double (FP.dconst0)), (.ref a79)]) (St := [(.ref a100)]) C99 X110 rfl rfl (wd188 hw) (wd189 hw) (by decide) (wd190 hw) (wd184 hw) (ctTk10R hw X110.2.1 a100 a83 a79 bl k79 fa A100 F100_type F100_billing F100_input F100_arrival F100_ready F100_seconds F100_fees F100_feesAllZero q100 f119 f120 f121 hz0) (lenOf pd25 rfl) rfl at_147 rfl rfl (by decide) (Nat.le_of_ble_eq_true rfl) rfl rfl (by decide) (by decide) (fun v122 T122 h122 Q122 X122 z122 => ?_)
        obtain ⟨hv122, K122, Et122, Ff122, Fz122⟩ := Q122
        subst hv122
        have Hd123 := Hd108.keep K122 (allS (Safe.exa (EL := consts_1) C99.2.1.alike A100 (by decide) (by decide)) all0)
        show OGo p e below _ T122 (mkF m 150 #[.val (.long i0), .second, .val (.int i1), .val (.int i2), .val (.int i3), .val (.int i4), .val (.int (1 : Int32)), .val (.double (FP.l2d i0)), .second, .val (.double (FP.i2d fa)), .second, .val (.double (FP.i2d fb)), .second, .val (.double (FP.i2d fc)), .second, .val (.ref a79), .val (.ref a83), .unset, .unset, .unset, .unset, .unset] [(.ref a100)])
        refine OGo.astore (pc' := 152) C99 X122 at_150 rfl rfl (l' := #[.val (.long i0), .second, .val (.int i1), .val (.int i2), .val (.int i3), .val (.int i4), .val (.int (1 : Int32)), .val (.double (FP.l2d i0)), .second, .val (.double (FP.i2d fa)), .second, .val (.double (FP.i2d fb)), .second, .val (.double (FP.i2d fc)), .second, .val (.ref a79), .val (.ref a83), .val (.ref a100), .unset, .unset, .unset, .unset]) rfl ?_
        refine OGo.aload (pc' := 154) C99 X122 at_152 rfl rfl rfl ?_
        refine OGo.dload (pc' := 156) C99 X122 at_154 rfl rfl ?_
        have f124 := (f121.keep K122 (ninS ne101 nin0))
        refine OGo.callV (pc' := 159) (cells' := 35) (slots' := 724) (argsL := [(.double (FP.l2d i0))]) (St := []) C99 X122 (wd216 hw) (wd217 hw) (wd219 hw) (wd218 hw) (by decide) Et122 (wd220 hw) (wd184 hw) (ctWf1S hw X122.2.1 a100 a79 k79 fa (FP.l2d i0) Ff122 Fz122 f124 (own_ln i0)) (lenOf pd1 rfl) rfl at_156 rfl rfl (by decide) (Nat.le_of_ble_eq_true rfl) rfl rfl (by decide) (by decide) (fun v125 T125 h125 Q125 X125 z125 => ?_)
        obtain ⟨hv125, hh125⟩ := Q125
        subst hv125; rw [hh125] at X125
        show OGo p e below _ T125 (mkF m 159 #[.val (.long i0), .second, .val (.int i1), .val (.int i2), .val (.int i3), .val (.int i4), .val (.int (1 : Int32)), .val (.double (FP.l2d i0)), .second, .val (.double (FP.i2d fa)), .second, .val (.double (FP.i2d fb)), .second, .val (.double (FP.i2d fc)), .second, .val (.ref a79), .val (.ref a83), .val (.ref a100), .unset, .unset, .unset, .unset] [(.double (FP.dadd (FP.l2d i0) (FP.i2d fa)))])
        refine OGo.dstore (pc' := 161) C99 X125 at_159 rfl (l' := #[.val (.long i0), .second, .val (.int i1), .val (.int i2), .val (.int i3), .val (.int i4), .val (.int (1 : Int32)), .val (.double (FP.l2d i0)), .second, .val (.double (FP.i2d fa)), .second, .val (.double (FP.i2d fb)), .second, .val (.double (FP.i2d fc)), .second, .val (.ref a79), .val (.ref a83), .val (.ref a100), .val (.double (FP.dadd (FP.l2d i0) (FP.i2d fa))), .second, .unset, .unset]) rfl ?_
        refine OGo.dload (pc' := 163) C99 X125 at_161 rfl rfl ?_
        refine OGo.dstore (pc' := 165) C99 X125 at_163 rfl (l' := #[.val (.long i0), .second, .val (.int i1), .val (.int i2), .val (.int i3), .val (.int i4), .val (.int (1 : Int32)), .val (.double (FP.l2d i0)), .second, .val (.double (FP.i2d fa)), .second, .val (.double (FP.i2d fb)), .second, .val (.double (FP.i2d fc)), .second, .val (.ref a79), .val (.ref a83), .val (.ref a100), .val (.double (FP.dadd (FP.l2d i0) (FP.i2d fa))), .second, .val (.double (FP.l2d i0)), .second]) rfl ?_
        refine OGo.iload (pc' := 167) C99 X125 at_165 rfl rfl ?_
        refine OGo.iconst (pc' := 168) (z := (1 : Int32)) C99 X125 at_167 rfl (by decide) ?_
        refine OGo.icmpNo (pc' := 171) C99 X125 at_168 rfl (flt (by decide : ¬ (1 : Int32) < (1 : Int32))).1 ?_
        refine OGo.dload (pc' := 173) C99 X125 at_171 rfl rfl ?_
        refine OGo.dload (pc' := 175) C99 X125 at_173 rfl rfl ?_
        refine OGo.dadd (pc' := 176) (v := (FP.dadd (FP.l2d i0) (FP.i2d fa))) C99 X125 at_175 rfl (dadd_out (own_ln i0) (i2d_fin _)) rfl ?_
        refine OGo.dstore (pc' := 178) C99 X125 at_176 rfl (l' := #[.val (.long i0), .second, .val (.int i1), .val (.int i2), .val (.int i3), .val (.int i4), .val (.int (1 : Int32)), .val (.double (FP.l2d i0)), .second, .val (.double (FP.i2d fa)), .second, .val (.double (FP.i2d fb)), .second, .val (.double (FP.i2d fc)), .second, .val (.ref a79), .val (.ref a83), .val (.ref a100), .val (.double (FP.dadd (FP.l2d i0) (FP.i2d fa))), .second, .val (.double (FP.dadd (FP.l2d i0) (FP.i2d fa))), .second]) rfl ?_
        refine OGo.iload (pc' := 180) C99 X125 at_178 rfl rfl ?_
        refine OGo.iconst (pc' := 181) (z := (2 : Int32)) C99 X125 at_180 rfl (by decide) ?_
        refine OGo.icmpYes (pc' := 191) C99 X125 at_181 (tlt (by decide : (1 : Int32) < (2 : Int32))).1 (by decide) (by decide) ?_
        refine OGo.iload (pc' := 193) C99 X125 at_191 rfl rfl ?_
        refine OGo.iconst (pc' := 194) (z := (3 : Int32)) C99 X125 at_193 rfl (by decide) ?_
        refine OGo.icmpYes (pc' := 204) C99 X125 at_194 (tlt (by decide : (1 : Int32) < (3 : Int32))).1 (by decide) (by decide) ?_
        refine OGo.dload (pc' := 206) C99 X125 at_204 rfl rfl ?_
        refine OGo.dload (pc' := 208) C99 X125 at_206 rfl rfl ?_
        refine OGo.callS (pc' := 211) (cells' := 35) (slots' := 724) (argsL := [(.double (FP.dadd (FP.l2d i0) (FP.i2d fa))), (.double (FP.dadd (FP.l2d i0) (FP.i2d fa)))]) (St := []) C99 X125 (wd221 hw) (wd222 hw) (by decide) (wd224 hw) (wd223 hw) (ctSame hw X125.2.1 (FP.dadd (FP.l2d i0) (FP.i2d fa)) (dadd_out (own_ln i0) (i2d_fin _))) (lenOf pd26 rfl) rfl at_208 rfl rfl (by decide) (Nat.le_of_ble_eq_true rfl) rfl rfl (by decide) (by decide) (fun v126 T126 h126 Q126 X126 z126 => ?_)
        obtain ⟨hv126, hh126⟩ := Q126
        subst hv126; rw [hh126] at X126
        show OGo p e below _ T126 (mkF m 211 #[.val (.long i0), .second, .val (.int i1), .val (.int i2), .val (.int i3), .val (.int i4), .val (.int (1 : Int32)), .val (.double (FP.l2d i0)), .second, .val (.double (FP.i2d fa)), .second, .val (.double (FP.i2d fb)), .second, .val (.double (FP.i2d fc)), .second, .val (.ref a79), .val (.ref a83), .val (.ref a100), .val (.double (FP.dadd (FP.l2d i0) (FP.i2d fa))), .second, .val (.double (FP.dadd (FP.l2d i0) (FP.i2d fa))), .second] [(.int (1 : Int32))])
        exact OGo.retWN C99 X126 (ew hw) Hd123 at_211 hret (by simp) (z' := (1 : Int32)) (by decide) hlk (fun _ _ => rfl) (by decide) (by decide)
    · refine OGo.ifNo (pc' := 15) C X0 at_12 rfl (feq hc78).1 ?_
      refine OGo.dload (pc' := 17) C X0 at_15 rfl rfl ?_
      refine OGo.dneg (pc' := 18) (v := (FP.dneg (FP.l2d i0))) C X0 at_17 rfl rfl ?_
      refine OGo.dstore (pc' := 20) C X0 at_18 rfl (l' := #[.val (.long i0), .second, .val (.int i1), .val (.int i2), .val (.int i3), .val (.int i4), .val (.int (1 : Int32)), .val (.double (FP.dneg (FP.l2d i0))), .second, .unset, .unset, .unset, .unset, .unset, .unset, .unset, .unset, .unset, .unset, .unset, .unset, .unset]) rfl ?_
      refine OGo.iloadN (pc' := 21) C X0 at_20 rfl rfl ?_
      refine OGo.ldcInt (pc' := 23) C X0 (wd0 hw) at_21 rfl ?_
      obtain ⟨fa, h_fa⟩ : ∃ z : Int32, i2 &&& (2147483647 : Int32) = z := ⟨_, rfl⟩
      refine OGo.iand (pc' := 24) (z := fa) C X0 at_23 rfl h_fa ?_
      refine OGo.i2d (pc' := 25) (v := (FP.i2d fa)) C X0 at_24 rfl rfl ?_
      refine OGo.dstore (pc' := 27) C X0 at_25 rfl (l' := #[.val (.long i0), .second, .val (.int i1), .val (.int i2), .val (.int i3), .val (.int i4), .val (.int (1 : Int32)), .val (.double (FP.dneg (FP.l2d i0))), .second, .val (.double (FP.i2d fa)), .second, .unset, .unset, .unset, .unset, .unset, .unset, .unset, .unset, .unset, .unset, .unset]) rfl ?_
      refine OGo.iload (pc' := 29) C X0 at_27 rfl rfl ?_
      refine OGo.ldcInt (pc' := 31) C X0 (wd0 hw) at_29 rfl ?_
      obtain ⟨fb, h_fb⟩ : ∃ z : Int32, i3 &&& (2147483647 : Int32) = z := ⟨_, rfl⟩
      refine OGo.iand (pc' := 32) (z := fb) C X0 at_31 rfl h_fb ?_
      refine OGo.i2d (pc' := 33) (v := (FP.i2d fb)) C X0 at_32 rfl rfl ?_
      refine OGo.dstore (pc' := 35) C X0 at_33 rfl (l' := #[.val (.long i0), .second, .val (.int i1), .val (.int i2), .val (.int i3), .val (.int i4), .val (.int (1 : Int32)), .val (.double (FP.dneg (FP.l2d i0))), .second, .val (.double (FP.i2d fa)), .second, .val (.double (FP.i2d fb)), .second, .unset, .unset, .unset, .unset, .unset, .unset, .unset, .unset, .unset]) rfl ?_
      refine OGo.iload (pc' := 37) C X0 at_35 rfl rfl ?_
      refine OGo.ldcInt (pc' := 39) C X0 (wd0 hw) at_37 rfl ?_
      obtain ⟨fc, h_fc⟩ : ∃ z : Int32, i4 &&& (2147483647 : Int32) = z := ⟨_, rfl⟩
      refine OGo.iand (pc' := 40) (z := fc) C X0 at_39 rfl h_fc ?_
      refine OGo.i2d (pc' := 41) (v := (FP.i2d fc)) C X0 at_40 rfl rfl ?_
      refine OGo.dstore (pc' := 43) C X0 at_41 rfl (l' := #[.val (.long i0), .second, .val (.int i1), .val (.int i2), .val (.int i3), .val (.int i4), .val (.int (1 : Int32)), .val (.double (FP.dneg (FP.l2d i0))), .second, .val (.double (FP.i2d fa)), .second, .val (.double (FP.i2d fb)), .second, .val (.double (FP.i2d fc)), .second, .unset, .unset, .unset, .unset, .unset, .unset, .unset]) rfl ?_
      refine OGo.iload (pc' := 45) C X0 at_43 rfl rfl ?_
      refine OGo.ifYes (pc' := 56) C X0 at_45 (feq (by decide : ¬ (1 : Int32) = (0 : Int32))).2 (by decide) (by decide) ?_
      refine OGo.iload (pc' := 58) C X0 at_56 rfl rfl ?_
      refine OGo.iconst (pc' := 59) (z := (1 : Int32)) C X0 at_58 rfl (by decide) ?_
      refine OGo.icmpNo (pc' := 62) C X0 at_59 rfl (teq (by decide : (1 : Int32) = (1 : Int32))).2 ?_
      refine OGo.iconst (pc' := 63) (z := (1 : Int32)) C X0 at_62 rfl (by decide) ?_
      refine OGo.newarray (pc' := 65) (cap := 1) (d0 := (.double (0 : UInt64))) (cells' := 1) (slots' := 1) C X0 (wd1 hw) rfl at_63 rfl (by decide) (by decide) (by decide) rfl rfl rfl (by decide) (by decide) (fun T127 h127 a127 k127 X127 g127 q127 E127 V127 => ?_)
      have Hd128 := H0.ext E127
      replace V127 : Arv Z h127 a127 k127 .double (1 : Int32) [(.double (0 : UInt64))] (.double (0 : UInt64)) := V127.pad (pad_rep [] (.double (0 : UInt64)) 1)
      refine OGo.dup (pc' := 66) C X127 at_65 rfl rfl ?_
      refine OGo.iconst (pc' := 67) (z := (0 : Int32)) C X127 at_66 rfl (by decide) ?_
      refine OGo.dload (pc' := 69) C X127 at_67 rfl rfl ?_
      refine OGo.dastore (pc' := 70) C X127 V127 q127 (i := 0) at_69 rfl ⟨by decide, by decide⟩ (by decide) (Nat.le_of_ble_eq_true rfl) (fun T129 h129 X129 W129 V129 => ?_)
      replace V129 : Arv Z h129 a127 k127 .double (1 : Int32) [(.double (FP.i2d fa))] (.double (0 : UInt64)) := V129
      have Hd130 := Hd128.wr W129 (safe_arv (EL := consts_1) C.2.1.alike V127 (by decide))
      refine OGo.astore (pc' := 72) C X129 at_70 rfl rfl (l' := #[.val (.long i0), .second, .val (.int i1), .val (.int i2), .val (.int i3), .val (.int i4), .val (.int (1 : Int32)), .val (.double (FP.dneg (FP.l2d i0))), .second, .val (.double (FP.i2d fa)), .second, .val (.double (FP.i2d fb)), .second, .val (.double (FP.i2d fc)), .second, .val (.ref a127), .unset, .unset, .unset, .unset, .unset, .unset]) rfl ?_
      refine OGo.goto (pc' := 119) C X129 at_72 (by decide) (by decide) ?_
      refine OGo.new (pc' := 122) (cells' := 2) (slots' := 8) C X129 (wd2 hw) (wd3 hw) (wd4 hw) at_119 rfl rfl rfl (by decide) (by decide) (fun T131 h131 a131 X131 g131 q131 E131 A131 D131 U131 => ?_)
      have ne132 : a127 ≠ a131 := Nat.ne_of_lt (Nat.lt_of_lt_of_eq V129.lt g131.symm)
      have Hd133 := Hd130.ext E131
      have F131_name : Fld Z h131 a131 "com/example/makespan/makespan/model/VmType" "name" "Ljava/lang/String;" .null := D131 (Or.inr (wd30 hw)) (ty := (.object "java/lang/String")) (by decide)
      have F131_speed : Fld Z h131 a131 "com/example/makespan/makespan/model/VmType" "speed" "D" (.double (0 : UInt64)) := D131 (Or.inr (wd160 hw)) (ty := .double) (by decide)
      have F131_pricePerPeriod : Fld Z h131 a131 "com/example/makespan/makespan/model/VmType" "pricePerPeriod" "D" (.double (0 : UInt64)) := D131 (Or.inr (wd169 hw)) (ty := .double) (by decide)
      have F131_periodSeconds : Fld Z h131 a131 "com/example/makespan/makespan/model/VmType" "periodSeconds" "D" (.double (0 : UInt64)) := D131 (Or.inr (wd172 hw)) (ty := .double) (by decide)
      have F131_bootSeconds : Fld Z h131 a131 "com/example/makespan/makespan/model/VmType" "bootSeconds" "D" (.double (0 : UInt64)) := D131 (Or.inr (wd176 hw)) (ty := .double) (by decide)
      have F131_bootBilled : Fld Z h131 a131 "com/example/makespan/makespan/model/VmType" "bootBilled" "Z" (.int (0 : Int32)) := D131 (Or.inr (wd178 hw)) (ty := .boolean) (by decide)
      have F131_startupFee : Fld Z h131 a131 "com/example/makespan/makespan/model/VmType" "startupFee" "D" (.double (0 : UInt64)) := D131 (Or.inr (wd181 hw)) (ty := .double) (by decide)
      refine OGo.dup (pc' := 123) C X131 at_122 rfl rfl ?_
      refine OGo.ldcC (pc' := 125) (n := 4) (cells' := 4) (slots' := 16) (z := (1 : Int32)) (vs := [(.int (116 : Int32))]) C X131 (ew hw) Hd133 (wd5 hw) (wS hw) (List.mem_of_getElem? (i := 8) rfl) ⟨by decide +kernel, by first | rfl | decide +kernel⟩ (by decide) rfl at_123 rfl (by decide +kernel) (by decide) rfl rfl (by decide) (by decide) (fun vm134 T134 h134 a134 b134 k134 C134 X134 Hd134 E134 R134 A134 F134a F134b V134 sf134 => ?_)
      have f135 := ((V129.ext E131).ext E134)
      have sn136 := sf134 a127 (safe_arv (EL := consts_1) C134.2.1.alike f135 (by decide))
      have f137 := (A131.ext E134)
      have sn138 := sf134 a131 (Safe.exa (EL := consts_1) C134.2.1.alike f137 (by decide) (by decide))
      refine OGo.dconst1 (pc' := 126) (v := (FP.dconst1)) C134 X134 at_125 rfl rfl ?_
      refine OGo.dconst1 (pc' := 127) (v := (FP.dconst1)) C134 X134 at_126 rfl rfl ?_
      refine OGo.dconst1 (pc' := 128) (v := (FP.dconst1)) C134 X134 at_127 rfl rfl ?_
      have f139 := (F131_name.ext E134)
      have f140 := (F131_speed.ext E134)
      have f141 := (F131_pricePerPeriod.ext E134)
      have f142 := (F131_periodSeconds.ext E134)
      have f143 := (F131_bootSeconds.ext E134)
      have f144 := (F131_bootBilled.ext E134)
      have f145 := (F131_startupFee.ext E134)
      have f146 := ((((OD.ext E127).wr W129 q127).ext E131).ext E134)
      refine OGo.callWInit (pc' := 131) (cells' := 34) (slots' := 716) (argsL := [(.ref a134), (.double (FP.dconst1)), (.double (FP.dconst1)), (.double (FP.dconst1))]) (St := [(.ref a131)]) C134 X134 (ew hw) Hd134 rfl rfl (wd13 hw) (wd14 hw) (by decide) (wd15 hw) (wd4 hw) (ctV4 hw X134.2.1 a131 a134 b134 k134 cz f137 f139 f140 f141 f142 f143 f144 f145 q131 A134 F134b F134a V134 f146 S2 hcz) (fun _ hx => by cases hx) (lenOf pd24 rfl) rfl at_128 rfl rfl (by decide) (Nat.le_of_ble_eq_true rfl) rfl rfl (by decide) (by decide) (fun v147 vm147 T147 h147 Q147 C147 X147 Hd147 R147 => ?_)
      obtain ⟨hv147, K147, Ev147, Fb147⟩ := Q147
      subst hv147
      show OGo p e below _ T147 (mkF m 131 #[.val (.long i0), .second, .val (.int i1), .val (.int i2), .val (.int i3), .val (.int i4), .val (.int (1 : Int32)), .val (.double (FP.dneg (FP.l2d i0))), .second, .val (.double (FP.i2d fa)), .second, .val (.double (FP.i2d fb)), .second, .val (.double (FP.i2d fc)), .second, .val (.ref a127), .unset, .unset, .unset, .unset, .unset, .unset] [(.ref a131)])
      refine OGo.astore (pc' := 133) C147 X147 at_131 rfl rfl (l' := #[.val (.long i0), .second, .val (.int i1), .val (.int i2), .val (.int i3), .val (.int i4), .val (.int (1 : Int32)), .val (.double (FP.dneg (FP.l2d i0))), .second, .val (.double (FP.i2d fa)), .second, .val (.double (FP.i2d fb)), .second, .val (.double (FP.i2d fc)), .second, .val (.ref a127), .val (.ref a131), .unset, .unset, .unset, .unset, .unset]) rfl ?_
      refine OGo.new (pc' := 136) (cells' := 35) (slots' := 724) C147 X147 (wd182 hw) (wd183 hw) (wd184 hw) at_133 rfl rfl rfl (by decide) (by decide) (fun T148 h148 a148 X148 g148 q148 E148 A148 D148 U148 => ?_)
      have f150 := (f135.keep K147 (ninS ne132 nin0))
      have ne149 : a127 ≠ a148 := Nat.ne_of_lt (Nat.lt_of_lt_of_eq f150.lt g148.symm)
      have ne151 : a131 ≠ a148 := Nat.ne_of_lt (Nat.lt_of_lt_of_eq Ev147.lt g148.symm)
      have f153 := (A134.keep K147)
      have ne152 : a134 ≠ a148 := Nat.ne_of_lt (Nat.lt_of_lt_of_eq f153.lt g148.symm)
      have f155 := (V134.keep K147 (ninS (Ne.symm sn138.2) nin0))
      have ne154 : b134 ≠ a148 := Nat.ne_of_lt (Nat.lt_of_lt_of_eq f155.lt g148.symm)
      have Hd156 := Hd147.ext E148
      have F148_type : Fld Z h148 a148 "com/example/makespan/makespan/planning/TaskOnType" "type" "Lcom/example/makespan/makespan/model/VmType;" .null := D148 (Or.inr (wd193 hw)) (ty := (.object "com/example/makespan/makespan/model/VmType")) (by decide)
      have F148_billing : Fld Z h148 a148 "com/example/makespan/makespan/planning/TaskOnType" "billing" "Lcom/example/makespan/makespan/model/Billing;" .null := D148 (Or.inr (wd195 hw)) (ty := (.object "com/example/makespan/makespan/model/Billing")) (by decide)
      have F148_input : Fld Z h148 a148 "com/example/makespan/makespan/planning/TaskOnType" "input" "I" (.int (0 : Int32)) := D148 (Or.inr (wd197 hw)) (ty := .int) (by decide)
      have F148_arrival : Fld Z h148 a148 "com/example/makespan/makespan/planning/TaskOnType" "arrival" "D" (.double (0 : UInt64)) := D148 (Or.inr (wd199 hw)) (ty := .double) (by decide)
      have F148_ready : Fld Z h148 a148 "com/example/makespan/makespan/planning/TaskOnType" "ready" "D" (.double (0 : UInt64)) := D148 (Or.inr (wd209 hw)) (ty := .double) (by decide)
      have F148_seconds : Fld Z h148 a148 "com/example/makespan/makespan/planning/TaskOnType" "seconds" "D" (.double (0 : UInt64)) := D148 (Or.inr (wd211 hw)) (ty := .double) (by decide)
      have F148_fees : Fld Z h148 a148 "com/example/makespan/makespan/planning/TaskOnType" "fees" "[D" .null := D148 (Or.inr (wd213 hw)) (ty := (.array .double)) (by decide)
      have F148_feesAllZero : Fld Z h148 a148 "com/example/makespan/makespan/planning/TaskOnType" "feesAllZero" "Z" (.int (0 : Int32)) := D148 (Or.inr (wd215 hw)) (ty := .boolean) (by decide)
      refine OGo.dup (pc' := 137) C147 X148 at_136 rfl rfl ?_
      refine OGo.aload (pc' := 139) C147 X148 at_137 rfl rfl rfl ?_
      have f157 := ((f146.keep K147 (allS q131 all0)).ext E148)
      refine OGo.getstatic (pc' := 142) C147 X148 (host := "") (Or.inl (wd185 hw)) Via.refl (Sl.ext f157.2) at_139 rfl (fun T158 X158 => ?_)
      refine OGo.iconst (pc' := 143) (z := (0 : Int32)) C147 X158 at_142 rfl (by decide) ?_
      refine OGo.dconst0 (pc' := 144) (v := (FP.dconst0)) C147 X158 at_143 rfl rfl ?_
      refine OGo.dconst0 (pc' := 145) (v := (FP.dconst0)) C147 X158 at_144 rfl rfl ?_
      refine OGo.aload (pc' := 147) C147 X158 at_145 rfl rfl rfl ?_
      by_cases hz0 : fa = 0
      · have f159 := (Ev147.ext E148)
        have f160 := (Fb147.ext E148)
        have f161 := (f150.ext E148)
        refine OGo.callInit (pc' := 150) (cells' := 35) (slots' := 724) (argsL := [(.ref a131), (.ref bl), (.int (0 : Int32)), (.double (FP.dconst0)), (.double (FP.dconst0)), (.ref a127)]) (St := [(.ref a148)]) C147 X158 rfl rfl (wd188 hw) (wd189 hw) (by decide) (wd190 hw) (wd184 hw) (ctTk11R hw X158.2.1 a148 a131 a127 bl k127 fa A148 F148_type F148_billing F148_input F148_arrival F148_ready F148_seconds F148_fees F148_feesAllZero q148 f159 f160 f161 hz0) (lenOf pd25 rfl) rfl at_147 rfl rfl (by decide) (Nat.le_of_ble_eq_true rfl) rfl rfl (by decide) (by decide) (fun v162 T162 h162 Q162 X162 z162 => ?_)
        obtain ⟨hv162, K162, Et162, Ff162, Fz162⟩ := Q162
        subst hv162
        have Hd163 := Hd156.keep K162 (allS (Safe.exa (EL := consts_1) C147.2.1.alike A148 (by decide) (by decide)) all0)
        show OGo p e below _ T162 (mkF m 150 #[.val (.long i0), .second, .val (.int i1), .val (.int i2), .val (.int i3), .val (.int i4), .val (.int (1 : Int32)), .val (.double (FP.dneg (FP.l2d i0))), .second, .val (.double (FP.i2d fa)), .second, .val (.double (FP.i2d fb)), .second, .val (.double (FP.i2d fc)), .second, .val (.ref a127), .val (.ref a131), .unset, .unset, .unset, .unset, .unset] [(.ref a148)])
        refine OGo.astore (pc' := 152) C147 X162 at_150 rfl rfl (l' := #[.val (.long i0), .second, .val (.int i1), .val (.int i2), .val (.int i3), .val (.int i4), .val (.int (1 : Int32)), .val (.double (FP.dneg (FP.l2d i0))), .second, .val (.double (FP.i2d fa)), .second, .val (.double (FP.i2d fb)), .second, .val (.double (FP.i2d fc)), .second, .val (.ref a127), .val (.ref a131), .val (.ref a148), .unset, .unset, .unset, .unset]) rfl ?_
        refine OGo.aload (pc' := 154) C147 X162 at_152 rfl rfl rfl ?_
        refine OGo.dload (pc' := 156) C147 X162 at_154 rfl rfl ?_
        have f164 := (f161.keep K162 (ninS ne149 nin0))
        refine OGo.callV (pc' := 159) (cells' := 35) (slots' := 724) (argsL := [(.double (FP.dneg (FP.l2d i0)))]) (St := []) C147 X162 (wd216 hw) (wd217 hw) (wd219 hw) (wd218 hw) (by decide) Et162 (wd220 hw) (wd184 hw) (ctWf1Z hw X162.2.1 a148 a127 k127 fa (FP.dneg (FP.l2d i0)) Ff162 Fz162 f164 (own_lng i0)) (lenOf pd1 rfl) rfl at_156 rfl rfl (by decide) (Nat.le_of_ble_eq_true rfl) rfl rfl (by decide) (by decide) (fun v165 T165 h165 Q165 X165 z165 => ?_)
        obtain ⟨hv165, hh165⟩ := Q165
        subst hv165; rw [hh165] at X165
        show OGo p e below _ T165 (mkF m 159 #[.val (.long i0), .second, .val (.int i1), .val (.int i2), .val (.int i3), .val (.int i4), .val (.int (1 : Int32)), .val (.double (FP.dneg (FP.l2d i0))), .second, .val (.double (FP.i2d fa)), .second, .val (.double (FP.i2d fb)), .second, .val (.double (FP.i2d fc)), .second, .val (.ref a127), .val (.ref a131), .val (.ref a148), .unset, .unset, .unset, .unset] [(.double (FP.dadd (FP.dneg (FP.l2d i0)) (FP.dconst0)))])
        refine OGo.dstore (pc' := 161) C147 X165 at_159 rfl (l' := #[.val (.long i0), .second, .val (.int i1), .val (.int i2), .val (.int i3), .val (.int i4), .val (.int (1 : Int32)), .val (.double (FP.dneg (FP.l2d i0))), .second, .val (.double (FP.i2d fa)), .second, .val (.double (FP.i2d fb)), .second, .val (.double (FP.i2d fc)), .second, .val (.ref a127), .val (.ref a131), .val (.ref a148), .val (.double (FP.dadd (FP.dneg (FP.l2d i0)) (FP.dconst0))), .second, .unset, .unset]) rfl ?_
        refine OGo.dload (pc' := 163) C147 X165 at_161 rfl rfl ?_
        refine OGo.dstore (pc' := 165) C147 X165 at_163 rfl (l' := #[.val (.long i0), .second, .val (.int i1), .val (.int i2), .val (.int i3), .val (.int i4), .val (.int (1 : Int32)), .val (.double (FP.dneg (FP.l2d i0))), .second, .val (.double (FP.i2d fa)), .second, .val (.double (FP.i2d fb)), .second, .val (.double (FP.i2d fc)), .second, .val (.ref a127), .val (.ref a131), .val (.ref a148), .val (.double (FP.dadd (FP.dneg (FP.l2d i0)) (FP.dconst0))), .second, .val (.double (FP.dneg (FP.l2d i0))), .second]) rfl ?_
        refine OGo.iload (pc' := 167) C147 X165 at_165 rfl rfl ?_
        refine OGo.iconst (pc' := 168) (z := (1 : Int32)) C147 X165 at_167 rfl (by decide) ?_
        refine OGo.icmpNo (pc' := 171) C147 X165 at_168 rfl (flt (by decide : ¬ (1 : Int32) < (1 : Int32))).1 ?_
        refine OGo.dload (pc' := 173) C147 X165 at_171 rfl rfl ?_
        refine OGo.dload (pc' := 175) C147 X165 at_173 rfl rfl ?_
        refine OGo.dadd (pc' := 176) (v := (FP.dadd (FP.dneg (FP.l2d i0)) (FP.dconst0))) C147 X165 at_175 rfl (dadd_out (own_lng i0) (i2d_fin _)) (by rw [own_i0 hz0]) ?_
        refine OGo.dstore (pc' := 178) C147 X165 at_176 rfl (l' := #[.val (.long i0), .second, .val (.int i1), .val (.int i2), .val (.int i3), .val (.int i4), .val (.int (1 : Int32)), .val (.double (FP.dneg (FP.l2d i0))), .second, .val (.double (FP.i2d fa)), .second, .val (.double (FP.i2d fb)), .second, .val (.double (FP.i2d fc)), .second, .val (.ref a127), .val (.ref a131), .val (.ref a148), .val (.double (FP.dadd (FP.dneg (FP.l2d i0)) (FP.dconst0))), .second, .val (.double (FP.dadd (FP.dneg (FP.l2d i0)) (FP.dconst0))), .second]) rfl ?_
        refine OGo.iload (pc' := 180) C147 X165 at_178 rfl rfl ?_
        refine OGo.iconst (pc' := 181) (z := (2 : Int32)) C147 X165 at_180 rfl (by decide) ?_
        refine OGo.icmpYes (pc' := 191) C147 X165 at_181 (tlt (by decide : (1 : Int32) < (2 : Int32))).1 (by decide) (by decide) ?_
        refine OGo.iload (pc' := 193) C147 X165 at_191 rfl rfl ?_
        refine OGo.iconst (pc' := 194) (z := (3 : Int32)) C147 X165 at_193 rfl (by decide) ?_
        refine OGo.icmpYes (pc' := 204) C147 X165 at_194 (tlt (by decide : (1 : Int32) < (3 : Int32))).1 (by decide) (by decide) ?_
        refine OGo.dload (pc' := 206) C147 X165 at_204 rfl rfl ?_
        refine OGo.dload (pc' := 208) C147 X165 at_206 rfl rfl ?_
        refine OGo.callS (pc' := 211) (cells' := 35) (slots' := 724) (argsL := [(.double (FP.dadd (FP.dneg (FP.l2d i0)) (FP.dconst0))), (.double (FP.dadd (FP.dneg (FP.l2d i0)) (FP.dconst0)))]) (St := []) C147 X165 (wd221 hw) (wd222 hw) (by decide) (wd224 hw) (wd223 hw) (ctSame hw X165.2.1 (FP.dadd (FP.dneg (FP.l2d i0)) (FP.dconst0)) (dadd_out (own_lng i0) own_f0)) (lenOf pd26 rfl) rfl at_208 rfl rfl (by decide) (Nat.le_of_ble_eq_true rfl) rfl rfl (by decide) (by decide) (fun v166 T166 h166 Q166 X166 z166 => ?_)
        obtain ⟨hv166, hh166⟩ := Q166
        subst hv166; rw [hh166] at X166
        show OGo p e below _ T166 (mkF m 211 #[.val (.long i0), .second, .val (.int i1), .val (.int i2), .val (.int i3), .val (.int i4), .val (.int (1 : Int32)), .val (.double (FP.dneg (FP.l2d i0))), .second, .val (.double (FP.i2d fa)), .second, .val (.double (FP.i2d fb)), .second, .val (.double (FP.i2d fc)), .second, .val (.ref a127), .val (.ref a131), .val (.ref a148), .val (.double (FP.dadd (FP.dneg (FP.l2d i0)) (FP.dconst0))), .second, .val (.double (FP.dadd (FP.dneg (FP.l2d i0)) (FP.dconst0))), .second] [(.int (1 : Int32))])
        exact OGo.retWN C147 X166 (ew hw) Hd163 at_211 hret (by simp) (z' := (1 : Int32)) (by decide) hlk (fun _ _ => rfl) (by decide) (by decide)
      · have f167 := (Ev147.ext E148)
        have f168 := (Fb147.ext E148)
        have f169 := (f150.ext E148)
        refine OGo.callInit (pc' := 150) (cells' := 35) (slots' := 724) (argsL := [(.ref a131), (.ref bl), (.int (0 : Int32)), (.double (FP.dconst0)), (.double (FP.dconst0)), (.ref a127)]) (St := [(.ref a148)]) C147 X158 rfl rfl (wd188 hw) (wd189 hw) (by decide) (wd190 hw) (wd184 hw) (ctTk10R hw X158.2.1 a148 a131 a127 bl k127 fa A148 F148_type F148_billing F148_input F148_arrival F148_ready F148_seconds F148_fees F148_feesAllZero q148 f167 f168 f169 hz0) (lenOf pd25 rfl) rfl at_147 rfl rfl (by decide) (Nat.le_of_ble_eq_true rfl) rfl rfl (by decide) (by decide) (fun v170 T170 h170 Q170 X170 z170 => ?_)
        obtain ⟨hv170, K170, Et170, Ff170, Fz170⟩ := Q170
        subst hv170
        have Hd171 := Hd156.keep K170 (allS (Safe.exa (EL := consts_1) C147.2.1.alike A148 (by decide) (by decide)) all0)
        show OGo p e below _ T170 (mkF m 150 #[.val (.long i0), .second, .val (.int i1), .val (.int i2), .val (.int i3), .val (.int i4), .val (.int (1 : Int32)), .val (.double (FP.dneg (FP.l2d i0))), .second, .val (.double (FP.i2d fa)), .second, .val (.double (FP.i2d fb)), .second, .val (.double (FP.i2d fc)), .second, .val (.ref a127), .val (.ref a131), .unset, .unset, .unset, .unset, .unset] [(.ref a148)])
        refine OGo.astore (pc' := 152) C147 X170 at_150 rfl rfl (l' := #[.val (.long i0), .second, .val (.int i1), .val (.int i2), .val (.int i3), .val (.int i4), .val (.int (1 : Int32)), .val (.double (FP.dneg (FP.l2d i0))), .second, .val (.double (FP.i2d fa)), .second, .val (.double (FP.i2d fb)), .second, .val (.double (FP.i2d fc)), .second, .val (.ref a127), .val (.ref a131), .val (.ref a148), .unset, .unset, .unset, .unset]) rfl ?_
        refine OGo.aload (pc' := 154) C147 X170 at_152 rfl rfl rfl ?_
        refine OGo.dload (pc' := 156) C147 X170 at_154 rfl rfl ?_
        have f172 := (f169.keep K170 (ninS ne149 nin0))
        refine OGo.callV (pc' := 159) (cells' := 35) (slots' := 724) (argsL := [(.double (FP.dneg (FP.l2d i0)))]) (St := []) C147 X170 (wd216 hw) (wd217 hw) (wd219 hw) (wd218 hw) (by decide) Et170 (wd220 hw) (wd184 hw) (ctWf1S hw X170.2.1 a148 a127 k127 fa (FP.dneg (FP.l2d i0)) Ff170 Fz170 f172 (own_lng i0)) (lenOf pd1 rfl) rfl at_156 rfl rfl (by decide) (Nat.le_of_ble_eq_true rfl) rfl rfl (by decide) (by decide) (fun v173 T173 h173 Q173 X173 z173 => ?_)
        obtain ⟨hv173, hh173⟩ := Q173
        subst hv173; rw [hh173] at X173
        show OGo p e below _ T173 (mkF m 159 #[.val (.long i0), .second, .val (.int i1), .val (.int i2), .val (.int i3), .val (.int i4), .val (.int (1 : Int32)), .val (.double (FP.dneg (FP.l2d i0))), .second, .val (.double (FP.i2d fa)), .second, .val (.double (FP.i2d fb)), .second, .val (.double (FP.i2d fc)), .second, .val (.ref a127), .val (.ref a131), .val (.ref a148), .unset, .unset, .unset, .unset] [(.double (FP.dadd (FP.dneg (FP.l2d i0)) (FP.i2d fa)))])
        refine OGo.dstore (pc' := 161) C147 X173 at_159 rfl (l' := #[.val (.long i0), .second, .val (.int i1), .val (.int i2), .val (.int i3), .val (.int i4), .val (.int (1 : Int32)), .val (.double (FP.dneg (FP.l2d i0))), .second, .val (.double (FP.i2d fa)), .second, .val (.double (FP.i2d fb)), .second, .val (.double (FP.i2d fc)), .second, .val (.ref a127), .val (.ref a131), .val (.ref a148), .val (.double (FP.dadd (FP.dneg (FP.l2d i0)) (FP.i2d fa))), .second, .unset, .unset]) rfl ?_
        refine OGo.dload (pc' := 163) C147 X173 at_161 rfl rfl ?_
        refine OGo.dstore (pc' := 165) C147 X173 at_163 rfl (l' := #[.val (.long i0), .second, .val (.int i1), .val (.int i2), .val (.int i3), .val (.int i4), .val (.int (1 : Int32)), .val (.double (FP.dneg (FP.l2d i0))), .second, .val (.double (FP.i2d fa)), .second, .val (.double (FP.i2d fb)), .second, .val (.double (FP.i2d fc)), .second, .val (.ref a127), .val (.ref a131), .val (.ref a148), .val (.double (FP.dadd (FP.dneg (FP.l2d i0)) (FP.i2d fa))), .second, .val (.double (FP.dneg (FP.l2d i0))), .second]) rfl ?_
        refine OGo.iload (pc' := 167) C147 X173 at_165 rfl rfl ?_
        refine OGo.iconst (pc' := 168) (z := (1 : Int32)) C147 X173 at_167 rfl (by decide) ?_
        refine OGo.icmpNo (pc' := 171) C147 X173 at_168 rfl (flt (by decide : ¬ (1 : Int32) < (1 : Int32))).1 ?_
        refine OGo.dload (pc' := 173) C147 X173 at_171 rfl rfl ?_
        refine OGo.dload (pc' := 175) C147 X173 at_173 rfl rfl ?_
        refine OGo.dadd (pc' := 176) (v := (FP.dadd (FP.dneg (FP.l2d i0)) (FP.i2d fa))) C147 X173 at_175 rfl (dadd_out (own_lng i0) (i2d_fin _)) rfl ?_
        refine OGo.dstore (pc' := 178) C147 X173 at_176 rfl (l' := #[.val (.long i0), .second, .val (.int i1), .val (.int i2), .val (.int i3), .val (.int i4), .val (.int (1 : Int32)), .val (.double (FP.dneg (FP.l2d i0))), .second, .val (.double (FP.i2d fa)), .second, .val (.double (FP.i2d fb)), .second, .val (.double (FP.i2d fc)), .second, .val (.ref a127), .val (.ref a131), .val (.ref a148), .val (.double (FP.dadd (FP.dneg (FP.l2d i0)) (FP.i2d fa))), .second, .val (.double (FP.dadd (FP.dneg (FP.l2d i0)) (FP.i2d fa))), .second]) rfl ?_
        refine OGo.iload (pc' := 180) C147 X173 at_178 rfl rfl ?_
        refine OGo.iconst (pc' := 181) (z := (2 : Int32)) C147 X173 at_180 rfl (by decide) ?_
        refine OGo.icmpYes (pc' := 191) C147 X173 at_181 (tlt (by decide : (1 : Int32) < (2 : Int32))).1 (by decide) (by decide) ?_
        refine OGo.iload (pc' := 193) C147 X173 at_191 rfl rfl ?_
        refine OGo.iconst (pc' := 194) (z := (3 : Int32)) C147 X173 at_193 rfl (by decide) ?_
        refine OGo.icmpYes (pc' := 204) C147 X173 at_194 (tlt (by decide : (1 : Int32) < (3 : Int32))).1 (by decide) (by decide) ?_
        refine OGo.dload (pc' := 206) C147 X173 at_204 rfl rfl ?_
        refine OGo.dload (pc' := 208) C147 X173 at_206 rfl rfl ?_
        refine OGo.callS (pc' := 211) (cells' := 35) (slots' := 724) (argsL := [(.double (FP.dadd (FP.dneg (FP.l2d i0)) (FP.i2d fa))), (.double (FP.dadd (FP.dneg (FP.l2d i0)) (FP.i2d fa)))]) (St := []) C147 X173 (wd221 hw) (wd222 hw) (by decide) (wd224 hw) (wd223 hw) (ctSame hw X173.2.1 (FP.dadd (FP.dneg (FP.l2d i0)) (FP.i2d fa)) (dadd_out (own_lng i0) (i2d_fin _))) (lenOf pd26 rfl) rfl at_208 rfl rfl (by decide) (Nat.le_of_ble_eq_true rfl) rfl rfl (by decide) (by decide) (fun v174 T174 h174 Q174 X174 z174 => ?_)
        obtain ⟨hv174, hh174⟩ := Q174
        subst hv174; rw [hh174] at X174
        show OGo p e below _ T174 (mkF m 211 #[.val (.long i0), .second, .val (.int i1), .val (.int i2), .val (.int i3), .val (.int i4), .val (.int (1 : Int32)), .val (.double (FP.dneg (FP.l2d i0))), .second, .val (.double (FP.i2d fa)), .second, .val (.double (FP.i2d fb)), .second, .val (.double (FP.i2d fc)), .second, .val (.ref a127), .val (.ref a131), .val (.ref a148), .val (.double (FP.dadd (FP.dneg (FP.l2d i0)) (FP.i2d fa))), .second, .val (.double (FP.dadd (FP.dneg (FP.l2d i0)) (FP.i2d fa))), .second] [(.int (1 : Int32))])
        exact OGo.retWN C147 X174 (ew hw) Hd171 at_211 hret (by simp) (z' := (1 : Int32)) (by decide) hlk (fun _ _ => rfl) (by decide) (by decide)
  · refine OGo.istore (pc' := 5) C X0 at_3 rfl (l' := #[.val (.long i0), .second, .val (.int i1), .val (.int i2), .val (.int i3), .val (.int i4), .val (.int (2 : Int32)), .unset, .unset, .unset, .unset, .unset, .unset, .unset, .unset, .unset, .unset, .unset, .unset, .unset, .unset, .unset]) rfl ?_
    refine OGo.lloadN (pc' := 6) C X0 at_5 rfl rfl ?_
    refine OGo.l2d (pc' := 7) (v := (FP.l2d i0)) C X0 at_6 rfl rfl ?_
    refine OGo.dstore (pc' := 9) C X0 at_7 rfl (l' := #[.val (.long i0), .second, .val (.int i1), .val (.int i2), .val (.int i3), .val (.int i4), .val (.int (2 : Int32)), .val (.double (FP.l2d i0)), .second, .unset, .unset, .unset, .unset, .unset, .unset, .unset, .unset, .unset, .unset, .unset, .unset, .unset]) rfl ?_
    refine OGo.iloadN (pc' := 10) C X0 at_9 rfl rfl ?_
    refine OGo.iconst (pc' := 11) (z := (4 : Int32)) C X0 at_10 rfl (by decide) ?_
    obtain ⟨sg, h_sg⟩ : ∃ z : Int32, i1 &&& (4 : Int32) = z := ⟨_, rfl⟩
    refine OGo.iand (pc' := 12) (z := sg) C X0 at_11 rfl h_sg ?_
    by_cases hc175 : sg = (0 : Int32)
    · refine OGo.ifYes (pc' := 20) C X0 at_12 (teq hc175).1 (by decide) (by decide) ?_
      refine OGo.iloadN (pc' := 21) C X0 at_20 rfl rfl ?_
      refine OGo.ldcInt (pc' := 23) C X0 (wd0 hw) at_21 rfl ?_
      obtain ⟨fa, h_fa⟩ : ∃ z : Int32, i2 &&& (2147483647 : Int32) = z := ⟨_, rfl⟩
      refine OGo.iand (pc' := 24) (z := fa) C X0 at_23 rfl h_fa ?_
      refine OGo.i2d (pc' := 25) (v := (FP.i2d fa)) C X0 at_24 rfl rfl ?_
      refine OGo.dstore (pc' := 27) C X0 at_25 rfl (l' := #[.val (.long i0), .second, .val (.int i1), .val (.int i2), .val (.int i3), .val (.int i4), .val (.int (2 : Int32)), .val (.double (FP.l2d i0)), .second, .val (.double (FP.i2d fa)), .second, .unset, .unset, .unset, .unset, .unset, .unset, .unset, .unset, .unset, .unset, .unset]) rfl ?_
      refine OGo.iload (pc' := 29) C X0 at_27 rfl rfl ?_
      refine OGo.ldcInt (pc' := 31) C X0 (wd0 hw) at_29 rfl ?_
      obtain ⟨fb, h_fb⟩ : ∃ z : Int32, i3 &&& (2147483647 : Int32) = z := ⟨_, rfl⟩
      refine OGo.iand (pc' := 32) (z := fb) C X0 at_31 rfl h_fb ?_
      refine OGo.i2d (pc' := 33) (v := (FP.i2d fb)) C X0 at_32 rfl rfl ?_
      refine OGo.dstore (pc' := 35) C X0 at_33 rfl (l' := #[.val (.long i0), .second, .val (.int i1), .val (.int i2), .val (.int i3), .val (.int i4), .val (.int (2 : Int32)), .val (.double (FP.l2d i0)), .second, .val (.double (FP.i2d fa)), .second, .val (.double (FP.i2d fb)), .second, .unset, .unset, .unset, .unset, .unset, .unset, .unset, .unset, .unset]) rfl ?_
      refine OGo.iload (pc' := 37) C X0 at_35 rfl rfl ?_
      refine OGo.ldcInt (pc' := 39) C X0 (wd0 hw) at_37 rfl ?_
      obtain ⟨fc, h_fc⟩ : ∃ z : Int32, i4 &&& (2147483647 : Int32) = z := ⟨_, rfl⟩
      refine OGo.iand (pc' := 40) (z := fc) C X0 at_39 rfl h_fc ?_
      refine OGo.i2d (pc' := 41) (v := (FP.i2d fc)) C X0 at_40 rfl rfl ?_
      refine OGo.dstore (pc' := 43) C X0 at_41 rfl (l' := #[.val (.long i0), .second, .val (.int i1), .val (.int i2), .val (.int i3), .val (.int i4), .val (.int (2 : Int32)), .val (.double (FP.l2d i0)), .second, .val (.double (FP.i2d fa)), .second, .val (.double (FP.i2d fb)), .second, .val (.double (FP.i2d fc)), .second, .unset, .unset, .unset, .unset, .unset, .unset, .unset]) rfl ?_
      refine OGo.iload (pc' := 45) C X0 at_43 rfl rfl ?_
      refine OGo.ifYes (pc' := 56) C X0 at_45 (feq (by decide : ¬ (2 : Int32) = (0 : Int32))).2 (by decide) (by decide) ?_
      refine OGo.iload (pc' := 58) C X0 at_56 rfl rfl ?_
      refine OGo.iconst (pc' := 59) (z := (1 : Int32)) C X0 at_58 rfl (by decide) ?_
      refine OGo.icmpYes (pc' := 75) C X0 at_59 (feq (by decide : ¬ (2 : Int32) = (1 : Int32))).2 (by decide) (by decide) ?_
      refine OGo.iload (pc' := 77) C X0 at_75 rfl rfl ?_
      refine OGo.iconst (pc' := 78) (z := (2 : Int32)) C X0 at_77 rfl (by decide) ?_
      refine OGo.icmpNo (pc' := 81) C X0 at_78 rfl (teq (by decide : (2 : Int32) = (2 : Int32))).2 ?_
      refine OGo.iconst (pc' := 82) (z := (2 : Int32)) C X0 at_81 rfl (by decide) ?_
      refine OGo.newarray (pc' := 84) (cap := 2) (d0 := (.double (0 : UInt64))) (cells' := 1) (slots' := 2) C X0 (wd1 hw) rfl at_82 rfl (by decide) (by decide) (by decide) rfl rfl rfl (by decide) (by decide) (fun T176 h176 a176 k176 X176 g176 q176 E176 V176 => ?_)
      have Hd177 := H0.ext E176
      replace V176 : Arv Z h176 a176 k176 .double (2 : Int32) [(.double (0 : UInt64)), (.double (0 : UInt64))] (.double (0 : UInt64)) := V176.pad (pad_rep [] (.double (0 : UInt64)) 2)
      refine OGo.dup (pc' := 85) C X176 at_84 rfl rfl ?_
      refine OGo.iconst (pc' := 86) (z := (0 : Int32)) C X176 at_85 rfl (by decide) ?_
      refine OGo.dload (pc' := 88) C X176 at_86 rfl rfl ?_
      refine OGo.dastore (pc' := 89) C X176 V176 q176 (i := 0) at_88 rfl ⟨by decide, by decide⟩ (by decide) (Nat.le_of_ble_eq_true rfl) (fun T178 h178 X178 W178 V178 => ?_)
      replace V178 : Arv Z h178 a176 k176 .double (2 : Int32) [(.double (FP.i2d fa)), (.double (0 : UInt64))] (.double (0 : UInt64)) := V178
      have Hd179 := Hd177.wr W178 (safe_arv (EL := consts_1) C.2.1.alike V176 (by decide))
      refine OGo.dup (pc' := 90) C X178 at_89 rfl rfl ?_
      refine OGo.iconst (pc' := 91) (z := (1 : Int32)) C X178 at_90 rfl (by decide) ?_
      refine OGo.dload (pc' := 93) C X178 at_91 rfl rfl ?_
      refine OGo.dastore (pc' := 94) C X178 V178 q176 (i := 1) at_93 rfl ⟨by decide, by decide⟩ (by decide) (Nat.le_of_ble_eq_true rfl) (fun T180 h180 X180 W180 V180 => ?_)
      replace V180 : Arv Z h180 a176 k176 .double (2 : Int32) [(.double (FP.i2d fa)), (.double (FP.i2d fb))] (.double (0 : UInt64)) := V180
      have Hd181 := Hd179.wr W180 (safe_arv (EL := consts_1) C.2.1.alike V178 (by decide))
      refine OGo.astore (pc' := 96) C X180 at_94 rfl rfl (l' := #[.val (.long i0), .second, .val (.int i1), .val (.int i2), .val (.int i3), .val (.int i4), .val (.int (2 : Int32)), .val (.double (FP.l2d i0)), .second, .val (.double (FP.i2d fa)), .second, .val (.double (FP.i2d fb)), .second, .val (.double (FP.i2d fc)), .second, .val (.ref a176), .unset, .unset, .unset, .unset, .unset, .unset]) rfl ?_
      refine OGo.goto (pc' := 119) C X180 at_96 (by decide) (by decide) ?_
      refine OGo.new (pc' := 122) (cells' := 2) (slots' := 9) C X180 (wd2 hw) (wd3 hw) (wd4 hw) at_119 rfl rfl rfl (by decide) (by decide) (fun T182 h182 a182 X182 g182 q182 E182 A182 D182 U182 => ?_)
      have ne183 : a176 ≠ a182 := Nat.ne_of_lt (Nat.lt_of_lt_of_eq V180.lt g182.symm)
      have Hd184 := Hd181.ext E182
      have F182_name : Fld Z h182 a182 "com/example/makespan/makespan/model/VmType" "name" "Ljava/lang/String;" .null := D182 (Or.inr (wd30 hw)) (ty := (.object "java/lang/String")) (by decide)
      have F182_speed : Fld Z h182 a182 "com/example/makespan/makespan/model/VmType" "speed" "D" (.double (0 : UInt64)) := D182 (Or.inr (wd160 hw)) (ty := .double) (by decide)
      have F182_pricePerPeriod : Fld Z h182 a182 "com/example/makespan/makespan/model/VmType" "pricePerPeriod" "D" (.double (0 : UInt64)) := D182 (Or.inr (wd169 hw)) (ty := .double) (by decide)
      have F182_periodSeconds : Fld Z h182 a182 "com/example/makespan/makespan/model/VmType" "periodSeconds" "D" (.double (0 : UInt64)) := D182 (Or.inr (wd172 hw)) (ty := .double) (by decide)
      have F182_bootSeconds : Fld Z h182 a182 "com/example/makespan/makespan/model/VmType" "bootSeconds" "D" (.double (0 : UInt64)) := D182 (Or.inr (wd176 hw)) (ty := .double) (by decide)
      have F182_bootBilled : Fld Z h182 a182 "com/example/makespan/makespan/model/VmType" "bootBilled" "Z" (.int (0 : Int32)) := D182 (Or.inr (wd178 hw)) (ty := .boolean) (by decide)
      have F182_startupFee : Fld Z h182 a182 "com/example/makespan/makespan/model/VmType" "startupFee" "D" (.double (0 : UInt64)) := D182 (Or.inr (wd181 hw)) (ty := .double) (by decide)
      refine OGo.dup (pc' := 123) C X182 at_122 rfl rfl ?_
      refine OGo.ldcC (pc' := 125) (n := 4) (cells' := 4) (slots' := 17) (z := (1 : Int32)) (vs := [(.int (116 : Int32))]) C X182 (ew hw) Hd184 (wd5 hw) (wS hw) (List.mem_of_getElem? (i := 8) rfl) ⟨by decide +kernel, by first | rfl | decide +kernel⟩ (by decide) rfl at_123 rfl (by decide +kernel) (by decide) rfl rfl (by decide) (by decide) (fun vm185 T185 h185 a185 b185 k185 C185 X185 Hd185 E185 R185 A185 F185a F185b V185 sf185 => ?_)
      have f186 := ((V180.ext E182).ext E185)
      have sn187 := sf185 a176 (safe_arv (EL := consts_1) C185.2.1.alike f186 (by decide))
      have f188 := (A182.ext E185)
      have sn189 := sf185 a182 (Safe.exa (EL := consts_1) C185.2.1.alike f188 (by decide) (by decide))
      refine OGo.dconst1 (pc' := 126) (v := (FP.dconst1)) C185 X185 at_125 rfl rfl ?_
      refine OGo.dconst1 (pc' := 127) (v := (FP.dconst1)) C185 X185 at_126 rfl rfl ?_
      refine OGo.dconst1 (pc' := 128) (v := (FP.dconst1)) C185 X185 at_127 rfl rfl ?_
      have f190 := (F182_name.ext E185)
      have f191 := (F182_speed.ext E185)
      have f192 := (F182_pricePerPeriod.ext E185)
      have f193 := (F182_periodSeconds.ext E185)
      have f194 := (F182_bootSeconds.ext E185)
      have f195 := (F182_bootBilled.ext E185)
      have f196 := (F182_startupFee.ext E185)
      have f197 := (((((OD.ext E176).wr W178 q176).wr W180 q176).ext E182).ext E185)
      refine OGo.callWInit (pc' := 131) (cells' := 34) (slots' := 717) (argsL := [(.ref a185), (.double (FP.dconst1)), (.double (FP.dconst1)), (.double (FP.dconst1))]) (St := [(.ref a182)]) C185 X185 (ew hw) Hd185 rfl rfl (wd13 hw) (wd14 hw) (by decide) (wd15 hw) (wd4 hw) (ctV4 hw X185.2.1 a182 a185 b185 k185 cz f188 f190 f191 f192 f193 f194 f195 f196 q182 A185 F185b F185a V185 f197 S2 hcz) (fun _ hx => by cases hx) (lenOf pd24 rfl) rfl at_128 rfl rfl (by decide) (Nat.le_of_ble_eq_true rfl) rfl rfl (by decide) (by decide) (fun v198 vm198 T198 h198 Q198 C198 X198 Hd198 R198 => ?_)
      obtain ⟨hv198, K198, Ev198, Fb198⟩ := Q198
      subst hv198
      show OGo p e below _ T198 (mkF m 131 #[.val (.long i0), .second, .val (.int i1), .val (.int i2), .val (.int i3), .val (.int i4), .val (.int (2 : Int32)), .val (.double (FP.l2d i0)), .second, .val (.double (FP.i2d fa)), .second, .val (.double (FP.i2d fb)), .second, .val (.double (FP.i2d fc)), .second, .val (.ref a176), .unset, .unset, .unset, .unset, .unset, .unset] [(.ref a182)])
      refine OGo.astore (pc' := 133) C198 X198 at_131 rfl rfl (l' := #[.val (.long i0), .second, .val (.int i1), .val (.int i2), .val (.int i3), .val (.int i4), .val (.int (2 : Int32)), .val (.double (FP.l2d i0)), .second, .val (.double (FP.i2d fa)), .second, .val (.double (FP.i2d fb)), .second, .val (.double (FP.i2d fc)), .second, .val (.ref a176), .val (.ref a182), .unset, .unset, .unset, .unset, .unset]) rfl ?_
      refine OGo.new (pc' := 136) (cells' := 35) (slots' := 725) C198 X198 (wd182 hw) (wd183 hw) (wd184 hw) at_133 rfl rfl rfl (by decide) (by decide) (fun T199 h199 a199 X199 g199 q199 E199 A199 D199 U199 => ?_)
      have f201 := (f186.keep K198 (ninS ne183 nin0))
      have ne200 : a176 ≠ a199 := Nat.ne_of_lt (Nat.lt_of_lt_of_eq f201.lt g199.symm)
      have ne202 : a182 ≠ a199 := Nat.ne_of_lt (Nat.lt_of_lt_of_eq Ev198.lt g199.symm)
      have f204 := (A185.keep K198)
      have ne203 : a185 ≠ a199 := Nat.ne_of_lt (Nat.lt_of_lt_of_eq f204.lt g199.symm)
      have f206 := (V185.keep K198 (ninS (Ne.symm sn189.2) nin0))
      have ne205 : b185 ≠ a199 := Nat.ne_of_lt (Nat.lt_of_lt_of_eq f206.lt g199.symm)
      have Hd207 := Hd198.ext E199
      have F199_type : Fld Z h199 a199 "com/example/makespan/makespan/planning/TaskOnType" "type" "Lcom/example/makespan/makespan/model/VmType;" .null := D199 (Or.inr (wd193 hw)) (ty := (.object "com/example/makespan/makespan/model/VmType")) (by decide)
      have F199_billing : Fld Z h199 a199 "com/example/makespan/makespan/planning/TaskOnType" "billing" "Lcom/example/makespan/makespan/model/Billing;" .null := D199 (Or.inr (wd195 hw)) (ty := (.object "com/example/makespan/makespan/model/Billing")) (by decide)
      have F199_input : Fld Z h199 a199 "com/example/makespan/makespan/planning/TaskOnType" "input" "I" (.int (0 : Int32)) := D199 (Or.inr (wd197 hw)) (ty := .int) (by decide)
      have F199_arrival : Fld Z h199 a199 "com/example/makespan/makespan/planning/TaskOnType" "arrival" "D" (.double (0 : UInt64)) := D199 (Or.inr (wd199 hw)) (ty := .double) (by decide)
      have F199_ready : Fld Z h199 a199 "com/example/makespan/makespan/planning/TaskOnType" "ready" "D" (.double (0 : UInt64)) := D199 (Or.inr (wd209 hw)) (ty := .double) (by decide)
      have F199_seconds : Fld Z h199 a199 "com/example/makespan/makespan/planning/TaskOnType" "seconds" "D" (.double (0 : UInt64)) := D199 (Or.inr (wd211 hw)) (ty := .double) (by decide)
      have F199_fees : Fld Z h199 a199 "com/example/makespan/makespan/planning/TaskOnType" "fees" "[D" .null := D199 (Or.inr (wd213 hw)) (ty := (.array .double)) (by decide)
      have F199_feesAllZero : Fld Z h199 a199 "com/example/makespan/makespan/planning/TaskOnType" "feesAllZero" "Z" (.int (0 : Int32)) := D199 (Or.inr (wd215 hw)) (ty := .boolean) (by decide)
      refine OGo.dup (pc' := 137) C198 X199 at_136 rfl rfl ?_
      refine OGo.aload (pc' := 139) C198 X199 at_137 rfl rfl rfl ?_
      have f208 := ((f197.keep K198 (allS q182 all0)).ext E199)
      refine OGo.getstatic (pc' := 142) C198 X199 (host := "") (Or.inl (wd185 hw)) Via.refl (Sl.ext f208.2) at_139 rfl (fun T209 X209 => ?_)
      refine OGo.iconst (pc' := 143) (z := (0 : Int32)) C198 X209 at_142 rfl (by decide) ?_
      refine OGo.dconst0 (pc' := 144) (v := (FP.dconst0)) C198 X209 at_143 rfl rfl ?_
      refine OGo.dconst0 (pc' := 145) (v := (FP.dconst0)) C198 X209 at_144 rfl rfl ?_
      refine OGo.aload (pc' := 147) C198 X209 at_145 rfl rfl rfl ?_
      by_cases hz0 : fa = 0
      · by_cases hz1 : fb = 0
        · have f210 := (Ev198.ext E199)
          have f211 := (Fb198.ext E199)
          have f212 := (f201.ext E199)
          refine OGo.callInit (pc' := 150) (cells' := 35) (slots' := 725) (argsL := [(.ref a182), (.ref bl), (.int (0 : Int32)), (.double (FP.dconst0)), (.double (FP.dconst0)), (.ref a176)]) (St := [(.ref a199)]) C198 X209 rfl rfl (wd188 hw) (wd189 hw) (by decide) (wd190 hw) (wd184 hw) (ctTk22R hw X209.2.1 a199 a182 a176 bl k176 fa fb A199 F199_type F199_billing F199_input F199_arrival F199_ready F199_seconds F199_fees F199_feesAllZero q199 f210 f211 f212 hz0 hz1) (lenOf pd25 rfl) rfl at_147 rfl rfl (by decide) (Nat.le_of_ble_eq_true rfl) rfl rfl (by decide) (by decide) (fun v213 T213 h213 Q213 X213 z213 => ?_)
          obtain ⟨hv213, K213, Et213, Ff213, Fz213⟩ := Q213
          subst hv213
          have Hd214 := Hd207.keep K213 (allS (Safe.exa (EL := consts_1) C198.2.1.alike A199 (by decide) (by decide)) all0)
          show OGo p e below _ T213 (mkF m 150 #[.val (.long i0), .second, .val (.int i1), .val (.int i2), .val (.int i3), .val (.int i4), .val (.int (2 : Int32)), .val (.double (FP.l2d i0)), .second, .val (.double (FP.i2d fa)), .second, .val (.double (FP.i2d fb)), .second, .val (.double (FP.i2d fc)), .second, .val (.ref a176), .val (.ref a182), .unset, .unset, .unset, .unset, .unset] [(.ref a199)])
          refine OGo.astore (pc' := 152) C198 X213 at_150 rfl rfl (l' := #[.val (.long i0), .second, .val (.int i1), .val (.int i2), .val (.int i3), .val (.int i4), .val (.int (2 : Int32)), .val (.double (FP.l2d i0)), .second, .val (.double (FP.i2d fa)), .second, .val (.double (FP.i2d fb)), .second, .val (.double (FP.i2d fc)), .second, .val (.ref a176), .val (.ref a182), .val (.ref a199), .unset, .unset, .unset, .unset]) rfl ?_
          refine OGo.aload (pc' := 154) C198 X213 at_152 rfl rfl rfl ?_
          refine OGo.dload (pc' := 156) C198 X213 at_154 rfl rfl ?_
          have f215 := (f212.keep K213 (ninS ne200 nin0))
          refine OGo.callV (pc' := 159) (cells' := 35) (slots' := 725) (argsL := [(.double (FP.l2d i0))]) (St := []) C198 X213 (wd216 hw) (wd217 hw) (wd219 hw) (wd218 hw) (by decide) Et213 (wd220 hw) (wd184 hw) (ctWf2Z hw X213.2.1 a199 a176 k176 fa fb (FP.l2d i0) Ff213 Fz213 f215 (own_ln i0)) (lenOf pd1 rfl) rfl at_156 rfl rfl (by decide) (Nat.le_of_ble_eq_true rfl) rfl rfl (by decide) (by decide) (fun v216 T216 h216 Q216 X216 z216 => ?_)
          obtain ⟨hv216, hh216⟩ := Q216
          subst hv216; rw [hh216] at X216
          show OGo p e below _ T216 (mkF m 159 #[.val (.long i0), .second, .val (.int i1), .val (.int i2), .val (.int i3), .val (.int i4), .val (.int (2 : Int32)), .val (.double (FP.l2d i0)), .second, .val (.double (FP.i2d fa)), .second, .val (.double (FP.i2d fb)), .second, .val (.double (FP.i2d fc)), .second, .val (.ref a176), .val (.ref a182), .val (.ref a199), .unset, .unset, .unset, .unset] [(.double (FP.dadd (FP.l2d i0) (FP.dconst0)))])
          refine OGo.dstore (pc' := 161) C198 X216 at_159 rfl (l' := #[.val (.long i0), .second, .val (.int i1), .val (.int i2), .val (.int i3), .val (.int i4), .val (.int (2 : Int32)), .val (.double (FP.l2d i0)), .second, .val (.double (FP.i2d fa)), .second, .val (.double (FP.i2d fb)), .second, .val (.double (FP.i2d fc)), .second, .val (.ref a176), .val (.ref a182), .val (.ref a199), .val (.double (FP.dadd (FP.l2d i0) (FP.dconst0))), .second, .unset, .unset]) rfl ?_
          refine OGo.dload (pc' := 163) C198 X216 at_161 rfl rfl ?_
          refine OGo.dstore (pc' := 165) C198 X216 at_163 rfl (l' := #[.val (.long i0), .second, .val (.int i1), .val (.int i2), .val (.int i3), .val (.int i4), .val (.int (2 : Int32)), .val (.double (FP.l2d i0)), .second, .val (.double (FP.i2d fa)), .second, .val (.double (FP.i2d fb)), .second, .val (.double (FP.i2d fc)), .second, .val (.ref a176), .val (.ref a182), .val (.ref a199), .val (.double (FP.dadd (FP.l2d i0) (FP.dconst0))), .second, .val (.double (FP.l2d i0)), .second]) rfl ?_
          refine OGo.iload (pc' := 167) C198 X216 at_165 rfl rfl ?_
          refine OGo.iconst (pc' := 168) (z := (1 : Int32)) C198 X216 at_167 rfl (by decide) ?_
          refine OGo.icmpNo (pc' := 171) C198 X216 at_168 rfl (flt (by decide : ¬ (2 : Int32) < (1 : Int32))).1 ?_
          refine OGo.dload (pc' := 173) C198 X216 at_171 rfl rfl ?_
          refine OGo.dload (pc' := 175) C198 X216 at_173 rfl rfl ?_
          refine OGo.dadd (pc' := 176) (v := (FP.dadd (FP.l2d i0) (FP.dconst0))) C198 X216 at_175 rfl (dadd_out (own_ln i0) (i2d_fin _)) (by rw [own_i0 hz0]) ?_
          refine OGo.dstore (pc' := 178) C198 X216 at_176 rfl (l' := #[.val (.long i0), .second, .val (.int i1), .val (.int i2), .val (.int i3), .val (.int i4), .val (.int (2 : Int32)), .val (.double (FP.l2d i0)), .second, .val (.double (FP.i2d fa)), .second, .val (.double (FP.i2d fb)), .second, .val (.double (FP.i2d fc)), .second, .val (.ref a176), .val (.ref a182), .val (.ref a199), .val (.double (FP.dadd (FP.l2d i0) (FP.dconst0))), .second, .val (.double (FP.dadd (FP.l2d i0) (FP.dconst0))), .second]) rfl ?_
          refine OGo.iload (pc' := 180) C198 X216 at_178 rfl rfl ?_
          refine OGo.iconst (pc' := 181) (z := (2 : Int32)) C198 X216 at_180 rfl (by decide) ?_
          refine OGo.icmpNo (pc' := 184) C198 X216 at_181 rfl (flt (by decide : ¬ (2 : Int32) < (2 : Int32))).1 ?_
          refine OGo.dload (pc' := 186) C198 X216 at_184 rfl rfl ?_
          refine OGo.dload (pc' := 188) C198 X216 at_186 rfl rfl ?_
          refine OGo.dadd (pc' := 189) (v := (FP.dadd (FP.l2d i0) (FP.dconst0))) C198 X216 at_188 rfl (dadd_out (dadd_out (own_ln i0) own_f0) (i2d_fin _)) (by rw [own_i0 hz1]; exact own_add00 (own_ln i0)) ?_
          refine OGo.dstore (pc' := 191) C198 X216 at_189 rfl (l' := #[.val (.long i0), .second, .val (.int i1), .val (.int i2), .val (.int i3), .val (.int i4), .val (.int (2 : Int32)), .val (.double (FP.l2d i0)), .second, .val (.double (FP.i2d fa)), .second, .val (.double (FP.i2d fb)), .second, .val (.double (FP.i2d fc)), .second, .val (.ref a176), .val (.ref a182), .val (.ref a199), .val (.double (FP.dadd (FP.l2d i0) (FP.dconst0))), .second, .val (.double (FP.dadd (FP.l2d i0) (FP.dconst0))), .second]) rfl ?_
          refine OGo.iload (pc' := 193) C198 X216 at_191 rfl rfl ?_
          refine OGo.iconst (pc' := 194) (z := (3 : Int32)) C198 X216 at_193 rfl (by decide) ?_
          refine OGo.icmpYes (pc' := 204) C198 X216 at_194 (tlt (by decide : (2 : Int32) < (3 : Int32))).1 (by decide) (by decide) ?_
          refine OGo.dload (pc' := 206) C198 X216 at_204 rfl rfl ?_
          refine OGo.dload (pc' := 208) C198 X216 at_206 rfl rfl ?_
          refine OGo.callS (pc' := 211) (cells' := 35) (slots' := 725) (argsL := [(.double (FP.dadd (FP.l2d i0) (FP.dconst0))), (.double (FP.dadd (FP.l2d i0) (FP.dconst0)))]) (St := []) C198 X216 (wd221 hw) (wd222 hw) (by decide) (wd224 hw) (wd223 hw) (ctSame hw X216.2.1 (FP.dadd (FP.l2d i0) (FP.dconst0)) (dadd_out (own_ln i0) own_f0)) (lenOf pd26 rfl) rfl at_208 rfl rfl (by decide) (Nat.le_of_ble_eq_true rfl) rfl rfl (by decide) (by decide) (fun v217 T217 h217 Q217 X217 z217 => ?_)
          obtain ⟨hv217, hh217⟩ := Q217
          subst hv217; rw [hh217] at X217
          show OGo p e below _ T217 (mkF m 211 #[.val (.long i0), .second, .val (.int i1), .val (.int i2), .val (.int i3), .val (.int i4), .val (.int (2 : Int32)), .val (.double (FP.l2d i0)), .second, .val (.double (FP.i2d fa)), .second, .val (.double (FP.i2d fb)), .second, .val (.double (FP.i2d fc)), .second, .val (.ref a176), .val (.ref a182), .val (.ref a199), .val (.double (FP.dadd (FP.l2d i0) (FP.dconst0))), .second, .val (.double (FP.dadd (FP.l2d i0) (FP.dconst0))), .second] [(.int (1 : Int32))])
          exact OGo.retWN C198 X217 (ew hw) Hd214 at_211 hret (by simp) (z' := (1 : Int32)) (by decide) hlk (fun _ _ => rfl) (by decide) (by decide)
        · have f218 := (Ev198.ext E199)
          have f219 := (Fb198.ext E199)
          have f220 := (f201.ext E199)
          refine OGo.callInit (pc' := 150) (cells' := 35) (slots' := 725) (argsL := [(.ref a182), (.ref bl), (.int (0 : Int32)), (.double (FP.dconst0)), (.double (FP.dconst0)), (.ref a176)]) (St := [(.ref a199)]) C198 X209 rfl rfl (wd188 hw) (wd189 hw) (by decide) (wd190 hw) (wd184 hw) (ctTk21R hw X209.2.1 a199 a182 a176 bl k176 fa fb A199 F199_type F199_billing F199_input F199_arrival F199_ready F199_seconds F199_fees F199_feesAllZero q199 f218 f219 f220 hz0 hz1) (lenOf pd25 rfl) rfl at_147 rfl rfl (by decide) (Nat.le_of_ble_eq_true rfl) rfl rfl (by decide) (by decide) (fun v221 T221 h221 Q221 X221 z221 => ?_)
          obtain ⟨hv221, K221, Et221, Ff221, Fz221⟩ := Q221
          subst hv221
          have Hd222 := Hd207.keep K221 (allS (Safe.exa (EL := consts_1) C198.2.1.alike A199 (by decide) (by decide)) all0)
          show OGo p e below _ T221 (mkF m 150 #[.val (.long i0), .second, .val (.int i1), .val (.int i2), .val (.int i3), .val (.int i4), .val (.int (2 : Int32)), .val (.double (FP.l2d i0)), .second, .val (.double (FP.i2d fa)), .second, .val (.double (FP.i2d fb)), .second, .val (.double (FP.i2d fc)), .second, .val (.ref a176), .val (.ref a182), .unset, .unset, .unset, .unset, .unset] [(.ref a199)])
          refine OGo.astore (pc' := 152) C198 X221 at_150 rfl rfl (l' := #[.val (.long i0), .second, .val (.int i1), .val (.int i2), .val (.int i3), .val (.int i4), .val (.int (2 : Int32)), .val (.double (FP.l2d i0)), .second, .val (.double (FP.i2d fa)), .second, .val (.double (FP.i2d fb)), .second, .val (.double (FP.i2d fc)), .second, .val (.ref a176), .val (.ref a182), .val (.ref a199), .unset, .unset, .unset, .unset]) rfl ?_
          refine OGo.aload (pc' := 154) C198 X221 at_152 rfl rfl rfl ?_
          refine OGo.dload (pc' := 156) C198 X221 at_154 rfl rfl ?_
          have f223 := (f220.keep K221 (ninS ne200 nin0))
          refine OGo.callV (pc' := 159) (cells' := 35) (slots' := 725) (argsL := [(.double (FP.l2d i0))]) (St := []) C198 X221 (wd216 hw) (wd217 hw) (wd219 hw) (wd218 hw) (by decide) Et221 (wd220 hw) (wd184 hw) (ctWf2S hw X221.2.1 a199 a176 k176 fa fb (FP.l2d i0) Ff221 Fz221 f223 (own_ln i0)) (lenOf pd1 rfl) rfl at_156 rfl rfl (by decide) (Nat.le_of_ble_eq_true rfl) rfl rfl (by decide) (by decide) (fun v224 T224 h224 Q224 X224 z224 => ?_)
          obtain ⟨hv224, hh224⟩ := Q224
          subst hv224; rw [hh224] at X224
          show OGo p e below _ T224 (mkF m 159 #[.val (.long i0), .second, .val (.int i1), .val (.int i2), .val (.int i3), .val (.int i4), .val (.int (2 : Int32)), .val (.double (FP.l2d i0)), .second, .val (.double (FP.i2d fa)), .second, .val (.double (FP.i2d fb)), .second, .val (.double (FP.i2d fc)), .second, .val (.ref a176), .val (.ref a182), .val (.ref a199), .unset, .unset, .unset, .unset] [(.double (FP.dadd (FP.dadd (FP.l2d i0) (FP.i2d fa)) (FP.i2d fb)))])
          refine OGo.dstore (pc' := 161) C198 X224 at_159 rfl (l' := #[.val (.long i0), .second, .val (.int i1), .val (.int i2), .val (.int i3), .val (.int i4), .val (.int (2 : Int32)), .val (.double (FP.l2d i0)), .second, .val (.double (FP.i2d fa)), .second, .val (.double (FP.i2d fb)), .second, .val (.double (FP.i2d fc)), .second, .val (.ref a176), .val (.ref a182), .val (.ref a199), .val (.double (FP.dadd (FP.dadd (FP.l2d i0) (FP.i2d fa)) (FP.i2d fb))), .second, .unset, .unset]) rfl ?_
          refine OGo.dload (pc' := 163) C198 X224 at_161 rfl rfl ?_
          refine OGo.dstore (pc' := 165) C198 X224 at_163 rfl (l' := #[.val (.long i0), .second, .val (.int i1), .val (.int i2), .val (.int i3), .val (.int i4), .val (.int (2 : Int32)), .val (.double (FP.l2d i0)), .second, .val (.double (FP.i2d fa)), .second, .val (.double (FP.i2d fb)), .second, .val (.double (FP.i2d fc)), .second, .val (.ref a176), .val (.ref a182), .val (.ref a199), .val (.double (FP.dadd (FP.dadd (FP.l2d i0) (FP.i2d fa)) (FP.i2d fb))), .second, .val (.double (FP.l2d i0)), .second]) rfl ?_
          refine OGo.iload (pc' := 167) C198 X224 at_165 rfl rfl ?_
          refine OGo.iconst (pc' := 168) (z := (1 : Int32)) C198 X224 at_167 rfl (by decide) ?_
          refine OGo.icmpNo (pc' := 171) C198 X224 at_168 rfl (flt (by decide : ¬ (2 : Int32) < (1 : Int32))).1 ?_
          refine OGo.dload (pc' := 173) C198 X224 at_171 rfl rfl ?_
          refine OGo.dload (pc' := 175) C198 X224 at_173 rfl rfl ?_
          refine OGo.dadd (pc' := 176) (v := (FP.dadd (FP.l2d i0) (FP.i2d fa))) C198 X224 at_175 rfl (dadd_out (own_ln i0) (i2d_fin _)) rfl ?_
          refine OGo.dstore (pc' := 178) C198 X224 at_176 rfl (l' := #[.val (.long i0), .second, .val (.int i1), .val (.int i2), .val (.int i3), .val (.int i4), .val (.int (2 : Int32)), .val (.double (FP.l2d i0)), .second, .val (.double (FP.i2d fa)), .second, .val (.double (FP.i2d fb)), .second, .val (.double (FP.i2d fc)), .second, .val (.ref a176), .val (.ref a182), .val (.ref a199), .val (.double (FP.dadd (FP.dadd (FP.l2d i0) (FP.i2d fa)) (FP.i2d fb))), .second, .val (.double (FP.dadd (FP.l2d i0) (FP.i2d fa))), .second]) rfl ?_
          refine OGo.iload (pc' := 180) C198 X224 at_178 rfl rfl ?_
          refine OGo.iconst (pc' := 181) (z := (2 : Int32)) C198 X224 at_180 rfl (by decide) ?_
          refine OGo.icmpNo (pc' := 184) C198 X224 at_181 rfl (flt (by decide : ¬ (2 : Int32) < (2 : Int32))).1 ?_
          refine OGo.dload (pc' := 186) C198 X224 at_184 rfl rfl ?_
          refine OGo.dload (pc' := 188) C198 X224 at_186 rfl rfl ?_
          refine OGo.dadd (pc' := 189) (v := (FP.dadd (FP.dadd (FP.l2d i0) (FP.i2d fa)) (FP.i2d fb))) C198 X224 at_188 rfl (dadd_out (dadd_out (own_ln i0) (i2d_fin _)) (i2d_fin _)) rfl ?_
          refine OGo.dstore (pc' := 191) C198 X224 at_189 rfl (l' := #[.val (.long i0), .second, .val (.int i1), .val (.int i2), .val (.int i3), .val (.int i4), .val (.int (2 : Int32)), .val (.double (FP.l2d i0)), .second, .val (.double (FP.i2d fa)), .second, .val (.double (FP.i2d fb)), .second, .val (.double (FP.i2d fc)), .second, .val (.ref a176), .val (.ref a182), .val (.ref a199), .val (.double (FP.dadd (FP.dadd (FP.l2d i0) (FP.i2d fa)) (FP.i2d fb))), .second, .val (.double (FP.dadd (FP.dadd (FP.l2d i0) (FP.i2d fa)) (FP.i2d fb))), .second]) rfl ?_
          refine OGo.iload (pc' := 193) C198 X224 at_191 rfl rfl ?_
          refine OGo.iconst (pc' := 194) (z := (3 : Int32)) C198 X224 at_193 rfl (by decide) ?_
          refine OGo.icmpYes (pc' := 204) C198 X224 at_194 (tlt (by decide : (2 : Int32) < (3 : Int32))).1 (by decide) (by decide) ?_
          refine OGo.dload (pc' := 206) C198 X224 at_204 rfl rfl ?_
          refine OGo.dload (pc' := 208) C198 X224 at_206 rfl rfl ?_
          refine OGo.callS (pc' := 211) (cells' := 35) (slots' := 725) (argsL := [(.double (FP.dadd (FP.dadd (FP.l2d i0) (FP.i2d fa)) (FP.i2d fb))), (.double (FP.dadd (FP.dadd (FP.l2d i0) (FP.i2d fa)) (FP.i2d fb)))]) (St := []) C198 X224 (wd221 hw) (wd222 hw) (by decide) (wd224 hw) (wd223 hw) (ctSame hw X224.2.1 (FP.dadd (FP.dadd (FP.l2d i0) (FP.i2d fa)) (FP.i2d fb)) (dadd_out (dadd_out (own_ln i0) (i2d_fin _)) (i2d_fin _))) (lenOf pd26 rfl) rfl at_208 rfl rfl (by decide) (Nat.le_of_ble_eq_true rfl) rfl rfl (by decide) (by decide) (fun v225 T225 h225 Q225 X225 z225 => ?_)
          obtain ⟨hv225, hh225⟩ := Q225
          subst hv225; rw [hh225] at X225
          show OGo p e below _ T225 (mkF m 211 #[.val (.long i0), .second, .val (.int i1), .val (.int i2), .val (.int i3), .val (.int i4), .val (.int (2 : Int32)), .val (.double (FP.l2d i0)), .second, .val (.double (FP.i2d fa)), .second, .val (.double (FP.i2d fb)), .second, .val (.double (FP.i2d fc)), .second, .val (.ref a176), .val (.ref a182), .val (.ref a199), .val (.double (FP.dadd (FP.dadd (FP.l2d i0) (FP.i2d fa)) (FP.i2d fb))), .second, .val (.double (FP.dadd (FP.dadd (FP.l2d i0) (FP.i2d fa)) (FP.i2d fb))), .second] [(.int (1 : Int32))])
          exact OGo.retWN C198 X225 (ew hw) Hd222 at_211 hret (by simp) (z' := (1 : Int32)) (by decide) hlk (fun _ _ => rfl) (by decide) (by decide)
      · have f226 := (Ev198.ext E199)
        have f227 := (Fb198.ext E199)
        have f228 := (f201.ext E199)
        refine OGo.callInit (pc' := 150) (cells' := 35) (slots' := 725) (argsL := [(.ref a182), (.ref bl), (.int (0 : Int32)), (.double (FP.dconst0)), (.double (FP.dconst0)), (.ref a176)]) (St := [(.ref a199)]) C198 X209 rfl rfl (wd188 hw) (wd189 hw) (by decide) (wd190 hw) (wd184 hw) (ctTk20R hw X209.2.1 a199 a182 a176 bl k176 fa fb A199 F199_type F199_billing F199_input F199_arrival F199_ready F199_seconds F199_fees F199_feesAllZero q199 f226 f227 f228 hz0) (lenOf pd25 rfl) rfl at_147 rfl rfl (by decide) (Nat.le_of_ble_eq_true rfl) rfl rfl (by decide) (by decide) (fun v229 T229 h229 Q229 X229 z229 => ?_)
        obtain ⟨hv229, K229, Et229, Ff229, Fz229⟩ := Q229
        subst hv229
        have Hd230 := Hd207.keep K229 (allS (Safe.exa (EL := consts_1) C198.2.1.alike A199 (by decide) (by decide)) all0)
        show OGo p e below _ T229 (mkF m 150 #[.val (.long i0), .second, .val (.int i1), .val (.int i2), .val (.int i3), .val (.int i4), .val (.int (2 : Int32)), .val (.double (FP.l2d i0)), .second, .val (.double (FP.i2d fa)), .second, .val (.double (FP.i2d fb)), .second, .val (.double (FP.i2d fc)), .second, .val (.ref a176), .val (.ref a182), .unset, .unset, .unset, .unset, .unset] [(.ref a199)])
        refine OGo.astore (pc' := 152) C198 X229 at_150 rfl rfl (l' := #[.val (.long i0), .second, .val (.int i1), .val (.int i2), .val (.int i3), .val (.int i4), .val (.int (2 : Int32)), .val (.double (FP.l2d i0)), .second, .val (.double (FP.i2d fa)), .second, .val (.double (FP.i2d fb)), .second, .val (.double (FP.i2d fc)), .second, .val (.ref a176), .val (.ref a182), .val (.ref a199), .unset, .unset, .unset, .unset]) rfl ?_
        refine OGo.aload (pc' := 154) C198 X229 at_152 rfl rfl rfl ?_
        refine OGo.dload (pc' := 156) C198 X229 at_154 rfl rfl ?_
        have f231 := (f228.keep K229 (ninS ne200 nin0))
        refine OGo.callV (pc' := 159) (cells' := 35) (slots' := 725) (argsL := [(.double (FP.l2d i0))]) (St := []) C198 X229 (wd216 hw) (wd217 hw) (wd219 hw) (wd218 hw) (by decide) Et229 (wd220 hw) (wd184 hw) (ctWf2S hw X229.2.1 a199 a176 k176 fa fb (FP.l2d i0) Ff229 Fz229 f231 (own_ln i0)) (lenOf pd1 rfl) rfl at_156 rfl rfl (by decide) (Nat.le_of_ble_eq_true rfl) rfl rfl (by decide) (by decide) (fun v232 T232 h232 Q232 X232 z232 => ?_)
        obtain ⟨hv232, hh232⟩ := Q232
        subst hv232; rw [hh232] at X232
        show OGo p e below _ T232 (mkF m 159 #[.val (.long i0), .second, .val (.int i1), .val (.int i2), .val (.int i3), .val (.int i4), .val (.int (2 : Int32)), .val (.double (FP.l2d i0)), .second, .val (.double (FP.i2d fa)), .second, .val (.double (FP.i2d fb)), .second, .val (.double (FP.i2d fc)), .second, .val (.ref a176), .val (.ref a182), .val (.ref a199), .unset, .unset, .unset, .unset] [(.double (FP.dadd (FP.dadd (FP.l2d i0) (FP.i2d fa)) (FP.i2d fb)))])
        refine OGo.dstore (pc' := 161) C198 X232 at_159 rfl (l' := #[.val (.long i0), .second, .val (.int i1), .val (.int i2), .val (.int i3), .val (.int i4), .val (.int (2 : Int32)), .val (.double (FP.l2d i0)), .second, .val (.double (FP.i2d fa)), .second, .val (.double (FP.i2d fb)), .second, .val (.double (FP.i2d fc)), .second, .val (.ref a176), .val (.ref a182), .val (.ref a199), .val (.double (FP.dadd (FP.dadd (FP.l2d i0) (FP.i2d fa)) (FP.i2d fb))), .second, .unset, .unset]) rfl ?_
        refine OGo.dload (pc' := 163) C198 X232 at_161 rfl rfl ?_
        refine OGo.dstore (pc' := 165) C198 X232 at_163 rfl (l' := #[.val (.long i0), .second, .val (.int i1), .val (.int i2), .val (.int i3), .val (.int i4), .val (.int (2 : Int32)), .val (.double (FP.l2d i0)), .second, .val (.double (FP.i2d fa)), .second, .val (.double (FP.i2d fb)), .second, .val (.double (FP.i2d fc)), .second, .val (.ref a176), .val (.ref a182), .val (.ref a199), .val (.double (FP.dadd (FP.dadd (FP.l2d i0) (FP.i2d fa)) (FP.i2d fb))), .second, .val (.double (FP.l2d i0)), .second]) rfl ?_
        refine OGo.iload (pc' := 167) C198 X232 at_165 rfl rfl ?_
        refine OGo.iconst (pc' := 168) (z := (1 : Int32)) C198 X232 at_167 rfl (by decide) ?_
        refine OGo.icmpNo (pc' := 171) C198 X232 at_168 rfl (flt (by decide : ¬ (2 : Int32) < (1 : Int32))).1 ?_
        refine OGo.dload (pc' := 173) C198 X232 at_171 rfl rfl ?_
        refine OGo.dload (pc' := 175) C198 X232 at_173 rfl rfl ?_
        refine OGo.dadd (pc' := 176) (v := (FP.dadd (FP.l2d i0) (FP.i2d fa))) C198 X232 at_175 rfl (dadd_out (own_ln i0) (i2d_fin _)) rfl ?_
        refine OGo.dstore (pc' := 178) C198 X232 at_176 rfl (l' := #[.val (.long i0), .second, .val (.int i1), .val (.int i2), .val (.int i3), .val (.int i4), .val (.int (2 : Int32)), .val (.double (FP.l2d i0)), .second, .val (.double (FP.i2d fa)), .second, .val (.double (FP.i2d fb)), .second, .val (.double (FP.i2d fc)), .second, .val (.ref a176), .val (.ref a182), .val (.ref a199), .val (.double (FP.dadd (FP.dadd (FP.l2d i0) (FP.i2d fa)) (FP.i2d fb))), .second, .val (.double (FP.dadd (FP.l2d i0) (FP.i2d fa))), .second]) rfl ?_
        refine OGo.iload (pc' := 180) C198 X232 at_178 rfl rfl ?_
        refine OGo.iconst (pc' := 181) (z := (2 : Int32)) C198 X232 at_180 rfl (by decide) ?_
        refine OGo.icmpNo (pc' := 184) C198 X232 at_181 rfl (flt (by decide : ¬ (2 : Int32) < (2 : Int32))).1 ?_
        refine OGo.dload (pc' := 186) C198 X232 at_184 rfl rfl ?_
        refine OGo.dload (pc' := 188) C198 X232 at_186 rfl rfl ?_
        refine OGo.dadd (pc' := 189) (v := (FP.dadd (FP.dadd (FP.l2d i0) (FP.i2d fa)) (FP.i2d fb))) C198 X232 at_188 rfl (dadd_out (dadd_out (own_ln i0) (i2d_fin _)) (i2d_fin _)) rfl ?_
        refine OGo.dstore (pc' := 191) C198 X232 at_189 rfl (l' := #[.val (.long i0), .second, .val (.int i1), .val (.int i2), .val (.int i3), .val (.int i4), .val (.int (2 : Int32)), .val (.double (FP.l2d i0)), .second, .val (.double (FP.i2d fa)), .second, .val (.double (FP.i2d fb)), .second, .val (.double (FP.i2d fc)), .second, .val (.ref a176), .val (.ref a182), .val (.ref a199), .val (.double (FP.dadd (FP.dadd (FP.l2d i0) (FP.i2d fa)) (FP.i2d fb))), .second, .val (.double (FP.dadd (FP.dadd (FP.l2d i0) (FP.i2d fa)) (FP.i2d fb))), .second]) rfl ?_
        refine OGo.iload (pc' := 193) C198 X232 at_191 rfl rfl ?_
        refine OGo.iconst (pc' := 194) (z := (3 : Int32)) C198 X232 at_193 rfl (by decide) ?_
        refine OGo.icmpYes (pc' := 204) C198 X232 at_194 (tlt (by decide : (2 : Int32) < (3 : Int32))).1 (by decide) (by decide) ?_
        refine OGo.dload (pc' := 206) C198 X232 at_204 rfl rfl ?_
        refine OGo.dload (pc' := 208) C198 X232 at_206 rfl rfl ?_
        refine OGo.callS (pc' := 211) (cells' := 35) (slots' := 725) (argsL := [(.double (FP.dadd (FP.dadd (FP.l2d i0) (FP.i2d fa)) (FP.i2d fb))), (.double (FP.dadd (FP.dadd (FP.l2d i0) (FP.i2d fa)) (FP.i2d fb)))]) (St := []) C198 X232 (wd221 hw) (wd222 hw) (by decide) (wd224 hw) (wd223 hw) (ctSame hw X232.2.1 (FP.dadd (FP.dadd (FP.l2d i0) (FP.i2d fa)) (FP.i2d fb)) (dadd_out (dadd_out (own_ln i0) (i2d_fin _)) (i2d_fin _))) (lenOf pd26 rfl) rfl at_208 rfl rfl (by decide) (Nat.le_of_ble_eq_true rfl) rfl rfl (by decide) (by decide) (fun v233 T233 h233 Q233 X233 z233 => ?_)
        obtain ⟨hv233, hh233⟩ := Q233
        subst hv233; rw [hh233] at X233
        show OGo p e below _ T233 (mkF m 211 #[.val (.long i0), .second, .val (.int i1), .val (.int i2), .val (.int i3), .val (.int i4), .val (.int (2 : Int32)), .val (.double (FP.l2d i0)), .second, .val (.double (FP.i2d fa)), .second, .val (.double (FP.i2d fb)), .second, .val (.double (FP.i2d fc)), .second, .val (.ref a176), .val (.ref a182), .val (.ref a199), .val (.double (FP.dadd (FP.dadd (FP.l2d i0) (FP.i2d fa)) (FP.i2d fb))), .second, .val (.double (FP.dadd (FP.dadd (FP.l2d i0) (FP.i2d fa)) (FP.i2d fb))), .second] [(.int (1 : Int32))])
        exact OGo.retWN C198 X233 (ew hw) Hd230 at_211 hret (by simp) (z' := (1 : Int32)) (by decide) hlk (fun _ _ => rfl) (by decide) (by decide)
    · refine OGo.ifNo (pc' := 15) C X0 at_12 rfl (feq hc175).1 ?_
      refine OGo.dload (pc' := 17) C X0 at_15 rfl rfl ?_
      refine OGo.dneg (pc' := 18) (v := (FP.dneg (FP.l2d i0))) C X0 at_17 rfl rfl ?_
      refine OGo.dstore (pc' := 20) C X0 at_18 rfl (l' := #[.val (.long i0), .second, .val (.int i1), .val (.int i2), .val (.int i3), .val (.int i4), .val (.int (2 : Int32)), .val (.double (FP.dneg (FP.l2d i0))), .second, .unset, .unset, .unset, .unset, .unset, .unset, .unset, .unset, .unset, .unset, .unset, .unset, .unset]) rfl ?_
      refine OGo.iloadN (pc' := 21) C X0 at_20 rfl rfl ?_
      refine OGo.ldcInt (pc' := 23) C X0 (wd0 hw) at_21 rfl ?_
      obtain ⟨fa, h_fa⟩ : ∃ z : Int32, i2 &&& (2147483647 : Int32) = z := ⟨_, rfl⟩
      refine OGo.iand (pc' := 24) (z := fa) C X0 at_23 rfl h_fa ?_
      refine OGo.i2d (pc' := 25) (v := (FP.i2d fa)) C X0 at_24 rfl rfl ?_
      refine OGo.dstore (pc' := 27) C X0 at_25 rfl (l' := #[.val (.long i0), .second, .val (.int i1), .val (.int i2), .val (.int i3), .val (.int i4), .val (.int (2 : Int32)), .val (.double (FP.dneg (FP.l2d i0))), .second, .val (.double (FP.i2d fa)), .second, .unset, .unset, .unset, .unset, .unset, .unset, .unset, .unset, .unset, .unset, .unset]) rfl ?_
      refine OGo.iload (pc' := 29) C X0 at_27 rfl rfl ?_
      refine OGo.ldcInt (pc' := 31) C X0 (wd0 hw) at_29 rfl ?_
      obtain ⟨fb, h_fb⟩ : ∃ z : Int32, i3 &&& (2147483647 : Int32) = z := ⟨_, rfl⟩
      refine OGo.iand (pc' := 32) (z := fb) C X0 at_31 rfl h_fb ?_
      refine OGo.i2d (pc' := 33) (v := (FP.i2d fb)) C X0 at_32 rfl rfl ?_
      refine OGo.dstore (pc' := 35) C X0 at_33 rfl (l' := #[.val (.long i0), .second, .val (.int i1), .val (.int i2), .val (.int i3), .val (.int i4), .val (.int (2 : Int32)), .val (.double (FP.dneg (FP.l2d i0))), .second, .val (.double (FP.i2d fa)), .second, .val (.double (FP.i2d fb)), .second, .unset, .unset, .unset, .unset, .unset, .unset, .unset, .unset, .unset]) rfl ?_
      refine OGo.iload (pc' := 37) C X0 at_35 rfl rfl ?_
      refine OGo.ldcInt (pc' := 39) C X0 (wd0 hw) at_37 rfl ?_
      obtain ⟨fc, h_fc⟩ : ∃ z : Int32, i4 &&& (2147483647 : Int32) = z := ⟨_, rfl⟩
      refine OGo.iand (pc' := 40) (z := fc) C X0 at_39 rfl h_fc ?_
      refine OGo.i2d (pc' := 41) (v := (FP.i2d fc)) C X0 at_40 rfl rfl ?_
      refine OGo.dstore (pc' := 43) C X0 at_41 rfl (l' := #[.val (.long i0), .second, .val (.int i1), .val (.int i2), .val (.int i3), .val (.int i4), .val (.int (2 : Int32)), .val (.double (FP.dneg (FP.l2d i0))), .second, .val (.double (FP.i2d fa)), .second, .val (.double (FP.i2d fb)), .second, .val (.double (FP.i2d fc)), .second, .unset, .unset, .unset, .unset, .unset, .unset, .unset]) rfl ?_
      refine OGo.iload (pc' := 45) C X0 at_43 rfl rfl ?_
      refine OGo.ifYes (pc' := 56) C X0 at_45 (feq (by decide : ¬ (2 : Int32) = (0 : Int32))).2 (by decide) (by decide) ?_
      refine OGo.iload (pc' := 58) C X0 at_56 rfl rfl ?_
      refine OGo.iconst (pc' := 59) (z := (1 : Int32)) C X0 at_58 rfl (by decide) ?_
      refine OGo.icmpYes (pc' := 75) C X0 at_59 (feq (by decide : ¬ (2 : Int32) = (1 : Int32))).2 (by decide) (by decide) ?_
      refine OGo.iload (pc' := 77) C X0 at_75 rfl rfl ?_
      refine OGo.iconst (pc' := 78) (z := (2 : Int32)) C X0 at_77 rfl (by decide) ?_
      refine OGo.icmpNo (pc' := 81) C X0 at_78 rfl (teq (by decide : (2 : Int32) = (2 : Int32))).2 ?_
      refine OGo.iconst (pc' := 82) (z := (2 : Int32)) C X0 at_81 rfl (by decide) ?_
      refine OGo.newarray (pc' := 84) (cap := 2) (d0 := (.double (0 : UInt64))) (cells' := 1) (slots' := 2) C X0 (wd1 hw) rfl at_82 rfl (by decide) (by decide) (by decide) rfl rfl rfl (by decide) (by decide) (fun T234 h234 a234 k234 X234 g234 q234 E234 V234 => ?_)
      have Hd235 := H0.ext E234
      replace V234 : Arv Z h234 a234 k234 .double (2 : Int32) [(.double (0 : UInt64)), (.double (0 : UInt64))] (.double (0 : UInt64)) := V234.pad (pad_rep [] (.double (0 : UInt64)) 2)
      refine OGo.dup (pc' := 85) C X234 at_84 rfl rfl ?_
      refine OGo.iconst (pc' := 86) (z := (0 : Int32)) C X234 at_85 rfl (by decide) ?_
      refine OGo.dload (pc' := 88) C X234 at_86 rfl rfl ?_
      refine OGo.dastore (pc' := 89) C X234 V234 q234 (i := 0) at_88 rfl ⟨by decide, by decide⟩ (by decide) (Nat.le_of_ble_eq_true rfl) (fun T236 h236 X236 W236 V236 => ?_)
      replace V236 : Arv Z h236 a234 k234 .double (2 : Int32) [(.double (FP.i2d fa)), (.double (0 : UInt64))] (.double (0 : UInt64)) := V236
      have Hd237 := Hd235.wr W236 (safe_arv (EL := consts_1) C.2.1.alike V234 (by decide))
      refine OGo.dup (pc' := 90) C X236 at_89 rfl rfl ?_
      refine OGo.iconst (pc' := 91) (z := (1 : Int32)) C X236 at_90 rfl (by decide) ?_
      refine OGo.dload (pc' := 93) C X236 at_91 rfl rfl ?_
      refine OGo.dastore (pc' := 94) C X236 V236 q234 (i := 1) at_93 rfl ⟨by decide, by decide⟩ (by decide) (Nat.le_of_ble_eq_true rfl) (fun T238 h238 X238 W238 V238 => ?_)
      replace V238 : Arv Z h238 a234 k234 .double (2 : Int32) [(.double (FP.i2d fa)), (.double (FP.i2d fb))] (.double (0 : UInt64)) := V238
      have Hd239 := Hd237.wr W238 (safe_arv (EL := consts_1) C.2.1.alike V236 (by decide))
      refine OGo.astore (pc' := 96) C X238 at_94 rfl rfl (l' := #[.val (.long i0), .second, .val (.int i1), .val (.int i2), .val (.int i3), .val (.int i4), .val (.int (2 : Int32)), .val (.double (FP.dneg (FP.l2d i0))), .second, .val (.double (FP.i2d fa)), .second, .val (.double (FP.i2d fb)), .second, .val (.double (FP.i2d fc)), .second, .val (.ref a234), .unset, .unset, .unset, .unset, .unset, .unset]) rfl ?_
      refine OGo.goto (pc' := 119) C X238 at_96 (by decide) (by decide) ?_
      refine OGo.new (pc' := 122) (cells' := 2) (slots' := 9) C X238 (wd2 hw) (wd3 hw) (wd4 hw) at_119 rfl rfl rfl (by decide) (by decide) (fun T240 h240 a240 X240 g240 q240 E240 A240 D240 U240 => ?_)
      have ne241 : a234 ≠ a240 := Nat.ne_of_lt (Nat.lt_of_lt_of_eq V238.lt g240.symm)
      have Hd242 := Hd239.ext E240
      have F240_name : Fld Z h240 a240 "com/example/makespan/makespan/model/VmType" "name" "Ljava/lang/String;" .null := D240 (Or.inr (wd30 hw)) (ty := (.object "java/lang/String")) (by decide)
      have F240_speed : Fld Z h240 a240 "com/example/makespan/makespan/model/VmType" "speed" "D" (.double (0 : UInt64)) := D240 (Or.inr (wd160 hw)) (ty := .double) (by decide)
      have F240_pricePerPeriod : Fld Z h240 a240 "com/example/makespan/makespan/model/VmType" "pricePerPeriod" "D" (.double (0 : UInt64)) := D240 (Or.inr (wd169 hw)) (ty := .double) (by decide)
      have F240_periodSeconds : Fld Z h240 a240 "com/example/makespan/makespan/model/VmType" "periodSeconds" "D" (.double (0 : UInt64)) := D240 (Or.inr (wd172 hw)) (ty := .double) (by decide)
      have F240_bootSeconds : Fld Z h240 a240 "com/example/makespan/makespan/model/VmType" "bootSeconds" "D" (.double (0 : UInt64)) := D240 (Or.inr (wd176 hw)) (ty := .double) (by decide)
      have F240_bootBilled : Fld Z h240 a240 "com/example/makespan/makespan/model/VmType" "bootBilled" "Z" (.int (0 : Int32)) := D240 (Or.inr (wd178 hw)) (ty := .boolean) (by decide)
      have F240_startupFee : Fld Z h240 a240 "com/example/makespan/makespan/model/VmType" "startupFee" "D" (.double (0 : UInt64)) := D240 (Or.inr (wd181 hw)) (ty := .double) (by decide)
      refine OGo.dup (pc' := 123) C X240 at_122 rfl rfl ?_
      refine OGo.ldcC (pc' := 125) (n := 4) (cells' := 4) (slots' := 17) (z := (1 : Int32)) (vs := [(.int (116 : Int32))]) C X240 (ew hw) Hd242 (wd5 hw) (wS hw) (List.mem_of_getElem? (i := 8) rfl) ⟨by decide +kernel, by first | rfl | decide +kernel⟩ (by decide) rfl at_123 rfl (by decide +kernel) (by decide) rfl rfl (by decide) (by decide) (fun vm243 T243 h243 a243 b243 k243 C243 X243 Hd243 E243 R243 A243 F243a F243b V243 sf243 => ?_)
      have f244 := ((V238.ext E240).ext E243)
      have sn245 := sf243 a234 (safe_arv (EL := consts_1) C243.2.1.alike f244 (by decide))
      have f246 := (A240.ext E243)
      have sn247 := sf243 a240 (Safe.exa (EL := consts_1) C243.2.1.alike f246 (by decide) (by decide))
      refine OGo.dconst1 (pc' := 126) (v := (FP.dconst1)) C243 X243 at_125 rfl rfl ?_
      refine OGo.dconst1 (pc' := 127) (v := (FP.dconst1)) C243 X243 at_126 rfl rfl ?_
      refine OGo.dconst1 (pc' := 128) (v := (FP.dconst1)) C243 X243 at_127 rfl rfl ?_
      have f248 := (F240_name.ext E243)
      have f249 := (F240_speed.ext E243)
      have f250 := (F240_pricePerPeriod.ext E243)
      have f251 := (F240_periodSeconds.ext E243)
      have f252 := (F240_bootSeconds.ext E243)
      have f253 := (F240_bootBilled.ext E243)
      have f254 := (F240_startupFee.ext E243)
      have f255 := (((((OD.ext E234).wr W236 q234).wr W238 q234).ext E240).ext E243)
      refine OGo.callWInit (pc' := 131) (cells' := 34) (slots' := 717) (argsL := [(.ref a243), (.double (FP.dconst1)), (.double (FP.dconst1)), (.double (FP.dconst1))]) (St := [(.ref a240)]) C243 X243 (ew hw) Hd243 rfl rfl (wd13 hw) (wd14 hw) (by decide) (wd15 hw) (wd4 hw) (ctV4 hw X243.2.1 a240 a243 b243 k243 cz f246 f248 f249 f250 f251 f252 f253 f254 q240 A243 F243b F243a V243 f255 S2 hcz) (fun _ hx => by cases hx) (lenOf pd24 rfl) rfl at_128 rfl rfl (by decide) (Nat.le_of_ble_eq_true rfl) rfl rfl (by decide) (by decide) (fun v256 vm256 T256 h256 Q256 C256 X256 Hd256 R256 => ?_)
      obtain ⟨hv256, K256, Ev256, Fb256⟩ := Q256
      subst hv256
      show OGo p e below _ T256 (mkF m 131 #[.val (.long i0), .second, .val (.int i1), .val (.int i2), .val (.int i3), .val (.int i4), .val (.int (2 : Int32)), .val (.double (FP.dneg (FP.l2d i0))), .second, .val (.double (FP.i2d fa)), .second, .val (.double (FP.i2d fb)), .second, .val (.double (FP.i2d fc)), .second, .val (.ref a234), .unset, .unset, .unset, .unset, .unset, .unset] [(.ref a240)])
      refine OGo.astore (pc' := 133) C256 X256 at_131 rfl rfl (l' := #[.val (.long i0), .second, .val (.int i1), .val (.int i2), .val (.int i3), .val (.int i4), .val (.int (2 : Int32)), .val (.double (FP.dneg (FP.l2d i0))), .second, .val (.double (FP.i2d fa)), .second, .val (.double (FP.i2d fb)), .second, .val (.double (FP.i2d fc)), .second, .val (.ref a234), .val (.ref a240), .unset, .unset, .unset, .unset, .unset]) rfl ?_
      refine OGo.new (pc' := 136) (cells' := 35) (slots' := 725) C256 X256 (wd182 hw) (wd183 hw) (wd184 hw) at_133 rfl rfl rfl (by decide) (by decide) (fun T257 h257 a257 X257 g257 q257 E257 A257 D257 U257 => ?_)
      have f259 := (f244.keep K256 (ninS ne241 nin0))
      have ne258 : a234 ≠ a257 := Nat.ne_of_lt (Nat.lt_of_lt_of_eq f259.lt g257.symm)
      have ne260 : a240 ≠ a257 := Nat.ne_of_lt (Nat.lt_of_lt_of_eq Ev256.lt g257.symm)
      have f262 := (A243.keep K256)
      have ne261 : a243 ≠ a257 := Nat.ne_of_lt (Nat.lt_of_lt_of_eq f262.lt g257.symm)
      have f264 := (V243.keep K256 (ninS (Ne.symm sn247.2) nin0))
      have ne263 : b243 ≠ a257 := Nat.ne_of_lt (Nat.lt_of_lt_of_eq f264.lt g257.symm)
      have Hd265 := Hd256.ext E257
      have F257_type : Fld Z h257 a257 "com/example/makespan/makespan/planning/TaskOnType" "type" "Lcom/example/makespan/makespan/model/VmType;" .null := D257 (Or.inr (wd193 hw)) (ty := (.object "com/example/makespan/makespan/model/VmType")) (by decide)
      have F257_billing : Fld Z h257 a257 "com/example/makespan/makespan/planning/TaskOnType" "billing" "Lcom/example/makespan/makespan/model/Billing;" .null := D257 (Or.inr (wd195 hw)) (ty := (.object "com/example/makespan/makespan/model/Billing")) (by decide)
      have F257_input : Fld Z h257 a257 "com/example/makespan/makespan/planning/TaskOnType" "input" "I" (.int (0 : Int32)) := D257 (Or.inr (wd197 hw)) (ty := .int) (by decide)
      have F257_arrival : Fld Z h257 a257 "com/example/makespan/makespan/planning/TaskOnType" "arrival" "D" (.double (0 : UInt64)) := D257 (Or.inr (wd199 hw)) (ty := .double) (by decide)
      have F257_ready : Fld Z h257 a257 "com/example/makespan/makespan/planning/TaskOnType" "ready" "D" (.double (0 : UInt64)) := D257 (Or.inr (wd209 hw)) (ty := .double) (by decide)
      have F257_seconds : Fld Z h257 a257 "com/example/makespan/makespan/planning/TaskOnType" "seconds" "D" (.double (0 : UInt64)) := D257 (Or.inr (wd211 hw)) (ty := .double) (by decide)
      have F257_fees : Fld Z h257 a257 "com/example/makespan/makespan/planning/TaskOnType" "fees" "[D" .null := D257 (Or.inr (wd213 hw)) (ty := (.array .double)) (by decide)
      have F257_feesAllZero : Fld Z h257 a257 "com/example/makespan/makespan/planning/TaskOnType" "feesAllZero" "Z" (.int (0 : Int32)) := D257 (Or.inr (wd215 hw)) (ty := .boolean) (by decide)
      refine OGo.dup (pc' := 137) C256 X257 at_136 rfl rfl ?_
      refine OGo.aload (pc' := 139) C256 X257 at_137 rfl rfl rfl ?_
      have f266 := ((f255.keep K256 (allS q240 all0)).ext E257)
      refine OGo.getstatic (pc' := 142) C256 X257 (host := "") (Or.inl (wd185 hw)) Via.refl (Sl.ext f266.2) at_139 rfl (fun T267 X267 => ?_)
      refine OGo.iconst (pc' := 143) (z := (0 : Int32)) C256 X267 at_142 rfl (by decide) ?_
      refine OGo.dconst0 (pc' := 144) (v := (FP.dconst0)) C256 X267 at_143 rfl rfl ?_
      refine OGo.dconst0 (pc' := 145) (v := (FP.dconst0)) C256 X267 at_144 rfl rfl ?_
      refine OGo.aload (pc' := 147) C256 X267 at_145 rfl rfl rfl ?_
      by_cases hz0 : fa = 0
      · by_cases hz1 : fb = 0
        · have f268 := (Ev256.ext E257)
          have f269 := (Fb256.ext E257)
          have f270 := (f259.ext E257)
          refine OGo.callInit (pc' := 150) (cells' := 35) (slots' := 725) (argsL := [(.ref a240), (.ref bl), (.int (0 : Int32)), (.double (FP.dconst0)), (.double (FP.dconst0)), (.ref a234)]) (St := [(.ref a257)]) C256 X267 rfl rfl (wd188 hw) (wd189 hw) (by decide) (wd190 hw) (wd184 hw) (ctTk22R hw X267.2.1 a257 a240 a234 bl k234 fa fb A257 F257_type F257_billing F257_input F257_arrival F257_ready F257_seconds F257_fees F257_feesAllZero q257 f268 f269 f270 hz0 hz1) (lenOf pd25 rfl) rfl at_147 rfl rfl (by decide) (Nat.le_of_ble_eq_true rfl) rfl rfl (by decide) (by decide) (fun v271 T271 h271 Q271 X271 z271 => ?_)
          obtain ⟨hv271, K271, Et271, Ff271, Fz271⟩ := Q271
          subst hv271
          have Hd272 := Hd265.keep K271 (allS (Safe.exa (EL := consts_1) C256.2.1.alike A257 (by decide) (by decide)) all0)
          show OGo p e below _ T271 (mkF m 150 #[.val (.long i0), .second, .val (.int i1), .val (.int i2), .val (.int i3), .val (.int i4), .val (.int (2 : Int32)), .val (.double (FP.dneg (FP.l2d i0))), .second, .val (.double (FP.i2d fa)), .second, .val (.double (FP.i2d fb)), .second, .val (.double (FP.i2d fc)), .second, .val (.ref a234), .val (.ref a240), .unset, .unset, .unset, .unset, .unset] [(.ref a257)])
          refine OGo.astore (pc' := 152) C256 X271 at_150 rfl rfl (l' := #[.val (.long i0), .second, .val (.int i1), .val (.int i2), .val (.int i3), .val (.int i4), .val (.int (2 : Int32)), .val (.double (FP.dneg (FP.l2d i0))), .second, .val (.double (FP.i2d fa)), .second, .val (.double (FP.i2d fb)), .second, .val (.double (FP.i2d fc)), .second, .val (.ref a234), .val (.ref a240), .val (.ref a257), .unset, .unset, .unset, .unset]) rfl ?_
          refine OGo.aload (pc' := 154) C256 X271 at_152 rfl rfl rfl ?_
          refine OGo.dload (pc' := 156) C256 X271 at_154 rfl rfl ?_
          have f273 := (f270.keep K271 (ninS ne258 nin0))
          refine OGo.callV (pc' := 159) (cells' := 35) (slots' := 725) (argsL := [(.double (FP.dneg (FP.l2d i0)))]) (St := []) C256 X271 (wd216 hw) (wd217 hw) (wd219 hw) (wd218 hw) (by decide) Et271 (wd220 hw) (wd184 hw) (ctWf2Z hw X271.2.1 a257 a234 k234 fa fb (FP.dneg (FP.l2d i0)) Ff271 Fz271 f273 (own_lng i0)) (lenOf pd1 rfl) rfl at_156 rfl rfl (by decide) (Nat.le_of_ble_eq_true rfl) rfl rfl (by decide) (by decide) (fun v274 T274 h274 Q274 X274 z274 => ?_)
          obtain ⟨hv274, hh274⟩ := Q274
          subst hv274; rw [hh274] at X274
          show OGo p e below _ T274 (mkF m 159 #[.val (.long i0), .second, .val (.int i1), .val (.int i2), .val (.int i3), .val (.int i4), .val (.int (2 : Int32)), .val (.double (FP.dneg (FP.l2d i0))), .second, .val (.double (FP.i2d fa)), .second, .val (.double (FP.i2d fb)), .second, .val (.double (FP.i2d fc)), .second, .val (.ref a234), .val (.ref a240), .val (.ref a257), .unset, .unset, .unset, .unset] [(.double (FP.dadd (FP.dneg (FP.l2d i0)) (FP.dconst0)))])
          refine OGo.dstore (pc' := 161) C256 X274 at_159 rfl (l' := #[.val (.long i0), .second, .val (.int i1), .val (.int i2), .val (.int i3), .val (.int i4), .val (.int (2 : Int32)), .val (.double (FP.dneg (FP.l2d i0))), .second, .val (.double (FP.i2d fa)), .second, .val (.double (FP.i2d fb)), .second, .val (.double (FP.i2d fc)), .second, .val (.ref a234), .val (.ref a240), .val (.ref a257), .val (.double (FP.dadd (FP.dneg (FP.l2d i0)) (FP.dconst0))), .second, .unset, .unset]) rfl ?_
          refine OGo.dload (pc' := 163) C256 X274 at_161 rfl rfl ?_
          refine OGo.dstore (pc' := 165) C256 X274 at_163 rfl (l' := #[.val (.long i0), .second, .val (.int i1), .val (.int i2), .val (.int i3), .val (.int i4), .val (.int (2 : Int32)), .val (.double (FP.dneg (FP.l2d i0))), .second, .val (.double (FP.i2d fa)), .second, .val (.double (FP.i2d fb)), .second, .val (.double (FP.i2d fc)), .second, .val (.ref a234), .val (.ref a240), .val (.ref a257), .val (.double (FP.dadd (FP.dneg (FP.l2d i0)) (FP.dconst0))), .second, .val (.double (FP.dneg (FP.l2d i0))), .second]) rfl ?_
          refine OGo.iload (pc' := 167) C256 X274 at_165 rfl rfl ?_
          refine OGo.iconst (pc' := 168) (z := (1 : Int32)) C256 X274 at_167 rfl (by decide) ?_
          refine OGo.icmpNo (pc' := 171) C256 X274 at_168 rfl (flt (by decide : ¬ (2 : Int32) < (1 : Int32))).1 ?_
          refine OGo.dload (pc' := 173) C256 X274 at_171 rfl rfl ?_
          refine OGo.dload (pc' := 175) C256 X274 at_173 rfl rfl ?_
          refine OGo.dadd (pc' := 176) (v := (FP.dadd (FP.dneg (FP.l2d i0)) (FP.dconst0))) C256 X274 at_175 rfl (dadd_out (own_lng i0) (i2d_fin _)) (by rw [own_i0 hz0]) ?_
          refine OGo.dstore (pc' := 178) C256 X274 at_176 rfl (l' := #[.val (.long i0), .second, .val (.int i1), .val (.int i2), .val (.int i3), .val (.int i4), .val (.int (2 : Int32)), .val (.double (FP.dneg (FP.l2d i0))), .second, .val (.double (FP.i2d fa)), .second, .val (.double (FP.i2d fb)), .second, .val (.double (FP.i2d fc)), .second, .val (.ref a234), .val (.ref a240), .val (.ref a257), .val (.double (FP.dadd (FP.dneg (FP.l2d i0)) (FP.dconst0))), .second, .val (.double (FP.dadd (FP.dneg (FP.l2d i0)) (FP.dconst0))), .second]) rfl ?_
          refine OGo.iload (pc' := 180) C256 X274 at_178 rfl rfl ?_
          refine OGo.iconst (pc' := 181) (z := (2 : Int32)) C256 X274 at_180 rfl (by decide) ?_
          refine OGo.icmpNo (pc' := 184) C256 X274 at_181 rfl (flt (by decide : ¬ (2 : Int32) < (2 : Int32))).1 ?_
          refine OGo.dload (pc' := 186) C256 X274 at_184 rfl rfl ?_
          refine OGo.dload (pc' := 188) C256 X274 at_186 rfl rfl ?_
          refine OGo.dadd (pc' := 189) (v := (FP.dadd (FP.dneg (FP.l2d i0)) (FP.dconst0))) C256 X274 at_188 rfl (dadd_out (dadd_out (own_lng i0) own_f0) (i2d_fin _)) (by rw [own_i0 hz1]; exact own_add00 (own_lng i0)) ?_
          refine OGo.dstore (pc' := 191) C256 X274 at_189 rfl (l' := #[.val (.long i0), .second, .val (.int i1), .val (.int i2), .val (.int i3), .val (.int i4), .val (.int (2 : Int32)), .val (.double (FP.dneg (FP.l2d i0))), .second, .val (.double (FP.i2d fa)), .second, .val (.double (FP.i2d fb)), .second, .val (.double (FP.i2d fc)), .second, .val (.ref a234), .val (.ref a240), .val (.ref a257), .val (.double (FP.dadd (FP.dneg (FP.l2d i0)) (FP.dconst0))), .second, .val (.double (FP.dadd (FP.dneg (FP.l2d i0)) (FP.dconst0))), .second]) rfl ?_
          refine OGo.iload (pc' := 193) C256 X274 at_191 rfl rfl ?_
          refine OGo.iconst (pc' := 194) (z := (3 : Int32)) C256 X274 at_193 rfl (by decide) ?_
          refine OGo.icmpYes (pc' := 204) C256 X274 at_194 (tlt (by decide : (2 : Int32) < (3 : Int32))).1 (by decide) (by decide) ?_
          refine OGo.dload (pc' := 206) C256 X274 at_204 rfl rfl ?_
          refine OGo.dload (pc' := 208) C256 X274 at_206 rfl rfl ?_
          refine OGo.callS (pc' := 211) (cells' := 35) (slots' := 725) (argsL := [(.double (FP.dadd (FP.dneg (FP.l2d i0)) (FP.dconst0))), (.double (FP.dadd (FP.dneg (FP.l2d i0)) (FP.dconst0)))]) (St := []) C256 X274 (wd221 hw) (wd222 hw) (by decide) (wd224 hw) (wd223 hw) (ctSame hw X274.2.1 (FP.dadd (FP.dneg (FP.l2d i0)) (FP.dconst0)) (dadd_out (own_lng i0) own_f0)) (lenOf pd26 rfl) rfl at_208 rfl rfl (by decide) (Nat.le_of_ble_eq_true rfl) rfl rfl (by decide) (by decide) (fun v275 T275 h275 Q275 X275 z275 => ?_)
          obtain ⟨hv275, hh275⟩ := Q275
          subst hv275; rw [hh275] at X275
          show OGo p e below _ T275 (mkF m 211 #[.val (.long i0), .second, .val (.int i1), .val (.int i2), .val (.int i3), .val (.int i4), .val (.int (2 : Int32)), .val (.double (FP.dneg (FP.l2d i0))), .second, .val (.double (FP.i2d fa)), .second, .val (.double (FP.i2d fb)), .second, .val (.double (FP.i2d fc)), .second, .val (.ref a234), .val (.ref a240), .val (.ref a257), .val (.double (FP.dadd (FP.dneg (FP.l2d i0)) (FP.dconst0))), .second, .val (.double (FP.dadd (FP.dneg (FP.l2d i0)) (FP.dconst0))), .second] [(.int (1 : Int32))])
          exact OGo.retWN C256 X275 (ew hw) Hd272 at_211 hret (by simp) (z' := (1 : Int32)) (by decide) hlk (fun _ _ => rfl) (by decide) (by decide)
        · have f276 := (Ev256.ext E257)
          have f277 := (Fb256.ext E257)
          have f278 := (f259.ext E257)
          refine OGo.callInit (pc' := 150) (cells' := 35) (slots' := 725) (argsL := [(.ref a240), (.ref bl), (.int (0 : Int32)), (.double (FP.dconst0)), (.double (FP.dconst0)), (.ref a234)]) (St := [(.ref a257)]) C256 X267 rfl rfl (wd188 hw) (wd189 hw) (by decide) (wd190 hw) (wd184 hw) (ctTk21R hw X267.2.1 a257 a240 a234 bl k234 fa fb A257 F257_type F257_billing F257_input F257_arrival F257_ready F257_seconds F257_fees F257_feesAllZero q257 f276 f277 f278 hz0 hz1) (lenOf pd25 rfl) rfl at_147 rfl rfl (by decide) (Nat.le_of_ble_eq_true rfl) rfl rfl (by decide) (by decide) (fun v279 T279 h279 Q279 X279 z279 => ?_)
          obtain ⟨hv279, K279, Et279, Ff279, Fz279⟩ := Q279
          subst hv279
          have Hd280 := Hd265.keep K279 (allS (Safe.exa (EL := consts_1) C256.2.1.alike A257 (by decide) (by decide)) all0)
          show OGo p e below _ T279 (mkF m 150 #[.val (.long i0), .second, .val (.int i1), .val (.int i2), .val (.int i3), .val (.int i4), .val (.int (2 : Int32)), .val (.double (FP.dneg (FP.l2d i0))), .second, .val (.double (FP.i2d fa)), .second, .val (.double (FP.i2d fb)), .second, .val (.double (FP.i2d fc)), .second, .val (.ref a234), .val (.ref a240), .unset, .unset, .unset, .unset, .unset] [(.ref a257)])
          refine OGo.astore (pc' := 152) C256 X279 at_150 rfl rfl (l' := #[.val (.long i0), .second, .val (.int i1), .val (.int i2), .val (.int i3), .val (.int i4), .val (.int (2 : Int32)), .val (.double (FP.dneg (FP.l2d i0))), .second, .val (.double (FP.i2d fa)), .second, .val (.double (FP.i2d fb)), .second, .val (.double (FP.i2d fc)), .second, .val (.ref a234), .val (.ref a240), .val (.ref a257), .unset, .unset, .unset, .unset]) rfl ?_
          refine OGo.aload (pc' := 154) C256 X279 at_152 rfl rfl rfl ?_
          refine OGo.dload (pc' := 156) C256 X279 at_154 rfl rfl ?_
          have f281 := (f278.keep K279 (ninS ne258 nin0))
          refine OGo.callV (pc' := 159) (cells' := 35) (slots' := 725) (argsL := [(.double (FP.dneg (FP.l2d i0)))]) (St := []) C256 X279 (wd216 hw) (wd217 hw) (wd219 hw) (wd218 hw) (by decide) Et279 (wd220 hw) (wd184 hw) (ctWf2S hw X279.2.1 a257 a234 k234 fa fb (FP.dneg (FP.l2d i0)) Ff279 Fz279 f281 (own_lng i0)) (lenOf pd1 rfl) rfl at_156 rfl rfl (by decide) (Nat.le_of_ble_eq_true rfl) rfl rfl (by decide) (by decide) (fun v282 T282 h282 Q282 X282 z282 => ?_)
          obtain ⟨hv282, hh282⟩ := Q282
          subst hv282; rw [hh282] at X282
          show OGo p e below _ T282 (mkF m 159 #[.val (.long i0), .second, .val (.int i1), .val (.int i2), .val (.int i3), .val (.int i4), .val (.int (2 : Int32)), .val (.double (FP.dneg (FP.l2d i0))), .second, .val (.double (FP.i2d fa)), .second, .val (.double (FP.i2d fb)), .second, .val (.double (FP.i2d fc)), .second, .val (.ref a234), .val (.ref a240), .val (.ref a257), .unset, .unset, .unset, .unset] [(.double (FP.dadd (FP.dadd (FP.dneg (FP.l2d i0)) (FP.i2d fa)) (FP.i2d fb)))])
          refine OGo.dstore (pc' := 161) C256 X282 at_159 rfl (l' := #[.val (.long i0), .second, .val (.int i1), .val (.int i2), .val (.int i3), .val (.int i4), .val (.int (2 : Int32)), .val (.double (FP.dneg (FP.l2d i0))), .second, .val (.double (FP.i2d fa)), .second, .val (.double (FP.i2d fb)), .second, .val (.double (FP.i2d fc)), .second, .val (.ref a234), .val (.ref a240), .val (.ref a257), .val (.double (FP.dadd (FP.dadd (FP.dneg (FP.l2d i0)) (FP.i2d fa)) (FP.i2d fb))), .second, .unset, .unset]) rfl ?_
          refine OGo.dload (pc' := 163) C256 X282 at_161 rfl rfl ?_
          refine OGo.dstore (pc' := 165) C256 X282 at_163 rfl (l' := #[.val (.long i0), .second, .val (.int i1), .val (.int i2), .val (.int i3), .val (.int i4), .val (.int (2 : Int32)), .val (.double (FP.dneg (FP.l2d i0))), .second, .val (.double (FP.i2d fa)), .second, .val (.double (FP.i2d fb)), .second, .val (.double (FP.i2d fc)), .second, .val (.ref a234), .val (.ref a240), .val (.ref a257), .val (.double (FP.dadd (FP.dadd (FP.dneg (FP.l2d i0)) (FP.i2d fa)) (FP.i2d fb))), .second, .val (.double (FP.dneg (FP.l2d i0))), .second]) rfl ?_
          refine OGo.iload (pc' := 167) C256 X282 at_165 rfl rfl ?_
          refine OGo.iconst (pc' := 168) (z := (1 : Int32)) C256 X282 at_167 rfl (by decide) ?_
          refine OGo.icmpNo (pc' := 171) C256 X282 at_168 rfl (flt (by decide : ¬ (2 : Int32) < (1 : Int32))).1 ?_
          refine OGo.dload (pc' := 173) C256 X282 at_171 rfl rfl ?_
          refine OGo.dload (pc' := 175) C256 X282 at_173 rfl rfl ?_
          refine OGo.dadd (pc' := 176) (v := (FP.dadd (FP.dneg (FP.l2d i0)) (FP.i2d fa))) C256 X282 at_175 rfl (dadd_out (own_lng i0) (i2d_fin _)) rfl ?_
          refine OGo.dstore (pc' := 178) C256 X282 at_176 rfl (l' := #[.val (.long i0), .second, .val (.int i1), .val (.int i2), .val (.int i3), .val (.int i4), .val (.int (2 : Int32)), .val (.double (FP.dneg (FP.l2d i0))), .second, .val (.double (FP.i2d fa)), .second, .val (.double (FP.i2d fb)), .second, .val (.double (FP.i2d fc)), .second, .val (.ref a234), .val (.ref a240), .val (.ref a257), .val (.double (FP.dadd (FP.dadd (FP.dneg (FP.l2d i0)) (FP.i2d fa)) (FP.i2d fb))), .second, .val (.double (FP.dadd (FP.dneg (FP.l2d i0)) (FP.i2d fa))), .second]) rfl ?_
          refine OGo.iload (pc' := 180) C256 X282 at_178 rfl rfl ?_
          refine OGo.iconst (pc' := 181) (z := (2 : Int32)) C256 X282 at_180 rfl (by decide) ?_
          refine OGo.icmpNo (pc' := 184) C256 X282 at_181 rfl (flt (by decide : ¬ (2 : Int32) < (2 : Int32))).1 ?_
          refine OGo.dload (pc' := 186) C256 X282 at_184 rfl rfl ?_
          refine OGo.dload (pc' := 188) C256 X282 at_186 rfl rfl ?_
          refine OGo.dadd (pc' := 189) (v := (FP.dadd (FP.dadd (FP.dneg (FP.l2d i0)) (FP.i2d fa)) (FP.i2d fb))) C256 X282 at_188 rfl (dadd_out (dadd_out (own_lng i0) (i2d_fin _)) (i2d_fin _)) rfl ?_
          refine OGo.dstore (pc' := 191) C256 X282 at_189 rfl (l' := #[.val (.long i0), .second, .val (.int i1), .val (.int i2), .val (.int i3), .val (.int i4), .val (.int (2 : Int32)), .val (.double (FP.dneg (FP.l2d i0))), .second, .val (.double (FP.i2d fa)), .second, .val (.double (FP.i2d fb)), .second, .val (.double (FP.i2d fc)), .second, .val (.ref a234), .val (.ref a240), .val (.ref a257), .val (.double (FP.dadd (FP.dadd (FP.dneg (FP.l2d i0)) (FP.i2d fa)) (FP.i2d fb))), .second, .val (.double (FP.dadd (FP.dadd (FP.dneg (FP.l2d i0)) (FP.i2d fa)) (FP.i2d fb))), .second]) rfl ?_
          refine OGo.iload (pc' := 193) C256 X282 at_191 rfl rfl ?_
          refine OGo.iconst (pc' := 194) (z := (3 : Int32)) C256 X282 at_193 rfl (by decide) ?_
          refine OGo.icmpYes (pc' := 204) C256 X282 at_194 (tlt (by decide : (2 : Int32) < (3 : Int32))).1 (by decide) (by decide) ?_
          refine OGo.dload (pc' := 206) C256 X282 at_204 rfl rfl ?_
          refine OGo.dload (pc' := 208) C256 X282 at_206 rfl rfl ?_
          refine OGo.callS (pc' := 211) (cells' := 35) (slots' := 725) (argsL := [(.double (FP.dadd (FP.dadd (FP.dneg (FP.l2d i0)) (FP.i2d fa)) (FP.i2d fb))), (.double (FP.dadd (FP.dadd (FP.dneg (FP.l2d i0)) (FP.i2d fa)) (FP.i2d fb)))]) (St := []) C256 X282 (wd221 hw) (wd222 hw) (by decide) (wd224 hw) (wd223 hw) (ctSame hw X282.2.1 (FP.dadd (FP.dadd (FP.dneg (FP.l2d i0)) (FP.i2d fa)) (FP.i2d fb)) (dadd_out (dadd_out (own_lng i0) (i2d_fin _)) (i2d_fin _))) (lenOf pd26 rfl) rfl at_208 rfl rfl (by decide) (Nat.le_of_ble_eq_true rfl) rfl rfl (by decide) (by decide) (fun v283 T283 h283 Q283 X283 z283 => ?_)
          obtain ⟨hv283, hh283⟩ := Q283
          subst hv283; rw [hh283] at X283
          show OGo p e below _ T283 (mkF m 211 #[.val (.long i0), .second, .val (.int i1), .val (.int i2), .val (.int i3), .val (.int i4), .val (.int (2 : Int32)), .val (.double (FP.dneg (FP.l2d i0))), .second, .val (.double (FP.i2d fa)), .second, .val (.double (FP.i2d fb)), .second, .val (.double (FP.i2d fc)), .second, .val (.ref a234), .val (.ref a240), .val (.ref a257), .val (.double (FP.dadd (FP.dadd (FP.dneg (FP.l2d i0)) (FP.i2d fa)) (FP.i2d fb))), .second, .val (.double (FP.dadd (FP.dadd (FP.dneg (FP.l2d i0)) (FP.i2d fa)) (FP.i2d fb))), .second] [(.int (1 : Int32))])
          exact OGo.retWN C256 X283 (ew hw) Hd280 at_211 hret (by simp) (z' := (1 : Int32)) (by decide) hlk (fun _ _ => rfl) (by decide) (by decide)
      · have f284 := (Ev256.ext E257)
        have f285 := (Fb256.ext E257)
        have f286 := (f259.ext E257)
        refine OGo.callInit (pc' := 150) (cells' := 35) (slots' := 725) (argsL := [(.ref a240), (.ref bl), (.int (0 : Int32)), (.double (FP.dconst0)), (.double (FP.dconst0)), (.ref a234)]) (St := [(.ref a257)]) C256 X267 rfl rfl (wd188 hw) (wd189 hw) (by decide) (wd190 hw) (wd184 hw) (ctTk20R hw X267.2.1 a257 a240 a234 bl k234 fa fb A257 F257_type F257_billing F257_input F257_arrival F257_ready F257_seconds F257_fees F257_feesAllZero q257 f284 f285 f286 hz0) (lenOf pd25 rfl) rfl at_147 rfl rfl (by decide) (Nat.le_of_ble_eq_true rfl) rfl rfl (by decide) (by decide) (fun v287 T287 h287 Q287 X287 z287 => ?_)
        obtain ⟨hv287, K287, Et287, Ff287, Fz287⟩ := Q287
        subst hv287
        have Hd288 := Hd265.keep K287 (allS (Safe.exa (EL := consts_1) C256.2.1.alike A257 (by decide) (by decide)) all0)
        show OGo p e below _ T287 (mkF m 150 #[.val (.long i0), .second, .val (.int i1), .val (.int i2), .val (.int i3), .val (.int i4), .val (.int (2 : Int32)), .val (.double (FP.dneg (FP.l2d i0))), .second, .val (.double (FP.i2d fa)), .second, .val (.double (FP.i2d fb)), .second, .val (.double (FP.i2d fc)), .second, .val (.ref a234), .val (.ref a240), .unset, .unset, .unset, .unset, .unset] [(.ref a257)])
        refine OGo.astore (pc' := 152) C256 X287 at_150 rfl rfl (l' := #[.val (.long i0), .second, .val (.int i1), .val (.int i2), .val (.int i3), .val (.int i4), .val (.int (2 : Int32)), .val (.double (FP.dneg (FP.l2d i0))), .second, .val (.double (FP.i2d fa)), .second, .val (.double (FP.i2d fb)), .second, .val (.double (FP.i2d fc)), .second, .val (.ref a234), .val (.ref a240), .val (.ref a257), .unset, .unset, .unset, .unset]) rfl ?_
        refine OGo.aload (pc' := 154) C256 X287 at_152 rfl rfl rfl ?_
        refine OGo.dload (pc' := 156) C256 X287 at_154 rfl rfl ?_
        have f289 := (f286.keep K287 (ninS ne258 nin0))
        refine OGo.callV (pc' := 159) (cells' := 35) (slots' := 725) (argsL := [(.double (FP.dneg (FP.l2d i0)))]) (St := []) C256 X287 (wd216 hw) (wd217 hw) (wd219 hw) (wd218 hw) (by decide) Et287 (wd220 hw) (wd184 hw) (ctWf2S hw X287.2.1 a257 a234 k234 fa fb (FP.dneg (FP.l2d i0)) Ff287 Fz287 f289 (own_lng i0)) (lenOf pd1 rfl) rfl at_156 rfl rfl (by decide) (Nat.le_of_ble_eq_true rfl) rfl rfl (by decide) (by decide) (fun v290 T290 h290 Q290 X290 z290 => ?_)
        obtain ⟨hv290, hh290⟩ := Q290
        subst hv290; rw [hh290] at X290
        show OGo p e below _ T290 (mkF m 159 #[.val (.long i0), .second, .val (.int i1), .val (.int i2), .val (.int i3), .val (.int i4), .val (.int (2 : Int32)), .val (.double (FP.dneg (FP.l2d i0))), .second, .val (.double (FP.i2d fa)), .second, .val (.double (FP.i2d fb)), .second, .val (.double (FP.i2d fc)), .second, .val (.ref a234), .val (.ref a240), .val (.ref a257), .unset, .unset, .unset, .unset] [(.double (FP.dadd (FP.dadd (FP.dneg (FP.l2d i0)) (FP.i2d fa)) (FP.i2d fb)))])
        refine OGo.dstore (pc' := 161) C256 X290 at_159 rfl (l' := #[.val (.long i0), .second, .val (.int i1), .val (.int i2), .val (.int i3), .val (.int i4), .val (.int (2 : Int32)), .val (.double (FP.dneg (FP.l2d i0))), .second, .val (.double (FP.i2d fa)), .second, .val (.double (FP.i2d fb)), .second, .val (.double (FP.i2d fc)), .second, .val (.ref a234), .val (.ref a240), .val (.ref a257), .val (.double (FP.dadd (FP.dadd (FP.dneg (FP.l2d i0)) (FP.i2d fa)) (FP.i2d fb))), .second, .unset, .unset]) rfl ?_
        refine OGo.dload (pc' := 163) C256 X290 at_161 rfl rfl ?_
        refine OGo.dstore (pc' := 165) C256 X290 at_163 rfl (l' := #[.val (.long i0), .second, .val (.int i1), .val (.int i2), .val (.int i3), .val (.int i4), .val (.int (2 : Int32)), .val (.double (FP.dneg (FP.l2d i0))), .second, .val (.double (FP.i2d fa)), .second, .val (.double (FP.i2d fb)), .second, .val (.double (FP.i2d fc)), .second, .val (.ref a234), .val (.ref a240), .val (.ref a257), .val (.double (FP.dadd (FP.dadd (FP.dneg (FP.l2d i0)) (FP.i2d fa)) (FP.i2d fb))), .second, .val (.double (FP.dneg (FP.l2d i0))), .second]) rfl ?_
        refine OGo.iload (pc' := 167) C256 X290 at_165 rfl rfl ?_
        refine OGo.iconst (pc' := 168) (z := (1 : Int32)) C256 X290 at_167 rfl (by decide) ?_
        refine OGo.icmpNo (pc' := 171) C256 X290 at_168 rfl (flt (by decide : ¬ (2 : Int32) < (1 : Int32))).1 ?_
        refine OGo.dload (pc' := 173) C256 X290 at_171 rfl rfl ?_
        refine OGo.dload (pc' := 175) C256 X290 at_173 rfl rfl ?_
        refine OGo.dadd (pc' := 176) (v := (FP.dadd (FP.dneg (FP.l2d i0)) (FP.i2d fa))) C256 X290 at_175 rfl (dadd_out (own_lng i0) (i2d_fin _)) rfl ?_
        refine OGo.dstore (pc' := 178) C256 X290 at_176 rfl (l' := #[.val (.long i0), .second, .val (.int i1), .val (.int i2), .val (.int i3), .val (.int i4), .val (.int (2 : Int32)), .val (.double (FP.dneg (FP.l2d i0))), .second, .val (.double (FP.i2d fa)), .second, .val (.double (FP.i2d fb)), .second, .val (.double (FP.i2d fc)), .second, .val (.ref a234), .val (.ref a240), .val (.ref a257), .val (.double (FP.dadd (FP.dadd (FP.dneg (FP.l2d i0)) (FP.i2d fa)) (FP.i2d fb))), .second, .val (.double (FP.dadd (FP.dneg (FP.l2d i0)) (FP.i2d fa))), .second]) rfl ?_
        refine OGo.iload (pc' := 180) C256 X290 at_178 rfl rfl ?_
        refine OGo.iconst (pc' := 181) (z := (2 : Int32)) C256 X290 at_180 rfl (by decide) ?_
        refine OGo.icmpNo (pc' := 184) C256 X290 at_181 rfl (flt (by decide : ¬ (2 : Int32) < (2 : Int32))).1 ?_
        refine OGo.dload (pc' := 186) C256 X290 at_184 rfl rfl ?_
        refine OGo.dload (pc' := 188) C256 X290 at_186 rfl rfl ?_
        refine OGo.dadd (pc' := 189) (v := (FP.dadd (FP.dadd (FP.dneg (FP.l2d i0)) (FP.i2d fa)) (FP.i2d fb))) C256 X290 at_188 rfl (dadd_out (dadd_out (own_lng i0) (i2d_fin _)) (i2d_fin _)) rfl ?_
        refine OGo.dstore (pc' := 191) C256 X290 at_189 rfl (l' := #[.val (.long i0), .second, .val (.int i1), .val (.int i2), .val (.int i3), .val (.int i4), .val (.int (2 : Int32)), .val (.double (FP.dneg (FP.l2d i0))), .second, .val (.double (FP.i2d fa)), .second, .val (.double (FP.i2d fb)), .second, .val (.double (FP.i2d fc)), .second, .val (.ref a234), .val (.ref a240), .val (.ref a257), .val (.double (FP.dadd (FP.dadd (FP.dneg (FP.l2d i0)) (FP.i2d fa)) (FP.i2d fb))), .second, .val (.double (FP.dadd (FP.dadd (FP.dneg (FP.l2d i0)) (FP.i2d fa)) (FP.i2d fb))), .second]) rfl ?_
        refine OGo.iload (pc' := 193) C256 X290 at_191 rfl rfl ?_
        refine OGo.iconst (pc' := 194) (z := (3 : Int32)) C256 X290 at_193 rfl (by decide) ?_
        refine OGo.icmpYes (pc' := 204) C256 X290 at_194 (tlt (by decide : (2 : Int32) < (3 : Int32))).1 (by decide) (by decide) ?_
        refine OGo.dload (pc' := 206) C256 X290 at_204 rfl rfl ?_
        refine OGo.dload (pc' := 208) C256 X290 at_206 rfl rfl ?_
        refine OGo.callS (pc' := 211) (cells' := 35) (slots' := 725) (argsL := [(.double (FP.dadd (FP.dadd (FP.dneg (FP.l2d i0)) (FP.i2d fa)) (FP.i2d fb))), (.double (FP.dadd (FP.dadd (FP.dneg (FP.l2d i0)) (FP.i2d fa)) (FP.i2d fb)))]) (St := []) C256 X290 (wd221 hw) (wd222 hw) (by decide) (wd224 hw) (wd223 hw) (ctSame hw X290.2.1 (FP.dadd (FP.dadd (FP.dneg (FP.l2d i0)) (FP.i2d fa)) (FP.i2d fb)) (dadd_out (dadd_out (own_lng i0) (i2d_fin _)) (i2d_fin _))) (lenOf pd26 rfl) rfl at_208 rfl rfl (by decide) (Nat.le_of_ble_eq_true rfl) rfl rfl (by decide) (by decide) (fun v291 T291 h291 Q291 X291 z291 => ?_)
        obtain ⟨hv291, hh291⟩ := Q291
        subst hv291; rw [hh291] at X291
        show OGo p e below _ T291 (mkF m 211 #[.val (.long i0), .second, .val (.int i1), .val (.int i2), .val (.int i3), .val (.int i4), .val (.int (2 : Int32)), .val (.double (FP.dneg (FP.l2d i0))), .second, .val (.double (FP.i2d fa)), .second, .val (.double (FP.i2d fb)), .second, .val (.double (FP.i2d fc)), .second, .val (.ref a234), .val (.ref a240), .val (.ref a257), .val (.double (FP.dadd (FP.dadd (FP.dneg (FP.l2d i0)) (FP.i2d fa)) (FP.i2d fb))), .second, .val (.double (FP.dadd (FP.dadd (FP.dneg (FP.l2d i0)) (FP.i2d fa)) (FP.i2d fb))), .second] [(.int (1 : Int32))])
        exact OGo.retWN C256 X291 (ew hw) Hd288 at_211 hret (by simp) (z' := (1 : Int32)) (by decide) hlk (fun _ _ => rfl) (by decide) (by decide)
  · refine OGo.istore (pc' := 5) C X0 at_3 rfl (l' := #[.val (.long i0), .second, .val (.int i1), .val (.int i2), .val (.int i3), .val (.int i4), .val (.int (3 : Int32)), .unset, .unset, .unset, .unset, .unset, .unset, .unset, .unset, .unset, .unset, .unset, .unset, .unset, .unset, .unset]) rfl ?_
    refine OGo.lloadN (pc' := 6) C X0 at_5 rfl rfl ?_
    refine OGo.l2d (pc' := 7) (v := (FP.l2d i0)) C X0 at_6 rfl rfl ?_
    refine OGo.dstore (pc' := 9) C X0 at_7 rfl (l' := #[.val (.long i0), .second, .val (.int i1), .val (.int i2), .val (.int i3), .val (.int i4), .val (.int (3 : Int32)), .val (.double (FP.l2d i0)), .second, .unset, .unset, .unset, .unset, .unset, .unset, .unset, .unset, .unset, .unset, .unset, .unset, .unset]) rfl ?_
    refine OGo.iloadN (pc' := 10) C X0 at_9 rfl rfl ?_
    refine OGo.iconst (pc' := 11) (z := (4 : Int32)) C X0 at_10 rfl (by decide) ?_
    obtain ⟨sg, h_sg⟩ : ∃ z : Int32, i1 &&& (4 : Int32) = z := ⟨_, rfl⟩
    refine OGo.iand (pc' := 12) (z := sg) C X0 at_11 rfl h_sg ?_
    by_cases hc292 : sg = (0 : Int32)
    · refine OGo.ifYes (pc' := 20) C X0 at_12 (teq hc292).1 (by decide) (by decide) ?_
      refine OGo.iloadN (pc' := 21) C X0 at_20 rfl rfl ?_
      refine OGo.ldcInt (pc' := 23) C X0 (wd0 hw) at_21 rfl ?_
      obtain ⟨fa, h_fa⟩ : ∃ z : Int32, i2 &&& (2147483647 : Int32) = z := ⟨_, rfl⟩
      refine OGo.iand (pc' := 24) (z := fa) C X0 at_23 rfl h_fa ?_
      refine OGo.i2d (pc' := 25) (v := (FP.i2d fa)) C X0 at_24 rfl rfl ?_
      refine OGo.dstore (pc' := 27) C X0 at_25 rfl (l' := #[.val (.long i0), .second, .val (.int i1), .val (.int i2), .val (.int i3), .val (.int i4), .val (.int (3 : Int32)), .val (.double (FP.l2d i0)), .second, .val (.double (FP.i2d fa)), .second, .unset, .unset, .unset, .unset, .unset, .unset, .unset, .unset, .unset, .unset, .unset]) rfl ?_
      refine OGo.iload (pc' := 29) C X0 at_27 rfl rfl ?_
      refine OGo.ldcInt (pc' := 31) C X0 (wd0 hw) at_29 rfl ?_
      obtain ⟨fb, h_fb⟩ : ∃ z : Int32, i3 &&& (2147483647 : Int32) = z := ⟨_, rfl⟩
      refine OGo.iand (pc' := 32) (z := fb) C X0 at_31 rfl h_fb ?_
      refine OGo.i2d (pc' := 33) (v := (FP.i2d fb)) C X0 at_32 rfl rfl ?_
      refine OGo.dstore (pc' := 35) C X0 at_33 rfl (l' := #[.val (.long i0), .second, .val (.int i1), .val (.int i2), .val (.int i3), .val (.int i4), .val (.int (3 : Int32)), .val (.double (FP.l2d i0)), .second, .val (.double (FP.i2d fa)), .second, .val (.double (FP.i2d fb)), .second, .unset, .unset, .unset, .unset, .unset, .unset, .unset, .unset, .unset]) rfl ?_
      refine OGo.iload (pc' := 37) C X0 at_35 rfl rfl ?_
      refine OGo.ldcInt (pc' := 39) C X0 (wd0 hw) at_37 rfl ?_
      obtain ⟨fc, h_fc⟩ : ∃ z : Int32, i4 &&& (2147483647 : Int32) = z := ⟨_, rfl⟩
      refine OGo.iand (pc' := 40) (z := fc) C X0 at_39 rfl h_fc ?_
      refine OGo.i2d (pc' := 41) (v := (FP.i2d fc)) C X0 at_40 rfl rfl ?_
      refine OGo.dstore (pc' := 43) C X0 at_41 rfl (l' := #[.val (.long i0), .second, .val (.int i1), .val (.int i2), .val (.int i3), .val (.int i4), .val (.int (3 : Int32)), .val (.double (FP.l2d i0)), .second, .val (.double (FP.i2d fa)), .second, .val (.double (FP.i2d fb)), .second, .val (.double (FP.i2d fc)), .second, .unset, .unset, .unset, .unset, .unset, .unset, .unset]) rfl ?_
      refine OGo.iload (pc' := 45) C X0 at_43 rfl rfl ?_
      refine OGo.ifYes (pc' := 56) C X0 at_45 (feq (by decide : ¬ (3 : Int32) = (0 : Int32))).2 (by decide) (by decide) ?_
      refine OGo.iload (pc' := 58) C X0 at_56 rfl rfl ?_
      refine OGo.iconst (pc' := 59) (z := (1 : Int32)) C X0 at_58 rfl (by decide) ?_
      refine OGo.icmpYes (pc' := 75) C X0 at_59 (feq (by decide : ¬ (3 : Int32) = (1 : Int32))).2 (by decide) (by decide) ?_
      refine OGo.iload (pc' := 77) C X0 at_75 rfl rfl ?_
      refine OGo.iconst (pc' := 78) (z := (2 : Int32)) C X0 at_77 rfl (by decide) ?_
      refine OGo.icmpYes (pc' := 99) C X0 at_78 (feq (by decide : ¬ (3 : Int32) = (2 : Int32))).2 (by decide) (by decide) ?_
      refine OGo.iconst (pc' := 100) (z := (3 : Int32)) C X0 at_99 rfl (by decide) ?_
      refine OGo.newarray (pc' := 102) (cap := 3) (d0 := (.double (0 : UInt64))) (cells' := 1) (slots' := 3) C X0 (wd1 hw) rfl at_100 rfl (by decide) (by decide) (by decide) rfl rfl rfl (by decide) (by decide) (fun T293 h293 a293 k293 X293 g293 q293 E293 V293 => ?_)
      have Hd294 := H0.ext E293
      replace V293 : Arv Z h293 a293 k293 .double (3 : Int32) [(.double (0 : UInt64)), (.double (0 : UInt64)), (.double (0 : UInt64))] (.double (0 : UInt64)) := V293.pad (pad_rep [] (.double (0 : UInt64)) 3)
      refine OGo.dup (pc' := 103) C X293 at_102 rfl rfl ?_
      refine OGo.iconst (pc' := 104) (z := (0 : Int32)) C X293 at_103 rfl (by decide) ?_
      refine OGo.dload (pc' := 106) C X293 at_104 rfl rfl ?_
      refine OGo.dastore (pc' := 107) C X293 V293 q293 (i := 0) at_106 rfl ⟨by decide, by decide⟩ (by decide) (Nat.le_of_ble_eq_true rfl) (fun T295 h295 X295 W295 V295 => ?_)
      replace V295 : Arv Z h295 a293 k293 .double (3 : Int32) [(.double (FP.i2d fa)), (.double (0 : UInt64)), (.double (0 : UInt64))] (.double (0 : UInt64)) := V295
      have Hd296 := Hd294.wr W295 (safe_arv (EL := consts_1) C.2.1.alike V293 (by decide))
      refine OGo.dup (pc' := 108) C X295 at_107 rfl rfl ?_
      refine OGo.iconst (pc' := 109) (z := (1 : Int32)) C X295 at_108 rfl (by decide) ?_
      refine OGo.dload (pc' := 111) C X295 at_109 rfl rfl ?_
      refine OGo.dastore (pc' := 112) C X295 V295 q293 (i := 1) at_111 rfl ⟨by decide, by decide⟩ (by decide) (Nat.le_of_ble_eq_true rfl) (fun T297 h297 X297 W297 V297 => ?_)
      replace V297 : Arv Z h297 a293 k293 .double (3 : Int32) [(.double (FP.i2d fa)), (.double (FP.i2d fb)), (.double (0 : UInt64))] (.double (0 : UInt64)) := V297
      have Hd298 := Hd296.wr W297 (safe_arv (EL := consts_1) C.2.1.alike V295 (by decide))
      refine OGo.dup (pc' := 113) C X297 at_112 rfl rfl ?_
      refine OGo.iconst (pc' := 114) (z := (2 : Int32)) C X297 at_113 rfl (by decide) ?_
      refine OGo.dload (pc' := 116) C X297 at_114 rfl rfl ?_
      refine OGo.dastore (pc' := 117) C X297 V297 q293 (i := 2) at_116 rfl ⟨by decide, by decide⟩ (by decide) (Nat.le_of_ble_eq_true rfl) (fun T299 h299 X299 W299 V299 => ?_)
      replace V299 : Arv Z h299 a293 k293 .double (3 : Int32) [(.double (FP.i2d fa)), (.double (FP.i2d fb)), (.double (FP.i2d fc))] (.double (0 : UInt64)) := V299
      have Hd300 := Hd298.wr W299 (safe_arv (EL := consts_1) C.2.1.alike V297 (by decide))
      refine OGo.astore (pc' := 119) C X299 at_117 rfl rfl (l' := #[.val (.long i0), .second, .val (.int i1), .val (.int i2), .val (.int i3), .val (.int i4), .val (.int (3 : Int32)), .val (.double (FP.l2d i0)), .second, .val (.double (FP.i2d fa)), .second, .val (.double (FP.i2d fb)), .second, .val (.double (FP.i2d fc)), .second, .val (.ref a293), .unset, .unset, .unset, .unset, .unset, .unset]) rfl ?_
      refine OGo.new (pc' := 122) (cells' := 2) (slots' := 10) C X299 (wd2 hw) (wd3 hw) (wd4 hw) at_119 rfl rfl rfl (by decide) (by decide) (fun T301 h301 a301 X301 g301 q301 E301 A301 D301 U301 => ?_)
      have ne302 : a293 ≠ a301 := Nat.ne_of_lt (Nat.lt_of_lt_of_eq V299.lt g301.symm)
      have Hd303 := Hd300.ext E301
      have F301_name : Fld Z h301 a301 "com/example/makespan/makespan/model/VmType" "name" "Ljava/lang/String;" .null := D301 (Or.inr (wd30 hw)) (ty := (.object "java/lang/String")) (by decide)
      have F301_speed : Fld Z h301 a301 "com/example/makespan/makespan/model/VmType" "speed" "D" (.double (0 : UInt64)) := D301 (Or.inr (wd160 hw)) (ty := .double) (by decide)
      have F301_pricePerPeriod : Fld Z h301 a301 "com/example/makespan/makespan/model/VmType" "pricePerPeriod" "D" (.double (0 : UInt64)) := D301 (Or.inr (wd169 hw)) (ty := .double) (by decide)
      have F301_periodSeconds : Fld Z h301 a301 "com/example/makespan/makespan/model/VmType" "periodSeconds" "D" (.double (0 : UInt64)) := D301 (Or.inr (wd172 hw)) (ty := .double) (by decide)
      have F301_bootSeconds : Fld Z h301 a301 "com/example/makespan/makespan/model/VmType" "bootSeconds" "D" (.double (0 : UInt64)) := D301 (Or.inr (wd176 hw)) (ty := .double) (by decide)
      have F301_bootBilled : Fld Z h301 a301 "com/example/makespan/makespan/model/VmType" "bootBilled" "Z" (.int (0 : Int32)) := D301 (Or.inr (wd178 hw)) (ty := .boolean) (by decide)
      have F301_startupFee : Fld Z h301 a301 "com/example/makespan/makespan/model/VmType" "startupFee" "D" (.double (0 : UInt64)) := D301 (Or.inr (wd181 hw)) (ty := .double) (by decide)
      refine OGo.dup (pc' := 123) C X301 at_122 rfl rfl ?_
      refine OGo.ldcC (pc' := 125) (n := 4) (cells' := 4) (slots' := 18) (z := (1 : Int32)) (vs := [(.int (116 : Int32))]) C X301 (ew hw) Hd303 (wd5 hw) (wS hw) (List.mem_of_getElem? (i := 8) rfl) ⟨by decide +kernel, by first | rfl | decide +kernel⟩ (by decide) rfl at_123 rfl (by decide +kernel) (by decide) rfl rfl (by decide) (by decide) (fun vm304 T304 h304 a304 b304 k304 C304 X304 Hd304 E304 R304 A304 F304a F304b V304 sf304 => ?_)
      have f305 := ((V299.ext E301).ext E304)
      have sn306 := sf304 a293 (safe_arv (EL := consts_1) C304.2.1.alike f305 (by decide))
      have f307 := (A301.ext E304)
      have sn308 := sf304 a301 (Safe.exa (EL := consts_1) C304.2.1.alike f307 (by decide) (by decide))
      refine OGo.dconst1 (pc' := 126) (v := (FP.dconst1)) C304 X304 at_125 rfl rfl ?_
      refine OGo.dconst1 (pc' := 127) (v := (FP.dconst1)) C304 X304 at_126 rfl rfl ?_
      refine OGo.dconst1 (pc' := 128) (v := (FP.dconst1)) C304 X304 at_127 rfl rfl ?_
      have f309 := (F301_name.ext E304)
      have f310 := (F301_speed.ext E304)
      have f311 := (F301_pricePerPeriod.ext E304)
      have f312 := (F301_periodSeconds.ext E304)
      have f313 := (F301_bootSeconds.ext E304)
      have f314 := (F301_bootBilled.ext E304)
      have f315 := (F301_startupFee.ext E304)
      have f316 := ((((((OD.ext E293).wr W295 q293).wr W297 q293).wr W299 q293).ext E301).ext E304)
      refine OGo.callWInit (pc' := 131) (cells' := 34) (slots' := 718) (argsL := [(.ref a304), (.double (FP.dconst1)), (.double (FP.dconst1)), (.double (FP.dconst1))]) (St := [(.ref a301)]) C304 X304 (ew hw) Hd304 rfl rfl (wd13 hw) (wd14 hw) (by decide) (wd15 hw) (wd4 hw) (ctV4 hw X304.2.1 a301 a304 b304 k304 cz f307 f309 f310 f311 f312 f313 f314 f315 q301 A304 F304b F304a V304 f316 S2 hcz) (fun _ hx => by cases hx) (lenOf pd24 rfl) rfl at_128 rfl rfl (by decide) (Nat.le_of_ble_eq_true rfl) rfl rfl (by decide) (by decide) (fun v317 vm317 T317 h317 Q317 C317 X317 Hd317 R317 => ?_)
      obtain ⟨hv317, K317, Ev317, Fb317⟩ := Q317
      subst hv317
      show OGo p e below _ T317 (mkF m 131 #[.val (.long i0), .second, .val (.int i1), .val (.int i2), .val (.int i3), .val (.int i4), .val (.int (3 : Int32)), .val (.double (FP.l2d i0)), .second, .val (.double (FP.i2d fa)), .second, .val (.double (FP.i2d fb)), .second, .val (.double (FP.i2d fc)), .second, .val (.ref a293), .unset, .unset, .unset, .unset, .unset, .unset] [(.ref a301)])
      refine OGo.astore (pc' := 133) C317 X317 at_131 rfl rfl (l' := #[.val (.long i0), .second, .val (.int i1), .val (.int i2), .val (.int i3), .val (.int i4), .val (.int (3 : Int32)), .val (.double (FP.l2d i0)), .second, .val (.double (FP.i2d fa)), .second, .val (.double (FP.i2d fb)), .second, .val (.double (FP.i2d fc)), .second, .val (.ref a293), .val (.ref a301), .unset, .unset, .unset, .unset, .unset]) rfl ?_
      refine OGo.new (pc' := 136) (cells' := 35) (slots' := 726) C317 X317 (wd182 hw) (wd183 hw) (wd184 hw) at_133 rfl rfl rfl (by decide) (by decide) (fun T318 h318 a318 X318 g318 q318 E318 A318 D318 U318 => ?_)
      have f320 := (f305.keep K317 (ninS ne302 nin0))
      have ne319 : a293 ≠ a318 := Nat.ne_of_lt (Nat.lt_of_lt_of_eq f320.lt g318.symm)
      have ne321 : a301 ≠ a318 := Nat.ne_of_lt (Nat.lt_of_lt_of_eq Ev317.lt g318.symm)
      have f323 := (A304.keep K317)
      have ne322 : a304 ≠ a318 := Nat.ne_of_lt (Nat.lt_of_lt_of_eq f323.lt g318.symm)
      have f325 := (V304.keep K317 (ninS (Ne.symm sn308.2) nin0))
      have ne324 : b304 ≠ a318 := Nat.ne_of_lt (Nat.lt_of_lt_of_eq f325.lt g318.symm)
      have Hd326 := Hd317.ext E318
      have F318_type : Fld Z h318 a318 "com/example/makespan/makespan/planning/TaskOnType" "type" "Lcom/example/makespan/makespan/model/VmType;" .null := D318 (Or.inr (wd193 hw)) (ty := (.object "com/example/makespan/makespan/model/VmType")) (by decide)
      have F318_billing : Fld Z h318 a318 "com/example/makespan/makespan/planning/TaskOnType" "billing" "Lcom/example/makespan/makespan/model/Billing;" .null := D318 (Or.inr (wd195 hw)) (ty := (.object "com/example/makespan/makespan/model/Billing")) (by decide)
      have F318_input : Fld Z h318 a318 "com/example/makespan/makespan/planning/TaskOnType" "input" "I" (.int (0 : Int32)) := D318 (Or.inr (wd197 hw)) (ty := .int) (by decide)
      have F318_arrival : Fld Z h318 a318 "com/example/makespan/makespan/planning/TaskOnType" "arrival" "D" (.double (0 : UInt64)) := D318 (Or.inr (wd199 hw)) (ty := .double) (by decide)
      have F318_ready : Fld Z h318 a318 "com/example/makespan/makespan/planning/TaskOnType" "ready" "D" (.double (0 : UInt64)) := D318 (Or.inr (wd209 hw)) (ty := .double) (by decide)
      have F318_seconds : Fld Z h318 a318 "com/example/makespan/makespan/planning/TaskOnType" "seconds" "D" (.double (0 : UInt64)) := D318 (Or.inr (wd211 hw)) (ty := .double) (by decide)
      have F318_fees : Fld Z h318 a318 "com/example/makespan/makespan/planning/TaskOnType" "fees" "[D" .null := D318 (Or.inr (wd213 hw)) (ty := (.array .double)) (by decide)
      have F318_feesAllZero : Fld Z h318 a318 "com/example/makespan/makespan/planning/TaskOnType" "feesAllZero" "Z" (.int (0 : Int32)) := D318 (Or.inr (wd215 hw)) (ty := .boolean) (by decide)
      refine OGo.dup (pc' := 137) C317 X318 at_136 rfl rfl ?_
      refine OGo.aload (pc' := 139) C317 X318 at_137 rfl rfl rfl ?_
      have f327 := ((f316.keep K317 (allS q301 all0)).ext E318)
      refine OGo.getstatic (pc' := 142) C317 X318 (host := "") (Or.inl (wd185 hw)) Via.refl (Sl.ext f327.2) at_139 rfl (fun T328 X328 => ?_)
      refine OGo.iconst (pc' := 143) (z := (0 : Int32)) C317 X328 at_142 rfl (by decide) ?_
      refine OGo.dconst0 (pc' := 144) (v := (FP.dconst0)) C317 X328 at_143 rfl rfl ?_
      refine OGo.dconst0 (pc' := 145) (v := (FP.dconst0)) C317 X328 at_144 rfl rfl ?_
      refine OGo.aload (pc' := 147) C317 X328 at_145 rfl rfl rfl ?_
      by_cases hz0 : fa = 0
      · by_cases hz1 : fb = 0
        · by_cases hz2 : fc = 0
          · have f329 := (Ev317.ext E318)
            have f330 := (Fb317.ext E318)
            have f331 := (f320.ext E318)
            refine OGo.callInit (pc' := 150) (cells' := 35) (slots' := 726) (argsL := [(.ref a301), (.ref bl), (.int (0 : Int32)), (.double (FP.dconst0)), (.double (FP.dconst0)), (.ref a293)]) (St := [(.ref a318)]) C317 X328 rfl rfl (wd188 hw) (wd189 hw) (by decide) (wd190 hw) (wd184 hw) (ctTk33R hw X328.2.1 a318 a301 a293 bl k293 fa fb fc A318 F318_type F318_billing F318_input F318_arrival F318_ready F318_seconds F318_fees F318_feesAllZero q318 f329 f330 f331 hz0 hz1 hz2) (lenOf pd25 rfl) rfl at_147 rfl rfl (by decide) (Nat.le_of_ble_eq_true rfl) rfl rfl (by decide) (by decide) (fun v332 T332 h332 Q332 X332 z332 => ?_)
            obtain ⟨hv332, K332, Et332, Ff332, Fz332⟩ := Q332
            subst hv332
            have Hd333 := Hd326.keep K332 (allS (Safe.exa (EL := consts_1) C317.2.1.alike A318 (by decide) (by decide)) all0)
            show OGo p e below _ T332 (mkF m 150 #[.val (.long i0), .second, .val (.int i1), .val (.int i2), .val (.int i3), .val (.int i4), .val (.int (3 : Int32)), .val (.double (FP.l2d i0)), .second, .val (.double (FP.i2d fa)), .second, .val (.double (FP.i2d fb)), .second, .val (.double (FP.i2d fc)), .second, .val (.ref a293), .val (.ref a301), .unset, .unset, .unset, .unset, .unset] [(.ref a318)])
            refine OGo.astore (pc' := 152) C317 X332 at_150 rfl rfl (l' := #[.val (.long i0), .second, .val (.int i1), .val (.int i2), .val (.int i3), .val (.int i4), .val (.int (3 : Int32)), .val (.double (FP.l2d i0)), .second, .val (.double (FP.i2d fa)), .second, .val (.double (FP.i2d fb)), .second, .val (.double (FP.i2d fc)), .second, .val (.ref a293), .val (.ref a301), .val (.ref a318), .unset, .unset, .unset, .unset]) rfl ?_
            refine OGo.aload (pc' := 154) C317 X332 at_152 rfl rfl rfl ?_
            refine OGo.dload (pc' := 156) C317 X332 at_154 rfl rfl ?_
            have f334 := (f331.keep K332 (ninS ne319 nin0))
            refine OGo.callV (pc' := 159) (cells' := 35) (slots' := 726) (argsL := [(.double (FP.l2d i0))]) (St := []) C317 X332 (wd216 hw) (wd217 hw) (wd219 hw) (wd218 hw) (by decide) Et332 (wd220 hw) (wd184 hw) (ctWf3Z hw X332.2.1 a318 a293 k293 fa fb fc (FP.l2d i0) Ff332 Fz332 f334 (own_ln i0)) (lenOf pd1 rfl) rfl at_156 rfl rfl (by decide) (Nat.le_of_ble_eq_true rfl) rfl rfl (by decide) (by decide) (fun v335 T335 h335 Q335 X335 z335 => ?_)
            obtain ⟨hv335, hh335⟩ := Q335
            subst hv335; rw [hh335] at X335
            show OGo p e below _ T335 (mkF m 159 #[.val (.long i0), .second, .val (.int i1), .val (.int i2), .val (.int i3), .val (.int i4), .val (.int (3 : Int32)), .val (.double (FP.l2d i0)), .second, .val (.double (FP.i2d fa)), .second, .val (.double (FP.i2d fb)), .second, .val (.double (FP.i2d fc)), .second, .val (.ref a293), .val (.ref a301), .val (.ref a318), .unset, .unset, .unset, .unset] [(.double (FP.dadd (FP.l2d i0) (FP.dconst0)))])
            refine OGo.dstore (pc' := 161) C317 X335 at_159 rfl (l' := #[.val (.long i0), .second, .val (.int i1), .val (.int i2), .val (.int i3), .val (.int i4), .val (.int (3 : Int32)), .val (.double (FP.l2d i0)), .second, .val (.double (FP.i2d fa)), .second, .val (.double (FP.i2d fb)), .second, .val (.double (FP.i2d fc)), .second, .val (.ref a293), .val (.ref a301), .val (.ref a318), .val (.double (FP.dadd (FP.l2d i0) (FP.dconst0))), .second, .unset, .unset]) rfl ?_
            refine OGo.dload (pc' := 163) C317 X335 at_161 rfl rfl ?_
            refine OGo.dstore (pc' := 165) C317 X335 at_163 rfl (l' := #[.val (.long i0), .second, .val (.int i1), .val (.int i2), .val (.int i3), .val (.int i4), .val (.int (3 : Int32)), .val (.double (FP.l2d i0)), .second, .val (.double (FP.i2d fa)), .second, .val (.double (FP.i2d fb)), .second, .val (.double (FP.i2d fc)), .second, .val (.ref a293), .val (.ref a301), .val (.ref a318), .val (.double (FP.dadd (FP.l2d i0) (FP.dconst0))), .second, .val (.double (FP.l2d i0)), .second]) rfl ?_
            refine OGo.iload (pc' := 167) C317 X335 at_165 rfl rfl ?_
            refine OGo.iconst (pc' := 168) (z := (1 : Int32)) C317 X335 at_167 rfl (by decide) ?_
            refine OGo.icmpNo (pc' := 171) C317 X335 at_168 rfl (flt (by decide : ¬ (3 : Int32) < (1 : Int32))).1 ?_
            refine OGo.dload (pc' := 173) C317 X335 at_171 rfl rfl ?_
            refine OGo.dload (pc' := 175) C317 X335 at_173 rfl rfl ?_
            refine OGo.dadd (pc' := 176) (v := (FP.dadd (FP.l2d i0) (FP.dconst0))) C317 X335 at_175 rfl (dadd_out (own_ln i0) (i2d_fin _)) (by rw [own_i0 hz0]) ?_
            refine OGo.dstore (pc' := 178) C317 X335 at_176 rfl (l' := #[.val (.long i0), .second, .val (.int i1), .val (.int i2), .val (.int i3), .val (.int i4), .val (.int (3 : Int32)), .val (.double (FP.l2d i0)), .second, .val (.double (FP.i2d fa)), .second, .val (.double (FP.i2d fb)), .second, .val (.double (FP.i2d fc)), .second, .val (.ref a293), .val (.ref a301), .val (.ref a318), .val (.double (FP.dadd (FP.l2d i0) (FP.dconst0))), .second, .val (.double (FP.dadd (FP.l2d i0) (FP.dconst0))), .second]) rfl ?_
            refine OGo.iload (pc' := 180) C317 X335 at_178 rfl rfl ?_
            refine OGo.iconst (pc' := 181) (z := (2 : Int32)) C317 X335 at_180 rfl (by decide) ?_
            refine OGo.icmpNo (pc' := 184) C317 X335 at_181 rfl (flt (by decide : ¬ (3 : Int32) < (2 : Int32))).1 ?_
            refine OGo.dload (pc' := 186) C317 X335 at_184 rfl rfl ?_
            refine OGo.dload (pc' := 188) C317 X335 at_186 rfl rfl ?_
            refine OGo.dadd (pc' := 189) (v := (FP.dadd (FP.l2d i0) (FP.dconst0))) C317 X335 at_188 rfl (dadd_out (dadd_out (own_ln i0) own_f0) (i2d_fin _)) (by rw [own_i0 hz1]; exact own_add00 (own_ln i0)) ?_
            refine OGo.dstore (pc' := 191) C317 X335 at_189 rfl (l' := #[.val (.long i0), .second, .val (.int i1), .val (.int i2), .val (.int i3), .val (.int i4), .val (.int (3 : Int32)), .val (.double (FP.l2d i0)), .second, .val (.double (FP.i2d fa)), .second, .val (.double (FP.i2d fb)), .second, .val (.double (FP.i2d fc)), .second, .val (.ref a293), .val (.ref a301), .val (.ref a318), .val (.double (FP.dadd (FP.l2d i0) (FP.dconst0))), .second, .val (.double (FP.dadd (FP.l2d i0) (FP.dconst0))), .second]) rfl ?_
            refine OGo.iload (pc' := 193) C317 X335 at_191 rfl rfl ?_
            refine OGo.iconst (pc' := 194) (z := (3 : Int32)) C317 X335 at_193 rfl (by decide) ?_
            refine OGo.icmpNo (pc' := 197) C317 X335 at_194 rfl (flt (by decide : ¬ (3 : Int32) < (3 : Int32))).1 ?_
            refine OGo.dload (pc' := 199) C317 X335 at_197 rfl rfl ?_
            refine OGo.dload (pc' := 201) C317 X335 at_199 rfl rfl ?_
            refine OGo.dadd (pc' := 202) (v := (FP.dadd (FP.l2d i0) (FP.dconst0))) C317 X335 at_201 rfl (dadd_out (dadd_out (own_ln i0) own_f0) (i2d_fin _)) (by rw [own_i0 hz2]; exact own_add00 (own_ln i0)) ?_
            refine OGo.dstore (pc' := 204) C317 X335 at_202 rfl (l' := #[.val (.long i0), .second, .val (.int i1), .val (.int i2), .val (.int i3), .val (.int i4), .val (.int (3 : Int32)), .val (.double (FP.l2d i0)), .second, .val (.double (FP.i2d fa)), .second, .val (.double (FP.i2d fb)), .second, .val (.double (FP.i2d fc)), .second, .val (.ref a293), .val (.ref a301), .val (.ref a318), .val (.double (FP.dadd (FP.l2d i0) (FP.dconst0))), .second, .val (.double (FP.dadd (FP.l2d i0) (FP.dconst0))), .second]) rfl ?_
            refine OGo.dload (pc' := 206) C317 X335 at_204 rfl rfl ?_
            refine OGo.dload (pc' := 208) C317 X335 at_206 rfl rfl ?_
            refine OGo.callS (pc' := 211) (cells' := 35) (slots' := 726) (argsL := [(.double (FP.dadd (FP.l2d i0) (FP.dconst0))), (.double (FP.dadd (FP.l2d i0) (FP.dconst0)))]) (St := []) C317 X335 (wd221 hw) (wd222 hw) (by decide) (wd224 hw) (wd223 hw) (ctSame hw X335.2.1 (FP.dadd (FP.l2d i0) (FP.dconst0)) (dadd_out (own_ln i0) own_f0)) (lenOf pd26 rfl) rfl at_208 rfl rfl (by decide) (Nat.le_of_ble_eq_true rfl) rfl rfl (by decide) (by decide) (fun v336 T336 h336 Q336 X336 z336 => ?_)
            obtain ⟨hv336, hh336⟩ := Q336
            subst hv336; rw [hh336] at X336
            show OGo p e below _ T336 (mkF m 211 #[.val (.long i0), .second, .val (.int i1), .val (.int i2), .val (.int i3), .val (.int i4), .val (.int (3 : Int32)), .val (.double (FP.l2d i0)), .second, .val (.double (FP.i2d fa)), .second, .val (.double (FP.i2d fb)), .second, .val (.double (FP.i2d fc)), .second, .val (.ref a293), .val (.ref a301), .val (.ref a318), .val (.double (FP.dadd (FP.l2d i0) (FP.dconst0))), .second, .val (.double (FP.dadd (FP.l2d i0) (FP.dconst0))), .second] [(.int (1 : Int32))])
            exact OGo.retWN C317 X336 (ew hw) Hd333 at_211 hret (by simp) (z' := (1 : Int32)) (by decide) hlk (fun _ _ => rfl) (by decide) (by decide)
          · have f337 := (Ev317.ext E318)
            have f338 := (Fb317.ext E318)
            have f339 := (f320.ext E318)
            refine OGo.callInit (pc' := 150) (cells' := 35) (slots' := 726) (argsL := [(.ref a301), (.ref bl), (.int (0 : Int32)), (.double (FP.dconst0)), (.double (FP.dconst0)), (.ref a293)]) (St := [(.ref a318)]) C317 X328 rfl rfl (wd188 hw) (wd189 hw) (by decide) (wd190 hw) (wd184 hw) (ctTk32R hw X328.2.1 a318 a301 a293 bl k293 fa fb fc A318 F318_type F318_billing F318_input F318_arrival F318_ready F318_seconds F318_fees F318_feesAllZero q318 f337 f338 f339 hz0 hz1 hz2) (lenOf pd25 rfl) rfl at_147 rfl rfl (by decide) (Nat.le_of_ble_eq_true rfl) rfl rfl (by decide) (by decide) (fun v340 T340 h340 Q340 X340 z340 => ?_)
            obtain ⟨hv340, K340, Et340, Ff340, Fz340⟩ := Q340
            subst hv340
            have Hd341 := Hd326.keep K340 (allS (Safe.exa (EL := consts_1) C317.2.1.alike A318 (by decide) (by decide)) all0)
            show OGo p e below _ T340 (mkF m 150 #[.val (.long i0), .second, .val (.int i1), .val (.int i2), .val (.int i3), .val (.int i4), .val (.int (3 : Int32)), .val (.double (FP.l2d i0)), .second, .val (.double (FP.i2d fa)), .second, .val (.double (FP.i2d fb)), .second, .val (.double (FP.i2d fc)), .second, .val (.ref a293), .val (.ref a301), .unset, .unset, .unset, .unset, .unset] [(.ref a318)])
            refine OGo.astore (pc' := 152) C317 X340 at_150 rfl rfl (l' := #[.val (.long i0), .second, .val (.int i1), .val (.int i2), .val (.int i3), .val (.int i4), .val (.int (3 : Int32)), .val (.double (FP.l2d i0)), .second, .val (.double (FP.i2d fa)), .second, .val (.double (FP.i2d fb)), .second, .val (.double (FP.i2d fc)), .second, .val (.ref a293), .val (.ref a301), .val (.ref a318), .unset, .unset, .unset, .unset]) rfl ?_
            refine OGo.aload (pc' := 154) C317 X340 at_152 rfl rfl rfl ?_
            refine OGo.dload (pc' := 156) C317 X340 at_154 rfl rfl ?_
            have f342 := (f339.keep K340 (ninS ne319 nin0))
            refine OGo.callV (pc' := 159) (cells' := 35) (slots' := 726) (argsL := [(.double (FP.l2d i0))]) (St := []) C317 X340 (wd216 hw) (wd217 hw) (wd219 hw) (wd218 hw) (by decide) Et340 (wd220 hw) (wd184 hw) (ctWf3S hw X340.2.1 a318 a293 k293 fa fb fc (FP.l2d i0) Ff340 Fz340 f342 (own_ln i0)) (lenOf pd1 rfl) rfl at_156 rfl rfl (by decide) (Nat.le_of_ble_eq_true rfl) rfl rfl (by decide) (by decide) (fun v343 T343 h343 Q343 X343 z343 => ?_)
            obtain ⟨hv343, hh343⟩ := Q343
            subst hv343; rw [hh343] at X343
            show OGo p e below _ T343 (mkF m 159 #[.val (.long i0), .second, .val (.int i1), .val (.int i2), .val (.int i3), .val (.int i4), .val (.int (3 : Int32)), .val (.double (FP.l2d i0)), .second, .val (.double (FP.i2d fa)), .second, .val (.double (FP.i2d fb)), .second, .val (.double (FP.i2d fc)), .second, .val (.ref a293), .val (.ref a301), .val (.ref a318), .unset, .unset, .unset, .unset] [(.double (FP.dadd (FP.dadd (FP.dadd (FP.l2d i0) (FP.i2d fa)) (FP.i2d fb)) (FP.i2d fc)))])
            refine OGo.dstore (pc' := 161) C317 X343 at_159 rfl (l' := #[.val (.long i0), .second, .val (.int i1), .val (.int i2), .val (.int i3), .val (.int i4), .val (.int (3 : Int32)), .val (.double (FP.l2d i0)), .second, .val (.double (FP.i2d fa)), .second, .val (.double (FP.i2d fb)), .second, .val (.double (FP.i2d fc)), .second, .val (.ref a293), .val (.ref a301), .val (.ref a318), .val (.double (FP.dadd (FP.dadd (FP.dadd (FP.l2d i0) (FP.i2d fa)) (FP.i2d fb)) (FP.i2d fc))), .second, .unset, .unset]) rfl ?_
            refine OGo.dload (pc' := 163) C317 X343 at_161 rfl rfl ?_
            refine OGo.dstore (pc' := 165) C317 X343 at_163 rfl (l' := #[.val (.long i0), .second, .val (.int i1), .val (.int i2), .val (.int i3), .val (.int i4), .val (.int (3 : Int32)), .val (.double (FP.l2d i0)), .second, .val (.double (FP.i2d fa)), .second, .val (.double (FP.i2d fb)), .second, .val (.double (FP.i2d fc)), .second, .val (.ref a293), .val (.ref a301), .val (.ref a318), .val (.double (FP.dadd (FP.dadd (FP.dadd (FP.l2d i0) (FP.i2d fa)) (FP.i2d fb)) (FP.i2d fc))), .second, .val (.double (FP.l2d i0)), .second]) rfl ?_
            refine OGo.iload (pc' := 167) C317 X343 at_165 rfl rfl ?_
            refine OGo.iconst (pc' := 168) (z := (1 : Int32)) C317 X343 at_167 rfl (by decide) ?_
            refine OGo.icmpNo (pc' := 171) C317 X343 at_168 rfl (flt (by decide : ¬ (3 : Int32) < (1 : Int32))).1 ?_
            refine OGo.dload (pc' := 173) C317 X343 at_171 rfl rfl ?_
            refine OGo.dload (pc' := 175) C317 X343 at_173 rfl rfl ?_
            refine OGo.dadd (pc' := 176) (v := (FP.dadd (FP.l2d i0) (FP.i2d fa))) C317 X343 at_175 rfl (dadd_out (own_ln i0) (i2d_fin _)) rfl ?_
            refine OGo.dstore (pc' := 178) C317 X343 at_176 rfl (l' := #[.val (.long i0), .second, .val (.int i1), .val (.int i2), .val (.int i3), .val (.int i4), .val (.int (3 : Int32)), .val (.double (FP.l2d i0)), .second, .val (.double (FP.i2d fa)), .second, .val (.double (FP.i2d fb)), .second, .val (.double (FP.i2d fc)), .second, .val (.ref a293), .val (.ref a301), .val (.ref a318), .val (.double (FP.dadd (FP.dadd (FP.dadd (FP.l2d i0) (FP.i2d fa)) (FP.i2d fb)) (FP.i2d fc))), .second, .val (.double (FP.dadd (FP.l2d i0) (FP.i2d fa))), .second]) rfl ?_
            refine OGo.iload (pc' := 180) C317 X343 at_178 rfl rfl ?_
            refine OGo.iconst (pc' := 181) (z := (2 : Int32)) C317 X343 at_180 rfl (by decide) ?_
            refine OGo.icmpNo (pc' := 184) C317 X343 at_181 rfl (flt (by decide : ¬ (3 : Int32) < (2 : Int32))).1 ?_
            refine OGo.dload (pc' := 186) C317 X343 at_184 rfl rfl ?_
            refine OGo.dload (pc' := 188) C317 X343 at_186 rfl rfl ?_
            refine OGo.dadd (pc' := 189) (v := (FP.dadd (FP.dadd (FP.l2d i0) (FP.i2d fa)) (FP.i2d fb))) C317 X343 at_188 rfl (dadd_out (dadd_out (own_ln i0) (i2d_fin _)) (i2d_fin _)) rfl ?_
            refine OGo.dstore (pc' := 191) C317 X343 at_189 rfl (l' := #[.val (.long i0), .second, .val (.int i1), .val (.int i2), .val (.int i3), .val (.int i4), .val (.int (3 : Int32)), .val (.double (FP.l2d i0)), .second, .val (.double (FP.i2d fa)), .second, .val (.double (FP.i2d fb)), .second, .val (.double (FP.i2d fc)), .second, .val (.ref a293), .val (.ref a301), .val (.ref a318), .val (.double (FP.dadd (FP.dadd (FP.dadd (FP.l2d i0) (FP.i2d fa)) (FP.i2d fb)) (FP.i2d fc))), .second, .val (.double (FP.dadd (FP.dadd (FP.l2d i0) (FP.i2d fa)) (FP.i2d fb))), .second]) rfl ?_
            refine OGo.iload (pc' := 193) C317 X343 at_191 rfl rfl ?_
            refine OGo.iconst (pc' := 194) (z := (3 : Int32)) C317 X343 at_193 rfl (by decide) ?_
            refine OGo.icmpNo (pc' := 197) C317 X343 at_194 rfl (flt (by decide : ¬ (3 : Int32) < (3 : Int32))).1 ?_
            refine OGo.dload (pc' := 199) C317 X343 at_197 rfl rfl ?_
            refine OGo.dload (pc' := 201) C317 X343 at_199 rfl rfl ?_
            refine OGo.dadd (pc' := 202) (v := (FP.dadd (FP.dadd (FP.dadd (FP.l2d i0) (FP.i2d fa)) (FP.i2d fb)) (FP.i2d fc))) C317 X343 at_201 rfl (dadd_out (dadd_out (dadd_out (own_ln i0) (i2d_fin _)) (i2d_fin _)) (i2d_fin _)) rfl ?_
            refine OGo.dstore (pc' := 204) C317 X343 at_202 rfl (l' := #[.val (.long i0), .second, .val (.int i1), .val (.int i2), .val (.int i3), .val (.int i4), .val (.int (3 : Int32)), .val (.double (FP.l2d i0)), .second, .val (.double (FP.i2d fa)), .second, .val (.double (FP.i2d fb)), .second, .val (.double (FP.i2d fc)), .second, .val (.ref a293), .val (.ref a301), .val (.ref a318), .val (.double (FP.dadd (FP.dadd (FP.dadd (FP.l2d i0) (FP.i2d fa)) (FP.i2d fb)) (FP.i2d fc))), .second, .val (.double (FP.dadd (FP.dadd (FP.dadd (FP.l2d i0) (FP.i2d fa)) (FP.i2d fb)) (FP.i2d fc))), .second]) rfl ?_
            refine OGo.dload (pc' := 206) C317 X343 at_204 rfl rfl ?_
            refine OGo.dload (pc' := 208) C317 X343 at_206 rfl rfl ?_
            refine OGo.callS (pc' := 211) (cells' := 35) (slots' := 726) (argsL := [(.double (FP.dadd (FP.dadd (FP.dadd (FP.l2d i0) (FP.i2d fa)) (FP.i2d fb)) (FP.i2d fc))), (.double (FP.dadd (FP.dadd (FP.dadd (FP.l2d i0) (FP.i2d fa)) (FP.i2d fb)) (FP.i2d fc)))]) (St := []) C317 X343 (wd221 hw) (wd222 hw) (by decide) (wd224 hw) (wd223 hw) (ctSame hw X343.2.1 (FP.dadd (FP.dadd (FP.dadd (FP.l2d i0) (FP.i2d fa)) (FP.i2d fb)) (FP.i2d fc)) (dadd_out (dadd_out (dadd_out (own_ln i0) (i2d_fin _)) (i2d_fin _)) (i2d_fin _))) (lenOf pd26 rfl) rfl at_208 rfl rfl (by decide) (Nat.le_of_ble_eq_true rfl) rfl rfl (by decide) (by decide) (fun v344 T344 h344 Q344 X344 z344 => ?_)
            obtain ⟨hv344, hh344⟩ := Q344
            subst hv344; rw [hh344] at X344
            show OGo p e below _ T344 (mkF m 211 #[.val (.long i0), .second, .val (.int i1), .val (.int i2), .val (.int i3), .val (.int i4), .val (.int (3 : Int32)), .val (.double (FP.l2d i0)), .second, .val (.double (FP.i2d fa)), .second, .val (.double (FP.i2d fb)), .second, .val (.double (FP.i2d fc)), .second, .val (.ref a293), .val (.ref a301), .val (.ref a318), .val (.double (FP.dadd (FP.dadd (FP.dadd (FP.l2d i0) (FP.i2d fa)) (FP.i2d fb)) (FP.i2d fc))), .second, .val (.double (FP.dadd (FP.dadd (FP.dadd (FP.l2d i0) (FP.i2d fa)) (FP.i2d fb)) (FP.i2d fc))), .second] [(.int (1 : Int32))])
            exact OGo.retWN C317 X344 (ew hw) Hd341 at_211 hret (by simp) (z' := (1 : Int32)) (by decide) hlk (fun _ _ => rfl) (by decide) (by decide)
        · have f345 := (Ev317.ext E318)
          have f346 := (Fb317.ext E318)
          have f347 := (f320.ext E318)
          refine OGo.callInit (pc' := 150) (cells' := 35) (slots' := 726) (argsL := [(.ref a301), (.ref bl), (.int (0 : Int32)), (.double (FP.dconst0)), (.double (FP.dconst0)), (.ref a293)]) (St := [(.ref a318)]) C317 X328 rfl rfl (wd188 hw) (wd189 hw) (by decide) (wd190 hw) (wd184 hw) (ctTk31R hw X328.2.1 a318 a301 a293 bl k293 fa fb fc A318 F318_type F318_billing F318_input F318_arrival F318_ready F318_seconds F318_fees F318_feesAllZero q318 f345 f346 f347 hz0 hz1) (lenOf pd25 rfl) rfl at_147 rfl rfl (by decide) (Nat.le_of_ble_eq_true rfl) rfl rfl (by decide) (by decide) (fun v348 T348 h348 Q348 X348 z348 => ?_)
          obtain ⟨hv348, K348, Et348, Ff348, Fz348⟩ := Q348
          subst hv348
          have Hd349 := Hd326.keep K348 (allS (Safe.exa (EL := consts_1) C317.2.1.alike A318 (by decide) (by decide)) all0)
          show OGo p e below _ T348 (mkF m 150 #[.val (.long i0), .second, .val (.int i1), .val (.int i2), .val (.int i3), .val (.int i4), .val (.int (3 : Int32)), .val (.double (FP.l2d i0)), .second, .val (.double (FP.i2d fa)), .second, .val (.double (FP.i2d fb)), .second, .val (.double (FP.i2d fc)), .second, .val (.ref a293), .val (.ref a301), .unset, .unset, .unset, .unset, .unset] [(.ref a318)])
          refine OGo.astore (pc' := 152) C317 X348 at_150 rfl rfl (l' := #[.val (.long i0), .second, .val (.int i1), .val (.int i2), .val (.int i3), .val (.int i4), .val (.int (3 : Int32)), .val (.double (FP.l2d i0)), .second, .val (.double (FP.i2d fa)), .second, .val (.double (FP.i2d fb)), .second, .val (.double (FP.i2d fc)), .second, .val (.ref a293), .val (.ref a301), .val (.ref a318), .unset, .unset, .unset, .unset]) rfl ?_
          refine OGo.aload (pc' := 154) C317 X348 at_152 rfl rfl rfl ?_
          refine OGo.dload (pc' := 156) C317 X348 at_154 rfl rfl ?_
          have f350 := (f347.keep K348 (ninS ne319 nin0))
          refine OGo.callV (pc' := 159) (cells' := 35) (slots' := 726) (argsL := [(.double (FP.l2d i0))]) (St := []) C317 X348 (wd216 hw) (wd217 hw) (wd219 hw) (wd218 hw) (by decide) Et348 (wd220 hw) (wd184 hw) (ctWf3S hw X348.2.1 a318 a293 k293 fa fb fc (FP.l2d i0) Ff348 Fz348 f350 (own_ln i0)) (lenOf pd1 rfl) rfl at_156 rfl rfl (by decide) (Nat.le_of_ble_eq_true rfl) rfl rfl (by decide) (by decide) (fun v351 T351 h351 Q351 X351 z351 => ?_)
          obtain ⟨hv351, hh351⟩ := Q351
          subst hv351; rw [hh351] at X351
          show OGo p e below _ T351 (mkF m 159 #[.val (.long i0), .second, .val (.int i1), .val (.int i2), .val (.int i3), .val (.int i4), .val (.int (3 : Int32)), .val (.double (FP.l2d i0)), .second, .val (.double (FP.i2d fa)), .second, .val (.double (FP.i2d fb)), .second, .val (.double (FP.i2d fc)), .second, .val (.ref a293), .val (.ref a301), .val (.ref a318), .unset, .unset, .unset, .unset] [(.double (FP.dadd (FP.dadd (FP.dadd (FP.l2d i0) (FP.i2d fa)) (FP.i2d fb)) (FP.i2d fc)))])
          refine OGo.dstore (pc' := 161) C317 X351 at_159 rfl (l' := #[.val (.long i0), .second, .val (.int i1), .val (.int i2), .val (.int i3), .val (.int i4), .val (.int (3 : Int32)), .val (.double (FP.l2d i0)), .second, .val (.double (FP.i2d fa)), .second, .val (.double (FP.i2d fb)), .second, .val (.double (FP.i2d fc)), .second, .val (.ref a293), .val (.ref a301), .val (.ref a318), .val (.double (FP.dadd (FP.dadd (FP.dadd (FP.l2d i0) (FP.i2d fa)) (FP.i2d fb)) (FP.i2d fc))), .second, .unset, .unset]) rfl ?_
          refine OGo.dload (pc' := 163) C317 X351 at_161 rfl rfl ?_
          refine OGo.dstore (pc' := 165) C317 X351 at_163 rfl (l' := #[.val (.long i0), .second, .val (.int i1), .val (.int i2), .val (.int i3), .val (.int i4), .val (.int (3 : Int32)), .val (.double (FP.l2d i0)), .second, .val (.double (FP.i2d fa)), .second, .val (.double (FP.i2d fb)), .second, .val (.double (FP.i2d fc)), .second, .val (.ref a293), .val (.ref a301), .val (.ref a318), .val (.double (FP.dadd (FP.dadd (FP.dadd (FP.l2d i0) (FP.i2d fa)) (FP.i2d fb)) (FP.i2d fc))), .second, .val (.double (FP.l2d i0)), .second]) rfl ?_
          refine OGo.iload (pc' := 167) C317 X351 at_165 rfl rfl ?_
          refine OGo.iconst (pc' := 168) (z := (1 : Int32)) C317 X351 at_167 rfl (by decide) ?_
          refine OGo.icmpNo (pc' := 171) C317 X351 at_168 rfl (flt (by decide : ¬ (3 : Int32) < (1 : Int32))).1 ?_
          refine OGo.dload (pc' := 173) C317 X351 at_171 rfl rfl ?_
          refine OGo.dload (pc' := 175) C317 X351 at_173 rfl rfl ?_
          refine OGo.dadd (pc' := 176) (v := (FP.dadd (FP.l2d i0) (FP.i2d fa))) C317 X351 at_175 rfl (dadd_out (own_ln i0) (i2d_fin _)) rfl ?_
          refine OGo.dstore (pc' := 178) C317 X351 at_176 rfl (l' := #[.val (.long i0), .second, .val (.int i1), .val (.int i2), .val (.int i3), .val (.int i4), .val (.int (3 : Int32)), .val (.double (FP.l2d i0)), .second, .val (.double (FP.i2d fa)), .second, .val (.double (FP.i2d fb)), .second, .val (.double (FP.i2d fc)), .second, .val (.ref a293), .val (.ref a301), .val (.ref a318), .val (.double (FP.dadd (FP.dadd (FP.dadd (FP.l2d i0) (FP.i2d fa)) (FP.i2d fb)) (FP.i2d fc))), .second, .val (.double (FP.dadd (FP.l2d i0) (FP.i2d fa))), .second]) rfl ?_
          refine OGo.iload (pc' := 180) C317 X351 at_178 rfl rfl ?_
          refine OGo.iconst (pc' := 181) (z := (2 : Int32)) C317 X351 at_180 rfl (by decide) ?_
          refine OGo.icmpNo (pc' := 184) C317 X351 at_181 rfl (flt (by decide : ¬ (3 : Int32) < (2 : Int32))).1 ?_
          refine OGo.dload (pc' := 186) C317 X351 at_184 rfl rfl ?_
          refine OGo.dload (pc' := 188) C317 X351 at_186 rfl rfl ?_
          refine OGo.dadd (pc' := 189) (v := (FP.dadd (FP.dadd (FP.l2d i0) (FP.i2d fa)) (FP.i2d fb))) C317 X351 at_188 rfl (dadd_out (dadd_out (own_ln i0) (i2d_fin _)) (i2d_fin _)) rfl ?_
          refine OGo.dstore (pc' := 191) C317 X351 at_189 rfl (l' := #[.val (.long i0), .second, .val (.int i1), .val (.int i2), .val (.int i3), .val (.int i4), .val (.int (3 : Int32)), .val (.double (FP.l2d i0)), .second, .val (.double (FP.i2d fa)), .second, .val (.double (FP.i2d fb)), .second, .val (.double (FP.i2d fc)), .second, .val (.ref a293), .val (.ref a301), .val (.ref a318), .val (.double (FP.dadd (FP.dadd (FP.dadd (FP.l2d i0) (FP.i2d fa)) (FP.i2d fb)) (FP.i2d fc))), .second, .val (.double (FP.dadd (FP.dadd (FP.l2d i0) (FP.i2d fa)) (FP.i2d fb))), .second]) rfl ?_
          refine OGo.iload (pc' := 193) C317 X351 at_191 rfl rfl ?_
          refine OGo.iconst (pc' := 194) (z := (3 : Int32)) C317 X351 at_193 rfl (by decide) ?_
          refine OGo.icmpNo (pc' := 197) C317 X351 at_194 rfl (flt (by decide : ¬ (3 : Int32) < (3 : Int32))).1 ?_
          refine OGo.dload (pc' := 199) C317 X351 at_197 rfl rfl ?_
          refine OGo.dload (pc' := 201) C317 X351 at_199 rfl rfl ?_
          refine OGo.dadd (pc' := 202) (v := (FP.dadd (FP.dadd (FP.dadd (FP.l2d i0) (FP.i2d fa)) (FP.i2d fb)) (FP.i2d fc))) C317 X351 at_201 rfl (dadd_out (dadd_out (dadd_out (own_ln i0) (i2d_fin _)) (i2d_fin _)) (i2d_fin _)) rfl ?_
          refine OGo.dstore (pc' := 204) C317 X351 at_202 rfl (l' := #[.val (.long i0), .second, .val (.int i1), .val (.int i2), .val (.int i3), .val (.int i4), .val (.int (3 : Int32)), .val (.double (FP.l2d i0)), .second, .val (.double (FP.i2d fa)), .second, .val (.double (FP.i2d fb)), .second, .val (.double (FP.i2d fc)), .second, .val (.ref a293), .val (.ref a301), .val (.ref a318), .val (.double (FP.dadd (FP.dadd (FP.dadd (FP.l2d i0) (FP.i2d fa)) (FP.i2d fb)) (FP.i2d fc))), .second, .val (.double (FP.dadd (FP.dadd (FP.dadd (FP.l2d i0) (FP.i2d fa)) (FP.i2d fb)) (FP.i2d fc))), .second]) rfl ?_
          refine OGo.dload (pc' := 206) C317 X351 at_204 rfl rfl ?_
          refine OGo.dload (pc' := 208) C317 X351 at_206 rfl rfl ?_
          refine OGo.callS (pc' := 211) (cells' := 35) (slots' := 726) (argsL := [(.double (FP.dadd (FP.dadd (FP.dadd (FP.l2d i0) (FP.i2d fa)) (FP.i2d fb)) (FP.i2d fc))), (.double (FP.dadd (FP.dadd (FP.dadd (FP.l2d i0) (FP.i2d fa)) (FP.i2d fb)) (FP.i2d fc)))]) (St := []) C317 X351 (wd221 hw) (wd222 hw) (by decide) (wd224 hw) (wd223 hw) (ctSame hw X351.2.1 (FP.dadd (FP.dadd (FP.dadd (FP.l2d i0) (FP.i2d fa)) (FP.i2d fb)) (FP.i2d fc)) (dadd_out (dadd_out (dadd_out (own_ln i0) (i2d_fin _)) (i2d_fin _)) (i2d_fin _))) (lenOf pd26 rfl) rfl at_208 rfl rfl (by decide) (Nat.le_of_ble_eq_true rfl) rfl rfl (by decide) (by decide) (fun v352 T352 h352 Q352 X352 z352 => ?_)
          obtain ⟨hv352, hh352⟩ := Q352
          subst hv352; rw [hh352] at X352
          show OGo p e below _ T352 (mkF m 211 #[.val (.long i0), .second, .val (.int i1), .val (.int i2), .val (.int i3), .val (.int i4), .val (.int (3 : Int32)), .val (.double (FP.l2d i0)), .second, .val (.double (FP.i2d fa)), .second, .val (.double (FP.i2d fb)), .second, .val (.double (FP.i2d fc)), .second, .val (.ref a293), .val (.ref a301), .val (.ref a318), .val (.double (FP.dadd (FP.dadd (FP.dadd (FP.l2d i0) (FP.i2d fa)) (FP.i2d fb)) (FP.i2d fc))), .second, .val (.double (FP.dadd (FP.dadd (FP.dadd (FP.l2d i0) (FP.i2d fa)) (FP.i2d fb)) (FP.i2d fc))), .second] [(.int (1 : Int32))])
          exact OGo.retWN C317 X352 (ew hw) Hd349 at_211 hret (by simp) (z' := (1 : Int32)) (by decide) hlk (fun _ _ => rfl) (by decide) (by decide)
      · have f353 := (Ev317.ext E318)
        have f354 := (Fb317.ext E318)
        have f355 := (f320.ext E318)
        refine OGo.callInit (pc' := 150) (cells' := 35) (slots' := 726) (argsL := [(.ref a301), (.ref bl), (.int (0 : Int32)), (.double (FP.dconst0)), (.double (FP.dconst0)), (.ref a293)]) (St := [(.ref a318)]) C317 X328 rfl rfl (wd188 hw) (wd189 hw) (by decide) (wd190 hw) (wd184 hw) (ctTk30R hw X328.2.1 a318 a301 a293 bl k293 fa fb fc A318 F318_type F318_billing F318_input F318_arrival F318_ready F318_seconds F318_fees F318_feesAllZero q318 f353 f354 f355 hz0) (lenOf pd25 rfl) rfl at_147 rfl rfl (by decide) (Nat.le_of_ble_eq_true rfl) rfl rfl (by decide) (by decide) (fun v356 T356 h356 Q356 X356 z356 => ?_)
        obtain ⟨hv356, K356, Et356, Ff356, Fz356⟩ := Q356
        subst hv356
        have Hd357 := Hd326.keep K356 (allS (Safe.exa (EL := consts_1) C317.2.1.alike A318 (by decide) (by decide)) all0)
        show OGo p e below _ T356 (mkF m 150 #[.val (.long i0), .second, .val (.int i1), .val (.int i2), .val (.int i3), .val (.int i4), .val (.int (3 : Int32)), .val (.double (FP.l2d i0)), .second, .val (.double (FP.i2d fa)), .second, .val (.double (FP.i2d fb)), .second, .val (.double (FP.i2d fc)), .second, .val (.ref a293), .val (.ref a301), .unset, .unset, .unset, .unset, .unset] [(.ref a318)])
        refine OGo.astore (pc' := 152) C317 X356 at_150 rfl rfl (l' := #[.val (.long i0), .second, .val (.int i1), .val (.int i2), .val (.int i3), .val (.int i4), .val (.int (3 : Int32)), .val (.double (FP.l2d i0)), .second, .val (.double (FP.i2d fa)), .second, .val (.double (FP.i2d fb)), .second, .val (.double (FP.i2d fc)), .second, .val (.ref a293), .val (.ref a301), .val (.ref a318), .unset, .unset, .unset, .unset]) rfl ?_
        refine OGo.aload (pc' := 154) C317 X356 at_152 rfl rfl rfl ?_
        refine OGo.dload (pc' := 156) C317 X356 at_154 rfl rfl ?_
        have f358 := (f355.keep K356 (ninS ne319 nin0))
        refine OGo.callV (pc' := 159) (cells' := 35) (slots' := 726) (argsL := [(.double (FP.l2d i0))]) (St := []) C317 X356 (wd216 hw) (wd217 hw) (wd219 hw) (wd218 hw) (by decide) Et356 (wd220 hw) (wd184 hw) (ctWf3S hw X356.2.1 a318 a293 k293 fa fb fc (FP.l2d i0) Ff356 Fz356 f358 (own_ln i0)) (lenOf pd1 rfl) rfl at_156 rfl rfl (by decide) (Nat.le_of_ble_eq_true rfl) rfl rfl (by decide) (by decide) (fun v359 T359 h359 Q359 X359 z359 => ?_)
        obtain ⟨hv359, hh359⟩ := Q359
        subst hv359; rw [hh359] at X359
        show OGo p e below _ T359 (mkF m 159 #[.val (.long i0), .second, .val (.int i1), .val (.int i2), .val (.int i3), .val (.int i4), .val (.int (3 : Int32)), .val (.double (FP.l2d i0)), .second, .val (.double (FP.i2d fa)), .second, .val (.double (FP.i2d fb)), .second, .val (.double (FP.i2d fc)), .second, .val (.ref a293), .val (.ref a301), .val (.ref a318), .unset, .unset, .unset, .unset] [(.double (FP.dadd (FP.dadd (FP.dadd (FP.l2d i0) (FP.i2d fa)) (FP.i2d fb)) (FP.i2d fc)))])
        refine OGo.dstore (pc' := 161) C317 X359 at_159 rfl (l' := #[.val (.long i0), .second, .val (.int i1), .val (.int i2), .val (.int i3), .val (.int i4), .val (.int (3 : Int32)), .val (.double (FP.l2d i0)), .second, .val (.double (FP.i2d fa)), .second, .val (.double (FP.i2d fb)), .second, .val (.double (FP.i2d fc)), .second, .val (.ref a293), .val (.ref a301), .val (.ref a318), .val (.double (FP.dadd (FP.dadd (FP.dadd (FP.l2d i0) (FP.i2d fa)) (FP.i2d fb)) (FP.i2d fc))), .second, .unset, .unset]) rfl ?_
        refine OGo.dload (pc' := 163) C317 X359 at_161 rfl rfl ?_
        refine OGo.dstore (pc' := 165) C317 X359 at_163 rfl (l' := #[.val (.long i0), .second, .val (.int i1), .val (.int i2), .val (.int i3), .val (.int i4), .val (.int (3 : Int32)), .val (.double (FP.l2d i0)), .second, .val (.double (FP.i2d fa)), .second, .val (.double (FP.i2d fb)), .second, .val (.double (FP.i2d fc)), .second, .val (.ref a293), .val (.ref a301), .val (.ref a318), .val (.double (FP.dadd (FP.dadd (FP.dadd (FP.l2d i0) (FP.i2d fa)) (FP.i2d fb)) (FP.i2d fc))), .second, .val (.double (FP.l2d i0)), .second]) rfl ?_
        refine OGo.iload (pc' := 167) C317 X359 at_165 rfl rfl ?_
        refine OGo.iconst (pc' := 168) (z := (1 : Int32)) C317 X359 at_167 rfl (by decide) ?_
        refine OGo.icmpNo (pc' := 171) C317 X359 at_168 rfl (flt (by decide : ¬ (3 : Int32) < (1 : Int32))).1 ?_
        refine OGo.dload (pc' := 173) C317 X359 at_171 rfl rfl ?_
        refine OGo.dload (pc' := 175) C317 X359 at_173 rfl rfl ?_
        refine OGo.dadd (pc' := 176) (v := (FP.dadd (FP.l2d i0) (FP.i2d fa))) C317 X359 at_175 rfl (dadd_out (own_ln i0) (i2d_fin _)) rfl ?_
        refine OGo.dstore (pc' := 178) C317 X359 at_176 rfl (l' := #[.val (.long i0), .second, .val (.int i1), .val (.int i2), .val (.int i3), .val (.int i4), .val (.int (3 : Int32)), .val (.double (FP.l2d i0)), .second, .val (.double (FP.i2d fa)), .second, .val (.double (FP.i2d fb)), .second, .val (.double (FP.i2d fc)), .second, .val (.ref a293), .val (.ref a301), .val (.ref a318), .val (.double (FP.dadd (FP.dadd (FP.dadd (FP.l2d i0) (FP.i2d fa)) (FP.i2d fb)) (FP.i2d fc))), .second, .val (.double (FP.dadd (FP.l2d i0) (FP.i2d fa))), .second]) rfl ?_
        refine OGo.iload (pc' := 180) C317 X359 at_178 rfl rfl ?_
        refine OGo.iconst (pc' := 181) (z := (2 : Int32)) C317 X359 at_180 rfl (by decide) ?_
        refine OGo.icmpNo (pc' := 184) C317 X359 at_181 rfl (flt (by decide : ¬ (3 : Int32) < (2 : Int32))).1 ?_
        refine OGo.dload (pc' := 186) C317 X359 at_184 rfl rfl ?_
        refine OGo.dload (pc' := 188) C317 X359 at_186 rfl rfl ?_
        refine OGo.dadd (pc' := 189) (v := (FP.dadd (FP.dadd (FP.l2d i0) (FP.i2d fa)) (FP.i2d fb))) C317 X359 at_188 rfl (dadd_out (dadd_out (own_ln i0) (i2d_fin _)) (i2d_fin _)) rfl ?_
        refine OGo.dstore (pc' := 191) C317 X359 at_189 rfl (l' := #[.val (.long i0), .second, .val (.int i1), .val (.int i2), .val (.int i3), .val (.int i4), .val (.int (3 : Int32)), .val (.double (FP.l2d i0)), .second, .val (.double (FP.i2d fa)), .second, .val (.double (FP.i2d fb)), .second, .val (.double (FP.i2d fc)), .second, .val (.ref a293), .val (.ref a301), .val (.ref a318), .val (.double (FP.dadd (FP.dadd (FP.dadd (FP.l2d i0) (FP.i2d fa)) (FP.i2d fb)) (FP.i2d fc))), .second, .val (.double (FP.dadd (FP.dadd (FP.l2d i0) (FP.i2d fa)) (FP.i2d fb))), .second]) rfl ?_
        refine OGo.iload (pc' := 193) C317 X359 at_191 rfl rfl ?_
        refine OGo.iconst (pc' := 194) (z := (3 : Int32)) C317 X359 at_193 rfl (by decide) ?_
        refine OGo.icmpNo (pc' := 197) C317 X359 at_194 rfl (flt (by decide : ¬ (3 : Int32) < (3 : Int32))).1 ?_
        refine OGo.dload (pc' := 199) C317 X359 at_197 rfl rfl ?_
        refine OGo.dload (pc' := 201) C317 X359 at_199 rfl rfl ?_
        refine OGo.dadd (pc' := 202) (v := (FP.dadd (FP.dadd (FP.dadd (FP.l2d i0) (FP.i2d fa)) (FP.i2d fb)) (FP.i2d fc))) C317 X359 at_201 rfl (dadd_out (dadd_out (dadd_out (own_ln i0) (i2d_fin _)) (i2d_fin _)) (i2d_fin _)) rfl ?_
        refine OGo.dstore (pc' := 204) C317 X359 at_202 rfl (l' := #[.val (.long i0), .second, .val (.int i1), .val (.int i2), .val (.int i3), .val (.int i4), .val (.int (3 : Int32)), .val (.double (FP.l2d i0)), .second, .val (.double (FP.i2d fa)), .second, .val (.double (FP.i2d fb)), .second, .val (.double (FP.i2d fc)), .second, .val (.ref a293), .val (.ref a301), .val (.ref a318), .val (.double (FP.dadd (FP.dadd (FP.dadd (FP.l2d i0) (FP.i2d fa)) (FP.i2d fb)) (FP.i2d fc))), .second, .val (.double (FP.dadd (FP.dadd (FP.dadd (FP.l2d i0) (FP.i2d fa)) (FP.i2d fb)) (FP.i2d fc))), .second]) rfl ?_
        refine OGo.dload (pc' := 206) C317 X359 at_204 rfl rfl ?_
        refine OGo.dload (pc' := 208) C317 X359 at_206 rfl rfl ?_
        refine OGo.callS (pc' := 211) (cells' := 35) (slots' := 726) (argsL := [(.double (FP.dadd (FP.dadd (FP.dadd (FP.l2d i0) (FP.i2d fa)) (FP.i2d fb)) (FP.i2d fc))), (.double (FP.dadd (FP.dadd (FP.dadd (FP.l2d i0) (FP.i2d fa)) (FP.i2d fb)) (FP.i2d fc)))]) (St := []) C317 X359 (wd221 hw) (wd222 hw) (by decide) (wd224 hw) (wd223 hw) (ctSame hw X359.2.1 (FP.dadd (FP.dadd (FP.dadd (FP.l2d i0) (FP.i2d fa)) (FP.i2d fb)) (FP.i2d fc)) (dadd_out (dadd_out (dadd_out (own_ln i0) (i2d_fin _)) (i2d_fin _)) (i2d_fin _))) (lenOf pd26 rfl) rfl at_208 rfl rfl (by decide) (Nat.le_of_ble_eq_true rfl) rfl rfl (by decide) (by decide) (fun v360 T360 h360 Q360 X360 z360 => ?_)
        obtain ⟨hv360, hh360⟩ := Q360
        subst hv360; rw [hh360] at X360
        show OGo p e below _ T360 (mkF m 211 #[.val (.long i0), .second, .val (.int i1), .val (.int i2), .val (.int i3), .val (.int i4), .val (.int (3 : Int32)), .val (.double (FP.l2d i0)), .second, .val (.double (FP.i2d fa)), .second, .val (.double (FP.i2d fb)), .second, .val (.double (FP.i2d fc)), .second, .val (.ref a293), .val (.ref a301), .val (.ref a318), .val (.double (FP.dadd (FP.dadd (FP.dadd (FP.l2d i0) (FP.i2d fa)) (FP.i2d fb)) (FP.i2d fc))), .second, .val (.double (FP.dadd (FP.dadd (FP.dadd (FP.l2d i0) (FP.i2d fa)) (FP.i2d fb)) (FP.i2d fc))), .second] [(.int (1 : Int32))])
        exact OGo.retWN C317 X360 (ew hw) Hd357 at_211 hret (by simp) (z' := (1 : Int32)) (by decide) hlk (fun _ _ => rfl) (by decide) (by decide)
    · refine OGo.ifNo (pc' := 15) C X0 at_12 rfl (feq hc292).1 ?_
      refine OGo.dload (pc' := 17) C X0 at_15 rfl rfl ?_
      refine OGo.dneg (pc' := 18) (v := (FP.dneg (FP.l2d i0))) C X0 at_17 rfl rfl ?_
      refine OGo.dstore (pc' := 20) C X0 at_18 rfl (l' := #[.val (.long i0), .second, .val (.int i1), .val (.int i2), .val (.int i3), .val (.int i4), .val (.int (3 : Int32)), .val (.double (FP.dneg (FP.l2d i0))), .second, .unset, .unset, .unset, .unset, .unset, .unset, .unset, .unset, .unset, .unset, .unset, .unset, .unset]) rfl ?_
      refine OGo.iloadN (pc' := 21) C X0 at_20 rfl rfl ?_
      refine OGo.ldcInt (pc' := 23) C X0 (wd0 hw) at_21 rfl ?_
      obtain ⟨fa, h_fa⟩ : ∃ z : Int32, i2 &&& (2147483647 : Int32) = z := ⟨_, rfl⟩
      refine OGo.iand (pc' := 24) (z := fa) C X0 at_23 rfl h_fa ?_
      refine OGo.i2d (pc' := 25) (v := (FP.i2d fa)) C X0 at_24 rfl rfl ?_
      refine OGo.dstore (pc' := 27) C X0 at_25 rfl (l' := #[.val (.long i0), .second, .val (.int i1), .val (.int i2), .val (.int i3), .val (.int i4), .val (.int (3 : Int32)), .val (.double (FP.dneg (FP.l2d i0))), .second, .val (.double (FP.i2d fa)), .second, .unset, .unset, .unset, .unset, .unset, .unset, .unset, .unset, .unset, .unset, .unset]) rfl ?_
      refine OGo.iload (pc' := 29) C X0 at_27 rfl rfl ?_
      refine OGo.ldcInt (pc' := 31) C X0 (wd0 hw) at_29 rfl ?_
      obtain ⟨fb, h_fb⟩ : ∃ z : Int32, i3 &&& (2147483647 : Int32) = z := ⟨_, rfl⟩
      refine OGo.iand (pc' := 32) (z := fb) C X0 at_31 rfl h_fb ?_
      refine OGo.i2d (pc' := 33) (v := (FP.i2d fb)) C X0 at_32 rfl rfl ?_
      refine OGo.dstore (pc' := 35) C X0 at_33 rfl (l' := #[.val (.long i0), .second, .val (.int i1), .val (.int i2), .val (.int i3), .val (.int i4), .val (.int (3 : Int32)), .val (.double (FP.dneg (FP.l2d i0))), .second, .val (.double (FP.i2d fa)), .second, .val (.double (FP.i2d fb)), .second, .unset, .unset, .unset, .unset, .unset, .unset, .unset, .unset, .unset]) rfl ?_
      refine OGo.iload (pc' := 37) C X0 at_35 rfl rfl ?_
      refine OGo.ldcInt (pc' := 39) C X0 (wd0 hw) at_37 rfl ?_
      obtain ⟨fc, h_fc⟩ : ∃ z : Int32, i4 &&& (2147483647 : Int32) = z := ⟨_, rfl⟩
      refine OGo.iand (pc' := 40) (z := fc) C X0 at_39 rfl h_fc ?_
      refine OGo.i2d (pc' := 41) (v := (FP.i2d fc)) C X0 at_40 rfl rfl ?_
      refine OGo.dstore (pc' := 43) C X0 at_41 rfl (l' := #[.val (.long i0), .second, .val (.int i1), .val (.int i2), .val (.int i3), .val (.int i4), .val (.int (3 : Int32)), .val (.double (FP.dneg (FP.l2d i0))), .second, .val (.double (FP.i2d fa)), .second, .val (.double (FP.i2d fb)), .second, .val (.double (FP.i2d fc)), .second, .unset, .unset, .unset, .unset, .unset, .unset, .unset]) rfl ?_
      refine OGo.iload (pc' := 45) C X0 at_43 rfl rfl ?_
      refine OGo.ifYes (pc' := 56) C X0 at_45 (feq (by decide : ¬ (3 : Int32) = (0 : Int32))).2 (by decide) (by decide) ?_
      refine OGo.iload (pc' := 58) C X0 at_56 rfl rfl ?_
      refine OGo.iconst (pc' := 59) (z := (1 : Int32)) C X0 at_58 rfl (by decide) ?_
      refine OGo.icmpYes (pc' := 75) C X0 at_59 (feq (by decide : ¬ (3 : Int32) = (1 : Int32))).2 (by decide) (by decide) ?_
      refine OGo.iload (pc' := 77) C X0 at_75 rfl rfl ?_
      refine OGo.iconst (pc' := 78) (z := (2 : Int32)) C X0 at_77 rfl (by decide) ?_
      refine OGo.icmpYes (pc' := 99) C X0 at_78 (feq (by decide : ¬ (3 : Int32) = (2 : Int32))).2 (by decide) (by decide) ?_
      refine OGo.iconst (pc' := 100) (z := (3 : Int32)) C X0 at_99 rfl (by decide) ?_
      refine OGo.newarray (pc' := 102) (cap := 3) (d0 := (.double (0 : UInt64))) (cells' := 1) (slots' := 3) C X0 (wd1 hw) rfl at_100 rfl (by decide) (by decide) (by decide) rfl rfl rfl (by decide) (by decide) (fun T361 h361 a361 k361 X361 g361 q361 E361 V361 => ?_)
      have Hd362 := H0.ext E361
      replace V361 : Arv Z h361 a361 k361 .double (3 : Int32) [(.double (0 : UInt64)), (.double (0 : UInt64)), (.double (0 : UInt64))] (.double (0 : UInt64)) := V361.pad (pad_rep [] (.double (0 : UInt64)) 3)
      refine OGo.dup (pc' := 103) C X361 at_102 rfl rfl ?_
      refine OGo.iconst (pc' := 104) (z := (0 : Int32)) C X361 at_103 rfl (by decide) ?_
      refine OGo.dload (pc' := 106) C X361 at_104 rfl rfl ?_
      refine OGo.dastore (pc' := 107) C X361 V361 q361 (i := 0) at_106 rfl ⟨by decide, by decide⟩ (by decide) (Nat.le_of_ble_eq_true rfl) (fun T363 h363 X363 W363 V363 => ?_)
      replace V363 : Arv Z h363 a361 k361 .double (3 : Int32) [(.double (FP.i2d fa)), (.double (0 : UInt64)), (.double (0 : UInt64))] (.double (0 : UInt64)) := V363
      have Hd364 := Hd362.wr W363 (safe_arv (EL := consts_1) C.2.1.alike V361 (by decide))
      refine OGo.dup (pc' := 108) C X363 at_107 rfl rfl ?_
      refine OGo.iconst (pc' := 109) (z := (1 : Int32)) C X363 at_108 rfl (by decide) ?_
      refine OGo.dload (pc' := 111) C X363 at_109 rfl rfl ?_
      refine OGo.dastore (pc' := 112) C X363 V363 q361 (i := 1) at_111 rfl ⟨by decide, by decide⟩ (by decide) (Nat.le_of_ble_eq_true rfl) (fun T365 h365 X365 W365 V365 => ?_)
      replace V365 : Arv Z h365 a361 k361 .double (3 : Int32) [(.double (FP.i2d fa)), (.double (FP.i2d fb)), (.double (0 : UInt64))] (.double (0 : UInt64)) := V365
      have Hd366 := Hd364.wr W365 (safe_arv (EL := consts_1) C.2.1.alike V363 (by decide))
      refine OGo.dup (pc' := 113) C X365 at_112 rfl rfl ?_
      refine OGo.iconst (pc' := 114) (z := (2 : Int32)) C X365 at_113 rfl (by decide) ?_
      refine OGo.dload (pc' := 116) C X365 at_114 rfl rfl ?_
      refine OGo.dastore (pc' := 117) C X365 V365 q361 (i := 2) at_116 rfl ⟨by decide, by decide⟩ (by decide) (Nat.le_of_ble_eq_true rfl) (fun T367 h367 X367 W367 V367 => ?_)
      replace V367 : Arv Z h367 a361 k361 .double (3 : Int32) [(.double (FP.i2d fa)), (.double (FP.i2d fb)), (.double (FP.i2d fc))] (.double (0 : UInt64)) := V367
      have Hd368 := Hd366.wr W367 (safe_arv (EL := consts_1) C.2.1.alike V365 (by decide))
      refine OGo.astore (pc' := 119) C X367 at_117 rfl rfl (l' := #[.val (.long i0), .second, .val (.int i1), .val (.int i2), .val (.int i3), .val (.int i4), .val (.int (3 : Int32)), .val (.double (FP.dneg (FP.l2d i0))), .second, .val (.double (FP.i2d fa)), .second, .val (.double (FP.i2d fb)), .second, .val (.double (FP.i2d fc)), .second, .val (.ref a361), .unset, .unset, .unset, .unset, .unset, .unset]) rfl ?_
      refine OGo.new (pc' := 122) (cells' := 2) (slots' := 10) C X367 (wd2 hw) (wd3 hw) (wd4 hw) at_119 rfl rfl rfl (by decide) (by decide) (fun T369 h369 a369 X369 g369 q369 E369 A369 D369 U369 => ?_)
      have ne370 : a361 ≠ a369 := Nat.ne_of_lt (Nat.lt_of_lt_of_eq V367.lt g369.symm)
      have Hd371 := Hd368.ext E369
      have F369_name : Fld Z h369 a369 "com/example/makespan/makespan/model/VmType" "name" "Ljava/lang/String;" .null := D369 (Or.inr (wd30 hw)) (ty := (.object "java/lang/String")) (by decide)
      have F369_speed : Fld Z h369 a369 "com/example/makespan/makespan/model/VmType" "speed" "D" (.double (0 : UInt64)) := D369 (Or.inr (wd160 hw)) (ty := .double) (by decide)
      have F369_pricePerPeriod : Fld Z h369 a369 "com/example/makespan/makespan/model/VmType" "pricePerPeriod" "D" (.double (0 : UInt64)) := D369 (Or.inr (wd169 hw)) (ty := .double) (by decide)
      have F369_periodSeconds : Fld Z h369 a369 "com/example/makespan/makespan/model/VmType" "periodSeconds" "D" (.double (0 : UInt64)) := D369 (Or.inr (wd172 hw)) (ty := .double) (by decide)
      have F369_bootSeconds : Fld Z h369 a369 "com/example/makespan/makespan/model/VmType" "bootSeconds" "D" (.double (0 : UInt64)) := D369 (Or.inr (wd176 hw)) (ty := .double) (by decide)
      have F369_bootBilled : Fld Z h369 a369 "com/example/makespan/makespan/model/VmType" "bootBilled" "Z" (.int (0 : Int32)) := D369 (Or.inr (wd178 hw)) (ty := .boolean) (by decide)
      have F369_startupFee : Fld Z h369 a369 "com/example/makespan/makespan/model/VmType" "startupFee" "D" (.double (0 : UInt64)) := D369 (Or.inr (wd181 hw)) (ty := .double) (by decide)
      refine OGo.dup (pc' := 123) C X369 at_122 rfl rfl ?_
      refine OGo.ldcC (pc' := 125) (n := 4) (cells' := 4) (slots' := 18) (z := (1 : Int32)) (vs := [(.int (116 : Int32))]) C X369 (ew hw) Hd371 (wd5 hw) (wS hw) (List.mem_of_getElem? (i := 8) rfl) ⟨by decide +kernel, by first | rfl | decide +kernel⟩ (by decide) rfl at_123 rfl (by decide +kernel) (by decide) rfl rfl (by decide) (by decide) (fun vm372 T372 h372 a372 b372 k372 C372 X372 Hd372 E372 R372 A372 F372a F372b V372 sf372 => ?_)
      have f373 := ((V367.ext E369).ext E372)
      have sn374 := sf372 a361 (safe_arv (EL := consts_1) C372.2.1.alike f373 (by decide))
      have f375 := (A369.ext E372)
      have sn376 := sf372 a369 (Safe.exa (EL := consts_1) C372.2.1.alike f375 (by decide) (by decide))
      refine OGo.dconst1 (pc' := 126) (v := (FP.dconst1)) C372 X372 at_125 rfl rfl ?_
      refine OGo.dconst1 (pc' := 127) (v := (FP.dconst1)) C372 X372 at_126 rfl rfl ?_
      refine OGo.dconst1 (pc' := 128) (v := (FP.dconst1)) C372 X372 at_127 rfl rfl ?_
      have f377 := (F369_name.ext E372)
      have f378 := (F369_speed.ext E372)
      have f379 := (F369_pricePerPeriod.ext E372)
      have f380 := (F369_periodSeconds.ext E372)
      have f381 := (F369_bootSeconds.ext E372)
      have f382 := (F369_bootBilled.ext E372)
      have f383 := (F369_startupFee.ext E372)
      have f384 := ((((((OD.ext E361).wr W363 q361).wr W365 q361).wr W367 q361).ext E369).ext E372)
      refine OGo.callWInit (pc' := 131) (cells' := 34) (slots' := 718) (argsL := [(.ref a372), (.double (FP.dconst1)), (.double (FP.dconst1)), (.double (FP.dconst1))]) (St := [(.ref a369)]) C372 X372 (ew hw) Hd372 rfl rfl (wd13 hw) (wd14 hw) (by decide) (wd15 hw) (wd4 hw) (ctV4 hw X372.2.1 a369 a372 b372 k372 cz f375 f377 f378 f379 f380 f381 f382 f383 q369 A372 F372b F372a V372 f384 S2 hcz) (fun _ hx => by cases hx) (lenOf pd24 rfl) rfl at_128 rfl rfl (by decide) (Nat.le_of_ble_eq_true rfl) rfl rfl (by decide) (by decide) (fun v385 vm385 T385 h385 Q385 C385 X385 Hd385 R385 => ?_)
      obtain ⟨hv385, K385, Ev385, Fb385⟩ := Q385
      subst hv385
      show OGo p e below _ T385 (mkF m 131 #[.val (.long i0), .second, .val (.int i1), .val (.int i2), .val (.int i3), .val (.int i4), .val (.int (3 : Int32)), .val (.double (FP.dneg (FP.l2d i0))), .second, .val (.double (FP.i2d fa)), .second, .val (.double (FP.i2d fb)), .second, .val (.double (FP.i2d fc)), .second, .val (.ref a361), .unset, .unset, .unset, .unset, .unset, .unset] [(.ref a369)])
      refine OGo.astore (pc' := 133) C385 X385 at_131 rfl rfl (l' := #[.val (.long i0), .second, .val (.int i1), .val (.int i2), .val (.int i3), .val (.int i4), .val (.int (3 : Int32)), .val (.double (FP.dneg (FP.l2d i0))), .second, .val (.double (FP.i2d fa)), .second, .val (.double (FP.i2d fb)), .second, .val (.double (FP.i2d fc)), .second, .val (.ref a361), .val (.ref a369), .unset, .unset, .unset, .unset, .unset]) rfl ?_
      refine OGo.new (pc' := 136) (cells' := 35) (slots' := 726) C385 X385 (wd182 hw) (wd183 hw) (wd184 hw) at_133 rfl rfl rfl (by decide) (by decide) (fun T386 h386 a386 X386 g386 q386 E386 A386 D386 U386 => ?_)
      have f388 := (f373.keep K385 (ninS ne370 nin0))
      have ne387 : a361 ≠ a386 := Nat.ne_of_lt (Nat.lt_of_lt_of_eq f388.lt g386.symm)
      have ne389 : a369 ≠ a386 := Nat.ne_of_lt (Nat.lt_of_lt_of_eq Ev385.lt g386.symm)
      have f391 := (A372.keep K385)
      have ne390 : a372 ≠ a386 := Nat.ne_of_lt (Nat.lt_of_lt_of_eq f391.lt g386.symm)
      have f393 := (V372.keep K385 (ninS (Ne.symm sn376.2) nin0))
      have ne392 : b372 ≠ a386 := Nat.ne_of_lt (Nat.lt_of_lt_of_eq f393.lt g386.symm)
      have Hd394 := Hd385.ext E386
      have F386_type : Fld Z h386 a386 "com/example/makespan/makespan/planning/TaskOnType" "type" "Lcom/example/makespan/makespan/model/VmType;" .null := D386 (Or.inr (wd193 hw)) (ty := (.object "com/example/makespan/makespan/model/VmType")) (by decide)
      have F386_billing : Fld Z h386 a386 "com/example/makespan/makespan/planning/TaskOnType" "billing" "Lcom/example/makespan/makespan/model/Billing;" .null := D386 (Or.inr (wd195 hw)) (ty := (.object "com/example/makespan/makespan/model/Billing")) (by decide)
      have F386_input : Fld Z h386 a386 "com/example/makespan/makespan/planning/TaskOnType" "input" "I" (.int (0 : Int32)) := D386 (Or.inr (wd197 hw)) (ty := .int) (by decide)
      have F386_arrival : Fld Z h386 a386 "com/example/makespan/makespan/planning/TaskOnType" "arrival" "D" (.double (0 : UInt64)) := D386 (Or.inr (wd199 hw)) (ty := .double) (by decide)
      have F386_ready : Fld Z h386 a386 "com/example/makespan/makespan/planning/TaskOnType" "ready" "D" (.double (0 : UInt64)) := D386 (Or.inr (wd209 hw)) (ty := .double) (by decide)
      have F386_seconds : Fld Z h386 a386 "com/example/makespan/makespan/planning/TaskOnType" "seconds" "D" (.double (0 : UInt64)) := D386 (Or.inr (wd211 hw)) (ty := .double) (by decide)
      have F386_fees : Fld Z h386 a386 "com/example/makespan/makespan/planning/TaskOnType" "fees" "[D" .null := D386 (Or.inr (wd213 hw)) (ty := (.array .double)) (by decide)
      have F386_feesAllZero : Fld Z h386 a386 "com/example/makespan/makespan/planning/TaskOnType" "feesAllZero" "Z" (.int (0 : Int32)) := D386 (Or.inr (wd215 hw)) (ty := .boolean) (by decide)
      refine OGo.dup (pc' := 137) C385 X386 at_136 rfl rfl ?_
      refine OGo.aload (pc' := 139) C385 X386 at_137 rfl rfl rfl ?_
      have f395 := ((f384.keep K385 (allS q369 all0)).ext E386)
      refine OGo.getstatic (pc' := 142) C385 X386 (host := "") (Or.inl (wd185 hw)) Via.refl (Sl.ext f395.2) at_139 rfl (fun T396 X396 => ?_)
      refine OGo.iconst (pc' := 143) (z := (0 : Int32)) C385 X396 at_142 rfl (by decide) ?_
      refine OGo.dconst0 (pc' := 144) (v := (FP.dconst0)) C385 X396 at_143 rfl rfl ?_
      refine OGo.dconst0 (pc' := 145) (v := (FP.dconst0)) C385 X396 at_144 rfl rfl ?_
      refine OGo.aload (pc' := 147) C385 X396 at_145 rfl rfl rfl ?_
      by_cases hz0 : fa = 0
      · by_cases hz1 : fb = 0
        · by_cases hz2 : fc = 0
          · have f397 := (Ev385.ext E386)
            have f398 := (Fb385.ext E386)
            have f399 := (f388.ext E386)
            refine OGo.callInit (pc' := 150) (cells' := 35) (slots' := 726) (argsL := [(.ref a369), (.ref bl), (.int (0 : Int32)), (.double (FP.dconst0)), (.double (FP.dconst0)), (.ref a361)]) (St := [(.ref a386)]) C385 X396 rfl rfl (wd188 hw) (wd189 hw) (by decide) (wd190 hw) (wd184 hw) (ctTk33R hw X396.2.1 a386 a369 a361 bl k361 fa fb fc A386 F386_type F386_billing F386_input F386_arrival F386_ready F386_seconds F386_fees F386_feesAllZero q386 f397 f398 f399 hz0 hz1 hz2) (lenOf pd25 rfl) rfl at_147 rfl rfl (by decide) (Nat.le_of_ble_eq_true rfl) rfl rfl (by decide) (by decide) (fun v400 T400 h400 Q400 X400 z400 => ?_)
            obtain ⟨hv400, K400, Et400, Ff400, Fz400⟩ := Q400
            subst hv400
            have Hd401 := Hd394.keep K400 (allS (Safe.exa (EL := consts_1) C385.2.1.alike A386 (by decide) (by decide)) all0)
            show OGo p e below _ T400 (mkF m 150 #[.val (.long i0), .second, .val (.int i1), .val (.int i2), .val (.int i3), .val (.int i4), .val (.int (3 : Int32)), .val (.double (FP.dneg (FP.l2d i0))), .second, .val (.double (FP.i2d fa)), .second, .val (.double (FP.i2d fb)), .second, .val (.double (FP.i2d fc)), .second, .val (.ref a361), .val (.ref a369), .unset, .unset, .unset, .unset, .unset] [(.ref a386)])
            refine OGo.astore (pc' := 152) C385 X400 at_150 rfl rfl (l' := #[.val (.long i0), .second, .val (.int i1), .val (.int i2), .val (.int i3), .val (.int i4), .val (.int (3 : Int32)), .val (.double (FP.dneg (FP.l2d i0))), .second, .val (.double (FP.i2d fa)), .second, .val (.double (FP.i2d fb)), .second, .val (.double (FP.i2d fc)), .second, .val (.ref a361), .val (.ref a369), .val (.ref a386), .unset, .unset, .unset, .unset]) rfl ?_
            refine OGo.aload (pc' := 154) C385 X400 at_152 rfl rfl rfl ?_
            refine OGo.dload (pc' := 156) C385 X400 at_154 rfl rfl ?_
            have f402 := (f399.keep K400 (ninS ne387 nin0))
            refine OGo.callV (pc' := 159) (cells' := 35) (slots' := 726) (argsL := [(.double (FP.dneg (FP.l2d i0)))]) (St := []) C385 X400 (wd216 hw) (wd217 hw) (wd219 hw) (wd218 hw) (by decide) Et400 (wd220 hw) (wd184 hw) (ctWf3Z hw X400.2.1 a386 a361 k361 fa fb fc (FP.dneg (FP.l2d i0)) Ff400 Fz400 f402 (own_lng i0)) (lenOf pd1 rfl) rfl at_156 rfl rfl (by decide) (Nat.le_of_ble_eq_true rfl) rfl rfl (by decide) (by decide) (fun v403 T403 h403 Q403 X403 z403 => ?_)
            obtain ⟨hv403, hh403⟩ := Q403
            subst hv403; rw [hh403] at X403
            show OGo p e below _ T403 (mkF m 159 #[.val (.long i0), .second, .val (.int i1), .val (.int i2), .val (.int i3), .val (.int i4), .val (.int (3 : Int32)), .val (.double (FP.dneg (FP.l2d i0))), .second, .val (.double (FP.i2d fa)), .second, .val (.double (FP.i2d fb)), .second, .val (.double (FP.i2d fc)), .second, .val (.ref a361), .val (.ref a369), .val (.ref a386), .unset, .unset, .unset, .unset] [(.double (FP.dadd (FP.dneg (FP.l2d i0)) (FP.dconst0)))])
            refine OGo.dstore (pc' := 161) C385 X403 at_159 rfl (l' := #[.val (.long i0), .second, .val (.int i1), .val (.int i2), .val (.int i3), .val (.int i4), .val (.int (3 : Int32)), .val (.double (FP.dneg (FP.l2d i0))), .second, .val (.double (FP.i2d fa)), .second, .val (.double (FP.i2d fb)), .second, .val (.double (FP.i2d fc)), .second, .val (.ref a361), .val (.ref a369), .val (.ref a386), .val (.double (FP.dadd (FP.dneg (FP.l2d i0)) (FP.dconst0))), .second, .unset, .unset]) rfl ?_
            refine OGo.dload (pc' := 163) C385 X403 at_161 rfl rfl ?_
            refine OGo.dstore (pc' := 165) C385 X403 at_163 rfl (l' := #[.val (.long i0), .second, .val (.int i1), .val (.int i2), .val (.int i3), .val (.int i4), .val (.int (3 : Int32)), .val (.double (FP.dneg (FP.l2d i0))), .second, .val (.double (FP.i2d fa)), .second, .val (.double (FP.i2d fb)), .second, .val (.double (FP.i2d fc)), .second, .val (.ref a361), .val (.ref a369), .val (.ref a386), .val (.double (FP.dadd (FP.dneg (FP.l2d i0)) (FP.dconst0))), .second, .val (.double (FP.dneg (FP.l2d i0))), .second]) rfl ?_
            refine OGo.iload (pc' := 167) C385 X403 at_165 rfl rfl ?_
            refine OGo.iconst (pc' := 168) (z := (1 : Int32)) C385 X403 at_167 rfl (by decide) ?_
            refine OGo.icmpNo (pc' := 171) C385 X403 at_168 rfl (flt (by decide : ¬ (3 : Int32) < (1 : Int32))).1 ?_
            refine OGo.dload (pc' := 173) C385 X403 at_171 rfl rfl ?_
            refine OGo.dload (pc' := 175) C385 X403 at_173 rfl rfl ?_
            refine OGo.dadd (pc' := 176) (v := (FP.dadd (FP.dneg (FP.l2d i0)) (FP.dconst0))) C385 X403 at_175 rfl (dadd_out (own_lng i0) (i2d_fin _)) (by rw [own_i0 hz0]) ?_
            refine OGo.dstore (pc' := 178) C385 X403 at_176 rfl (l' := #[.val (.long i0), .second, .val (.int i1), .val (.int i2), .val (.int i3), .val (.int i4), .val (.int (3 : Int32)), .val (.double (FP.dneg (FP.l2d i0))), .second, .val (.double (FP.i2d fa)), .second, .val (.double (FP.i2d fb)), .second, .val (.double (FP.i2d fc)), .second, .val (.ref a361), .val (.ref a369), .val (.ref a386), .val (.double (FP.dadd (FP.dneg (FP.l2d i0)) (FP.dconst0))), .second, .val (.double (FP.dadd (FP.dneg (FP.l2d i0)) (FP.dconst0))), .second]) rfl ?_
            refine OGo.iload (pc' := 180) C385 X403 at_178 rfl rfl ?_
            refine OGo.iconst (pc' := 181) (z := (2 : Int32)) C385 X403 at_180 rfl (by decide) ?_
            refine OGo.icmpNo (pc' := 184) C385 X403 at_181 rfl (flt (by decide : ¬ (3 : Int32) < (2 : Int32))).1 ?_
            refine OGo.dload (pc' := 186) C385 X403 at_184 rfl rfl ?_
            refine OGo.dload (pc' := 188) C385 X403 at_186 rfl rfl ?_
            refine OGo.dadd (pc' := 189) (v := (FP.dadd (FP.dneg (FP.l2d i0)) (FP.dconst0))) C385 X403 at_188 rfl (dadd_out (dadd_out (own_lng i0) own_f0) (i2d_fin _)) (by rw [own_i0 hz1]; exact own_add00 (own_lng i0)) ?_
            refine OGo.dstore (pc' := 191) C385 X403 at_189 rfl (l' := #[.val (.long i0), .second, .val (.int i1), .val (.int i2), .val (.int i3), .val (.int i4), .val (.int (3 : Int32)), .val (.double (FP.dneg (FP.l2d i0))), .second, .val (.double (FP.i2d fa)), .second, .val (.double (FP.i2d fb)), .second, .val (.double (FP.i2d fc)), .second, .val (.ref a361), .val (.ref a369), .val (.ref a386), .val (.double (FP.dadd (FP.dneg (FP.l2d i0)) (FP.dconst0))), .second, .val (.double (FP.dadd (FP.dneg (FP.l2d i0)) (FP.dconst0))), .second]) rfl ?_
            refine OGo.iload (pc' := 193) C385 X403 at_191 rfl rfl ?_
            refine OGo.iconst (pc' := 194) (z := (3 : Int32)) C385 X403 at_193 rfl (by decide) ?_
            refine OGo.icmpNo (pc' := 197) C385 X403 at_194 rfl (flt (by decide : ¬ (3 : Int32) < (3 : Int32))).1 ?_
            refine OGo.dload (pc' := 199) C385 X403 at_197 rfl rfl ?_
            refine OGo.dload (pc' := 201) C385 X403 at_199 rfl rfl ?_
            refine OGo.dadd (pc' := 202) (v := (FP.dadd (FP.dneg (FP.l2d i0)) (FP.dconst0))) C385 X403 at_201 rfl (dadd_out (dadd_out (own_lng i0) own_f0) (i2d_fin _)) (by rw [own_i0 hz2]; exact own_add00 (own_lng i0)) ?_
            refine OGo.dstore (pc' := 204) C385 X403 at_202 rfl (l' := #[.val (.long i0), .second, .val (.int i1), .val (.int i2), .val (.int i3), .val (.int i4), .val (.int (3 : Int32)), .val (.double (FP.dneg (FP.l2d i0))), .second, .val (.double (FP.i2d fa)), .second, .val (.double (FP.i2d fb)), .second, .val (.double (FP.i2d fc)), .second, .val (.ref a361), .val (.ref a369), .val (.ref a386), .val (.double (FP.dadd (FP.dneg (FP.l2d i0)) (FP.dconst0))), .second, .val (.double (FP.dadd (FP.dneg (FP.l2d i0)) (FP.dconst0))), .second]) rfl ?_
            refine OGo.dload (pc' := 206) C385 X403 at_204 rfl rfl ?_
            refine OGo.dload (pc' := 208) C385 X403 at_206 rfl rfl ?_
            refine OGo.callS (pc' := 211) (cells' := 35) (slots' := 726) (argsL := [(.double (FP.dadd (FP.dneg (FP.l2d i0)) (FP.dconst0))), (.double (FP.dadd (FP.dneg (FP.l2d i0)) (FP.dconst0)))]) (St := []) C385 X403 (wd221 hw) (wd222 hw) (by decide) (wd224 hw) (wd223 hw) (ctSame hw X403.2.1 (FP.dadd (FP.dneg (FP.l2d i0)) (FP.dconst0)) (dadd_out (own_lng i0) own_f0)) (lenOf pd26 rfl) rfl at_208 rfl rfl (by decide) (Nat.le_of_ble_eq_true rfl) rfl rfl (by decide) (by decide) (fun v404 T404 h404 Q404 X404 z404 => ?_)
            obtain ⟨hv404, hh404⟩ := Q404
            subst hv404; rw [hh404] at X404
            show OGo p e below _ T404 (mkF m 211 #[.val (.long i0), .second, .val (.int i1), .val (.int i2), .val (.int i3), .val (.int i4), .val (.int (3 : Int32)), .val (.double (FP.dneg (FP.l2d i0))), .second, .val (.double (FP.i2d fa)), .second, .val (.double (FP.i2d fb)), .second, .val (.double (FP.i2d fc)), .second, .val (.ref a361), .val (.ref a369), .val (.ref a386), .val (.double (FP.dadd (FP.dneg (FP.l2d i0)) (FP.dconst0))), .second, .val (.double (FP.dadd (FP.dneg (FP.l2d i0)) (FP.dconst0))), .second] [(.int (1 : Int32))])
            exact OGo.retWN C385 X404 (ew hw) Hd401 at_211 hret (by simp) (z' := (1 : Int32)) (by decide) hlk (fun _ _ => rfl) (by decide) (by decide)
          · have f405 := (Ev385.ext E386)
            have f406 := (Fb385.ext E386)
            have f407 := (f388.ext E386)
            refine OGo.callInit (pc' := 150) (cells' := 35) (slots' := 726) (argsL := [(.ref a369), (.ref bl), (.int (0 : Int32)), (.double (FP.dconst0)), (.double (FP.dconst0)), (.ref a361)]) (St := [(.ref a386)]) C385 X396 rfl rfl (wd188 hw) (wd189 hw) (by decide) (wd190 hw) (wd184 hw) (ctTk32R hw X396.2.1 a386 a369 a361 bl k361 fa fb fc A386 F386_type F386_billing F386_input F386_arrival F386_ready F386_seconds F386_fees F386_feesAllZero q386 f405 f406 f407 hz0 hz1 hz2) (lenOf pd25 rfl) rfl at_147 rfl rfl (by decide) (Nat.le_of_ble_eq_true rfl) rfl rfl (by decide) (by decide) (fun v408 T408 h408 Q408 X408 z408 => ?_)
            obtain ⟨hv408, K408, Et408, Ff408, Fz408⟩ := Q408
            subst hv408
            have Hd409 := Hd394.keep K408 (allS (Safe.exa (EL := consts_1) C385.2.1.alike A386 (by decide) (by decide)) all0)
            show OGo p e below _ T408 (mkF m 150 #[.val (.long i0), .second, .val (.int i1), .val (.int i2), .val (.int i3), .val (.int i4), .val (.int (3 : Int32)), .val (.double (FP.dneg (FP.l2d i0))), .second, .val (.double (FP.i2d fa)), .second, .val (.double (FP.i2d fb)), .second, .val (.double (FP.i2d fc)), .second, .val (.ref a361), .val (.ref a369), .unset, .unset, .unset, .unset, .unset] [(.ref a386)])
            refine OGo.astore (pc' := 152) C385 X408 at_150 rfl rfl (l' := #[.val (.long i0), .second, .val (.int i1), .val (.int i2), .val (.int i3), .val (.int i4), .val (.int (3 : Int32)), .val (.double (FP.dneg (FP.l2d i0))), .second, .val (.double (FP.i2d fa)), .second, .val (.double (FP.i2d fb)), .second, .val (.double (FP.i2d fc)), .second, .val (.ref a361), .val (.ref a369), .val (.ref a386), .unset, .unset, .unset, .unset]) rfl ?_
            refine OGo.aload (pc' := 154) C385 X408 at_152 rfl rfl rfl ?_
            refine OGo.dload (pc' := 156) C385 X408 at_154 rfl rfl ?_
            have f410 := (f407.keep K408 (ninS ne387 nin0))
            refine OGo.callV (pc' := 159) (cells' := 35) (slots' := 726) (argsL := [(.double (FP.dneg (FP.l2d i0)))]) (St := []) C385 X408 (wd216 hw) (wd217 hw) (wd219 hw) (wd218 hw) (by decide) Et408 (wd220 hw) (wd184 hw) (ctWf3S hw X408.2.1 a386 a361 k361 fa fb fc (FP.dneg (FP.l2d i0)) Ff408 Fz408 f410 (own_lng i0)) (lenOf pd1 rfl) rfl at_156 rfl rfl (by decide) (Nat.le_of_ble_eq_true rfl) rfl rfl (by decide) (by decide) (fun v411 T411 h411 Q411 X411 z411 => ?_)
            obtain ⟨hv411, hh411⟩ := Q411
            subst hv411; rw [hh411] at X411
            show OGo p e below _ T411 (mkF m 159 #[.val (.long i0), .second, .val (.int i1), .val (.int i2), .val (.int i3), .val (.int i4), .val (.int (3 : Int32)), .val (.double (FP.dneg (FP.l2d i0))), .second, .val (.double (FP.i2d fa)), .second, .val (.double (FP.i2d fb)), .second, .val (.double (FP.i2d fc)), .second, .val (.ref a361), .val (.ref a369), .val (.ref a386), .unset, .unset, .unset, .unset] [(.double (FP.dadd (FP.dadd (FP.dadd (FP.dneg (FP.l2d i0)) (FP.i2d fa)) (FP.i2d fb)) (FP.i2d fc)))])
            refine OGo.dstore (pc' := 161) C385 X411 at_159 rfl (l' := #[.val (.long i0), .second, .val (.int i1), .val (.int i2), .val (.int i3), .val (.int i4), .val (.int (3 : Int32)), .val (.double (FP.dneg (FP.l2d i0))), .second, .val (.double (FP.i2d fa)), .second, .val (.double (FP.i2d fb)), .second, .val (.double (FP.i2d fc)), .second, .val (.ref a361), .val (.ref a369), .val (.ref a386), .val (.double (FP.dadd (FP.dadd (FP.dadd (FP.dneg (FP.l2d i0)) (FP.i2d fa)) (FP.i2d fb)) (FP.i2d fc))), .second, .unset, .unset]) rfl ?_
            refine OGo.dload (pc' := 163) C385 X411 at_161 rfl rfl ?_
            refine OGo.dstore (pc' := 165) C385 X411 at_163 rfl (l' := #[.val (.long i0), .second, .val (.int i1), .val (.int i2), .val (.int i3), .val (.int i4), .val (.int (3 : Int32)), .val (.double (FP.dneg (FP.l2d i0))), .second, .val (.double (FP.i2d fa)), .second, .val (.double (FP.i2d fb)), .second, .val (.double (FP.i2d fc)), .second, .val (.ref a361), .val (.ref a369), .val (.ref a386), .val (.double (FP.dadd (FP.dadd (FP.dadd (FP.dneg (FP.l2d i0)) (FP.i2d fa)) (FP.i2d fb)) (FP.i2d fc))), .second, .val (.double (FP.dneg (FP.l2d i0))), .second]) rfl ?_
            refine OGo.iload (pc' := 167) C385 X411 at_165 rfl rfl ?_
            refine OGo.iconst (pc' := 168) (z := (1 : Int32)) C385 X411 at_167 rfl (by decide) ?_
            refine OGo.icmpNo (pc' := 171) C385 X411 at_168 rfl (flt (by decide : ¬ (3 : Int32) < (1 : Int32))).1 ?_
            refine OGo.dload (pc' := 173) C385 X411 at_171 rfl rfl ?_
            refine OGo.dload (pc' := 175) C385 X411 at_173 rfl rfl ?_
            refine OGo.dadd (pc' := 176) (v := (FP.dadd (FP.dneg (FP.l2d i0)) (FP.i2d fa))) C385 X411 at_175 rfl (dadd_out (own_lng i0) (i2d_fin _)) rfl ?_
            refine OGo.dstore (pc' := 178) C385 X411 at_176 rfl (l' := #[.val (.long i0), .second, .val (.int i1), .val (.int i2), .val (.int i3), .val (.int i4), .val (.int (3 : Int32)), .val (.double (FP.dneg (FP.l2d i0))), .second, .val (.double (FP.i2d fa)), .second, .val (.double (FP.i2d fb)), .second, .val (.double (FP.i2d fc)), .second, .val (.ref a361), .val (.ref a369), .val (.ref a386), .val (.double (FP.dadd (FP.dadd (FP.dadd (FP.dneg (FP.l2d i0)) (FP.i2d fa)) (FP.i2d fb)) (FP.i2d fc))), .second, .val (.double (FP.dadd (FP.dneg (FP.l2d i0)) (FP.i2d fa))), .second]) rfl ?_
            refine OGo.iload (pc' := 180) C385 X411 at_178 rfl rfl ?_
            refine OGo.iconst (pc' := 181) (z := (2 : Int32)) C385 X411 at_180 rfl (by decide) ?_
            refine OGo.icmpNo (pc' := 184) C385 X411 at_181 rfl (flt (by decide : ¬ (3 : Int32) < (2 : Int32))).1 ?_
            refine OGo.dload (pc' := 186) C385 X411 at_184 rfl rfl ?_
            refine OGo.dload (pc' := 188) C385 X411 at_186 rfl rfl ?_
            refine OGo.dadd (pc' := 189) (v := (FP.dadd (FP.dadd (FP.dneg (FP.l2d i0)) (FP.i2d fa)) (FP.i2d fb))) C385 X411 at_188 rfl (dadd_out (dadd_out (own_lng i0) (i2d_fin _)) (i2d_fin _)) rfl ?_
            refine OGo.dstore (pc' := 191) C385 X411 at_189 rfl (l' := #[.val (.long i0), .second, .val (.int i1), .val (.int i2), .val (.int i3), .val (.int i4), .val (.int (3 : Int32)), .val (.double (FP.dneg (FP.l2d i0))), .second, .val (.double (FP.i2d fa)), .second, .val (.double (FP.i2d fb)), .second, .val (.double (FP.i2d fc)), .second, .val (.ref a361), .val (.ref a369), .val (.ref a386), .val (.double (FP.dadd (FP.dadd (FP.dadd (FP.dneg (FP.l2d i0)) (FP.i2d fa)) (FP.i2d fb)) (FP.i2d fc))), .second, .val (.double (FP.dadd (FP.dadd (FP.dneg (FP.l2d i0)) (FP.i2d fa)) (FP.i2d fb))), .second]) rfl ?_
            refine OGo.iload (pc' := 193) C385 X411 at_191 rfl rfl ?_
            refine OGo.iconst (pc' := 194) (z := (3 : Int32)) C385 X411 at_193 rfl (by decide) ?_
            refine OGo.icmpNo (pc' := 197) C385 X411 at_194 rfl (flt (by decide : ¬ (3 : Int32) < (3 : Int32))).1 ?_
            refine OGo.dload (pc' := 199) C385 X411 at_197 rfl rfl ?_
            refine OGo.dload (pc' := 201) C385 X411 at_199 rfl rfl ?_
            refine OGo.dadd (pc' := 202) (v := (FP.dadd (FP.dadd (FP.dadd (FP.dneg (FP.l2d i0)) (FP.i2d fa)) (FP.i2d fb)) (FP.i2d fc))) C385 X411 at_201 rfl (dadd_out (dadd_out (dadd_out (own_lng i0) (i2d_fin _)) (i2d_fin _)) (i2d_fin _)) rfl ?_
            refine OGo.dstore (pc' := 204) C385 X411 at_202 rfl (l' := #[.val (.long i0), .second, .val (.int i1), .val (.int i2), .val (.int i3), .val (.int i4), .val (.int (3 : Int32)), .val (.double (FP.dneg (FP.l2d i0))), .second, .val (.double (FP.i2d fa)), .second, .val (.double (FP.i2d fb)), .second, .val (.double (FP.i2d fc)), .second, .val (.ref a361), .val (.ref a369), .val (.ref a386), .val (.double (FP.dadd (FP.dadd (FP.dadd (FP.dneg (FP.l2d i0)) (FP.i2d fa)) (FP.i2d fb)) (FP.i2d fc))), .second, .val (.double (FP.dadd (FP.dadd (FP.dadd (FP.dneg (FP.l2d i0)) (FP.i2d fa)) (FP.i2d fb)) (FP.i2d fc))), .second]) rfl ?_
            refine OGo.dload (pc' := 206) C385 X411 at_204 rfl rfl ?_
            refine OGo.dload (pc' := 208) C385 X411 at_206 rfl rfl ?_
            refine OGo.callS (pc' := 211) (cells' := 35) (slots' := 726) (argsL := [(.double (FP.dadd (FP.dadd (FP.dadd (FP.dneg (FP.l2d i0)) (FP.i2d fa)) (FP.i2d fb)) (FP.i2d fc))), (.double (FP.dadd (FP.dadd (FP.dadd (FP.dneg (FP.l2d i0)) (FP.i2d fa)) (FP.i2d fb)) (FP.i2d fc)))]) (St := []) C385 X411 (wd221 hw) (wd222 hw) (by decide) (wd224 hw) (wd223 hw) (ctSame hw X411.2.1 (FP.dadd (FP.dadd (FP.dadd (FP.dneg (FP.l2d i0)) (FP.i2d fa)) (FP.i2d fb)) (FP.i2d fc)) (dadd_out (dadd_out (dadd_out (own_lng i0) (i2d_fin _)) (i2d_fin _)) (i2d_fin _))) (lenOf pd26 rfl) rfl at_208 rfl rfl (by decide) (Nat.le_of_ble_eq_true rfl) rfl rfl (by decide) (by decide) (fun v412 T412 h412 Q412 X412 z412 => ?_)
            obtain ⟨hv412, hh412⟩ := Q412
            subst hv412; rw [hh412] at X412
            show OGo p e below _ T412 (mkF m 211 #[.val (.long i0), .second, .val (.int i1), .val (.int i2), .val (.int i3), .val (.int i4), .val (.int (3 : Int32)), .val (.double (FP.dneg (FP.l2d i0))), .second, .val (.double (FP.i2d fa)), .second, .val (.double (FP.i2d fb)), .second, .val (.double (FP.i2d fc)), .second, .val (.ref a361), .val (.ref a369), .val (.ref a386), .val (.double (FP.dadd (FP.dadd (FP.dadd (FP.dneg (FP.l2d i0)) (FP.i2d fa)) (FP.i2d fb)) (FP.i2d fc))), .second, .val (.double (FP.dadd (FP.dadd (FP.dadd (FP.dneg (FP.l2d i0)) (FP.i2d fa)) (FP.i2d fb)) (FP.i2d fc))), .second] [(.int (1 : Int32))])
            exact OGo.retWN C385 X412 (ew hw) Hd409 at_211 hret (by simp) (z' := (1 : Int32)) (by decide) hlk (fun _ _ => rfl) (by decide) (by decide)
        · have f413 := (Ev385.ext E386)
          have f414 := (Fb385.ext E386)
          have f415 := (f388.ext E386)
          refine OGo.callInit (pc' := 150) (cells' := 35) (slots' := 726) (argsL := [(.ref a369), (.ref bl), (.int (0 : Int32)), (.double (FP.dconst0)), (.double (FP.dconst0)), (.ref a361)]) (St := [(.ref a386)]) C385 X396 rfl rfl (wd188 hw) (wd189 hw) (by decide) (wd190 hw) (wd184 hw) (ctTk31R hw X396.2.1 a386 a369 a361 bl k361 fa fb fc A386 F386_type F386_billing F386_input F386_arrival F386_ready F386_seconds F386_fees F386_feesAllZero q386 f413 f414 f415 hz0 hz1) (lenOf pd25 rfl) rfl at_147 rfl rfl (by decide) (Nat.le_of_ble_eq_true rfl) rfl rfl (by decide) (by decide) (fun v416 T416 h416 Q416 X416 z416 => ?_)
          obtain ⟨hv416, K416, Et416, Ff416, Fz416⟩ := Q416
          subst hv416
          have Hd417 := Hd394.keep K416 (allS (Safe.exa (EL := consts_1) C385.2.1.alike A386 (by decide) (by decide)) all0)
          show OGo p e below _ T416 (mkF m 150 #[.val (.long i0), .second, .val (.int i1), .val (.int i2), .val (.int i3), .val (.int i4), .val (.int (3 : Int32)), .val (.double (FP.dneg (FP.l2d i0))), .second, .val (.double (FP.i2d fa)), .second, .val (.double (FP.i2d fb)), .second, .val (.double (FP.i2d fc)), .second, .val (.ref a361), .val (.ref a369), .unset, .unset, .unset, .unset, .unset] [(.ref a386)])
          refine OGo.astore (pc' := 152) C385 X416 at_150 rfl rfl (l' := #[.val (.long i0), .second, .val (.int i1), .val (.int i2), .val (.int i3), .val (.int i4), .val (.int (3 : Int32)), .val (.double (FP.dneg (FP.l2d i0))), .second, .val (.double (FP.i2d fa)), .second, .val (.double (FP.i2d fb)), .second, .val (.double (FP.i2d fc)), .second, .val (.ref a361), .val (.ref a369), .val (.ref a386), .unset, .unset, .unset, .unset]) rfl ?_
          refine OGo.aload (pc' := 154) C385 X416 at_152 rfl rfl rfl ?_
          refine OGo.dload (pc' := 156) C385 X416 at_154 rfl rfl ?_
          have f418 := (f415.keep K416 (ninS ne387 nin0))
          refine OGo.callV (pc' := 159) (cells' := 35) (slots' := 726) (argsL := [(.double (FP.dneg (FP.l2d i0)))]) (St := []) C385 X416 (wd216 hw) (wd217 hw) (wd219 hw) (wd218 hw) (by decide) Et416 (wd220 hw) (wd184 hw) (ctWf3S hw X416.2.1 a386 a361 k361 fa fb fc (FP.dneg (FP.l2d i0)) Ff416 Fz416 f418 (own_lng i0)) (lenOf pd1 rfl) rfl at_156 rfl rfl (by decide) (Nat.le_of_ble_eq_true rfl) rfl rfl (by decide) (by decide) (fun v419 T419 h419 Q419 X419 z419 => ?_)
          obtain ⟨hv419, hh419⟩ := Q419
          subst hv419; rw [hh419] at X419
          show OGo p e below _ T419 (mkF m 159 #[.val (.long i0), .second, .val (.int i1), .val (.int i2), .val (.int i3), .val (.int i4), .val (.int (3 : Int32)), .val (.double (FP.dneg (FP.l2d i0))), .second, .val (.double (FP.i2d fa)), .second, .val (.double (FP.i2d fb)), .second, .val (.double (FP.i2d fc)), .second, .val (.ref a361), .val (.ref a369), .val (.ref a386), .unset, .unset, .unset, .unset] [(.double (FP.dadd (FP.dadd (FP.dadd (FP.dneg (FP.l2d i0)) (FP.i2d fa)) (FP.i2d fb)) (FP.i2d fc)))])
          refine OGo.dstore (pc' := 161) C385 X419 at_159 rfl (l' := #[.val (.long i0), .second, .val (.int i1), .val (.int i2), .val (.int i3), .val (.int i4), .val (.int (3 : Int32)), .val (.double (FP.dneg (FP.l2d i0))), .second, .val (.double (FP.i2d fa)), .second, .val (.double (FP.i2d fb)), .second, .val (.double (FP.i2d fc)), .second, .val (.ref a361), .val (.ref a369), .val (.ref a386), .val (.double (FP.dadd (FP.dadd (FP.dadd (FP.dneg (FP.l2d i0)) (FP.i2d fa)) (FP.i2d fb)) (FP.i2d fc))), .second, .unset, .unset]) rfl ?_
          refine OGo.dload (pc' := 163) C385 X419 at_161 rfl rfl ?_
          refine OGo.dstore (pc' := 165) C385 X419 at_163 rfl (l' := #[.val (.long i0), .second, .val (.int i1), .val (.int i2), .val (.int i3), .val (.int i4), .val (.int (3 : Int32)), .val (.double (FP.dneg (FP.l2d i0))), .second, .val (.double (FP.i2d fa)), .second, .val (.double (FP.i2d fb)), .second, .val (.double (FP.i2d fc)), .second, .val (.ref a361), .val (.ref a369), .val (.ref a386), .val (.double (FP.dadd (FP.dadd (FP.dadd (FP.dneg (FP.l2d i0)) (FP.i2d fa)) (FP.i2d fb)) (FP.i2d fc))), .second, .val (.double (FP.dneg (FP.l2d i0))), .second]) rfl ?_
          refine OGo.iload (pc' := 167) C385 X419 at_165 rfl rfl ?_
          refine OGo.iconst (pc' := 168) (z := (1 : Int32)) C385 X419 at_167 rfl (by decide) ?_
          refine OGo.icmpNo (pc' := 171) C385 X419 at_168 rfl (flt (by decide : ¬ (3 : Int32) < (1 : Int32))).1 ?_
          refine OGo.dload (pc' := 173) C385 X419 at_171 rfl rfl ?_
          refine OGo.dload (pc' := 175) C385 X419 at_173 rfl rfl ?_
          refine OGo.dadd (pc' := 176) (v := (FP.dadd (FP.dneg (FP.l2d i0)) (FP.i2d fa))) C385 X419 at_175 rfl (dadd_out (own_lng i0) (i2d_fin _)) rfl ?_
          refine OGo.dstore (pc' := 178) C385 X419 at_176 rfl (l' := #[.val (.long i0), .second, .val (.int i1), .val (.int i2), .val (.int i3), .val (.int i4), .val (.int (3 : Int32)), .val (.double (FP.dneg (FP.l2d i0))), .second, .val (.double (FP.i2d fa)), .second, .val (.double (FP.i2d fb)), .second, .val (.double (FP.i2d fc)), .second, .val (.ref a361), .val (.ref a369), .val (.ref a386), .val (.double (FP.dadd (FP.dadd (FP.dadd (FP.dneg (FP.l2d i0)) (FP.i2d fa)) (FP.i2d fb)) (FP.i2d fc))), .second, .val (.double (FP.dadd (FP.dneg (FP.l2d i0)) (FP.i2d fa))), .second]) rfl ?_
          refine OGo.iload (pc' := 180) C385 X419 at_178 rfl rfl ?_
          refine OGo.iconst (pc' := 181) (z := (2 : Int32)) C385 X419 at_180 rfl (by decide) ?_
          refine OGo.icmpNo (pc' := 184) C385 X419 at_181 rfl (flt (by decide : ¬ (3 : Int32) < (2 : Int32))).1 ?_
          refine OGo.dload (pc' := 186) C385 X419 at_184 rfl rfl ?_
          refine OGo.dload (pc' := 188) C385 X419 at_186 rfl rfl ?_
          refine OGo.dadd (pc' := 189) (v := (FP.dadd (FP.dadd (FP.dneg (FP.l2d i0)) (FP.i2d fa)) (FP.i2d fb))) C385 X419 at_188 rfl (dadd_out (dadd_out (own_lng i0) (i2d_fin _)) (i2d_fin _)) rfl ?_
          refine OGo.dstore (pc' := 191) C385 X419 at_189 rfl (l' := #[.val (.long i0), .second, .val (.int i1), .val (.int i2), .val (.int i3), .val (.int i4), .val (.int (3 : Int32)), .val (.double (FP.dneg (FP.l2d i0))), .second, .val (.double (FP.i2d fa)), .second, .val (.double (FP.i2d fb)), .second, .val (.double (FP.i2d fc)), .second, .val (.ref a361), .val (.ref a369), .val (.ref a386), .val (.double (FP.dadd (FP.dadd (FP.dadd (FP.dneg (FP.l2d i0)) (FP.i2d fa)) (FP.i2d fb)) (FP.i2d fc))), .second, .val (.double (FP.dadd (FP.dadd (FP.dneg (FP.l2d i0)) (FP.i2d fa)) (FP.i2d fb))), .second]) rfl ?_
          refine OGo.iload (pc' := 193) C385 X419 at_191 rfl rfl ?_
          refine OGo.iconst (pc' := 194) (z := (3 : Int32)) C385 X419 at_193 rfl (by decide) ?_
          refine OGo.icmpNo (pc' := 197) C385 X419 at_194 rfl (flt (by decide : ¬ (3 : Int32) < (3 : Int32))).1 ?_
          refine OGo.dload (pc' := 199) C385 X419 at_197 rfl rfl ?_
          refine OGo.dload (pc' := 201) C385 X419 at_199 rfl rfl ?_
          refine OGo.dadd (pc' := 202) (v := (FP.dadd (FP.dadd (FP.dadd (FP.dneg (FP.l2d i0)) (FP.i2d fa)) (FP.i2d fb)) (FP.i2d fc))) C385 X419 at_201 rfl (dadd_out (dadd_out (dadd_out (own_lng i0) (i2d_fin _)) (i2d_fin _)) (i2d_fin _)) rfl ?_
          refine OGo.dstore (pc' := 204) C385 X419 at_202 rfl (l' := #[.val (.long i0), .second, .val (.int i1), .val (.int i2), .val (.int i3), .val (.int i4), .val (.int (3 : Int32)), .val (.double (FP.dneg (FP.l2d i0))), .second, .val (.double (FP.i2d fa)), .second, .val (.double (FP.i2d fb)), .second, .val (.double (FP.i2d fc)), .second, .val (.ref a361), .val (.ref a369), .val (.ref a386), .val (.double (FP.dadd (FP.dadd (FP.dadd (FP.dneg (FP.l2d i0)) (FP.i2d fa)) (FP.i2d fb)) (FP.i2d fc))), .second, .val (.double (FP.dadd (FP.dadd (FP.dadd (FP.dneg (FP.l2d i0)) (FP.i2d fa)) (FP.i2d fb)) (FP.i2d fc))), .second]) rfl ?_
          refine OGo.dload (pc' := 206) C385 X419 at_204 rfl rfl ?_
          refine OGo.dload (pc' := 208) C385 X419 at_206 rfl rfl ?_
          refine OGo.callS (pc' := 211) (cells' := 35) (slots' := 726) (argsL := [(.double (FP.dadd (FP.dadd (FP.dadd (FP.dneg (FP.l2d i0)) (FP.i2d fa)) (FP.i2d fb)) (FP.i2d fc))), (.double (FP.dadd (FP.dadd (FP.dadd (FP.dneg (FP.l2d i0)) (FP.i2d fa)) (FP.i2d fb)) (FP.i2d fc)))]) (St := []) C385 X419 (wd221 hw) (wd222 hw) (by decide) (wd224 hw) (wd223 hw) (ctSame hw X419.2.1 (FP.dadd (FP.dadd (FP.dadd (FP.dneg (FP.l2d i0)) (FP.i2d fa)) (FP.i2d fb)) (FP.i2d fc)) (dadd_out (dadd_out (dadd_out (own_lng i0) (i2d_fin _)) (i2d_fin _)) (i2d_fin _))) (lenOf pd26 rfl) rfl at_208 rfl rfl (by decide) (Nat.le_of_ble_eq_true rfl) rfl rfl (by decide) (by decide) (fun v420 T420 h420 Q420 X420 z420 => ?_)
          obtain ⟨hv420, hh420⟩ := Q420
          subst hv420; rw [hh420] at X420
          show OGo p e below _ T420 (mkF m 211 #[.val (.long i0), .second, .val (.int i1), .val (.int i2), .val (.int i3), .val (.int i4), .val (.int (3 : Int32)), .val (.double (FP.dneg (FP.l2d i0))), .second, .val (.double (FP.i2d fa)), .second, .val (.double (FP.i2d fb)), .second, .val (.double (FP.i2d fc)), .second, .val (.ref a361), .val (.ref a369), .val (.ref a386), .val (.double (FP.dadd (FP.dadd (FP.dadd (FP.dneg (FP.l2d i0)) (FP.i2d fa)) (FP.i2d fb)) (FP.i2d fc))), .second, .val (.double (FP.dadd (FP.dadd (FP.dadd (FP.dneg (FP.l2d i0)) (FP.i2d fa)) (FP.i2d fb)) (FP.i2d fc))), .second] [(.int (1 : Int32))])
          exact OGo.retWN C385 X420 (ew hw) Hd417 at_211 hret (by simp) (z' := (1 : Int32)) (by decide) hlk (fun _ _ => rfl) (by decide) (by decide)
      · have f421 := (Ev385.ext E386)
        have f422 := (Fb385.ext E386)
        have f423 := (f388.ext E386)
        refine OGo.callInit (pc' := 150) (cells' := 35) (slots' := 726) (argsL := [(.ref a369), (.ref bl), (.int (0 : Int32)), (.double (FP.dconst0)), (.double (FP.dconst0)), (.ref a361)]) (St := [(.ref a386)]) C385 X396 rfl rfl (wd188 hw) (wd189 hw) (by decide) (wd190 hw) (wd184 hw) (ctTk30R hw X396.2.1 a386 a369 a361 bl k361 fa fb fc A386 F386_type F386_billing F386_input F386_arrival F386_ready F386_seconds F386_fees F386_feesAllZero q386 f421 f422 f423 hz0) (lenOf pd25 rfl) rfl at_147 rfl rfl (by decide) (Nat.le_of_ble_eq_true rfl) rfl rfl (by decide) (by decide) (fun v424 T424 h424 Q424 X424 z424 => ?_)
        obtain ⟨hv424, K424, Et424, Ff424, Fz424⟩ := Q424
        subst hv424
        have Hd425 := Hd394.keep K424 (allS (Safe.exa (EL := consts_1) C385.2.1.alike A386 (by decide) (by decide)) all0)
        show OGo p e below _ T424 (mkF m 150 #[.val (.long i0), .second, .val (.int i1), .val (.int i2), .val (.int i3), .val (.int i4), .val (.int (3 : Int32)), .val (.double (FP.dneg (FP.l2d i0))), .second, .val (.double (FP.i2d fa)), .second, .val (.double (FP.i2d fb)), .second, .val (.double (FP.i2d fc)), .second, .val (.ref a361), .val (.ref a369), .unset, .unset, .unset, .unset, .unset] [(.ref a386)])
        refine OGo.astore (pc' := 152) C385 X424 at_150 rfl rfl (l' := #[.val (.long i0), .second, .val (.int i1), .val (.int i2), .val (.int i3), .val (.int i4), .val (.int (3 : Int32)), .val (.double (FP.dneg (FP.l2d i0))), .second, .val (.double (FP.i2d fa)), .second, .val (.double (FP.i2d fb)), .second, .val (.double (FP.i2d fc)), .second, .val (.ref a361), .val (.ref a369), .val (.ref a386), .unset, .unset, .unset, .unset]) rfl ?_
        refine OGo.aload (pc' := 154) C385 X424 at_152 rfl rfl rfl ?_
        refine OGo.dload (pc' := 156) C385 X424 at_154 rfl rfl ?_
        have f426 := (f423.keep K424 (ninS ne387 nin0))
        refine OGo.callV (pc' := 159) (cells' := 35) (slots' := 726) (argsL := [(.double (FP.dneg (FP.l2d i0)))]) (St := []) C385 X424 (wd216 hw) (wd217 hw) (wd219 hw) (wd218 hw) (by decide) Et424 (wd220 hw) (wd184 hw) (ctWf3S hw X424.2.1 a386 a361 k361 fa fb fc (FP.dneg (FP.l2d i0)) Ff424 Fz424 f426 (own_lng i0)) (lenOf pd1 rfl) rfl at_156 rfl rfl (by decide) (Nat.le_of_ble_eq_true rfl) rfl rfl (by decide) (by decide) (fun v427 T427 h427 Q427 X427 z427 => ?_)
        obtain ⟨hv427, hh427⟩ := Q427
        subst hv427; rw [hh427] at X427
        show OGo p e below _ T427 (mkF m 159 #[.val (.long i0), .second, .val (.int i1), .val (.int i2), .val (.int i3), .val (.int i4), .val (.int (3 : Int32)), .val (.double (FP.dneg (FP.l2d i0))), .second, .val (.double (FP.i2d fa)), .second, .val (.double (FP.i2d fb)), .second, .val (.double (FP.i2d fc)), .second, .val (.ref a361), .val (.ref a369), .val (.ref a386), .unset, .unset, .unset, .unset] [(.double (FP.dadd (FP.dadd (FP.dadd (FP.dneg (FP.l2d i0)) (FP.i2d fa)) (FP.i2d fb)) (FP.i2d fc)))])
        refine OGo.dstore (pc' := 161) C385 X427 at_159 rfl (l' := #[.val (.long i0), .second, .val (.int i1), .val (.int i2), .val (.int i3), .val (.int i4), .val (.int (3 : Int32)), .val (.double (FP.dneg (FP.l2d i0))), .second, .val (.double (FP.i2d fa)), .second, .val (.double (FP.i2d fb)), .second, .val (.double (FP.i2d fc)), .second, .val (.ref a361), .val (.ref a369), .val (.ref a386), .val (.double (FP.dadd (FP.dadd (FP.dadd (FP.dneg (FP.l2d i0)) (FP.i2d fa)) (FP.i2d fb)) (FP.i2d fc))), .second, .unset, .unset]) rfl ?_
        refine OGo.dload (pc' := 163) C385 X427 at_161 rfl rfl ?_
        refine OGo.dstore (pc' := 165) C385 X427 at_163 rfl (l' := #[.val (.long i0), .second, .val (.int i1), .val (.int i2), .val (.int i3), .val (.int i4), .val (.int (3 : Int32)), .val (.double (FP.dneg (FP.l2d i0))), .second, .val (.double (FP.i2d fa)), .second, .val (.double (FP.i2d fb)), .second, .val (.double (FP.i2d fc)), .second, .val (.ref a361), .val (.ref a369), .val (.ref a386), .val (.double (FP.dadd (FP.dadd (FP.dadd (FP.dneg (FP.l2d i0)) (FP.i2d fa)) (FP.i2d fb)) (FP.i2d fc))), .second, .val (.double (FP.dneg (FP.l2d i0))), .second]) rfl ?_
        refine OGo.iload (pc' := 167) C385 X427 at_165 rfl rfl ?_
        refine OGo.iconst (pc' := 168) (z := (1 : Int32)) C385 X427 at_167 rfl (by decide) ?_
        refine OGo.icmpNo (pc' := 171) C385 X427 at_168 rfl (flt (by decide : ¬ (3 : Int32) < (1 : Int32))).1 ?_
        refine OGo.dload (pc' := 173) C385 X427 at_171 rfl rfl ?_
        refine OGo.dload (pc' := 175) C385 X427 at_173 rfl rfl ?_
        refine OGo.dadd (pc' := 176) (v := (FP.dadd (FP.dneg (FP.l2d i0)) (FP.i2d fa))) C385 X427 at_175 rfl (dadd_out (own_lng i0) (i2d_fin _)) rfl ?_
        refine OGo.dstore (pc' := 178) C385 X427 at_176 rfl (l' := #[.val (.long i0), .second, .val (.int i1), .val (.int i2), .val (.int i3), .val (.int i4), .val (.int (3 : Int32)), .val (.double (FP.dneg (FP.l2d i0))), .second, .val (.double (FP.i2d fa)), .second, .val (.double (FP.i2d fb)), .second, .val (.double (FP.i2d fc)), .second, .val (.ref a361), .val (.ref a369), .val (.ref a386), .val (.double (FP.dadd (FP.dadd (FP.dadd (FP.dneg (FP.l2d i0)) (FP.i2d fa)) (FP.i2d fb)) (FP.i2d fc))), .second, .val (.double (FP.dadd (FP.dneg (FP.l2d i0)) (FP.i2d fa))), .second]) rfl ?_
        refine OGo.iload (pc' := 180) C385 X427 at_178 rfl rfl ?_
        refine OGo.iconst (pc' := 181) (z := (2 : Int32)) C385 X427 at_180 rfl (by decide) ?_
        refine OGo.icmpNo (pc' := 184) C385 X427 at_181 rfl (flt (by decide : ¬ (3 : Int32) < (2 : Int32))).1 ?_
        refine OGo.dload (pc' := 186) C385 X427 at_184 rfl rfl ?_
        refine OGo.dload (pc' := 188) C385 X427 at_186 rfl rfl ?_
        refine OGo.dadd (pc' := 189) (v := (FP.dadd (FP.dadd (FP.dneg (FP.l2d i0)) (FP.i2d fa)) (FP.i2d fb))) C385 X427 at_188 rfl (dadd_out (dadd_out (own_lng i0) (i2d_fin _)) (i2d_fin _)) rfl ?_
        refine OGo.dstore (pc' := 191) C385 X427 at_189 rfl (l' := #[.val (.long i0), .second, .val (.int i1), .val (.int i2), .val (.int i3), .val (.int i4), .val (.int (3 : Int32)), .val (.double (FP.dneg (FP.l2d i0))), .second, .val (.double (FP.i2d fa)), .second, .val (.double (FP.i2d fb)), .second, .val (.double (FP.i2d fc)), .second, .val (.ref a361), .val (.ref a369), .val (.ref a386), .val (.double (FP.dadd (FP.dadd (FP.dadd (FP.dneg (FP.l2d i0)) (FP.i2d fa)) (FP.i2d fb)) (FP.i2d fc))), .second, .val (.double (FP.dadd (FP.dadd (FP.dneg (FP.l2d i0)) (FP.i2d fa)) (FP.i2d fb))), .second]) rfl ?_
        refine OGo.iload (pc' := 193) C385 X427 at_191 rfl rfl ?_
        refine OGo.iconst (pc' := 194) (z := (3 : Int32)) C385 X427 at_193 rfl (by decide) ?_
        refine OGo.icmpNo (pc' := 197) C385 X427 at_194 rfl (flt (by decide : ¬ (3 : Int32) < (3 : Int32))).1 ?_
        refine OGo.dload (pc' := 199) C385 X427 at_197 rfl rfl ?_
        refine OGo.dload (pc' := 201) C385 X427 at_199 rfl rfl ?_
        refine OGo.dadd (pc' := 202) (v := (FP.dadd (FP.dadd (FP.dadd (FP.dneg (FP.l2d i0)) (FP.i2d fa)) (FP.i2d fb)) (FP.i2d fc))) C385 X427 at_201 rfl (dadd_out (dadd_out (dadd_out (own_lng i0) (i2d_fin _)) (i2d_fin _)) (i2d_fin _)) rfl ?_
        refine OGo.dstore (pc' := 204) C385 X427 at_202 rfl (l' := #[.val (.long i0), .second, .val (.int i1), .val (.int i2), .val (.int i3), .val (.int i4), .val (.int (3 : Int32)), .val (.double (FP.dneg (FP.l2d i0))), .second, .val (.double (FP.i2d fa)), .second, .val (.double (FP.i2d fb)), .second, .val (.double (FP.i2d fc)), .second, .val (.ref a361), .val (.ref a369), .val (.ref a386), .val (.double (FP.dadd (FP.dadd (FP.dadd (FP.dneg (FP.l2d i0)) (FP.i2d fa)) (FP.i2d fb)) (FP.i2d fc))), .second, .val (.double (FP.dadd (FP.dadd (FP.dadd (FP.dneg (FP.l2d i0)) (FP.i2d fa)) (FP.i2d fb)) (FP.i2d fc))), .second]) rfl ?_
        refine OGo.dload (pc' := 206) C385 X427 at_204 rfl rfl ?_
        refine OGo.dload (pc' := 208) C385 X427 at_206 rfl rfl ?_
        refine OGo.callS (pc' := 211) (cells' := 35) (slots' := 726) (argsL := [(.double (FP.dadd (FP.dadd (FP.dadd (FP.dneg (FP.l2d i0)) (FP.i2d fa)) (FP.i2d fb)) (FP.i2d fc))), (.double (FP.dadd (FP.dadd (FP.dadd (FP.dneg (FP.l2d i0)) (FP.i2d fa)) (FP.i2d fb)) (FP.i2d fc)))]) (St := []) C385 X427 (wd221 hw) (wd222 hw) (by decide) (wd224 hw) (wd223 hw) (ctSame hw X427.2.1 (FP.dadd (FP.dadd (FP.dadd (FP.dneg (FP.l2d i0)) (FP.i2d fa)) (FP.i2d fb)) (FP.i2d fc)) (dadd_out (dadd_out (dadd_out (own_lng i0) (i2d_fin _)) (i2d_fin _)) (i2d_fin _))) (lenOf pd26 rfl) rfl at_208 rfl rfl (by decide) (Nat.le_of_ble_eq_true rfl) rfl rfl (by decide) (by decide) (fun v428 T428 h428 Q428 X428 z428 => ?_)
        obtain ⟨hv428, hh428⟩ := Q428
        subst hv428; rw [hh428] at X428
        show OGo p e below _ T428 (mkF m 211 #[.val (.long i0), .second, .val (.int i1), .val (.int i2), .val (.int i3), .val (.int i4), .val (.int (3 : Int32)), .val (.double (FP.dneg (FP.l2d i0))), .second, .val (.double (FP.i2d fa)), .second, .val (.double (FP.i2d fb)), .second, .val (.double (FP.i2d fc)), .second, .val (.ref a361), .val (.ref a369), .val (.ref a386), .val (.double (FP.dadd (FP.dadd (FP.dadd (FP.dneg (FP.l2d i0)) (FP.i2d fa)) (FP.i2d fb)) (FP.i2d fc))), .second, .val (.double (FP.dadd (FP.dadd (FP.dadd (FP.dneg (FP.l2d i0)) (FP.i2d fa)) (FP.i2d fb)) (FP.i2d fc))), .second] [(.int (1 : Int32))])
        exact OGo.retWN C385 X428 (ew hw) Hd425 at_211 hret (by simp) (z' := (1 : Int32)) (by decide) hlk (fun _ _ => rfl) (by decide) (by decide)
set_option maxRecDepth 65536 in
set_option maxHeartbeats 40000000 in
theorem comes_1 {Post : Tables → Env → Array Value → State → Outcome → State → Prop} (hpost : ∀ tb e args s v u, (limb_1_1.after args s (.returned v) u = true ∧ limb_1_2.after args s (.returned v) u = true ∧ True) → FramedW s (.returned v) u (Jvm.fieldLocs frame_1_writes args s ++ Jvm.arrayLocs frame_1_arrays args s ++ Jvm.staticLocs frame_1_statics s) 40 9472 → Post tb e args s (.returned v) u) :
    ArmFor flags0 classFile x code maxLocals ret World_1 tables_1 room_1 Calls_1 rest_1 Pre_1 Post := by
  intro l hfl _ _ p e ha hc hk s m args below hf hA hF happ hP
  obtain ⟨hcalls, hrest, hpre⟩ := hP
  obtain ⟨-, -, -, hnamed, -, -, -, hat⟩ := (Spec.applies_iff hf).mp happ
  obtain ⟨hg, hn⟩ := and_e (Cond.before_iff.mp (show (Jvm.Cond.and given_1 narrow_1).before args s = true from hpre))
  obtain ⟨g1, g2⟩ := and_e hg
  obtain ⟨g3, g4⟩ := and_e g2
  obtain ⟨g5, g6⟩ := and_e g4
  obtain ⟨g7, g8⟩ := and_e g6
  obtain ⟨g9, g10⟩ := and_e g8
  obtain ⟨w0, w1, w2, w3, w4, rfl⟩ : ∃ w0 w1 w2 w3 w4 : Value, args = #[w0, w1, w2, w3, w4] := by
    have hs : args.size = 5 := by simpa [Cond.value, given_1] using g1
    obtain ⟨L⟩ := args
    match L, hs with
    | [w0, w1, w2, w3, w4], _ => exact ⟨w0, w1, w2, w3, w4, rfl⟩
  have hw := fun d (hd : d ∈ tables_1) => atoms_spec (ws := Jvm.Cond.code x code maxLocals ret :: tables_1) hat d (List.mem_cons_of_mem _ hd)
  have hfit : Fit s := fun {y c} hc i hi => by
    obtain ⟨ha, rfl⟩ := Array.getElem?_eq_some_iff.mp hc
    have q := List.all_eq_true.mp ((Array.all_eq_true_iff_forall_mem.mp hF) _ (Array.getElem_mem ha)) i (List.mem_range.mpr hi)
    simpa [Array.getElem?_eq_getElem hi] using q
  obtain ⟨hsets, hown0⟩ := atoms_of _ (rest_1_c_eq ▸ (show rest_1_c.before _ s = true from hrest))
  obtain ⟨i0, ei0⟩ := isL_v g3
  obtain rfl : w0 = (.long i0) := Option.some.inj ei0
  obtain ⟨i1, ei1⟩ := is_v g5
  obtain rfl : w1 = (.int i1) := Option.some.inj ei1
  obtain ⟨i2, ei2⟩ := is_v g7
  obtain rfl : w2 = (.int i2) := Option.some.inj ei2
  obtain ⟨i3, ei3⟩ := is_v g9
  obtain rfl : w3 = (.int i3) := Option.some.inj ei3
  obtain ⟨i4, ei4⟩ := is_v g10
  obtain rfl : w4 = (.int i4) := Option.some.inj ei4
  obtain ⟨cz, S2, hcz⟩ := own_sets hsets
  obtain ⟨bl, eb⟩ := exa_v hn
  obtain ⟨n, o, h1, h2, h3, _, L, rfl, ⟨⟨rfl, -⟩, N⟩, hC, hq⟩ := ct0 (l := l) (Z := s) hw (n0 := s.heap.size) (h0 := s.heap) (Nat.le_refl _) i0 i1 i2 i3 i4 bl cz (Old.start s) (Sta.start eb (Or.inr ⟨(wd186 hw), (wd187 hw)⟩)) S2 hcz tables_1 p e ha hc hk s m _ below hf ((Spec.applies_iff_loose hf).mp happ).1 ⟨rfl, State.Warmed39.refl s, rfl, (CHv.start (ew hw) hcalls.1 (hsets _ (List.mem_of_getElem? (i := 2) rfl)) (wd8 hw) (wd7 hw)), fun _ hx => by cases hx⟩ trivial
  refine ⟨n, _, h1, h2, h3, hpost _ _ _ _ _ _ ⟨Cond.after_iff.mpr rfl, Cond.after_iff.mpr (eq_i res_at (Term.int_eval (1)) rfl), trivial⟩ ⟨hq.1, hq.2.1, hq.2.2.1, (hq.2.2.2.sift fun y hy => Or.inr (N y hy)).mono (by decide) (by decide)⟩⟩
theorem main_1_1 : Claimed_1_1 := comes_1 fun _ _ _ _ _ _ h hF => ⟨h.1, hF⟩
theorem main_1_2 : Claimed_1_2 := comes_1 fun _ _ _ _ _ _ h hF => ⟨h.2.1, hF⟩
end Jvm.Pilot.@@N@@
namespace Jvm.Pilot.@@N@@
open Jvm Jvm.ClassFile Sem Op Lib Jvm.Free Jvm.Stand Jvm.Pilot.@@N@@.Jvm.D
/-! MADE BY PROGRAM (witnessworld.py) out of the Statement's table words and the real class files: 32 classes; the members and pool entries that the words name. The judged class is class 1, her method 1. -/
namespace start1
open Jvm.ClassFile
def u (s : String) : CpInfo := .utf8 (stringToUtf16 s)
/-- a pool by its gaps: so many unusable entries, then the entry; so many at the end -/
def gap : Nat → List CpInfo → List CpInfo
  | 0, r => r
  | n + 1, r => .unusable :: gap n r
def poolList (es : List (Nat × CpInfo)) (last : Nat) : List CpInfo := es.foldr (fun e r => gap e.1 (e.2 :: r)) (gap last [])
def pool (es : List (Nat × CpInfo)) (last : Nat) : Array CpInfo := ⟨poolList es last⟩
def fileOf (pool : Array CpInfo) (this : Nat) (attrs : Array Attribute := #[]) (ms : Array MethodInfo := #[]) (fl : Nat := 33) (sup : Nat := 0) (ifs : Array Nat := #[]) (fds : Array FieldInfo := #[]) : ClassFile where
  minorVersion := 0
  majorVersion := 65
  constantPool := pool
  accessFlags := fl
  thisClass := this
  superClass := sup
  interfaces := ifs
  fields := fds
  methods := ms
  attributes := attrs
def plain (name : String) (sup : Option ClassId) : Class where
  name := name
  kind := .ordinary
  loader := none
  accessFlags := 33
  super := sup
  interfaces := #[]
  cf := none
  fields := #[]
  methods := #[]
  instanceTypes := #[]
  staticTypes := #[]
  resolved := #[]
  callSites := []
  init := .initialized
  statics := none
  mirror := none

def pool0 : Array CpInfo := pool [(5, u "<init>"), (0, u "()V"), (1, .class_ 10), (1, u "java/lang/Object")] 113

def k0c0 : Code := { maxStack := 0, maxLocals := 1, code := object_method_1_code, exceptionTable := #[], attributes := #[] }
def k0m0 : Method := { name := "<init>", desc := "()V", sig := { parameters := [], returnType := none }, accessFlags := 1, code := some k0c0 }
/-- java/lang/Object -/
def k0 : Class := { plain "java/lang/Object" none with
  accessFlags := 33
  interfaces := #[]
  cf := some (fileOf pool0 8 #[] #[{ accessFlags := 1, nameIndex := 5, descriptorIndex := 6, attributes := #[] }] 33 0 #[] #[])
  fields := #[]
  methods := #[k0m0]
  instanceTypes := #[]
  staticTypes := #[]
  resolved := Array.replicate 124 none
  statics := none }

def pool1 : Array CpInfo := pool [(2, .class_ 4), (1, u "java/lang/Object"), (0, u "<init>"), (0, u "()V"), (0, .integer 2147483647), (0, .class_ 9), (0, u "com/example/makespan/makespan/model/VmType"), (0, .string 11), (0, u "t"), (0, .methodref 8 13), (0, .nameAndType 5 14), (0, u "(Ljava/lang/String;DDD)V"), (0, .class_ 16), (0, u "com/example/makespan/makespan/planning/TaskOnType"), (0, .fieldref 18 19), (0, .class_ 20), (0, .nameAndType 21 22), (0, u "com/example/makespan/makespan/model/Billing"), (0, u "LEASE"), (0, u "Lcom/example/makespan/makespan/model/Billing;"), (0, .methodref 15 24), (0, .nameAndType 5 25), (0, u "(Lcom/example/makespan/makespan/model/VmType;Lcom/example/makespan/makespan/model/Billing;IDD[D)V"), (0, .methodref 15 27), (0, .nameAndType 28 29), (0, u "withFees"), (0, u "(D)D"), (0, .methodref 31 32), (0, .class_ 33), (0, .nameAndType 34 35), (0, u "com/example/makespan/makespan/planning/TaskOnTypeWithFeesPinLaw"), (0, u "sameDouble"), (0, u "(DD)Z"), (2, u "law"), (0, u "(JIIII)Z")] 5

def k1m0 : Method := { name := "<init>", desc := "()V", sig := { parameters := [], returnType := none }, accessFlags := 2, code := none }
def k1c1 : Code := { maxStack := 10, maxLocals := 22, code := code, exceptionTable := #[], attributes := #[] }
def k1m1 : Method := { name := "law", desc := "(JIIII)Z", sig := { parameters := [.long, .int, .int, .int, .int], returnType := some .boolean }, accessFlags := 9, code := some k1c1 }
def k1c2 : Code := { maxStack := 6, maxLocals := 4, code := method_3_code, exceptionTable := #[], attributes := #[] }
def k1m2 : Method := { name := "sameDouble", desc := "(DD)Z", sig := { parameters := [.double, .double], returnType := some .boolean }, accessFlags := 10, code := some k1c2 }
/-- com/example/makespan/makespan/planning/TaskOnTypeWithFeesPinLaw -/
def k1 : Class := { plain "com/example/makespan/makespan/planning/TaskOnTypeWithFeesPinLaw" (some 0) with
  accessFlags := 49
  interfaces := #[]
  cf := some (fileOf pool1 31 #[] #[{ accessFlags := 2, nameIndex := 5, descriptorIndex := 6, attributes := #[] }, { accessFlags := 9, nameIndex := 38, descriptorIndex := 39, attributes := #[] }, { accessFlags := 10, nameIndex := 34, descriptorIndex := 35, attributes := #[] }] 49 2 #[] #[])
  fields := #[]
  methods := #[k1m0, k1m1, k1m2]
  instanceTypes := #[]
  staticTypes := #[]
  resolved := Array.replicate 45 none
  statics := none }

def pool2 : Array CpInfo := pool [(1, .methodref 2 3), (0, .class_ 4), (0, .nameAndType 5 6), (0, u "com/example/makespan/makespan/model/VmType"), (0, u "<init>"), (0, u "(Ljava/lang/String;DDDDZD)V"), (0, .methodref 8 9), (0, .class_ 10), (0, .nameAndType 5 11), (0, u "java/lang/Object"), (0, u "()V"), (0, .string 13), (0, u "name"), (0, .methodref 15 16), (0, .class_ 17), (0, .nameAndType 18 19), (0, u "java/util/Objects"), (0, u "requireNonNull"), (0, u "(Ljava/lang/Object;Ljava/lang/String;)Ljava/lang/Object;"), (0, .class_ 21), (0, u "java/lang/String"), (0, .fieldref 2 23), (0, .nameAndType 13 24), (0, u "Ljava/lang/String;"), (0, .class_ 26), (0, u "java/lang/StringBuilder"), (0, .methodref 25 9), (0, .string 29), (0, u "VM type "), (0, .methodref 25 31), (0, .nameAndType 32 33), (0, u "append"), (0, u "(Ljava/lang/String;)Ljava/lang/StringBuilder;"), (0, .methodref 25 35), (0, .nameAndType 36 37), (0, u "toString"), (0, u "()Ljava/lang/String;"), (0, .string 39), (0, u "speed"), (0, .methodref 41 42), (0, .class_ 43), (0, .nameAndType 44 45), (0, u "com/example/makespan/makespan/model/Ranges"), (0, u "aboveZero"), (0, u "(Ljava/lang/String;Ljava/lang/String;D)D"), (0, .fieldref 2 47), (0, .nameAndType 39 48), (0, u "D"), (0, .string 50), (0, u "pricePerPeriod"), (0, .methodref 41 52), (0, .nameAndType 53 45), (0, u "zeroOrAbove"), (0, .fieldref 2 55), (0, .nameAndType 50 48), (0, .string 57), (0, u "periodSeconds"), (0, .fieldref 2 59), (0, .nameAndType 57 48), (0, .string 61), (0, u "pricePerPeriod / periodSeconds"), (0, .string 63), (0, u "bootSeconds"), (0, .fieldref 2 65), (0, .nameAndType 63 48), (0, .fieldref 2 67), (0, .nameAndType 68 69), (0, u "bootBilled"), (0, u "Z"), (0, .string 71), (0, u "startupFee"), (0, .fieldref 2 73), (0, .nameAndType 71 48), (0, u "(Ljava/lang/String;DDD)V"), (4, u "()D"), (2, u "getBootSeconds")] 6

def k2c0 : Code := { maxStack := 13, maxLocals := 8, code := prog_51_method_1_code, exceptionTable := #[], attributes := #[] }
def k2m0 : Method := { name := "<init>", desc := "(Ljava/lang/String;DDD)V", sig := { parameters := [(.object "java/lang/String"), .double, .double, .double], returnType := none }, accessFlags := 1, code := some k2c0 }
def k2c1 : Code := { maxStack := 6, maxLocals := 14, code := prog_51_method_2_code, exceptionTable := #[], attributes := #[] }
def k2m1 : Method := { name := "<init>", desc := "(Ljava/lang/String;DDDDZD)V", sig := { parameters := [(.object "java/lang/String"), .double, .double, .double, .double, .boolean, .double], returnType := none }, accessFlags := 1, code := some k2c1 }
def k2c2 : Code := { maxStack := 2, maxLocals := 1, code := prog_51_method_7_code, exceptionTable := #[], attributes := #[] }
def k2m2 : Method := { name := "getBootSeconds", desc := "()D", sig := { parameters := [], returnType := some .double }, accessFlags := 1, code := some k2c2 }
/-- com/example/makespan/makespan/model/VmType -/
def k2 : Class := { plain "com/example/makespan/makespan/model/VmType" (some 0) with
  accessFlags := 33
  interfaces := #[]
  cf := some (fileOf pool2 2 #[] #[{ accessFlags := 1, nameIndex := 5, descriptorIndex := 74, attributes := #[] }, { accessFlags := 1, nameIndex := 5, descriptorIndex := 6, attributes := #[] }, { accessFlags := 1, nameIndex := 82, descriptorIndex := 79, attributes := #[] }] 33 8 #[] #[{ accessFlags := 18, nameIndex := 13, descriptorIndex := 24, attributes := #[] }, { accessFlags := 18, nameIndex := 39, descriptorIndex := 48, attributes := #[] }, { accessFlags := 18, nameIndex := 50, descriptorIndex := 48, attributes := #[] }, { accessFlags := 18, nameIndex := 57, descriptorIndex := 48, attributes := #[] }, { accessFlags := 18, nameIndex := 63, descriptorIndex := 48, attributes := #[] }, { accessFlags := 18, nameIndex := 68, descriptorIndex := 69, attributes := #[] }, { accessFlags := 18, nameIndex := 71, descriptorIndex := 48, attributes := #[] }])
  fields := #[{ name := "name", type := (.object "java/lang/String"), accessFlags := 18, slot := 0, constantValue := 0 }, { name := "speed", type := .double, accessFlags := 18, slot := 1, constantValue := 0 }, { name := "pricePerPeriod", type := .double, accessFlags := 18, slot := 2, constantValue := 0 }, { name := "periodSeconds", type := .double, accessFlags := 18, slot := 3, constantValue := 0 }, { name := "bootSeconds", type := .double, accessFlags := 18, slot := 4, constantValue := 0 }, { name := "bootBilled", type := .boolean, accessFlags := 18, slot := 5, constantValue := 0 }, { name := "startupFee", type := .double, accessFlags := 18, slot := 6, constantValue := 0 }]
  methods := #[k2m0, k2m1, k2m2]
  instanceTypes := #[(.object "java/lang/String"), .double, .double, .double, .double, .boolean, .double]
  staticTypes := #[]
  resolved := Array.replicate 89 none
  statics := none }

def pool3 : Array CpInfo := pool [(1, .class_ 2), (0, u "java/io/Serializable"), (0, .class_ 4), (0, u "java/lang/Object")] 2

/-- java/io/Serializable -/
def k3 : Class := { plain "java/io/Serializable" (some 0) with
  accessFlags := 1537
  interfaces := #[]
  cf := some (fileOf pool3 1 #[] #[] 1537 3 #[] #[])
  fields := #[]
  methods := #[]
  instanceTypes := #[]
  staticTypes := #[]
  resolved := Array.replicate 7 none
  statics := none }

def pool4 : Array CpInfo := pool [(1, .class_ 2), (0, u "java/lang/Comparable"), (0, .class_ 4), (0, u "java/lang/Object")] 7

/-- java/lang/Comparable -/
def k4 : Class := { plain "java/lang/Comparable" (some 0) with
  accessFlags := 1537
  interfaces := #[]
  cf := some (fileOf pool4 1 #[] #[] 1537 3 #[] #[])
  fields := #[]
  methods := #[]
  instanceTypes := #[]
  staticTypes := #[]
  resolved := Array.replicate 12 none
  statics := none }

def pool5 : Array CpInfo := pool [(2, .class_ 4), (1, u "java/lang/CharSequence"), (42, .class_ 48), (0, u "java/lang/CharSequence$1CodePointIterator"), (10, .class_ 60), (0, u "java/lang/CharSequence$1CharIterator"), (5, .class_ 67), (0, u "java/lang/Object")] 63

/-- java/lang/CharSequence -/
def k5 : Class := { plain "java/lang/CharSequence" (some 0) with
  accessFlags := 1537
  interfaces := #[]
  cf := some (fileOf pool5 2 #[.nestMembers #[47, 59]] #[] 1537 66 #[] #[])
  fields := #[]
  methods := #[]
  instanceTypes := #[]
  staticTypes := #[]
  resolved := Array.replicate 131 none
  statics := none }

def pool6 : Array CpInfo := pool [(1, .class_ 2), (0, u "java/lang/constant/Constable"), (0, .class_ 4), (0, u "java/lang/Object")] 6

/-- java/lang/constant/Constable -/
def k6 : Class := { plain "java/lang/constant/Constable" (some 0) with
  accessFlags := 1537
  interfaces := #[]
  cf := some (fileOf pool6 1 #[] #[] 1537 3 #[] #[])
  fields := #[]
  methods := #[]
  instanceTypes := #[]
  staticTypes := #[]
  resolved := Array.replicate 11 none
  statics := none }

def pool7 : Array CpInfo := pool [(1, .class_ 2), (0, u "java/lang/constant/ConstantDesc"), (0, .class_ 4), (0, u "java/lang/Object")] 32

/-- java/lang/constant/ConstantDesc -/
def k7 : Class := { plain "java/lang/constant/ConstantDesc" (some 0) with
  accessFlags := 1537
  interfaces := #[]
  cf := some (fileOf pool7 1 #[] #[] 1537 3 #[] #[])
  fields := #[]
  methods := #[]
  instanceTypes := #[]
  staticTypes := #[]
  resolved := Array.replicate 37 none
  statics := none }

def pool8 : Array CpInfo := pool [(1, .methodref 2 3), (0, .class_ 4), (0, .nameAndType 5 6), (0, u "java/lang/Object"), (0, u "<init>"), (0, u "()V"), (2, .fieldref 10 11), (0, .class_ 12), (0, .nameAndType 13 14), (0, u "java/lang/String"), (0, u "value"), (0, u "[B"), (0, .fieldref 10 16), (0, .nameAndType 17 18), (0, u "coder"), (0, u "B"), (2, u "hash"), (0, u "I"), (2, u "hashIsZero"), (0, u "Z"), (11, .fieldref 10 39), (0, .nameAndType 40 26), (0, u "COMPACT_STRINGS"), (13, .methodref 55 56), (0, .class_ 57), (0, .nameAndType 58 59), (0, u "java/util/Arrays"), (0, u "copyOfRange"), (0, u "([BII)[B"), (82, u "()Z"), (50, .class_ 195), (1, u "java/lang/System"), (16, .methodref 193 213), (0, .nameAndType 214 215), (0, u "arraycopy"), (0, u "(Ljava/lang/Object;ILjava/lang/Object;II)V"), (118, u "()I"), (0, .methodref 10 336), (0, .nameAndType 17 337), (0, u "()B"), (2, u "()[B"), (148, .methodref 10 490), (0, .nameAndType 5 491), (0, u "(Ljava/lang/AbstractStringBuilder;Ljava/lang/Void;)V"), (1, .nameAndType 494 142), (0, u "isLatin1"), (11, .nameAndType 507 334), (0, u "length"), (24, u "getBytes"), (16, .methodref 550 506), (0, .class_ 551), (0, u "java/lang/AbstractStringBuilder"), (0, .methodref 550 553), (0, .nameAndType 554 340), (0, u "getValue"), (20, .class_ 576), (0, u "java/lang/CharSequence"), (22, u "CASE_INSENSITIVE_ORDER"), (0, u "Ljava/util/Comparator;"), (220, u "([BIB)V"), (225, .methodref 550 493), (53, u "serialPersistentFields"), (0, u "[Ljava/io/ObjectStreamField;"), (0, .class_ 1104), (0, u "java/lang/String$CaseInsensitiveComparator"), (1, .class_ 1107), (0, u "java/io/Serializable"), (0, .class_ 1109), (0, u "java/lang/Comparable"), (0, .class_ 1111), (0, u "java/lang/constant/Constable"), (0, .class_ 1113), (0, u "java/lang/constant/ConstantDesc"), (2, u "serialVersionUID"), (0, u "J"), (3, u "REPL"), (0, u "C"), (2, u "LATIN1"), (1, u "UTF16"), (105, u "(Ljava/lang/StringBuilder;)V")] 217

def k8m0 : Method := { name := "<init>", desc := "()V", sig := { parameters := [], returnType := none }, accessFlags := 1, code := none }
def k8c1 : Code := { maxStack := 3, maxLocals := 2, code := jdk_42_method_53_code, exceptionTable := #[], attributes := #[] }
def k8m1 : Method := { name := "<init>", desc := "(Ljava/lang/StringBuilder;)V", sig := { parameters := [(.object "java/lang/StringBuilder")], returnType := none }, accessFlags := 1, code := some k8c1 }
def k8c2 : Code := { maxStack := 2, maxLocals := 1, code := jdk_42_method_54_code, exceptionTable := #[], attributes := #[] }
def k8m2 : Method := { name := "length", desc := "()I", sig := { parameters := [], returnType := some .int }, accessFlags := 1, code := some k8c2 }
def k8c3 : Code := { maxStack := 5, maxLocals := 4, code := jdk_42_method_147_code, exceptionTable := #[], attributes := #[] }
def k8m3 : Method := { name := "getBytes", desc := "([BIB)V", sig := { parameters := [(.array .byte), .int, .byte], returnType := none }, accessFlags := 0, code := some k8c3 }
def k8c4 : Code := { maxStack := 5, maxLocals := 5, code := jdk_42_method_150_code, exceptionTable := #[], attributes := #[] }
def k8m4 : Method := { name := "<init>", desc := "(Ljava/lang/AbstractStringBuilder;Ljava/lang/Void;)V", sig := { parameters := [(.object "java/lang/AbstractStringBuilder"), (.object "java/lang/Void")], returnType := none }, accessFlags := 0, code := some k8c4 }
def k8c5 : Code := { maxStack := 1, maxLocals := 1, code := jdk_42_method_152_code, exceptionTable := #[], attributes := #[] }
def k8m5 : Method := { name := "coder", desc := "()B", sig := { parameters := [], returnType := some .byte }, accessFlags := 0, code := some k8c5 }
/-- java/lang/String -/
def k8 : Class := { plain "java/lang/String" (some 0) with
  accessFlags := 49
  interfaces := #[3, 4, 5, 6, 7]
  cf := some (fileOf pool8 10 #[.nestMembers #[1103]] #[{ accessFlags := 1, nameIndex := 5, descriptorIndex := 6, attributes := #[] }, { accessFlags := 1, nameIndex := 5, descriptorIndex := 1233, attributes := #[] }, { accessFlags := 1, nameIndex := 507, descriptorIndex := 334, attributes := #[] }, { accessFlags := 0, nameIndex := 532, descriptorIndex := 821, attributes := #[] }, { accessFlags := 0, nameIndex := 5, descriptorIndex := 491, attributes := #[] }, { accessFlags := 0, nameIndex := 17, descriptorIndex := 337, attributes := #[] }] 49 2 #[1106, 1108, 575, 1110, 1112] #[{ accessFlags := 18, nameIndex := 13, descriptorIndex := 14, attributes := #[] }, { accessFlags := 18, nameIndex := 17, descriptorIndex := 18, attributes := #[] }, { accessFlags := 2, nameIndex := 21, descriptorIndex := 22, attributes := #[] }, { accessFlags := 2, nameIndex := 25, descriptorIndex := 26, attributes := #[] }, { accessFlags := 26, nameIndex := 1116, descriptorIndex := 1117, attributes := #[] }, { accessFlags := 24, nameIndex := 40, descriptorIndex := 26, attributes := #[] }, { accessFlags := 26, nameIndex := 1101, descriptorIndex := 1102, attributes := #[] }, { accessFlags := 26, nameIndex := 1121, descriptorIndex := 1122, attributes := #[] }, { accessFlags := 25, nameIndex := 599, descriptorIndex := 600, attributes := #[] }, { accessFlags := 24, nameIndex := 1125, descriptorIndex := 18, attributes := #[] }, { accessFlags := 24, nameIndex := 1127, descriptorIndex := 18, attributes := #[] }])
  fields := #[{ name := "value", type := (.array .byte), accessFlags := 18, slot := 0, constantValue := 0 }, { name := "coder", type := .byte, accessFlags := 18, slot := 1, constantValue := 0 }, { name := "hash", type := .int, accessFlags := 2, slot := 2, constantValue := 0 }, { name := "hashIsZero", type := .boolean, accessFlags := 2, slot := 3, constantValue := 0 }, { name := "serialVersionUID", type := .long, accessFlags := 26, slot := 0, constantValue := 0 }, { name := "COMPACT_STRINGS", type := .boolean, accessFlags := 24, slot := 1, constantValue := 0 }, { name := "serialPersistentFields", type := (.array (.object "java/io/ObjectStreamField")), accessFlags := 26, slot := 2, constantValue := 0 }, { name := "REPL", type := .char, accessFlags := 26, slot := 3, constantValue := 0 }, { name := "CASE_INSENSITIVE_ORDER", type := (.object "java/util/Comparator"), accessFlags := 25, slot := 4, constantValue := 0 }, { name := "LATIN1", type := .byte, accessFlags := 24, slot := 5, constantValue := 0 }, { name := "UTF16", type := .byte, accessFlags := 24, slot := 6, constantValue := 0 }]
  methods := #[k8m0, k8m1, k8m2, k8m3, k8m4, k8m5]
  instanceTypes := #[(.array .byte), .byte, .int, .boolean]
  staticTypes := #[.long, .boolean, (.array (.object "java/io/ObjectStreamField")), .char, (.object "java/util/Comparator"), .byte, .byte]
  resolved := Array.replicate 1451 none
  statics := some 0 }

def pool9 : Array CpInfo := pool [(2, .class_ 4), (1, u "java/lang/Object"), (0, u "<init>"), (0, u "()V"), (35, .class_ 44), (1, u "java/util/Objects"), (0, u "requireNonNull"), (48, u "(Ljava/lang/Object;Ljava/lang/String;)Ljava/lang/Object;")] 89

def k9m0 : Method := { name := "<init>", desc := "()V", sig := { parameters := [], returnType := none }, accessFlags := 2, code := none }
def k9c1 : Code := { maxStack := 3, maxLocals := 2, code := jdk_31_method_11_code, exceptionTable := #[], attributes := #[] }
def k9m1 : Method := { name := "requireNonNull", desc := "(Ljava/lang/Object;Ljava/lang/String;)Ljava/lang/Object;", sig := { parameters := [(.object "java/lang/Object"), (.object "java/lang/String")], returnType := some (.object "java/lang/Object") }, accessFlags := 9, code := some k9c1 }
/-- java/util/Objects -/
def k9 : Class := { plain "java/util/Objects" (some 0) with
  accessFlags := 49
  interfaces := #[]
  cf := some (fileOf pool9 42 #[] #[{ accessFlags := 2, nameIndex := 5, descriptorIndex := 6, attributes := #[] }, { accessFlags := 9, nameIndex := 45, descriptorIndex := 94, attributes := #[] }] 49 2 #[] #[])
  fields := #[]
  methods := #[k9m0, k9m1]
  instanceTypes := #[]
  staticTypes := #[]
  resolved := Array.replicate 184 none
  statics := none }

def pool10 : Array CpInfo := pool [(1, .class_ 2), (0, u "java/lang/Appendable"), (0, .class_ 4), (0, u "java/lang/Object")] 9

/-- java/lang/Appendable -/
def k10 : Class := { plain "java/lang/Appendable" (some 0) with
  accessFlags := 1537
  interfaces := #[]
  cf := some (fileOf pool10 1 #[] #[] 1537 3 #[] #[])
  fields := #[]
  methods := #[]
  instanceTypes := #[]
  staticTypes := #[]
  resolved := Array.replicate 14 none
  statics := none }

def pool11 : Array CpInfo := pool [(1, .class_ 2), (0, u "java/lang/String"), (0, .methodref 4 5), (0, .class_ 6), (0, .nameAndType 7 8), (0, u "java/lang/Object"), (0, u "<init>"), (0, u "()V"), (1, .class_ 12), (1, u "java/lang/AbstractStringBuilder"), (0, u "EMPTYVALUE"), (0, u "[B"), (0, .fieldref 10 16), (0, .nameAndType 17 14), (0, u "value"), (0, .fieldref 1 19), (0, .nameAndType 20 21), (0, u "COMPACT_STRINGS"), (0, u "Z"), (0, .fieldref 10 23), (0, .nameAndType 24 25), (0, u "coder"), (0, u "B"), (6, .methodref 1 33), (0, .nameAndType 34 35), (0, u "length"), (0, u "()I"), (4, .methodref 1 41), (0, .nameAndType 24 42), (0, u "()B"), (2, u "append"), (0, u "(Ljava/lang/String;)Ljava/lang/AbstractStringBuilder;"), (1, .class_ 49), (0, u "java/lang/CharSequence"), (19, u "(Ljava/lang/String;)V"), (5, u "maybeLatin1"), (3, .fieldref 10 80), (0, .nameAndType 81 82), (0, u "count"), (0, u "I"), (2, u "isLatin1"), (0, u "()Z"), (13, .methodref 10 101), (0, .nameAndType 102 103), (0, u "ensureCapacityInternal"), (0, u "(I)V"), (104, .methodref 10 209), (0, .nameAndType 210 211), (0, u "putStringAt"), (0, u "(ILjava/lang/String;)V"), (5, u "inflateIfNeededFor"), (2, .nameAndType 221 222), (0, u "getBytes"), (0, u "([BIB)V"), (174, .methodref 10 398), (0, .nameAndType 217 69), (0, .methodref 1 220), (3, u "()[B"), (40, .class_ 445), (0, u "java/lang/Appendable"), (106, u "getValue")] 56

def k11m0 : Method := { name := "<init>", desc := "()V", sig := { parameters := [], returnType := none }, accessFlags := 0, code := none }
def k11c1 : Code := { maxStack := 2, maxLocals := 2, code := jdk_68_method_2_code, exceptionTable := #[], attributes := #[] }
def k11m1 : Method := { name := "<init>", desc := "(I)V", sig := { parameters := [.int], returnType := none }, accessFlags := 0, code := some k11c1 }
def k11c2 : Code := { maxStack := 1, maxLocals := 1, code := jdk_68_method_6_code, exceptionTable := #[], attributes := #[] }
def k11m2 : Method := { name := "length", desc := "()I", sig := { parameters := [], returnType := some .int }, accessFlags := 1, code := some k11c2 }
def k11c3 : Code := { maxStack := 4, maxLocals := 3, code := jdk_68_method_9_code, exceptionTable := #[], attributes := #[] }
def k11m3 : Method := { name := "ensureCapacityInternal", desc := "(I)V", sig := { parameters := [.int], returnType := none }, accessFlags := 2, code := some k11c3 }
def k11c4 : Code := { maxStack := 3, maxLocals := 3, code := jdk_68_method_22_code, exceptionTable := #[], attributes := #[] }
def k11m4 : Method := { name := "append", desc := "(Ljava/lang/String;)Ljava/lang/AbstractStringBuilder;", sig := { parameters := [(.object "java/lang/String")], returnType := some (.object "java/lang/AbstractStringBuilder") }, accessFlags := 1, code := some k11c4 }
def k11c5 : Code := { maxStack := 1, maxLocals := 1, code := jdk_68_method_64_code, exceptionTable := #[], attributes := #[] }
def k11m5 : Method := { name := "getValue", desc := "()[B", sig := { parameters := [], returnType := some (.array .byte) }, accessFlags := 16, code := some k11c5 }
def k11c6 : Code := { maxStack := 1, maxLocals := 1, code := jdk_68_method_68_code, exceptionTable := #[], attributes := #[] }
def k11m6 : Method := { name := "isLatin1", desc := "()Z", sig := { parameters := [], returnType := some .boolean }, accessFlags := 16, code := some k11c6 }
def k11c7 : Code := { maxStack := 2, maxLocals := 2, code := jdk_68_method_71_code, exceptionTable := #[], attributes := #[] }
def k11m7 : Method := { name := "inflateIfNeededFor", desc := "(Ljava/lang/String;)V", sig := { parameters := [(.object "java/lang/String")], returnType := none }, accessFlags := 2, code := some k11c7 }
def k11c8 : Code := { maxStack := 4, maxLocals := 3, code := jdk_68_method_73_code, exceptionTable := #[], attributes := #[] }
def k11m8 : Method := { name := "putStringAt", desc := "(ILjava/lang/String;)V", sig := { parameters := [.int, (.object "java/lang/String")], returnType := none }, accessFlags := 2, code := some k11c8 }
/-- java/lang/AbstractStringBuilder -/
def k11 : Class := { plain "java/lang/AbstractStringBuilder" (some 0) with
  accessFlags := 1056
  interfaces := #[10, 5]
  cf := some (fileOf pool11 10 #[] #[{ accessFlags := 0, nameIndex := 7, descriptorIndex := 8, attributes := #[] }, { accessFlags := 0, nameIndex := 7, descriptorIndex := 103, attributes := #[] }, { accessFlags := 1, nameIndex := 34, descriptorIndex := 35, attributes := #[] }, { accessFlags := 2, nameIndex := 102, descriptorIndex := 103, attributes := #[] }, { accessFlags := 1, nameIndex := 45, descriptorIndex := 46, attributes := #[] }, { accessFlags := 16, nameIndex := 552, descriptorIndex := 403, attributes := #[] }, { accessFlags := 16, nameIndex := 85, descriptorIndex := 86, attributes := #[] }, { accessFlags := 2, nameIndex := 217, descriptorIndex := 69, attributes := #[] }, { accessFlags := 2, nameIndex := 210, descriptorIndex := 211, attributes := #[] }] 1056 4 #[444, 48] #[{ accessFlags := 0, nameIndex := 17, descriptorIndex := 14, attributes := #[] }, { accessFlags := 0, nameIndex := 24, descriptorIndex := 25, attributes := #[] }, { accessFlags := 0, nameIndex := 75, descriptorIndex := 21, attributes := #[] }, { accessFlags := 0, nameIndex := 81, descriptorIndex := 82, attributes := #[] }, { accessFlags := 26, nameIndex := 13, descriptorIndex := 14, attributes := #[] }])
  fields := #[{ name := "value", type := (.array .byte), accessFlags := 0, slot := 0, constantValue := 0 }, { name := "coder", type := .byte, accessFlags := 0, slot := 1, constantValue := 0 }, { name := "maybeLatin1", type := .boolean, accessFlags := 0, slot := 2, constantValue := 0 }, { name := "count", type := .int, accessFlags := 0, slot := 3, constantValue := 0 }, { name := "EMPTYVALUE", type := (.array .byte), accessFlags := 26, slot := 0, constantValue := 0 }]
  methods := #[k11m0, k11m1, k11m2, k11m3, k11m4, k11m5, k11m6, k11m7, k11m8]
  instanceTypes := #[(.array .byte), .byte, .boolean, .int]
  staticTypes := #[(.array .byte)]
  resolved := Array.replicate 609 none
  statics := none }

def pool12 : Array CpInfo := pool [(1, .methodref 2 3), (0, .class_ 4), (0, .nameAndType 5 6), (0, u "java/lang/AbstractStringBuilder"), (0, u "<init>"), (0, u "(I)V"), (11, .class_ 20), (1, u "java/lang/String"), (3, .class_ 26), (1, u "java/lang/StringBuilder"), (0, u "append"), (0, u "(Ljava/lang/String;)Ljava/lang/StringBuilder;"), (0, .methodref 2 30), (0, .nameAndType 27 31), (0, u "(Ljava/lang/String;)Ljava/lang/AbstractStringBuilder;"), (105, .methodref 18 138), (0, .nameAndType 5 139), (0, u "(Ljava/lang/StringBuilder;)V"), (5, u "()V"), (10, u "()I"), (186, .methodref 2 344), (0, .nameAndType 345 156), (0, u "length"), (3, .class_ 350), (0, u "java/lang/Appendable"), (0, .class_ 352), (0, u "java/io/Serializable"), (0, .class_ 354), (0, u "java/lang/Comparable"), (0, .class_ 356), (0, u "java/lang/CharSequence"), (0, u "serialVersionUID"), (0, u "J"), (40, u "toString"), (0, u "()Ljava/lang/String;")] 21

def k12c0 : Code := { maxStack := 2, maxLocals := 1, code := jdk_67_method_1_code, exceptionTable := #[], attributes := #[] }
def k12m0 : Method := { name := "<init>", desc := "()V", sig := { parameters := [], returnType := none }, accessFlags := 1, code := some k12c0 }
def k12c1 : Code := { maxStack := 2, maxLocals := 2, code := jdk_67_method_7_code, exceptionTable := #[], attributes := #[] }
def k12m1 : Method := { name := "append", desc := "(Ljava/lang/String;)Ljava/lang/StringBuilder;", sig := { parameters := [(.object "java/lang/String")], returnType := some (.object "java/lang/StringBuilder") }, accessFlags := 1, code := some k12c1 }
def k12c2 : Code := { maxStack := 3, maxLocals := 1, code := jdk_67_method_42_code, exceptionTable := #[], attributes := #[] }
def k12m2 : Method := { name := "toString", desc := "()Ljava/lang/String;", sig := { parameters := [], returnType := some (.object "java/lang/String") }, accessFlags := 1, code := some k12c2 }
def k12c3 : Code := { maxStack := 1, maxLocals := 1, code := jdk_67_method_93_code, exceptionTable := #[], attributes := #[] }
def k12m3 : Method := { name := "length", desc := "()I", sig := { parameters := [], returnType := some .int }, accessFlags := 4161, code := some k12c3 }
/-- java/lang/StringBuilder -/
def k12 : Class := { plain "java/lang/StringBuilder" (some 11) with
  accessFlags := 49
  interfaces := #[10, 3, 4, 5]
  cf := some (fileOf pool12 24 #[] #[{ accessFlags := 1, nameIndex := 5, descriptorIndex := 145, attributes := #[] }, { accessFlags := 1, nameIndex := 27, descriptorIndex := 28, attributes := #[] }, { accessFlags := 1, nameIndex := 399, descriptorIndex := 400, attributes := #[] }, { accessFlags := 4161, nameIndex := 345, descriptorIndex := 156, attributes := #[] }] 49 2 #[349, 351, 353, 355] #[{ accessFlags := 24, nameIndex := 357, descriptorIndex := 358, attributes := #[] }])
  fields := #[{ name := "serialVersionUID", type := .long, accessFlags := 24, slot := 0, constantValue := 0 }]
  methods := #[k12m0, k12m1, k12m2, k12m3]
  instanceTypes := #[(.array .byte), .byte, .boolean, .int]
  staticTypes := #[.long]
  resolved := Array.replicate 422 none
  statics := none }

def pool13 : Array CpInfo := pool [(2, .class_ 4), (1, u "java/lang/Object"), (0, u "<init>"), (0, u "()V"), (1, .class_ 10), (1, u "java/lang/System"), (0, u "allowSecurityManager"), (0, u "I"), (16, u "cons"), (0, u "Ljava/io/Console;"), (77, .class_ 110), (1, u "java/lang/System$CallersHolder"), (43, u "initialErrStream"), (0, u "Ljava/io/PrintStream;"), (19, u "security"), (0, u "Ljava/lang/SecurityManager;"), (31, .class_ 209), (0, u "java/lang/System$1"), (7, u "props"), (0, u "Ljava/util/Properties;"), (2, u "lineSeparator"), (0, u "Ljava/lang/String;"), (96, .class_ 321), (1, u "java/lang/System$LoggerFinder"), (5, .class_ 328), (0, u "java/lang/System$Logger"), (67, u "err"), (2, u "out"), (91, u "notSupportedJnuEncoding"), (15, u "in"), (17, u "initialIn"), (0, u "Ljava/io/InputStream;"), (35, u "bootLayer"), (0, u "Ljava/lang/ModuleLayer;"), (99, .class_ 664), (0, u "java/lang/System$2"), (9, u "NEVER"), (2, u "MAYBE"), (49, u "arraycopy"), (0, u "(Ljava/lang/Object;ILjava/lang/Object;II)V"), (72, .class_ 802), (0, u "java/lang/System$Logger$Level")] 31

def k13m0 : Method := { name := "<init>", desc := "()V", sig := { parameters := [], returnType := none }, accessFlags := 2, code := none }
def k13m1 : Method := { name := "arraycopy", desc := "(Ljava/lang/Object;ILjava/lang/Object;II)V", sig := { parameters := [(.object "java/lang/Object"), .int, (.object "java/lang/Object"), .int, .int], returnType := none }, accessFlags := 265, code := none }
/-- java/lang/System -/
def k13 : Class := { plain "java/lang/System" (some 0) with
  accessFlags := 49
  interfaces := #[]
  cf := some (fileOf pool13 8 #[.nestMembers #[319, 327, 801, 108, 663, 208]] #[{ accessFlags := 2, nameIndex := 5, descriptorIndex := 6, attributes := #[] }, { accessFlags := 265, nameIndex := 727, descriptorIndex := 728, attributes := #[] }] 49 2 #[] #[{ accessFlags := 25, nameIndex := 507, descriptorIndex := 526, attributes := #[] }, { accessFlags := 25, nameIndex := 399, descriptorIndex := 155, attributes := #[] }, { accessFlags := 25, nameIndex := 396, descriptorIndex := 155, attributes := #[] }, { accessFlags := 10, nameIndex := 525, descriptorIndex := 526, attributes := #[] }, { accessFlags := 26, nameIndex := 674, descriptorIndex := 12, attributes := #[] }, { accessFlags := 26, nameIndex := 677, descriptorIndex := 12, attributes := #[] }, { accessFlags := 10, nameIndex := 11, descriptorIndex := 12, attributes := #[] }, { accessFlags := 74, nameIndex := 175, descriptorIndex := 176, attributes := #[] }, { accessFlags := 10, nameIndex := 491, descriptorIndex := 222, attributes := #[] }, { accessFlags := 74, nameIndex := 29, descriptorIndex := 30, attributes := #[] }, { accessFlags := 74, nameIndex := 154, descriptorIndex := 155, attributes := #[] }, { accessFlags := 10, nameIndex := 217, descriptorIndex := 218, attributes := #[] }, { accessFlags := 10, nameIndex := 221, descriptorIndex := 222, attributes := #[] }, { accessFlags := 8, nameIndex := 562, descriptorIndex := 563, attributes := #[] }])
  fields := #[{ name := "in", type := (.object "java/io/InputStream"), accessFlags := 25, slot := 0, constantValue := 0 }, { name := "out", type := (.object "java/io/PrintStream"), accessFlags := 25, slot := 1, constantValue := 0 }, { name := "err", type := (.object "java/io/PrintStream"), accessFlags := 25, slot := 2, constantValue := 0 }, { name := "initialIn", type := (.object "java/io/InputStream"), accessFlags := 10, slot := 3, constantValue := 0 }, { name := "NEVER", type := .int, accessFlags := 26, slot := 4, constantValue := 0 }, { name := "MAYBE", type := .int, accessFlags := 26, slot := 5, constantValue := 0 }, { name := "allowSecurityManager", type := .int, accessFlags := 10, slot := 6, constantValue := 0 }, { name := "security", type := (.object "java/lang/SecurityManager"), accessFlags := 74, slot := 7, constantValue := 0 }, { name := "notSupportedJnuEncoding", type := (.object "java/lang/String"), accessFlags := 10, slot := 8, constantValue := 0 }, { name := "cons", type := (.object "java/io/Console"), accessFlags := 74, slot := 9, constantValue := 0 }, { name := "initialErrStream", type := (.object "java/io/PrintStream"), accessFlags := 74, slot := 10, constantValue := 0 }, { name := "props", type := (.object "java/util/Properties"), accessFlags := 10, slot := 11, constantValue := 0 }, { name := "lineSeparator", type := (.object "java/lang/String"), accessFlags := 10, slot := 12, constantValue := 0 }, { name := "bootLayer", type := (.object "java/lang/ModuleLayer"), accessFlags := 8, slot := 13, constantValue := 0 }]
  methods := #[k13m0, k13m1]
  instanceTypes := #[]
  staticTypes := #[(.object "java/io/InputStream"), (.object "java/io/PrintStream"), (.object "java/io/PrintStream"), (.object "java/io/InputStream"), .int, .int, .int, (.object "java/lang/SecurityManager"), (.object "java/lang/String"), (.object "java/io/Console"), (.object "java/io/PrintStream"), (.object "java/util/Properties"), (.object "java/lang/String"), (.object "java/lang/ModuleLayer")]
  resolved := Array.replicate 834 none
  statics := none }

def pool14 : Array CpInfo := pool [(2, .class_ 4), (1, u "java/lang/Object"), (0, u "<init>"), (0, u "()V"), (7, .class_ 16), (1, u "java/util/Arrays"), (57, .class_ 76), (1, u "java/util/Arrays$NaturalOrder"), (36, .class_ 115), (1, u "java/util/Arrays$LegacyMergeSort"), (1, u "Z"), (21, u "copyOfRange"), (10, .methodref 151 152), (0, .class_ 153), (0, .nameAndType 154 155), (0, u "java/lang/System"), (0, u "arraycopy"), (0, u "(Ljava/lang/Object;ILjava/lang/Object;II)V"), (148, .methodref 305 306), (0, .class_ 307), (0, .nameAndType 308 309), (0, u "java/lang/Math"), (0, u "min"), (0, u "(II)I"), (29, .methodref 14 340), (0, .nameAndType 341 342), (0, u "copyOfRangeByte"), (0, u "([BII)[B"), (0, .methodref 14 344), (0, .nameAndType 345 346), (0, u "checkLength"), (0, u "(II)V"), (28, .class_ 376), (0, u "java/util/Arrays$ArrayList"), (68, u "$assertionsDisabled"), (269, u "MIN_ARRAY_SORT_GRAN"), (0, u "I"), (2, u "INSERTIONSORT_THRESHOLD"), (255, .class_ 976), (0, u "java/util/Arrays$ArrayItr")] 52

def k14m0 : Method := { name := "<init>", desc := "()V", sig := { parameters := [], returnType := none }, accessFlags := 2, code := none }
def k14c1 : Code := { maxStack := 4, maxLocals := 2, code := jdk_65_method_131_code, exceptionTable := #[], attributes := #[] }
def k14m1 : Method := { name := "checkLength", desc := "(II)V", sig := { parameters := [.int, .int], returnType := none }, accessFlags := 10, code := some k14c1 }
def k14c2 : Code := { maxStack := 3, maxLocals := 3, code := jdk_65_method_132_code, exceptionTable := #[], attributes := #[] }
def k14m2 : Method := { name := "copyOfRange", desc := "([BII)[B", sig := { parameters := [(.array .byte), .int, .int], returnType := some (.array .byte) }, accessFlags := 9, code := some k14c2 }
def k14c3 : Code := { maxStack := 6, maxLocals := 5, code := jdk_65_method_133_code, exceptionTable := #[], attributes := #[] }
def k14m3 : Method := { name := "copyOfRangeByte", desc := "([BII)[B", sig := { parameters := [(.array .byte), .int, .int], returnType := some (.array .byte) }, accessFlags := 10, code := some k14c3 }
/-- java/util/Arrays -/
def k14 : Class := { plain "java/util/Arrays" (some 0) with
  accessFlags := 49
  interfaces := #[]
  cf := some (fileOf pool14 14 #[.nestMembers #[975, 375, 113, 74]] #[{ accessFlags := 2, nameIndex := 5, descriptorIndex := 6, attributes := #[] }, { accessFlags := 10, nameIndex := 345, descriptorIndex := 346, attributes := #[] }, { accessFlags := 9, nameIndex := 139, descriptorIndex := 342, attributes := #[] }, { accessFlags := 10, nameIndex := 341, descriptorIndex := 342, attributes := #[] }] 49 2 #[] #[{ accessFlags := 26, nameIndex := 715, descriptorIndex := 716, attributes := #[] }, { accessFlags := 26, nameIndex := 719, descriptorIndex := 716, attributes := #[] }, { accessFlags := 4120, nameIndex := 445, descriptorIndex := 117, attributes := #[] }])
  fields := #[{ name := "MIN_ARRAY_SORT_GRAN", type := .int, accessFlags := 26, slot := 0, constantValue := 0 }, { name := "INSERTIONSORT_THRESHOLD", type := .int, accessFlags := 26, slot := 1, constantValue := 0 }, { name := "$assertionsDisabled", type := .boolean, accessFlags := 4120, slot := 2, constantValue := 0 }]
  methods := #[k14m0, k14m1, k14m2, k14m3]
  instanceTypes := #[]
  staticTypes := #[.int, .int, .boolean]
  resolved := Array.replicate 1029 none
  statics := none }

def pool15 : Array CpInfo := pool [(1, .class_ 2), (0, u "java/lang/Math"), (1, .class_ 6), (1, u "java/lang/Object"), (0, u "<init>"), (0, u "()V"), (5, u "(D)D"), (37, u "(DD)D"), (45, .class_ 100), (1, u "java/lang/Math$RandomNumberGeneratorHolder"), (23, u "abs"), (47, u "negativeZeroFloatBits"), (0, u "J"), (2, u "negativeZeroDoubleBits"), (21, u "max"), (2, u "min"), (43, u "$assertionsDisabled"), (0, u "Z"), (88, u "(II)I"), (2, u "twoToTheDoubleScaleDown"), (0, u "D"), (4, u "twoToTheDoubleScaleUp"), (9, u "E"), (3, u "PI"), (2, u "TAU"), (2, u "DEGREES_TO_RADIANS"), (0, u "RADIANS_TO_DEGREES")] 94

def k15m0 : Method := { name := "<init>", desc := "()V", sig := { parameters := [], returnType := none }, accessFlags := 2, code := none }
def k15c1 : Code := { maxStack := 4, maxLocals := 2, code := jdk_29_method_64_code, exceptionTable := #[], attributes := #[] }
def k15m1 : Method := { name := "abs", desc := "(D)D", sig := { parameters := [.double], returnType := some .double }, accessFlags := 9, code := some k15c1 }
def k15c2 : Code := { maxStack := 4, maxLocals := 4, code := jdk_29_method_68_code, exceptionTable := #[], attributes := #[] }
def k15m2 : Method := { name := "max", desc := "(DD)D", sig := { parameters := [.double, .double], returnType := some .double }, accessFlags := 9, code := some k15c2 }
def k15c3 : Code := { maxStack := 2, maxLocals := 2, code := jdk_29_method_69_code, exceptionTable := #[], attributes := #[] }
def k15m3 : Method := { name := "min", desc := "(II)I", sig := { parameters := [.int, .int], returnType := some .int }, accessFlags := 9, code := some k15c3 }
/-- java/lang/Math -/
def k15 : Class := { plain "java/lang/Math" (some 0) with
  accessFlags := 49
  interfaces := #[]
  cf := some (fileOf pool15 1 #[.nestMembers #[98]] #[{ accessFlags := 2, nameIndex := 7, descriptorIndex := 8, attributes := #[] }, { accessFlags := 9, nameIndex := 124, descriptorIndex := 14, attributes := #[] }, { accessFlags := 9, nameIndex := 198, descriptorIndex := 52, attributes := #[] }, { accessFlags := 9, nameIndex := 201, descriptorIndex := 335, attributes := #[] }] 49 4 #[] #[{ accessFlags := 25, nameIndex := 354, descriptorIndex := 339, attributes := #[] }, { accessFlags := 25, nameIndex := 358, descriptorIndex := 339, attributes := #[] }, { accessFlags := 25, nameIndex := 361, descriptorIndex := 339, attributes := #[] }, { accessFlags := 26, nameIndex := 364, descriptorIndex := 339, attributes := #[] }, { accessFlags := 26, nameIndex := 365, descriptorIndex := 339, attributes := #[] }, { accessFlags := 26, nameIndex := 172, descriptorIndex := 173, attributes := #[] }, { accessFlags := 26, nameIndex := 176, descriptorIndex := 173, attributes := #[] }, { accessFlags := 8, nameIndex := 344, descriptorIndex := 339, attributes := #[] }, { accessFlags := 8, nameIndex := 338, descriptorIndex := 339, attributes := #[] }, { accessFlags := 4120, nameIndex := 245, descriptorIndex := 246, attributes := #[] }])
  fields := #[{ name := "E", type := .double, accessFlags := 25, slot := 0, constantValue := 0 }, { name := "PI", type := .double, accessFlags := 25, slot := 1, constantValue := 0 }, { name := "TAU", type := .double, accessFlags := 25, slot := 2, constantValue := 0 }, { name := "DEGREES_TO_RADIANS", type := .double, accessFlags := 26, slot := 3, constantValue := 0 }, { name := "RADIANS_TO_DEGREES", type := .double, accessFlags := 26, slot := 4, constantValue := 0 }, { name := "negativeZeroFloatBits", type := .long, accessFlags := 26, slot := 5, constantValue := 0 }, { name := "negativeZeroDoubleBits", type := .long, accessFlags := 26, slot := 6, constantValue := 0 }, { name := "twoToTheDoubleScaleUp", type := .double, accessFlags := 8, slot := 7, constantValue := 0 }, { name := "twoToTheDoubleScaleDown", type := .double, accessFlags := 8, slot := 8, constantValue := 0 }, { name := "$assertionsDisabled", type := .boolean, accessFlags := 4120, slot := 9, constantValue := 0 }]
  methods := #[k15m0, k15m1, k15m2, k15m3]
  instanceTypes := #[]
  staticTypes := #[.double, .double, .double, .double, .double, .long, .long, .double, .double, .boolean]
  resolved := Array.replicate 460 none
  statics := none }

def pool16 : Array CpInfo := pool [(2, .class_ 4), (1, u "java/lang/Object"), (0, u "<init>"), (0, u "()V"), (0, .methodref 8 9), (0, .class_ 10), (0, .nameAndType 11 12), (0, u "java/lang/Double"), (0, u "isInfinite"), (0, u "(D)Z"), (3, .class_ 18), (1, u "com/example/makespan/makespan/model/Ranges"), (2, .methodref 16 22), (0, .nameAndType 23 12), (0, u "isZeroOrAbove"), (31, u "aboveZero"), (0, u "(Ljava/lang/String;Ljava/lang/String;D)D"), (1, u "zeroOrAbove")] 3

def k16m0 : Method := { name := "<init>", desc := "()V", sig := { parameters := [], returnType := none }, accessFlags := 2, code := none }
def k16c1 : Code := { maxStack := 5, maxLocals := 4, code := prog_45_method_2_code, exceptionTable := #[], attributes := #[] }
def k16m1 : Method := { name := "aboveZero", desc := "(Ljava/lang/String;Ljava/lang/String;D)D", sig := { parameters := [(.object "java/lang/String"), (.object "java/lang/String"), .double], returnType := some .double }, accessFlags := 8, code := some k16c1 }
def k16c2 : Code := { maxStack := 5, maxLocals := 4, code := prog_45_method_3_code, exceptionTable := #[], attributes := #[] }
def k16m2 : Method := { name := "zeroOrAbove", desc := "(Ljava/lang/String;Ljava/lang/String;D)D", sig := { parameters := [(.object "java/lang/String"), (.object "java/lang/String"), .double], returnType := some .double }, accessFlags := 9, code := some k16c2 }
def k16c3 : Code := { maxStack := 4, maxLocals := 2, code := prog_45_method_5_code, exceptionTable := #[], attributes := #[] }
def k16m3 : Method := { name := "isZeroOrAbove", desc := "(D)Z", sig := { parameters := [.double], returnType := some .boolean }, accessFlags := 10, code := some k16c3 }
/-- com/example/makespan/makespan/model/Ranges -/
def k16 : Class := { plain "com/example/makespan/makespan/model/Ranges" (some 0) with
  accessFlags := 33
  interfaces := #[]
  cf := some (fileOf pool16 16 #[] #[{ accessFlags := 2, nameIndex := 5, descriptorIndex := 6, attributes := #[] }, { accessFlags := 8, nameIndex := 55, descriptorIndex := 56, attributes := #[] }, { accessFlags := 9, nameIndex := 58, descriptorIndex := 56, attributes := #[] }, { accessFlags := 10, nameIndex := 23, descriptorIndex := 12, attributes := #[] }] 33 2 #[] #[])
  fields := #[]
  methods := #[k16m0, k16m1, k16m2, k16m3]
  instanceTypes := #[]
  staticTypes := #[]
  resolved := Array.replicate 62 none
  statics := none }

def pool17 : Array CpInfo := pool [(2, .class_ 4), (1, u "java/lang/Object"), (0, u "<init>"), (0, u "()V"), (1, .class_ 10), (1, u "java/lang/Number"), (2, .class_ 14), (0, u "java/io/Serializable"), (0, u "serialVersionUID"), (0, u "J")] 20

def k17m0 : Method := { name := "<init>", desc := "()V", sig := { parameters := [], returnType := none }, accessFlags := 1, code := none }
/-- java/lang/Number -/
def k17 : Class := { plain "java/lang/Number" (some 0) with
  accessFlags := 1057
  interfaces := #[3]
  cf := some (fileOf pool17 8 #[] #[{ accessFlags := 1, nameIndex := 5, descriptorIndex := 6, attributes := #[] }] 1057 2 #[13] #[{ accessFlags := 26, nameIndex := 15, descriptorIndex := 16, attributes := #[] }])
  fields := #[{ name := "serialVersionUID", type := .long, accessFlags := 26, slot := 0, constantValue := 0 }]
  methods := #[k17m0]
  instanceTypes := #[]
  staticTypes := #[.long]
  resolved := Array.replicate 37 none
  statics := none }

def pool18 : Array CpInfo := pool [(1, .class_ 2), (0, u "java/lang/Double"), (11, u "(D)Z"), (8, .class_ 25), (1, u "java/lang/Math"), (12, .methodref 23 39), (0, .nameAndType 40 41), (0, u "abs"), (0, u "(D)D"), (69, .double 9218868437227405311), (2, .class_ 116), (1, u "java/lang/Number"), (3, u "value"), (0, u "D"), (5, u "isInfinite"), (45, u "TYPE"), (0, u "Ljava/lang/Class;"), (0, .class_ 176), (0, u "java/lang/Comparable"), (0, .class_ 178), (0, u "java/lang/constant/Constable"), (0, .class_ 180), (0, u "java/lang/constant/ConstantDesc"), (0, u "POSITIVE_INFINITY"), (3, u "NEGATIVE_INFINITY"), (2, u "NaN"), (2, u "MAX_VALUE"), (0, u "MIN_NORMAL"), (0, u "MIN_VALUE"), (2, u "SIZE"), (0, u "I"), (1, u "PRECISION"), (1, u "MAX_EXPONENT"), (1, u "MIN_EXPONENT"), (1, u "BYTES"), (3, u "serialVersionUID"), (0, u "J")] 79

def k18c0 : Code := { maxStack := 4, maxLocals := 2, code := jdk_117_method_7_code, exceptionTable := #[], attributes := #[] }
def k18m0 : Method := { name := "isInfinite", desc := "(D)Z", sig := { parameters := [.double], returnType := some .boolean }, accessFlags := 9, code := some k18c0 }
/-- java/lang/Double -/
def k18 : Class := { plain "java/lang/Double" (some 17) with
  accessFlags := 49
  interfaces := #[4, 6, 7]
  cf := some (fileOf pool18 1 #[] #[{ accessFlags := 9, nameIndex := 127, descriptorIndex := 14, attributes := #[] }] 49 114 #[175, 177, 179] #[{ accessFlags := 25, nameIndex := 181, descriptorIndex := 121, attributes := #[] }, { accessFlags := 25, nameIndex := 185, descriptorIndex := 121, attributes := #[] }, { accessFlags := 25, nameIndex := 188, descriptorIndex := 121, attributes := #[] }, { accessFlags := 25, nameIndex := 191, descriptorIndex := 121, attributes := #[] }, { accessFlags := 25, nameIndex := 192, descriptorIndex := 121, attributes := #[] }, { accessFlags := 25, nameIndex := 193, descriptorIndex := 121, attributes := #[] }, { accessFlags := 25, nameIndex := 196, descriptorIndex := 197, attributes := #[] }, { accessFlags := 25, nameIndex := 199, descriptorIndex := 197, attributes := #[] }, { accessFlags := 25, nameIndex := 201, descriptorIndex := 197, attributes := #[] }, { accessFlags := 25, nameIndex := 203, descriptorIndex := 197, attributes := #[] }, { accessFlags := 25, nameIndex := 205, descriptorIndex := 197, attributes := #[] }, { accessFlags := 25, nameIndex := 173, descriptorIndex := 174, attributes := #[] }, { accessFlags := 18, nameIndex := 120, descriptorIndex := 121, attributes := #[] }, { accessFlags := 26, nameIndex := 209, descriptorIndex := 210, attributes := #[] }])
  fields := #[{ name := "POSITIVE_INFINITY", type := .double, accessFlags := 25, slot := 0, constantValue := 0 }, { name := "NEGATIVE_INFINITY", type := .double, accessFlags := 25, slot := 1, constantValue := 0 }, { name := "NaN", type := .double, accessFlags := 25, slot := 2, constantValue := 0 }, { name := "MAX_VALUE", type := .double, accessFlags := 25, slot := 3, constantValue := 0 }, { name := "MIN_NORMAL", type := .double, accessFlags := 25, slot := 4, constantValue := 0 }, { name := "MIN_VALUE", type := .double, accessFlags := 25, slot := 5, constantValue := 0 }, { name := "SIZE", type := .int, accessFlags := 25, slot := 6, constantValue := 0 }, { name := "PRECISION", type := .int, accessFlags := 25, slot := 7, constantValue := 0 }, { name := "MAX_EXPONENT", type := .int, accessFlags := 25, slot := 8, constantValue := 0 }, { name := "MIN_EXPONENT", type := .int, accessFlags := 25, slot := 9, constantValue := 0 }, { name := "BYTES", type := .int, accessFlags := 25, slot := 10, constantValue := 0 }, { name := "TYPE", type := (.object "java/lang/Class"), accessFlags := 25, slot := 11, constantValue := 0 }, { name := "value", type := .double, accessFlags := 18, slot := 0, constantValue := 0 }, { name := "serialVersionUID", type := .long, accessFlags := 26, slot := 12, constantValue := 0 }]
  methods := #[k18m0]
  instanceTypes := #[.double]
  staticTypes := #[.double, .double, .double, .double, .double, .double, .int, .int, .int, .int, .int, (.object "java/lang/Class"), .long]
  resolved := Array.replicate 290 none
  statics := none }

def pool19 : Array CpInfo := pool [(1, .methodref 2 3), (0, .class_ 4), (0, .nameAndType 5 6), (0, u "java/lang/Object"), (0, u "<init>"), (0, u "()V"), (0, .fieldref 8 9), (0, .class_ 10), (0, .nameAndType 11 12), (0, u "com/example/makespan/makespan/planning/TaskOnType"), (0, u "type"), (0, u "Lcom/example/makespan/makespan/model/VmType;"), (0, .fieldref 8 14), (0, .nameAndType 15 16), (0, u "billing"), (0, u "Lcom/example/makespan/makespan/model/Billing;"), (0, .fieldref 8 18), (0, .nameAndType 19 20), (0, u "input"), (0, u "I"), (0, .fieldref 8 22), (0, .nameAndType 23 24), (0, u "arrival"), (0, u "D"), (0, .methodref 26 27), (0, .class_ 28), (0, .nameAndType 29 30), (0, u "com/example/makespan/makespan/model/VmType"), (0, u "getBootSeconds"), (0, u "()D"), (0, .methodref 32 33), (0, .class_ 34), (0, .nameAndType 35 36), (0, u "java/lang/Math"), (0, u "max"), (0, u "(DD)D"), (0, .fieldref 8 38), (0, .nameAndType 39 24), (0, u "ready"), (0, .fieldref 8 41), (0, .nameAndType 42 24), (0, u "seconds"), (0, .fieldref 8 44), (0, .nameAndType 45 46), (0, u "fees"), (0, u "[D"), (0, .fieldref 8 48), (0, .nameAndType 49 50), (0, u "feesAllZero"), (0, u "Z"), (8, u "(D)D"), (29, u "withFees"), (61, u "MARGIN"), (3, u "COUNTABLE"), (0, u "FINELY_COUNTABLE"), (0, u "FINE_MARGIN"), (0, u "RELATIVE_SLACK"), (2, u "ABSOLUTE_SLACK"), (0, u "(Lcom/example/makespan/makespan/model/VmType;Lcom/example/makespan/makespan/model/Billing;IDD[D)V")] 22

def k19c0 : Code := { maxStack := 5, maxLocals := 11, code := prog_105_method_1_code, exceptionTable := #[], attributes := #[] }
def k19m0 : Method := { name := "<init>", desc := "(Lcom/example/makespan/makespan/model/VmType;Lcom/example/makespan/makespan/model/Billing;IDD[D)V", sig := { parameters := [(.object "com/example/makespan/makespan/model/VmType"), (.object "com/example/makespan/makespan/model/Billing"), .int, .double, .double, (.array .double)], returnType := none }, accessFlags := 0, code := some k19c0 }
def k19c1 : Code := { maxStack := 4, maxLocals := 10, code := prog_105_method_12_code, exceptionTable := #[], attributes := #[] }
def k19m1 : Method := { name := "withFees", desc := "(D)D", sig := { parameters := [.double], returnType := some .double }, accessFlags := 0, code := some k19c1 }
/-- com/example/makespan/makespan/planning/TaskOnType -/
def k19 : Class := { plain "com/example/makespan/makespan/planning/TaskOnType" (some 0) with
  accessFlags := 32
  interfaces := #[]
  cf := some (fileOf pool19 8 #[] #[{ accessFlags := 0, nameIndex := 5, descriptorIndex := 162, attributes := #[] }, { accessFlags := 0, nameIndex := 89, descriptorIndex := 59, attributes := #[] }] 32 2 #[] #[{ accessFlags := 26, nameIndex := 151, descriptorIndex := 24, attributes := #[] }, { accessFlags := 26, nameIndex := 155, descriptorIndex := 24, attributes := #[] }, { accessFlags := 26, nameIndex := 156, descriptorIndex := 24, attributes := #[] }, { accessFlags := 26, nameIndex := 157, descriptorIndex := 24, attributes := #[] }, { accessFlags := 26, nameIndex := 158, descriptorIndex := 24, attributes := #[] }, { accessFlags := 26, nameIndex := 161, descriptorIndex := 24, attributes := #[] }, { accessFlags := 18, nameIndex := 11, descriptorIndex := 12, attributes := #[] }, { accessFlags := 18, nameIndex := 15, descriptorIndex := 16, attributes := #[] }, { accessFlags := 18, nameIndex := 19, descriptorIndex := 20, attributes := #[] }, { accessFlags := 18, nameIndex := 23, descriptorIndex := 24, attributes := #[] }, { accessFlags := 18, nameIndex := 39, descriptorIndex := 24, attributes := #[] }, { accessFlags := 18, nameIndex := 42, descriptorIndex := 24, attributes := #[] }, { accessFlags := 18, nameIndex := 45, descriptorIndex := 46, attributes := #[] }, { accessFlags := 18, nameIndex := 49, descriptorIndex := 50, attributes := #[] }])
  fields := #[{ name := "MARGIN", type := .double, accessFlags := 26, slot := 0, constantValue := 0 }, { name := "COUNTABLE", type := .double, accessFlags := 26, slot := 1, constantValue := 0 }, { name := "FINELY_COUNTABLE", type := .double, accessFlags := 26, slot := 2, constantValue := 0 }, { name := "FINE_MARGIN", type := .double, accessFlags := 26, slot := 3, constantValue := 0 }, { name := "RELATIVE_SLACK", type := .double, accessFlags := 26, slot := 4, constantValue := 0 }, { name := "ABSOLUTE_SLACK", type := .double, accessFlags := 26, slot := 5, constantValue := 0 }, { name := "type", type := (.object "com/example/makespan/makespan/model/VmType"), accessFlags := 18, slot := 0, constantValue := 0 }, { name := "billing", type := (.object "com/example/makespan/makespan/model/Billing"), accessFlags := 18, slot := 1, constantValue := 0 }, { name := "input", type := .int, accessFlags := 18, slot := 2, constantValue := 0 }, { name := "arrival", type := .double, accessFlags := 18, slot := 3, constantValue := 0 }, { name := "ready", type := .double, accessFlags := 18, slot := 4, constantValue := 0 }, { name := "seconds", type := .double, accessFlags := 18, slot := 5, constantValue := 0 }, { name := "fees", type := (.array .double), accessFlags := 18, slot := 6, constantValue := 0 }, { name := "feesAllZero", type := .boolean, accessFlags := 18, slot := 7, constantValue := 0 }]
  methods := #[k19m0, k19m1]
  instanceTypes := #[(.object "com/example/makespan/makespan/model/VmType"), (.object "com/example/makespan/makespan/model/Billing"), .int, .double, .double, .double, (.array .double), .boolean]
  staticTypes := #[.double, .double, .double, .double, .double, .double]
  resolved := Array.replicate 185 none
  statics := none }

def pool20 : Array CpInfo := pool [(2, .class_ 4), (1, u "java/lang/Enum"), (0, u "name"), (0, u "Ljava/lang/String;"), (2, u "ordinal"), (0, u "I"), (1, .class_ 14), (1, u "java/lang/Object"), (4, u "hash"), (86, .class_ 108), (1, u "java/lang/Enum$EnumDesc"), (2, .class_ 112), (0, u "java/lang/constant/Constable"), (0, .class_ 114), (0, u "java/lang/Comparable"), (0, .class_ 116), (0, u "java/io/Serializable")] 87

/-- java/lang/Enum -/
def k20 : Class := { plain "java/lang/Enum" (some 0) with
  accessFlags := 1057
  interfaces := #[6, 4, 3]
  cf := some (fileOf pool20 2 #[.nestMembers #[106]] #[] 1057 12 #[111, 113, 115] #[{ accessFlags := 18, nameIndex := 5, descriptorIndex := 6, attributes := #[] }, { accessFlags := 18, nameIndex := 9, descriptorIndex := 10, attributes := #[] }, { accessFlags := 2, nameIndex := 19, descriptorIndex := 10, attributes := #[] }])
  fields := #[{ name := "name", type := (.object "java/lang/String"), accessFlags := 18, slot := 0, constantValue := 0 }, { name := "ordinal", type := .int, accessFlags := 18, slot := 1, constantValue := 0 }, { name := "hash", type := .int, accessFlags := 2, slot := 2, constantValue := 0 }]
  methods := #[]
  instanceTypes := #[(.object "java/lang/String"), .int, .int]
  staticTypes := #[]
  resolved := Array.replicate 204 none
  statics := none }

def pool21 : Array CpInfo := pool [(1, .class_ 2), (0, u "com/example/makespan/makespan/model/Billing"), (2, u "LEASE"), (0, u "Lcom/example/makespan/makespan/model/Billing;"), (2, u "BUSY"), (2, u "$VALUES"), (0, u "[Lcom/example/makespan/makespan/model/Billing;"), (6, .class_ 22), (1, u "java/lang/Enum"), (8, u "word"), (0, u "Ljava/lang/String;")] 27

/-- com/example/makespan/makespan/model/Billing -/
def k21 : Class := { plain "com/example/makespan/makespan/model/Billing" (some 20) with
  accessFlags := 16433
  interfaces := #[]
  cf := some (fileOf pool21 1 #[] #[] 16433 20 #[] #[{ accessFlags := 16409, nameIndex := 5, descriptorIndex := 6, attributes := #[] }, { accessFlags := 16409, nameIndex := 9, descriptorIndex := 6, attributes := #[] }, { accessFlags := 18, nameIndex := 31, descriptorIndex := 32, attributes := #[] }, { accessFlags := 4122, nameIndex := 12, descriptorIndex := 13, attributes := #[] }])
  fields := #[{ name := "LEASE", type := (.object "com/example/makespan/makespan/model/Billing"), accessFlags := 16409, slot := 0, constantValue := 0 }, { name := "BUSY", type := (.object "com/example/makespan/makespan/model/Billing"), accessFlags := 16409, slot := 1, constantValue := 0 }, { name := "word", type := (.object "java/lang/String"), accessFlags := 18, slot := 3, constantValue := 0 }, { name := "$VALUES", type := (.array (.object "com/example/makespan/makespan/model/Billing")), accessFlags := 4122, slot := 2, constantValue := 0 }]
  methods := #[]
  instanceTypes := #[(.object "java/lang/String"), .int, .int, (.object "java/lang/String")]
  staticTypes := #[(.object "com/example/makespan/makespan/model/Billing"), (.object "com/example/makespan/makespan/model/Billing"), (.array (.object "com/example/makespan/makespan/model/Billing"))]
  resolved := Array.replicate 60 none
  statics := some 1 }

def pool22 : Array CpInfo := pool [(4, .class_ 6), (1, u "java/lang/Object"), (0, u "<init>"), (0, u "()V"), (5, .class_ 16), (1, u "java/lang/StringLatin1"), (104, u "$assertionsDisabled"), (0, u "Z"), (98, .class_ 223), (1, u "java/lang/StringLatin1$LinesSpliterator"), (166, .class_ 391), (0, u "java/lang/StringLatin1$CharsSpliterator")] 3

def k22m0 : Method := { name := "<init>", desc := "()V", sig := { parameters := [], returnType := none }, accessFlags := 0, code := none }
/-- java/lang/StringLatin1 -/
def k22 : Class := { plain "java/lang/StringLatin1" (some 0) with
  accessFlags := 48
  interfaces := #[]
  cf := some (fileOf pool22 14 #[.nestMembers #[390, 221]] #[{ accessFlags := 0, nameIndex := 7, descriptorIndex := 8, attributes := #[] }] 48 4 #[] #[{ accessFlags := 4120, nameIndex := 121, descriptorIndex := 122, attributes := #[] }])
  fields := #[{ name := "$assertionsDisabled", type := .boolean, accessFlags := 4120, slot := 0, constantValue := 0 }]
  methods := #[k22m0]
  instanceTypes := #[]
  staticTypes := #[.boolean]
  resolved := Array.replicate 395 none
  statics := none }

def pool23 : Array CpInfo := pool [(2, .class_ 4), (1, u "java/lang/Object"), (0, u "<init>"), (0, u "()V"), (17, .class_ 26), (1, u "jdk/internal/util/Preconditions"), (28, .class_ 56), (0, u "jdk/internal/util/Preconditions$4"), (57, .class_ 115), (0, u "jdk/internal/util/Preconditions$1"), (7, u "SIOOBE_FORMATTER"), (0, u "Ljava/util/function/BiFunction;"), (0, .class_ 126), (0, u "jdk/internal/util/Preconditions$2"), (3, u "AIOOBE_FORMATTER"), (0, .class_ 132), (0, u "jdk/internal/util/Preconditions$3"), (3, u "IOOBE_FORMATTER")] 57

def k23m0 : Method := { name := "<init>", desc := "()V", sig := { parameters := [], returnType := none }, accessFlags := 1, code := none }
/-- jdk/internal/util/Preconditions -/
def k23 : Class := { plain "jdk/internal/util/Preconditions" (some 0) with
  accessFlags := 33
  interfaces := #[]
  cf := some (fileOf pool23 24 #[.nestMembers #[55, 131, 125, 114]] #[{ accessFlags := 1, nameIndex := 5, descriptorIndex := 6, attributes := #[] }] 33 2 #[] #[{ accessFlags := 25, nameIndex := 123, descriptorIndex := 124, attributes := #[] }, { accessFlags := 25, nameIndex := 130, descriptorIndex := 124, attributes := #[] }, { accessFlags := 25, nameIndex := 136, descriptorIndex := 124, attributes := #[] }])
  fields := #[{ name := "SIOOBE_FORMATTER", type := (.object "java/util/function/BiFunction"), accessFlags := 25, slot := 0, constantValue := 0 }, { name := "AIOOBE_FORMATTER", type := (.object "java/util/function/BiFunction"), accessFlags := 25, slot := 1, constantValue := 0 }, { name := "IOOBE_FORMATTER", type := (.object "java/util/function/BiFunction"), accessFlags := 25, slot := 2, constantValue := 0 }]
  methods := #[k23m0]
  instanceTypes := #[]
  staticTypes := #[(.object "java/util/function/BiFunction"), (.object "java/util/function/BiFunction"), (.object "java/util/function/BiFunction")]
  resolved := Array.replicate 194 none
  statics := some 2 }

def pool24 : Array CpInfo := pool [(9, u "<init>"), (6, .class_ 18), (1, u "java/lang/Object"), (0, u "()V"), (1, .class_ 23), (1, u "jdk/internal/util/ArraysSupport"), (0, u "LOG2_ARRAY_LONG_INDEX_SCALE"), (0, u "I"), (2, u "U"), (0, u "Ljdk/internal/misc/Unsafe;"), (8, u "BIG_ENDIAN"), (0, u "Z"), (8, u "LOG2_BYTE_BIT_SIZE"), (4, u "LOG2_ARRAY_INT_INDEX_SCALE"), (54, u "JLA"), (0, u "Ljdk/internal/access/JavaLangAccess;"), (11, u "LOG2_ARRAY_BOOLEAN_INDEX_SCALE"), (9, u "LOG2_ARRAY_BYTE_INDEX_SCALE"), (5, u "LOG2_ARRAY_CHAR_INDEX_SCALE"), (5, u "LOG2_ARRAY_SHORT_INDEX_SCALE"), (18, u "LOG2_ARRAY_FLOAT_INDEX_SCALE"), (24, u "LOG2_ARRAY_DOUBLE_INDEX_SCALE"), (89, u "T_BOOLEAN"), (2, u "T_CHAR"), (1, u "T_FLOAT"), (1, u "T_DOUBLE"), (1, u "T_BYTE"), (1, u "T_SHORT"), (1, u "T_INT"), (1, u "T_LONG"), (1, u "SOFT_MAX_ARRAY_LENGTH")] 83

def k24m0 : Method := { name := "<init>", desc := "()V", sig := { parameters := [], returnType := none }, accessFlags := 2, code := none }
/-- jdk/internal/util/ArraysSupport -/
def k24 : Class := { plain "jdk/internal/util/ArraysSupport" (some 0) with
  accessFlags := 33
  interfaces := #[]
  cf := some (fileOf pool24 21 #[] #[{ accessFlags := 2, nameIndex := 9, descriptorIndex := 19, attributes := #[] }] 33 16 #[] #[{ accessFlags := 24, nameIndex := 28, descriptorIndex := 29, attributes := #[] }, { accessFlags := 26, nameIndex := 38, descriptorIndex := 39, attributes := #[] }, { accessFlags := 25, nameIndex := 121, descriptorIndex := 25, attributes := #[] }, { accessFlags := 25, nameIndex := 131, descriptorIndex := 25, attributes := #[] }, { accessFlags := 25, nameIndex := 137, descriptorIndex := 25, attributes := #[] }, { accessFlags := 25, nameIndex := 143, descriptorIndex := 25, attributes := #[] }, { accessFlags := 25, nameIndex := 53, descriptorIndex := 25, attributes := #[] }, { accessFlags := 25, nameIndex := 24, descriptorIndex := 25, attributes := #[] }, { accessFlags := 25, nameIndex := 162, descriptorIndex := 25, attributes := #[] }, { accessFlags := 25, nameIndex := 187, descriptorIndex := 25, attributes := #[] }, { accessFlags := 26, nameIndex := 48, descriptorIndex := 25, attributes := #[] }, { accessFlags := 25, nameIndex := 277, descriptorIndex := 25, attributes := #[] }, { accessFlags := 25, nameIndex := 280, descriptorIndex := 25, attributes := #[] }, { accessFlags := 25, nameIndex := 282, descriptorIndex := 25, attributes := #[] }, { accessFlags := 25, nameIndex := 284, descriptorIndex := 25, attributes := #[] }, { accessFlags := 25, nameIndex := 286, descriptorIndex := 25, attributes := #[] }, { accessFlags := 25, nameIndex := 288, descriptorIndex := 25, attributes := #[] }, { accessFlags := 25, nameIndex := 290, descriptorIndex := 25, attributes := #[] }, { accessFlags := 25, nameIndex := 292, descriptorIndex := 25, attributes := #[] }, { accessFlags := 26, nameIndex := 108, descriptorIndex := 109, attributes := #[] }, { accessFlags := 25, nameIndex := 294, descriptorIndex := 25, attributes := #[] }])
  fields := #[{ name := "U", type := (.object "jdk/internal/misc/Unsafe"), accessFlags := 24, slot := 0, constantValue := 0 }, { name := "BIG_ENDIAN", type := .boolean, accessFlags := 26, slot := 1, constantValue := 0 }, { name := "LOG2_ARRAY_BOOLEAN_INDEX_SCALE", type := .int, accessFlags := 25, slot := 2, constantValue := 0 }, { name := "LOG2_ARRAY_BYTE_INDEX_SCALE", type := .int, accessFlags := 25, slot := 3, constantValue := 0 }, { name := "LOG2_ARRAY_CHAR_INDEX_SCALE", type := .int, accessFlags := 25, slot := 4, constantValue := 0 }, { name := "LOG2_ARRAY_SHORT_INDEX_SCALE", type := .int, accessFlags := 25, slot := 5, constantValue := 0 }, { name := "LOG2_ARRAY_INT_INDEX_SCALE", type := .int, accessFlags := 25, slot := 6, constantValue := 0 }, { name := "LOG2_ARRAY_LONG_INDEX_SCALE", type := .int, accessFlags := 25, slot := 7, constantValue := 0 }, { name := "LOG2_ARRAY_FLOAT_INDEX_SCALE", type := .int, accessFlags := 25, slot := 8, constantValue := 0 }, { name := "LOG2_ARRAY_DOUBLE_INDEX_SCALE", type := .int, accessFlags := 25, slot := 9, constantValue := 0 }, { name := "LOG2_BYTE_BIT_SIZE", type := .int, accessFlags := 26, slot := 10, constantValue := 0 }, { name := "T_BOOLEAN", type := .int, accessFlags := 25, slot := 11, constantValue := 0 }, { name := "T_CHAR", type := .int, accessFlags := 25, slot := 12, constantValue := 0 }, { name := "T_FLOAT", type := .int, accessFlags := 25, slot := 13, constantValue := 0 }, { name := "T_DOUBLE", type := .int, accessFlags := 25, slot := 14, constantValue := 0 }, { name := "T_BYTE", type := .int, accessFlags := 25, slot := 15, constantValue := 0 }, { name := "T_SHORT", type := .int, accessFlags := 25, slot := 16, constantValue := 0 }, { name := "T_INT", type := .int, accessFlags := 25, slot := 17, constantValue := 0 }, { name := "T_LONG", type := .int, accessFlags := 25, slot := 18, constantValue := 0 }, { name := "JLA", type := (.object "jdk/internal/access/JavaLangAccess"), accessFlags := 26, slot := 19, constantValue := 0 }, { name := "SOFT_MAX_ARRAY_LENGTH", type := .int, accessFlags := 25, slot := 20, constantValue := 0 }]
  methods := #[k24m0]
  instanceTypes := #[]
  staticTypes := #[(.object "jdk/internal/misc/Unsafe"), .boolean, .int, .int, .int, .int, .int, .int, .int, .int, .int, .int, .int, .int, .int, .int, .int, .int, .int, (.object "jdk/internal/access/JavaLangAccess"), .int]
  resolved := Array.replicate 378 none
  statics := none }

def pool25 : Array CpInfo := pool [(1, u "java/lang/Cloneable"), (0, .class_ 1), (0, u "java/lang/Object"), (0, .class_ 3)] 3

/-- java/lang/Cloneable -/
def k25 : Class := { plain "java/lang/Cloneable" (some 0) with
  accessFlags := 1537
  interfaces := #[]
  cf := some (fileOf pool25 2 #[] #[] 1537 4 #[] #[])
  fields := #[]
  methods := #[]
  instanceTypes := #[]
  staticTypes := #[]
  resolved := Array.replicate 8 none
  statics := none }

/-- the primitive byte -/
def k26 : Class := { plain "byte" none with kind := .primitive 'B', accessFlags := 0x411 }
/-- [B -/
def k27 : Class := { plain "[B" (some 0) with kind := .array 26 .byte, interfaces := #[25, 3], accessFlags := 1041 }

/-- the primitive double -/
def k28 : Class := { plain "double" none with kind := .primitive 'D', accessFlags := 0x411 }
/-- [D -/
def k29 : Class := { plain "[D" (some 0) with kind := .array 28 .double, interfaces := #[25, 3], accessFlags := 1041 }

/-- the primitive int -/
def k30 : Class := { plain "int" none with kind := .primitive 'I', accessFlags := 0x411 }
/-- [I -/
def k31 : Class := { plain "[I" (some 0) with kind := .array 30 .int, interfaces := #[25, 3], accessFlags := 1041 }

def heap : Heap := #[{ cls := 8, slots := #[.long 0, .int 1, .null, .int 0, .null, .int 0, .int 0], vm := .statics 8 },
  { cls := 21, slots := #[.ref 3, .null, .null], vm := .statics 21 },
  { cls := 23, slots := #[.null, .null, .null], vm := .statics 23 },
  { cls := 21, slots := #[.null, .int 0, .int 0, .null], vm := .none }]
def classes : Array Class := #[k0, k1, k2, k3, k4, k5, k6, k7, k8, k9, k10, k11, k12, k13, k14, k15, k16, k17, k18, k19, k20, k21, k22, k23, k24, k25, k26, k27, k28, k29, k30, k31]
def interned : List (Array UInt16 × Addr) := []
def slotsUsed : Nat := 17
def theMethod : MethodId := ⟨1, 1⟩
def args0 : Array Value := #[.long 5, .int 1, .int 2, .int 3, .int 4]
def aboutOver (below : List Frame) : State where
  vm := { classes := classes, interned := interned.toArray }
  heap := heap
  slotsUsed := slotsUsed
  threads := #[{ frames := .invoking theMethod args0 :: below }]
def below0 : List Frame := [.native { method := ⟨0, 0⟩, args := #[] }]
def about1 : State := aboutOver below0
def p0 : Program := .bare "" "" ""
def e0 : Env := launch0.env 0 0 0
theorem w_frames : about1.frames = Frame.invoking theMethod args0 :: below0 := rfl
set_option maxRecDepth 65536 in
theorem w_args : argsFit about1.vm theMethod args0 = true := by decide +kernel
set_option maxRecDepth 65536 in
theorem w_heap : heapFits about1 = true := by decide +kernel
set_option maxRecDepth 65536 in
theorem w_runnable : about1.curStatus? = some .runnable := by decide +kernel
set_option maxRecDepth 65536 in
theorem w_alone : about1.alone = true := by decide +kernel
set_option maxRecDepth 65536 in
theorem w_named : about1.methodNamed? x = some theMethod := by decide +kernel
set_option maxRecDepth 65536 in
theorem w_hears : about1.hears theMethod below0 = true := by decide +kernel
set_option maxRecDepth 65536 in
theorem w_ripe : about1.ripe theMethod args0 below0 = true := by decide +kernel
theorem w_running : about1.status = .running := rfl
set_option maxRecDepth 65536 in
theorem w_room : about1.hasRoom e0.platform room_1 = true :=
  launch0.hasRoom_least _ room_1 (by decide +kernel) (by decide +kernel) (by decide +kernel) (by decide +kernel) (by decide +kernel) (by decide +kernel)
theorem allAtoms_all (ts : List Jvm.Cond) (a : Array Jvm.Value) (st : Jvm.State) : (allAtoms ts).before a st = ts.all (fun c => c.before a st) := by
  induction ts with
  | nil => rfl
  | cons c t ih =>
    show (Jvm.Cond.and c (allAtoms t)).before a st = _
    rw [Jvm.Cond.before_and, ih, List.all_cons]
def words1 : List Jvm.Cond := Jvm.Cond.code x code maxLocals ret :: tables_1
/-- a 'code' word, met by the world's own term for the bytes: nothing is compared byte by byte -/
theorem code_word {y : MethodName} {bytes : ByteArray} {mx : Nat} {rt : Option FieldType} {a : Array Value} {s : State} {m : MethodId} {meth : Method} {c : Code} (h1 : s.methodNamed? y = some m) (h2 : s.vm.method? m = some meth) (h3 : meth.code = some c) (h4 : c.code = bytes)
    (h5 : (c.maxLocals == mx && c.exceptionTable.isEmpty && decide (c.maxStack ≤ mostOperands) && decide (meth.sig.returnType = rt) && !meth.locks && decide (parseMethodDescriptor y.desc = some meth.sig)) = true) : (Jvm.Cond.code y bytes mx rt).before a s = true := by
  simp only [Bool.and_eq_true, beq_iff_eq, Bool.not_eq_true', decide_eq_true_eq] at h5
  obtain ⟨⟨⟨⟨⟨g1, g2⟩, g3⟩, g4⟩, g5⟩, g6⟩ := h5
  simp [Cond.before, Cond.holds, Cond.value, h1, h2, h3, h4, g1, g2, g3, g4, g5, g6]
def isCode : Jvm.Cond → Bool
  | .code _ _ _ _ => true
  | _ => false
theorem all_split {L : List Jvm.Cond} {P : Jvm.Cond → Bool} (h1 : L.all (fun c => isCode c || P c) = true) (h2 : ∀ c ∈ L.filter isCode, P c = true) : L.all P = true := by
  refine List.all_eq_true.mpr fun c hc => ?_
  have h := List.all_eq_true.mp h1 c hc
  rcases Bool.eq_false_or_eq_true (isCode c) with hi | hi
  · exact h2 c (List.mem_filter.mpr ⟨hc, hi⟩)
  · simpa [hi] using h
set_option maxRecDepth 65536 in
theorem w_c0 : (Jvm.Cond.code x code maxLocals ret).before args0 about1 = true := code_word (m := ⟨1, 1⟩) (meth := k1m1) (c := k1c1) (by decide +kernel) rfl rfl rfl (by decide +kernel)
set_option maxRecDepth 65536 in
theorem w_c1 : (Jvm.Cond.code ({ cls := "com/example/makespan/makespan/model/VmType", name := "<init>", desc := "(Ljava/lang/String;DDD)V" } : Jvm.MethodName) prog_51_method_1_code (8 : Nat) (Option.none : Option Jvm.ClassFile.FieldType)).before args0 about1 = true := code_word (m := ⟨2, 0⟩) (meth := k2m0) (c := k2c0) (by decide +kernel) rfl rfl rfl (by decide +kernel)
set_option maxRecDepth 65536 in
theorem w_c2 : (Jvm.Cond.code ({ cls := "com/example/makespan/makespan/model/VmType", name := "<init>", desc := "(Ljava/lang/String;DDDDZD)V" } : Jvm.MethodName) prog_51_method_2_code (14 : Nat) (Option.none : Option Jvm.ClassFile.FieldType)).before args0 about1 = true := code_word (m := ⟨2, 1⟩) (meth := k2m1) (c := k2c1) (by decide +kernel) rfl rfl rfl (by decide +kernel)
set_option maxRecDepth 65536 in
theorem w_c3 : (Jvm.Cond.code ({ cls := "java/lang/Object", name := "<init>", desc := "()V" } : Jvm.MethodName) object_method_1_code (1 : Nat) (Option.none : Option Jvm.ClassFile.FieldType)).before args0 about1 = true := code_word (m := ⟨0, 0⟩) (meth := k0m0) (c := k0c0) (by decide +kernel) rfl rfl rfl (by decide +kernel)
set_option maxRecDepth 65536 in
theorem w_c4 : (Jvm.Cond.code ({ cls := "java/util/Objects", name := "requireNonNull", desc := "(Ljava/lang/Object;Ljava/lang/String;)Ljava/lang/Object;" } : Jvm.MethodName) jdk_31_method_11_code (2 : Nat) (Option.some (Jvm.ClassFile.FieldType.object "java/lang/Object"))).before args0 about1 = true := code_word (m := ⟨9, 1⟩) (meth := k9m1) (c := k9c1) (by decide +kernel) rfl rfl rfl (by decide +kernel)
set_option maxRecDepth 65536 in
theorem w_c5 : (Jvm.Cond.code ({ cls := "java/lang/StringBuilder", name := "<init>", desc := "()V" } : Jvm.MethodName) jdk_67_method_1_code (1 : Nat) (Option.none : Option Jvm.ClassFile.FieldType)).before args0 about1 = true := code_word (m := ⟨12, 0⟩) (meth := k12m0) (c := k12c0) (by decide +kernel) rfl rfl rfl (by decide +kernel)
set_option maxRecDepth 65536 in
theorem w_c6 : (Jvm.Cond.code ({ cls := "java/lang/AbstractStringBuilder", name := "<init>", desc := "(I)V" } : Jvm.MethodName) jdk_68_method_2_code (2 : Nat) (Option.none : Option Jvm.ClassFile.FieldType)).before args0 about1 = true := code_word (m := ⟨11, 1⟩) (meth := k11m1) (c := k11c1) (by decide +kernel) rfl rfl rfl (by decide +kernel)
set_option maxRecDepth 65536 in
theorem w_c7 : (Jvm.Cond.code ({ cls := "java/lang/StringBuilder", name := "append", desc := "(Ljava/lang/String;)Ljava/lang/StringBuilder;" } : Jvm.MethodName) jdk_67_method_7_code (2 : Nat) (Option.some (Jvm.ClassFile.FieldType.object "java/lang/StringBuilder"))).before args0 about1 = true := code_word (m := ⟨12, 1⟩) (meth := k12m1) (c := k12c1) (by decide +kernel) rfl rfl rfl (by decide +kernel)
set_option maxRecDepth 65536 in
theorem w_c8 : (Jvm.Cond.code ({ cls := "java/lang/AbstractStringBuilder", name := "append", desc := "(Ljava/lang/String;)Ljava/lang/AbstractStringBuilder;" } : Jvm.MethodName) jdk_68_method_22_code (3 : Nat) (Option.some (Jvm.ClassFile.FieldType.object "java/lang/AbstractStringBuilder"))).before args0 about1 = true := code_word (m := ⟨11, 4⟩) (meth := k11m4) (c := k11c4) (by decide +kernel) rfl rfl rfl (by decide +kernel)
set_option maxRecDepth 65536 in
theorem w_c9 : (Jvm.Cond.code ({ cls := "java/lang/String", name := "length", desc := "()I" } : Jvm.MethodName) jdk_42_method_54_code (1 : Nat) (Option.some Jvm.ClassFile.FieldType.int)).before args0 about1 = true := code_word (m := ⟨8, 2⟩) (meth := k8m2) (c := k8c2) (by decide +kernel) rfl rfl rfl (by decide +kernel)
set_option maxRecDepth 65536 in
theorem w_c10 : (Jvm.Cond.code ({ cls := "java/lang/String", name := "coder", desc := "()B" } : Jvm.MethodName) jdk_42_method_152_code (1 : Nat) (Option.some Jvm.ClassFile.FieldType.byte)).before args0 about1 = true := code_word (m := ⟨8, 5⟩) (meth := k8m5) (c := k8c5) (by decide +kernel) rfl rfl rfl (by decide +kernel)
set_option maxRecDepth 65536 in
theorem w_c11 : (Jvm.Cond.code ({ cls := "java/lang/AbstractStringBuilder", name := "ensureCapacityInternal", desc := "(I)V" } : Jvm.MethodName) jdk_68_method_9_code (3 : Nat) (Option.none : Option Jvm.ClassFile.FieldType)).before args0 about1 = true := code_word (m := ⟨11, 3⟩) (meth := k11m3) (c := k11c3) (by decide +kernel) rfl rfl rfl (by decide +kernel)
set_option maxRecDepth 65536 in
theorem w_c12 : (Jvm.Cond.code ({ cls := "java/lang/AbstractStringBuilder", name := "putStringAt", desc := "(ILjava/lang/String;)V" } : Jvm.MethodName) jdk_68_method_73_code (3 : Nat) (Option.none : Option Jvm.ClassFile.FieldType)).before args0 about1 = true := code_word (m := ⟨11, 8⟩) (meth := k11m8) (c := k11c8) (by decide +kernel) rfl rfl rfl (by decide +kernel)
set_option maxRecDepth 65536 in
theorem w_c13 : (Jvm.Cond.code ({ cls := "java/lang/AbstractStringBuilder", name := "inflateIfNeededFor", desc := "(Ljava/lang/String;)V" } : Jvm.MethodName) jdk_68_method_71_code (2 : Nat) (Option.none : Option Jvm.ClassFile.FieldType)).before args0 about1 = true := code_word (m := ⟨11, 7⟩) (meth := k11m7) (c := k11c7) (by decide +kernel) rfl rfl rfl (by decide +kernel)
set_option maxRecDepth 65536 in
theorem w_c14 : (Jvm.Cond.code ({ cls := "java/lang/String", name := "getBytes", desc := "([BIB)V" } : Jvm.MethodName) jdk_42_method_147_code (4 : Nat) (Option.none : Option Jvm.ClassFile.FieldType)).before args0 about1 = true := code_word (m := ⟨8, 3⟩) (meth := k8m3) (c := k8c3) (by decide +kernel) rfl rfl rfl (by decide +kernel)
set_option maxRecDepth 65536 in
theorem w_c15 : (Jvm.Cond.code ({ cls := "java/lang/StringBuilder", name := "toString", desc := "()Ljava/lang/String;" } : Jvm.MethodName) jdk_67_method_42_code (1 : Nat) (Option.some (Jvm.ClassFile.FieldType.object "java/lang/String"))).before args0 about1 = true := code_word (m := ⟨12, 2⟩) (meth := k12m2) (c := k12c2) (by decide +kernel) rfl rfl rfl (by decide +kernel)
set_option maxRecDepth 65536 in
theorem w_c16 : (Jvm.Cond.code ({ cls := "java/lang/String", name := "<init>", desc := "(Ljava/lang/StringBuilder;)V" } : Jvm.MethodName) jdk_42_method_53_code (2 : Nat) (Option.none : Option Jvm.ClassFile.FieldType)).before args0 about1 = true := code_word (m := ⟨8, 1⟩) (meth := k8m1) (c := k8c1) (by decide +kernel) rfl rfl rfl (by decide +kernel)
set_option maxRecDepth 65536 in
theorem w_c17 : (Jvm.Cond.code ({ cls := "java/lang/String", name := "<init>", desc := "(Ljava/lang/AbstractStringBuilder;Ljava/lang/Void;)V" } : Jvm.MethodName) jdk_42_method_150_code (5 : Nat) (Option.none : Option Jvm.ClassFile.FieldType)).before args0 about1 = true := code_word (m := ⟨8, 4⟩) (meth := k8m4) (c := k8c4) (by decide +kernel) rfl rfl rfl (by decide +kernel)
set_option maxRecDepth 65536 in
theorem w_c18 : (Jvm.Cond.code ({ cls := "java/lang/AbstractStringBuilder", name := "getValue", desc := "()[B" } : Jvm.MethodName) jdk_68_method_64_code (1 : Nat) (Option.some (Jvm.ClassFile.FieldType.array Jvm.ClassFile.FieldType.byte))).before args0 about1 = true := code_word (m := ⟨11, 5⟩) (meth := k11m5) (c := k11c5) (by decide +kernel) rfl rfl rfl (by decide +kernel)
set_option maxRecDepth 65536 in
theorem w_c19 : (Jvm.Cond.code ({ cls := "java/lang/StringBuilder", name := "length", desc := "()I" } : Jvm.MethodName) jdk_67_method_93_code (1 : Nat) (Option.some Jvm.ClassFile.FieldType.int)).before args0 about1 = true := code_word (m := ⟨12, 3⟩) (meth := k12m3) (c := k12c3) (by decide +kernel) rfl rfl rfl (by decide +kernel)
set_option maxRecDepth 65536 in
theorem w_c20 : (Jvm.Cond.code ({ cls := "java/lang/AbstractStringBuilder", name := "length", desc := "()I" } : Jvm.MethodName) jdk_68_method_6_code (1 : Nat) (Option.some Jvm.ClassFile.FieldType.int)).before args0 about1 = true := code_word (m := ⟨11, 2⟩) (meth := k11m2) (c := k11c2) (by decide +kernel) rfl rfl rfl (by decide +kernel)
set_option maxRecDepth 65536 in
theorem w_c21 : (Jvm.Cond.code ({ cls := "java/lang/AbstractStringBuilder", name := "isLatin1", desc := "()Z" } : Jvm.MethodName) jdk_68_method_68_code (1 : Nat) (Option.some Jvm.ClassFile.FieldType.boolean)).before args0 about1 = true := code_word (m := ⟨11, 6⟩) (meth := k11m6) (c := k11c6) (by decide +kernel) rfl rfl rfl (by decide +kernel)
set_option maxRecDepth 65536 in
theorem w_c22 : (Jvm.Cond.code ({ cls := "java/util/Arrays", name := "copyOfRange", desc := "([BII)[B" } : Jvm.MethodName) jdk_65_method_132_code (3 : Nat) (Option.some (Jvm.ClassFile.FieldType.array Jvm.ClassFile.FieldType.byte))).before args0 about1 = true := code_word (m := ⟨14, 2⟩) (meth := k14m2) (c := k14c2) (by decide +kernel) rfl rfl rfl (by decide +kernel)
set_option maxRecDepth 65536 in
theorem w_c23 : (Jvm.Cond.code ({ cls := "java/util/Arrays", name := "copyOfRangeByte", desc := "([BII)[B" } : Jvm.MethodName) jdk_65_method_133_code (5 : Nat) (Option.some (Jvm.ClassFile.FieldType.array Jvm.ClassFile.FieldType.byte))).before args0 about1 = true := code_word (m := ⟨14, 3⟩) (meth := k14m3) (c := k14c3) (by decide +kernel) rfl rfl rfl (by decide +kernel)
set_option maxRecDepth 65536 in
theorem w_c24 : (Jvm.Cond.code ({ cls := "java/util/Arrays", name := "checkLength", desc := "(II)V" } : Jvm.MethodName) jdk_65_method_131_code (2 : Nat) (Option.none : Option Jvm.ClassFile.FieldType)).before args0 about1 = true := code_word (m := ⟨14, 1⟩) (meth := k14m1) (c := k14c1) (by decide +kernel) rfl rfl rfl (by decide +kernel)
set_option maxRecDepth 65536 in
theorem w_c25 : (Jvm.Cond.code ({ cls := "java/lang/Math", name := "min", desc := "(II)I" } : Jvm.MethodName) jdk_29_method_69_code (2 : Nat) (Option.some Jvm.ClassFile.FieldType.int)).before args0 about1 = true := code_word (m := ⟨15, 3⟩) (meth := k15m3) (c := k15c3) (by decide +kernel) rfl rfl rfl (by decide +kernel)
set_option maxRecDepth 65536 in
theorem w_c26 : (Jvm.Cond.code ({ cls := "com/example/makespan/makespan/model/Ranges", name := "aboveZero", desc := "(Ljava/lang/String;Ljava/lang/String;D)D" } : Jvm.MethodName) prog_45_method_2_code (4 : Nat) (Option.some Jvm.ClassFile.FieldType.double)).before args0 about1 = true := code_word (m := ⟨16, 1⟩) (meth := k16m1) (c := k16c1) (by decide +kernel) rfl rfl rfl (by decide +kernel)
set_option maxRecDepth 65536 in
theorem w_c27 : (Jvm.Cond.code ({ cls := "java/lang/Double", name := "isInfinite", desc := "(D)Z" } : Jvm.MethodName) jdk_117_method_7_code (2 : Nat) (Option.some Jvm.ClassFile.FieldType.boolean)).before args0 about1 = true := code_word (m := ⟨18, 0⟩) (meth := k18m0) (c := k18c0) (by decide +kernel) rfl rfl rfl (by decide +kernel)
set_option maxRecDepth 65536 in
theorem w_c28 : (Jvm.Cond.code ({ cls := "java/lang/Math", name := "abs", desc := "(D)D" } : Jvm.MethodName) jdk_29_method_64_code (2 : Nat) (Option.some Jvm.ClassFile.FieldType.double)).before args0 about1 = true := code_word (m := ⟨15, 1⟩) (meth := k15m1) (c := k15c1) (by decide +kernel) rfl rfl rfl (by decide +kernel)
set_option maxRecDepth 65536 in
theorem w_c29 : (Jvm.Cond.code ({ cls := "com/example/makespan/makespan/model/Ranges", name := "zeroOrAbove", desc := "(Ljava/lang/String;Ljava/lang/String;D)D" } : Jvm.MethodName) prog_45_method_3_code (4 : Nat) (Option.some Jvm.ClassFile.FieldType.double)).before args0 about1 = true := code_word (m := ⟨16, 2⟩) (meth := k16m2) (c := k16c2) (by decide +kernel) rfl rfl rfl (by decide +kernel)
set_option maxRecDepth 65536 in
theorem w_c30 : (Jvm.Cond.code ({ cls := "com/example/makespan/makespan/model/Ranges", name := "isZeroOrAbove", desc := "(D)Z" } : Jvm.MethodName) prog_45_method_5_code (2 : Nat) (Option.some Jvm.ClassFile.FieldType.boolean)).before args0 about1 = true := code_word (m := ⟨16, 3⟩) (meth := k16m3) (c := k16c3) (by decide +kernel) rfl rfl rfl (by decide +kernel)
set_option maxRecDepth 65536 in
theorem w_c31 : (Jvm.Cond.code ({ cls := "com/example/makespan/makespan/planning/TaskOnType", name := "<init>", desc := "(Lcom/example/makespan/makespan/model/VmType;Lcom/example/makespan/makespan/model/Billing;IDD[D)V" } : Jvm.MethodName) prog_105_method_1_code (11 : Nat) (Option.none : Option Jvm.ClassFile.FieldType)).before args0 about1 = true := code_word (m := ⟨19, 0⟩) (meth := k19m0) (c := k19c0) (by decide +kernel) rfl rfl rfl (by decide +kernel)
set_option maxRecDepth 65536 in
theorem w_c32 : (Jvm.Cond.code ({ cls := "com/example/makespan/makespan/model/VmType", name := "getBootSeconds", desc := "()D" } : Jvm.MethodName) prog_51_method_7_code (1 : Nat) (Option.some Jvm.ClassFile.FieldType.double)).before args0 about1 = true := code_word (m := ⟨2, 2⟩) (meth := k2m2) (c := k2c2) (by decide +kernel) rfl rfl rfl (by decide +kernel)
set_option maxRecDepth 65536 in
theorem w_c33 : (Jvm.Cond.code ({ cls := "java/lang/Math", name := "max", desc := "(DD)D" } : Jvm.MethodName) jdk_29_method_68_code (4 : Nat) (Option.some Jvm.ClassFile.FieldType.double)).before args0 about1 = true := code_word (m := ⟨15, 2⟩) (meth := k15m2) (c := k15c2) (by decide +kernel) rfl rfl rfl (by decide +kernel)
set_option maxRecDepth 65536 in
theorem w_c34 : (Jvm.Cond.code ({ cls := "com/example/makespan/makespan/planning/TaskOnType", name := "withFees", desc := "(D)D" } : Jvm.MethodName) prog_105_method_12_code (10 : Nat) (Option.some Jvm.ClassFile.FieldType.double)).before args0 about1 = true := code_word (m := ⟨19, 1⟩) (meth := k19m1) (c := k19c1) (by decide +kernel) rfl rfl rfl (by decide +kernel)
set_option maxRecDepth 65536 in
theorem w_c35 : (Jvm.Cond.code ({ cls := "com/example/makespan/makespan/planning/TaskOnTypeWithFeesPinLaw", name := "sameDouble", desc := "(DD)Z" } : Jvm.MethodName) method_3_code (4 : Nat) (Option.some Jvm.ClassFile.FieldType.boolean)).before args0 about1 = true := code_word (m := ⟨1, 2⟩) (meth := k1m2) (c := k1c2) (by decide +kernel) rfl rfl rfl (by decide +kernel)
def codes1 : List Jvm.Cond := [Jvm.Cond.code x code maxLocals ret, Jvm.Cond.code ({ cls := "com/example/makespan/makespan/model/VmType", name := "<init>", desc := "(Ljava/lang/String;DDD)V" } : Jvm.MethodName) prog_51_method_1_code (8 : Nat) (Option.none : Option Jvm.ClassFile.FieldType), Jvm.Cond.code ({ cls := "com/example/makespan/makespan/model/VmType", name := "<init>", desc := "(Ljava/lang/String;DDDDZD)V" } : Jvm.MethodName) prog_51_method_2_code (14 : Nat) (Option.none : Option Jvm.ClassFile.FieldType), Jvm.Cond.code ({ cls := "java/lang/Object", name := "<init>", desc := "()V" } : Jvm.MethodName) object_method_1_code (1 : Nat) (Option.none : Option Jvm.ClassFile.FieldType), Jvm.Cond.code ({ cls := "java/util/Objects", name := "requireNonNull", desc := "(Ljava/lang/Object;Ljava/lang/String;)Ljava/lang/Object;" } : Jvm.MethodName) jdk_31_method_11_code (2 : Nat) (Option.some (Jvm.ClassFile.FieldType.object "java/lang/Object")), Jvm.Cond.code ({ cls := "java/lang/StringBuilder", name := "<init>", desc := "()V" } : Jvm.MethodName) jdk_67_method_1_code (1 : Nat) (Option.none : Option Jvm.ClassFile.FieldType), Jvm.Cond.code ({ cls := "java/lang/AbstractStringBuilder", name := "<init>", desc := "(I)V" } : Jvm.MethodName) jdk_68_method_2_code (2 : Nat) (Option.none : Option Jvm.ClassFile.FieldType), Jvm.Cond.code ({ cls := "java/lang/StringBuilder", name := "append", desc := "(Ljava/lang/String;)Ljava/lang/StringBuilder;" } : Jvm.MethodName) jdk_67_method_7_code (2 : Nat) (Option.some (Jvm.ClassFile.FieldType.object "java/lang/StringBuilder")), Jvm.Cond.code ({ cls := "java/lang/AbstractStringBuilder", name := "append", desc := "(Ljava/lang/String;)Ljava/lang/AbstractStringBuilder;" } : Jvm.MethodName) jdk_68_method_22_code (3 : Nat) (Option.some (Jvm.ClassFile.FieldType.object "java/lang/AbstractStringBuilder")), Jvm.Cond.code ({ cls := "java/lang/String", name := "length", desc := "()I" } : Jvm.MethodName) jdk_42_method_54_code (1 : Nat) (Option.some Jvm.ClassFile.FieldType.int), Jvm.Cond.code ({ cls := "java/lang/String", name := "coder", desc := "()B" } : Jvm.MethodName) jdk_42_method_152_code (1 : Nat) (Option.some Jvm.ClassFile.FieldType.byte), Jvm.Cond.code ({ cls := "java/lang/AbstractStringBuilder", name := "ensureCapacityInternal", desc := "(I)V" } : Jvm.MethodName) jdk_68_method_9_code (3 : Nat) (Option.none : Option Jvm.ClassFile.FieldType), Jvm.Cond.code ({ cls := "java/lang/AbstractStringBuilder", name := "putStringAt", desc := "(ILjava/lang/String;)V" } : Jvm.MethodName) jdk_68_method_73_code (3 : Nat) (Option.none : Option Jvm.ClassFile.FieldType), Jvm.Cond.code ({ cls := "java/lang/AbstractStringBuilder", name := "inflateIfNeededFor", desc := "(Ljava/lang/String;)V" } : Jvm.MethodName) jdk_68_method_71_code (2 : Nat) (Option.none : Option Jvm.ClassFile.FieldType), Jvm.Cond.code ({ cls := "java/lang/String", name := "getBytes", desc := "([BIB)V" } : Jvm.MethodName) jdk_42_method_147_code (4 : Nat) (Option.none : Option Jvm.ClassFile.FieldType), Jvm.Cond.code ({ cls := "java/lang/StringBuilder", name := "toString", desc := "()Ljava/lang/String;" } : Jvm.MethodName) jdk_67_method_42_code (1 : Nat) (Option.some (Jvm.ClassFile.FieldType.object "java/lang/String")), Jvm.Cond.code ({ cls := "java/lang/String", name := "<init>", desc := "(Ljava/lang/StringBuilder;)V" } : Jvm.MethodName) jdk_42_method_53_code (2 : Nat) (Option.none : Option Jvm.ClassFile.FieldType), Jvm.Cond.code ({ cls := "java/lang/String", name := "<init>", desc := "(Ljava/lang/AbstractStringBuilder;Ljava/lang/Void;)V" } : Jvm.MethodName) jdk_42_method_150_code (5 : Nat) (Option.none : Option Jvm.ClassFile.FieldType), Jvm.Cond.code ({ cls := "java/lang/AbstractStringBuilder", name := "getValue", desc := "()[B" } : Jvm.MethodName) jdk_68_method_64_code (1 : Nat) (Option.some (Jvm.ClassFile.FieldType.array Jvm.ClassFile.FieldType.byte)), Jvm.Cond.code ({ cls := "java/lang/StringBuilder", name := "length", desc := "()I" } : Jvm.MethodName) jdk_67_method_93_code (1 : Nat) (Option.some Jvm.ClassFile.FieldType.int), Jvm.Cond.code ({ cls := "java/lang/AbstractStringBuilder", name := "length", desc := "()I" } : Jvm.MethodName) jdk_68_method_6_code (1 : Nat) (Option.some Jvm.ClassFile.FieldType.int), Jvm.Cond.code ({ cls := "java/lang/AbstractStringBuilder", name := "isLatin1", desc := "()Z" } : Jvm.MethodName) jdk_68_method_68_code (1 : Nat) (Option.some Jvm.ClassFile.FieldType.boolean), Jvm.Cond.code ({ cls := "java/util/Arrays", name := "copyOfRange", desc := "([BII)[B" } : Jvm.MethodName) jdk_65_method_132_code (3 : Nat) (Option.some (Jvm.ClassFile.FieldType.array Jvm.ClassFile.FieldType.byte)), Jvm.Cond.code ({ cls := "java/util/Arrays", name := "copyOfRangeByte", desc := "([BII)[B" } : Jvm.MethodName) jdk_65_method_133_code (5 : Nat) (Option.some (Jvm.ClassFile.FieldType.array Jvm.ClassFile.FieldType.byte)), Jvm.Cond.code ({ cls := "java/util/Arrays", name := "checkLength", desc := "(II)V" } : Jvm.MethodName) jdk_65_method_131_code (2 : Nat) (Option.none : Option Jvm.ClassFile.FieldType), Jvm.Cond.code ({ cls := "java/lang/Math", name := "min", desc := "(II)I" } : Jvm.MethodName) jdk_29_method_69_code (2 : Nat) (Option.some Jvm.ClassFile.FieldType.int), Jvm.Cond.code ({ cls := "com/example/makespan/makespan/model/Ranges", name := "aboveZero", desc := "(Ljava/lang/String;Ljava/lang/String;D)D" } : Jvm.MethodName) prog_45_method_2_code (4 : Nat) (Option.some Jvm.ClassFile.FieldType.double), Jvm.Cond.code ({ cls := "java/lang/Double", name := "isInfinite", desc := "(D)Z" } : Jvm.MethodName) jdk_117_method_7_code (2 : Nat) (Option.some Jvm.ClassFile.FieldType.boolean), Jvm.Cond.code ({ cls := "java/lang/Math", name := "abs", desc := "(D)D" } : Jvm.MethodName) jdk_29_method_64_code (2 : Nat) (Option.some Jvm.ClassFile.FieldType.double), Jvm.Cond.code ({ cls := "com/example/makespan/makespan/model/Ranges", name := "zeroOrAbove", desc := "(Ljava/lang/String;Ljava/lang/String;D)D" } : Jvm.MethodName) prog_45_method_3_code (4 : Nat) (Option.some Jvm.ClassFile.FieldType.double), Jvm.Cond.code ({ cls := "com/example/makespan/makespan/model/Ranges", name := "isZeroOrAbove", desc := "(D)Z" } : Jvm.MethodName) prog_45_method_5_code (2 : Nat) (Option.some Jvm.ClassFile.FieldType.boolean), Jvm.Cond.code ({ cls := "com/example/makespan/makespan/planning/TaskOnType", name := "<init>", desc := "(Lcom/example/makespan/makespan/model/VmType;Lcom/example/makespan/makespan/model/Billing;IDD[D)V" } : Jvm.MethodName) prog_105_method_1_code (11 : Nat) (Option.none : Option Jvm.ClassFile.FieldType), Jvm.Cond.code ({ cls := "com/example/makespan/makespan/model/VmType", name := "getBootSeconds", desc := "()D" } : Jvm.MethodName) prog_51_method_7_code (1 : Nat) (Option.some Jvm.ClassFile.FieldType.double), Jvm.Cond.code ({ cls := "java/lang/Math", name := "max", desc := "(DD)D" } : Jvm.MethodName) jdk_29_method_68_code (4 : Nat) (Option.some Jvm.ClassFile.FieldType.double), Jvm.Cond.code ({ cls := "com/example/makespan/makespan/planning/TaskOnType", name := "withFees", desc := "(D)D" } : Jvm.MethodName) prog_105_method_12_code (10 : Nat) (Option.some Jvm.ClassFile.FieldType.double), Jvm.Cond.code ({ cls := "com/example/makespan/makespan/planning/TaskOnTypeWithFeesPinLaw", name := "sameDouble", desc := "(DD)Z" } : Jvm.MethodName) method_3_code (4 : Nat) (Option.some Jvm.ClassFile.FieldType.boolean)]
set_option maxRecDepth 65536 in
theorem codes_eq : words1.filter isCode = codes1 := rfl
theorem w_codes : ∀ c ∈ words1.filter isCode, c.before args0 about1 = true := by
  rw [codes_eq]
  intro c hc
  simp only [codes1, List.mem_cons, List.not_mem_nil, or_false] at hc
  rcases hc with rfl | rfl | rfl | rfl | rfl | rfl | rfl | rfl | rfl | rfl | rfl | rfl | rfl | rfl | rfl | rfl | rfl | rfl | rfl | rfl | rfl | rfl | rfl | rfl | rfl | rfl | rfl | rfl | rfl | rfl | rfl | rfl | rfl | rfl | rfl | rfl
  · exact w_c0
  · exact w_c1
  · exact w_c2
  · exact w_c3
  · exact w_c4
  · exact w_c5
  · exact w_c6
  · exact w_c7
  · exact w_c8
  · exact w_c9
  · exact w_c10
  · exact w_c11
  · exact w_c12
  · exact w_c13
  · exact w_c14
  · exact w_c15
  · exact w_c16
  · exact w_c17
  · exact w_c18
  · exact w_c19
  · exact w_c20
  · exact w_c21
  · exact w_c22
  · exact w_c23
  · exact w_c24
  · exact w_c25
  · exact w_c26
  · exact w_c27
  · exact w_c28
  · exact w_c29
  · exact w_c30
  · exact w_c31
  · exact w_c32
  · exact w_c33
  · exact w_c34
  · exact w_c35
set_option maxRecDepth 65536 in
theorem w_t1 : (words1.take 24).all (fun c => isCode c || c.before args0 about1) = true := by decide +kernel
set_option maxRecDepth 65536 in
theorem w_t2 : ((words1.drop 24).take 24).all (fun c => isCode c || c.before args0 about1) = true := by decide +kernel
set_option maxRecDepth 65536 in
theorem w_t3 : (((words1.drop 24).drop 24).take 24).all (fun c => isCode c || c.before args0 about1) = true := by decide +kernel
set_option maxRecDepth 65536 in
theorem w_t4 : ((((words1.drop 24).drop 24).drop 24).take 24).all (fun c => isCode c || c.before args0 about1) = true := by decide +kernel
set_option maxRecDepth 65536 in
theorem w_t5 : (((((words1.drop 24).drop 24).drop 24).drop 24).take 24).all (fun c => isCode c || c.before args0 about1) = true := by decide +kernel
set_option maxRecDepth 65536 in
theorem w_t6 : ((((((words1.drop 24).drop 24).drop 24).drop 24).drop 24).take 24).all (fun c => isCode c || c.before args0 about1) = true := by decide +kernel
set_option maxRecDepth 65536 in
theorem w_t7 : (((((((words1.drop 24).drop 24).drop 24).drop 24).drop 24).drop 24).take 24).all (fun c => isCode c || c.before args0 about1) = true := by decide +kernel
set_option maxRecDepth 65536 in
theorem w_t8 : ((((((((words1.drop 24).drop 24).drop 24).drop 24).drop 24).drop 24).drop 24).take 24).all (fun c => isCode c || c.before args0 about1) = true := by decide +kernel
set_option maxRecDepth 65536 in
theorem w_t9 : (((((((((words1.drop 24).drop 24).drop 24).drop 24).drop 24).drop 24).drop 24).drop 24).take 24).all (fun c => isCode c || c.before args0 about1) = true := by decide +kernel
set_option maxRecDepth 65536 in
theorem w_t10 : (((((((((words1.drop 24).drop 24).drop 24).drop 24).drop 24).drop 24).drop 24).drop 24).drop 24).all (fun c => isCode c || c.before args0 about1) = true := by decide +kernel
theorem w_tables : (allAtoms (Jvm.Cond.code x code maxLocals ret :: tables_1)).before args0 about1 = true := by
  rw [allAtoms_all]
  show words1.all (fun c => c.before args0 about1) = true
  refine all_split ?_ w_codes
  rw [← List.take_append_drop 24 words1, List.all_append, w_t1, ← List.take_append_drop 24 (words1.drop 24), List.all_append, w_t2, ← List.take_append_drop 24 ((words1.drop 24).drop 24), List.all_append, w_t3, ← List.take_append_drop 24 (((words1.drop 24).drop 24).drop 24), List.all_append, w_t4, ← List.take_append_drop 24 ((((words1.drop 24).drop 24).drop 24).drop 24), List.all_append, w_t5, ← List.take_append_drop 24 (((((words1.drop 24).drop 24).drop 24).drop 24).drop 24), List.all_append, w_t6, ← List.take_append_drop 24 ((((((words1.drop 24).drop 24).drop 24).drop 24).drop 24).drop 24), List.all_append, w_t7, ← List.take_append_drop 24 (((((((words1.drop 24).drop 24).drop 24).drop 24).drop 24).drop 24).drop 24), List.all_append, w_t8, ← List.take_append_drop 24 ((((((((words1.drop 24).drop 24).drop 24).drop 24).drop 24).drop 24).drop 24).drop 24), List.all_append, w_t9, w_t10]
  rfl
set_option maxRecDepth 65536 in
theorem w_rest : rest_1_c.before args0 about1 = true := by decide +kernel
set_option maxRecDepth 65536 in
theorem w_case : (Jvm.Cond.and given_1 narrow_1).before args0 about1 = true := by decide +kernel
set_option maxRecDepth 65536 in
theorem w_consts : constsHeld consts_1 about1 := Jvm.Lit.constsHeldB_iff.mp (by decide +kernel)
theorem w_applies : (headSpec (Jvm.Cond.code x code maxLocals ret :: tables_1) room_1).applies x e0.platform about1 = true :=
  (Spec.applies_iff w_frames).mpr ⟨w_running, w_runnable, w_alone, w_named, w_hears, w_ripe, w_room, w_tables⟩
theorem atStart : AtStart classFile x code maxLocals ret World_1 tables_1 room_1 Calls_1 rest_1 Pre_1 launch0 p0 e0 about1 theMethod args0 below0 :=
  ⟨lists_1, trivial, launch0.admits_env _ _ _, launch0.least_env, fairChoices_fair.cas, fairChoices_fair.clock, w_frames, w_args, w_heap, w_applies, ⟨w_consts, trivial⟩, w_rest, w_case⟩
end start1
theorem witness_1 : WitnessClaimed_1 := ⟨start1.p0, start1.e0, start1.about1, start1.theMethod, start1.args0, start1.below0, start1.atStart⟩
end Jvm.Pilot.@@N@@
