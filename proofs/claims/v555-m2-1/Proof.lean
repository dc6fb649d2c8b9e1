import JvmDerived
import JvmDerived.Pilot.@@N@@Statement
import JvmDerived.Pilot.@@N@@Code
set_option linter.unusedVariables false
set_option linter.unusedSimpArgs false
namespace Jvm.Pilot.@@N@@
open Jvm Jvm.ClassFile Sem Op Lib Jvm.Free Jvm.Stand Jvm.LawKit Jvm.RoadKit Bundle Jvm.Pilot.@@N@@.Jvm.D
section OwnGo
variable {p : Program} {l : Launch} {e : Env} {R : Room} {s : State} {m : MethodId} {args : Array Value} {below : List Frame} {meth : Method} {c : Code} {T : State} {n0 cells slots cells' slots' : Nat} {Z : State} {a0 : Array Value} {h : Heap} {K : State → Outcome → Prop} {pc pc' : Nat} {Ls : Array Slot} {St : List Value} {own : String} {by0 : ByteArray} {ml : Nat}
/-- from state T with the frame g on top the run comes to an end of which K holds -/
def OGo (p : Program) (e : Env) (below : List Frame) (K : State → Outcome → Prop) (T : State) (g : JFrame) : Prop := ∃ t o, Steps p.tables e below (T.setTop g) t ∧ K t o
/-- what does not change during one body's walk -/
def Cx (p : Program) (s : State) (m : MethodId) (c : Code) (Z : State) (own : String) (by0 : ByteArray) (ml : Nat) : Prop := p.tables.exec = Jvm.exec ∧ Z.Warmed39 s.vm ∧ s.vm.findClass own = some m.cls ∧ c.code = by0 ∧ c.maxLocals = ml
/-- where the walk stands: heap h, only cells from n0 on written -/
def Sd (p : Program) (l : Launch) (e : Env) (R : Room) (s : State) (m : MethodId) (args : Array Value) (below : List Frame) (meth : Method) (c : Code) (n0 : Nat) (T : State) (h : Heap) (cells slots : Nat) : Prop := T.heap = h ∧ n0 ≤ h.size ∧ ∃ locs, Stand p l e R s m args below meth c T locs cells slots ∧ Fr n0 locs
/-- what a body owes at its end -/
def Kk (s : State) (below : List Frame) (n0 : Nat) (Q : Option Value → Heap → Prop) (nc ns : Nat) : State → Outcome → Prop := fun t o => t.status = .running ∧ Ended t below o ∧ ∃ v L, o = .returned v ∧ (Q v t.heap ∧ Fr n0 L) ∧ FrameEnd s o t L nc ns
/-- a body's contract -/
def Ctr (l : Launch) (Z : State) (y : MethodName) (by0 : ByteArray) (ml : Nat) (ret : Option FieldType) (rm : Room) (n0 : Nat) (as' : Array Value) (h : Heap) (Q : Option Value → Heap → Prop) : Prop :=
  ∀ ws, MetFree l y (head1 (Jvm.Cond.code y by0 ml ret :: ws) rm) (fun a U => a = as' ∧ Z.Warmed39 U.vm ∧ U.heap = h) (fun _ _ _ _ _ => True) (fun _ U o U' => ∃ v L, o = .returned v ∧ ((Q v U'.heap ∧ h.size ≤ U'.heap.size) ∧ Fr n0 L) ∧ FrameEnd U o U' L rm.cells rm.slots)
theorem OGo.st {T T' : State} {g g' : JFrame} (st : ∀ target, Steps p.tables e below (T'.setTop g') target → Steps p.tables e below (T.setTop g) target) (hr : OGo p e below K T' g') : OGo p e below K T g := by
  obtain ⟨t, o, h1, h2⟩ := hr
  exact ⟨t, o, st t h1, h2⟩
theorem OGo.tr {T T' : State} {g g' : JFrame} (st : Steps p.tables e below (T.setTop g) (T'.setTop g')) (hr : OGo p e below K T' g') : OGo p e below K T g := by
  obtain ⟨t, o, h1, h2⟩ := hr
  exact ⟨t, o, st.trans h1, h2⟩
theorem Ctr.of {y : MethodName} {ret : Option FieldType} {rm : Room} {as' : Array Value} {Q : Option Value → Heap → Prop} (hpl : plainFor y = true) (hn : n0 ≤ h.size)
    (body : ∀ p e s m below meth c T, Cx p s m c Z y.cls by0 ml → meth.name = y.name → meth.sig.returnType = ret → meth.locks = false → Sd p l e rm s m as' below meth c n0 T h 0 0 → OGo p e below (Kk s below n0 Q rm.cells rm.slots) T (entryFrame m as' ml)) :
    Ctr l Z y by0 ml ret rm n0 as' h Q := by
  intro ws
  refine MetFree.of_bodySF hpl hisR ?_
  intro p e s m args below meth c s₁ Bd hml0 hP hK
  obtain ⟨rfl, hZ, hh⟩ := hP
  have hown : s.vm.findClass y.cls = some m.cls := findClass_of_methodNamed Bd.named
  have hnm := (name_of_methodNamed Bd.named Bd.method).1
  have X0 := Stand.of_body Bd
  have e0 : s₁.heap = h := by rw [← hh, Bd.state]; rfl
  obtain ⟨t, o, h1, h2, h3, v, L, h4, ⟨h5, h6⟩, h7⟩ := body p e s m below meth c s₁ ⟨Bd.exec, hZ, hown, Bd.bytes, hml0⟩ hnm Bd.returns (BodyLoose.notSynchronized Bd) ⟨e0, hn, [], X0, Fr.nil n0⟩
  exact ⟨t, o, h1, h2, h3, v, L, h4, ⟨⟨h5, by rw [← hh]; exact h7.2.2.2.1⟩, h6⟩, h7⟩
theorem Ctr.mono {y : MethodName} {ret : Option FieldType} {rm : Room} {as' : Array Value} {Q Q' : Option Value → Heap → Prop} (hM : Ctr l Z y by0 ml ret rm n0 as' h Q) (hq : ∀ v h', Q v h' → Q' v h') : Ctr l Z y by0 ml ret rm n0 as' h Q' := by
  intro ws p e ha hc hk s m args below hf happ hP hK
  obtain ⟨n, o, h1, h2, h3, v, L, h4, ⟨⟨h5, h8⟩, h6⟩, h7⟩ := hM ws p e ha hc hk s m args below hf happ hP hK
  exact ⟨n, o, h1, h2, h3, v, L, h4, ⟨⟨hq _ _ h5, h8⟩, h6⟩, h7⟩
theorem Sd.up (X : Sd p l e R s m args below meth c n0 T h cells slots) (hc : cells ≤ cells') (hs : slots ≤ slots') : Sd p l e R s m args below meth c n0 T h cells' slots' := by
  obtain ⟨h1, h2, locs, Y, N⟩ := X
  exact ⟨h1, h2, locs, { Y with same := Y.same.mono hc hs }, N⟩
theorem OGo.iload (C : Cx p s m c Z own by0 ml) (X : Sd p l e R s m args below meth c n0 T h cells slots) {k : Nat} {v : Int32} (hd : decode by0 pc = .ok (.iload k, 2)) (hp : pc + 2 = pc') (hl : Ls[k]? = some (.val (.int v))) (hr : OGo p e below K T (mkF m pc' Ls (.int v :: St))) : OGo p e below K T (mkF m pc Ls (St)) := by
  subst hp
  obtain ⟨-, -, locs, Y, -⟩ := X
  exact OGo.st (fun t k => XS.iload Y.here C.1 rfl (hb C.2.2.2.1 hd) hl k) hr
theorem OGo.iloadN (C : Cx p s m c Z own by0 ml) (X : Sd p l e R s m args below meth c n0 T h cells slots) {k : Fin 4} {v : Int32} (hd : decode by0 pc = .ok (.iload_n k, 1)) (hp : pc + 1 = pc') (hl : Ls[k.val]? = some (.val (.int v))) (hr : OGo p e below K T (mkF m pc' Ls (.int v :: St))) : OGo p e below K T (mkF m pc Ls (St)) := by
  subst hp
  obtain ⟨-, -, locs, Y, -⟩ := X
  exact OGo.st (fun t k => XS.iloadN Y.here C.1 rfl (hb C.2.2.2.1 hd) hl k) hr
theorem OGo.lload (C : Cx p s m c Z own by0 ml) (X : Sd p l e R s m args below meth c n0 T h cells slots) {k : Nat} {v : Int64} (hd : decode by0 pc = .ok (.lload k, 2)) (hp : pc + 2 = pc') (hl : Ls[k]? = some (.val (.long v))) (hr : OGo p e below K T (mkF m pc' Ls (.long v :: St))) : OGo p e below K T (mkF m pc Ls (St)) := by
  subst hp
  obtain ⟨-, -, locs, Y, -⟩ := X
  exact OGo.st (fun t k => XS.lload Y.here C.1 rfl (hb C.2.2.2.1 hd) hl k) hr
theorem OGo.lloadN (C : Cx p s m c Z own by0 ml) (X : Sd p l e R s m args below meth c n0 T h cells slots) {k : Fin 4} {v : Int64} (hd : decode by0 pc = .ok (.lload_n k, 1)) (hp : pc + 1 = pc') (hl : Ls[k.val]? = some (.val (.long v))) (hr : OGo p e below K T (mkF m pc' Ls (.long v :: St))) : OGo p e below K T (mkF m pc Ls (St)) := by
  subst hp
  obtain ⟨-, -, locs, Y, -⟩ := X
  exact OGo.st (fun t k => XS.lloadN Y.here C.1 rfl (hb C.2.2.2.1 hd) hl k) hr
theorem OGo.dload (C : Cx p s m c Z own by0 ml) (X : Sd p l e R s m args below meth c n0 T h cells slots) {k : Nat} {v : UInt64} (hd : decode by0 pc = .ok (.dload k, 2)) (hp : pc + 2 = pc') (hl : Ls[k]? = some (.val (.double v))) (hr : OGo p e below K T (mkF m pc' Ls (.double v :: St))) : OGo p e below K T (mkF m pc Ls (St)) := by
  subst hp
  obtain ⟨-, -, locs, Y, -⟩ := X
  exact OGo.st (fun t k => XS.dload Y.here C.1 rfl (hb C.2.2.2.1 hd) hl k) hr
theorem OGo.dloadN (C : Cx p s m c Z own by0 ml) (X : Sd p l e R s m args below meth c n0 T h cells slots) {k : Fin 4} {v : UInt64} (hd : decode by0 pc = .ok (.dload_n k, 1)) (hp : pc + 1 = pc') (hl : Ls[k.val]? = some (.val (.double v))) (hr : OGo p e below K T (mkF m pc' Ls (.double v :: St))) : OGo p e below K T (mkF m pc Ls (St)) := by
  subst hp
  obtain ⟨-, -, locs, Y, -⟩ := X
  exact OGo.st (fun t k => XS.dloadN Y.here C.1 rfl (hb C.2.2.2.1 hd) hl k) hr
theorem OGo.aload (C : Cx p s m c Z own by0 ml) (X : Sd p l e R s m args below meth c n0 T h cells slots) {k : Nat} {v : Value} (hd : decode by0 pc = .ok (.aload k, 2)) (hp : pc + 2 = pc') (hl : Ls[k]? = some (.val v)) (hv : v.isRef = true) (hr : OGo p e below K T (mkF m pc' Ls (v :: St))) : OGo p e below K T (mkF m pc Ls (St)) := by
  subst hp
  obtain ⟨-, -, locs, Y, -⟩ := X
  exact OGo.st (fun t k => XS.aload Y.here C.1 rfl (hb C.2.2.2.1 hd) hl hv k) hr
theorem OGo.aloadN (C : Cx p s m c Z own by0 ml) (X : Sd p l e R s m args below meth c n0 T h cells slots) {k : Fin 4} {v : Value} (hd : decode by0 pc = .ok (.aload_n k, 1)) (hp : pc + 1 = pc') (hl : Ls[k.val]? = some (.val v)) (hv : v.isRef = true) (hr : OGo p e below K T (mkF m pc' Ls (v :: St))) : OGo p e below K T (mkF m pc Ls (St)) := by
  subst hp
  obtain ⟨-, -, locs, Y, -⟩ := X
  exact OGo.st (fun t k => XS.aloadN Y.here C.1 rfl (hb C.2.2.2.1 hd) hl hv k) hr
theorem OGo.istore (C : Cx p s m c Z own by0 ml) (X : Sd p l e R s m args below meth c n0 T h cells slots) {k : Nat} {x : Int32} {l' : Array Slot} (hd : decode by0 pc = .ok (.istore k, 2)) (hp : pc + 2 = pc') (hl : storeLocals Ls k (.int x) = some l') (hr : OGo p e below K T (mkF m pc' l' (St))) : OGo p e below K T (mkF m pc Ls (.int x :: St)) := by
  subst hp
  obtain ⟨-, -, locs, Y, -⟩ := X
  exact OGo.st (fun t k => XS.istore Y.here C.1 rfl (hb C.2.2.2.1 hd) rfl hl k) hr
theorem OGo.istoreN (C : Cx p s m c Z own by0 ml) (X : Sd p l e R s m args below meth c n0 T h cells slots) {k : Fin 4} {x : Int32} {l' : Array Slot} (hd : decode by0 pc = .ok (.istore_n k, 1)) (hp : pc + 1 = pc') (hl : storeLocals Ls k.val (.int x) = some l') (hr : OGo p e below K T (mkF m pc' l' (St))) : OGo p e below K T (mkF m pc Ls (.int x :: St)) := by
  subst hp
  obtain ⟨-, -, locs, Y, -⟩ := X
  exact OGo.st (fun t k => XS.istoreN Y.here C.1 rfl (hb C.2.2.2.1 hd) rfl hl k) hr
theorem OGo.lstore (C : Cx p s m c Z own by0 ml) (X : Sd p l e R s m args below meth c n0 T h cells slots) {k : Nat} {x : Int64} {l' : Array Slot} (hd : decode by0 pc = .ok (.lstore k, 2)) (hp : pc + 2 = pc') (hl : storeLocals Ls k (.long x) = some l') (hr : OGo p e below K T (mkF m pc' l' (St))) : OGo p e below K T (mkF m pc Ls (.long x :: St)) := by
  subst hp
  obtain ⟨-, -, locs, Y, -⟩ := X
  exact OGo.st (fun t k => XS.lstore Y.here C.1 rfl (hb C.2.2.2.1 hd) rfl hl k) hr
theorem OGo.lstoreN (C : Cx p s m c Z own by0 ml) (X : Sd p l e R s m args below meth c n0 T h cells slots) {k : Fin 4} {x : Int64} {l' : Array Slot} (hd : decode by0 pc = .ok (.lstore_n k, 1)) (hp : pc + 1 = pc') (hl : storeLocals Ls k.val (.long x) = some l') (hr : OGo p e below K T (mkF m pc' l' (St))) : OGo p e below K T (mkF m pc Ls (.long x :: St)) := by
  subst hp
  obtain ⟨-, -, locs, Y, -⟩ := X
  exact OGo.st (fun t k => XS.lstoreN Y.here C.1 rfl (hb C.2.2.2.1 hd) rfl hl k) hr
theorem OGo.dstore (C : Cx p s m c Z own by0 ml) (X : Sd p l e R s m args below meth c n0 T h cells slots) {k : Nat} {x : UInt64} {l' : Array Slot} (hd : decode by0 pc = .ok (.dstore k, 2)) (hp : pc + 2 = pc') (hl : storeLocals Ls k (.double x) = some l') (hr : OGo p e below K T (mkF m pc' l' (St))) : OGo p e below K T (mkF m pc Ls (.double x :: St)) := by
  subst hp
  obtain ⟨-, -, locs, Y, -⟩ := X
  exact OGo.st (fun t k => XS.dstore Y.here C.1 rfl (hb C.2.2.2.1 hd) rfl hl k) hr
theorem OGo.dstoreN (C : Cx p s m c Z own by0 ml) (X : Sd p l e R s m args below meth c n0 T h cells slots) {k : Fin 4} {x : UInt64} {l' : Array Slot} (hd : decode by0 pc = .ok (.dstore_n k, 1)) (hp : pc + 1 = pc') (hl : storeLocals Ls k.val (.double x) = some l') (hr : OGo p e below K T (mkF m pc' l' (St))) : OGo p e below K T (mkF m pc Ls (.double x :: St)) := by
  subst hp
  obtain ⟨-, -, locs, Y, -⟩ := X
  exact OGo.st (fun t k => XS.dstoreN Y.here C.1 rfl (hb C.2.2.2.1 hd) rfl hl k) hr
theorem OGo.astore (C : Cx p s m c Z own by0 ml) (X : Sd p l e R s m args below meth c n0 T h cells slots) {k : Nat} {x : Value} {l' : Array Slot} (hd : decode by0 pc = .ok (.astore k, 2)) (hp : pc + 2 = pc') (hv : x.isRef = true) (hl : storeLocals Ls k x = some l') (hr : OGo p e below K T (mkF m pc' l' (St))) : OGo p e below K T (mkF m pc Ls (x :: St)) := by
  subst hp
  obtain ⟨-, -, locs, Y, -⟩ := X
  exact OGo.st (fun t k => XS.astore Y.here C.1 rfl (hb C.2.2.2.1 hd) rfl hv hl k) hr
theorem OGo.astoreN (C : Cx p s m c Z own by0 ml) (X : Sd p l e R s m args below meth c n0 T h cells slots) {k : Fin 4} {x : Value} {l' : Array Slot} (hd : decode by0 pc = .ok (.astore_n k, 1)) (hp : pc + 1 = pc') (hv : x.isRef = true) (hl : storeLocals Ls k.val x = some l') (hr : OGo p e below K T (mkF m pc' l' (St))) : OGo p e below K T (mkF m pc Ls (x :: St)) := by
  subst hp
  obtain ⟨-, -, locs, Y, -⟩ := X
  exact OGo.st (fun t k => XS.astoreN Y.here C.1 rfl (hb C.2.2.2.1 hd) rfl hv hl k) hr
theorem OGo.iconst (C : Cx p s m c Z own by0 ml) (X : Sd p l e R s m args below meth c n0 T h cells slots) {i : Int} {z : Int32} (hd : decode by0 pc = .ok (.iconst i, 1)) (hp : pc + 1 = pc') (hz : Int32.ofInt i = z) (hr : OGo p e below K T (mkF m pc' Ls (.int z :: St))) : OGo p e below K T (mkF m pc Ls (St)) := by
  subst hp
  subst hz
  obtain ⟨-, -, locs, Y, -⟩ := X
  exact OGo.st (fun t k => XS.iconst Y.here C.1 rfl (hb C.2.2.2.1 hd)  k) hr
theorem OGo.bipush (C : Cx p s m c Z own by0 ml) (X : Sd p l e R s m args below meth c n0 T h cells slots) {i : Int} {z : Int32} (hd : decode by0 pc = .ok (.bipush i, 2)) (hp : pc + 2 = pc') (hz : (Int8.ofInt i).toInt32 = z) (hr : OGo p e below K T (mkF m pc' Ls (.int z :: St))) : OGo p e below K T (mkF m pc Ls (St)) := by
  subst hp
  subst hz
  obtain ⟨-, -, locs, Y, -⟩ := X
  exact OGo.st (fun t k => XS.bipush Y.here C.1 rfl (hb C.2.2.2.1 hd)  k) hr
theorem OGo.sipush (C : Cx p s m c Z own by0 ml) (X : Sd p l e R s m args below meth c n0 T h cells slots) {i : Int} {z : Int32} (hd : decode by0 pc = .ok (.sipush i, 3)) (hp : pc + 3 = pc') (hz : (Int16.ofInt i).toInt32 = z) (hr : OGo p e below K T (mkF m pc' Ls (.int z :: St))) : OGo p e below K T (mkF m pc Ls (St)) := by
  subst hp
  subst hz
  obtain ⟨-, -, locs, Y, -⟩ := X
  exact OGo.st (fun t k => XS.sipush Y.here C.1 rfl (hb C.2.2.2.1 hd)  k) hr
theorem OGo.lconst (C : Cx p s m c Z own by0 ml) (X : Sd p l e R s m args below meth c n0 T h cells slots) {k : Fin 2} {z : Int64} (hd : decode by0 pc = .ok (.lconst k, 1)) (hp : pc + 1 = pc') (hz : Int64.ofNat k = z) (hr : OGo p e below K T (mkF m pc' Ls (.long z :: St))) : OGo p e below K T (mkF m pc Ls (St)) := by
  subst hp
  subst hz
  obtain ⟨-, -, locs, Y, -⟩ := X
  exact OGo.st (fun t k => XS.lconst Y.here C.1 rfl (hb C.2.2.2.1 hd)  k) hr
theorem OGo.dconst0 (C : Cx p s m c Z own by0 ml) (X : Sd p l e R s m args below meth c n0 T h cells slots) {v : UInt64} (hd : decode by0 pc = .ok (.dconst 0, 1)) (hp : pc + 1 = pc') (hz : FP.dconst0 = v) (hr : OGo p e below K T (mkF m pc' Ls (.double v :: St))) : OGo p e below K T (mkF m pc Ls (St)) := by
  subst hp
  obtain ⟨-, -, locs, Y, -⟩ := X
  exact OGo.st (fun t k => XS.dconst0 Y.here C.1 rfl (hb C.2.2.2.1 hd) hz k) hr
theorem OGo.dconst1 (C : Cx p s m c Z own by0 ml) (X : Sd p l e R s m args below meth c n0 T h cells slots) {v : UInt64} (hd : decode by0 pc = .ok (.dconst 1, 1)) (hp : pc + 1 = pc') (hz : FP.dconst1 = v) (hr : OGo p e below K T (mkF m pc' Ls (.double v :: St))) : OGo p e below K T (mkF m pc Ls (St)) := by
  subst hp
  obtain ⟨-, -, locs, Y, -⟩ := X
  exact OGo.st (fun t k => XS.dconst1 Y.here C.1 rfl (hb C.2.2.2.1 hd) hz k) hr
theorem OGo.aconst_null (C : Cx p s m c Z own by0 ml) (X : Sd p l e R s m args below meth c n0 T h cells slots)  (hd : decode by0 pc = .ok (.aconst_null, 1)) (hp : pc + 1 = pc')  (hr : OGo p e below K T (mkF m pc' Ls (.null :: St))) : OGo p e below K T (mkF m pc Ls (St)) := by
  subst hp
  obtain ⟨-, -, locs, Y, -⟩ := X
  exact OGo.st (fun t k => XS.aconstNull Y.here C.1 rfl (hb C.2.2.2.1 hd)  k) hr
theorem OGo.iadd (C : Cx p s m c Z own by0 ml) (X : Sd p l e R s m args below meth c n0 T h cells slots) {x y z : Int32} (hd : decode by0 pc = .ok (.iadd, 1)) (hp : pc + 1 = pc') (hz : x + y = z) (hr : OGo p e below K T (mkF m pc' Ls (.int z :: St))) : OGo p e below K T (mkF m pc Ls (.int y :: .int x :: St)) := by
  subst hp
  subst hz
  obtain ⟨-, -, locs, Y, -⟩ := X
  exact OGo.st (fun t k => XS.iadd Y.here C.1 rfl (hb C.2.2.2.1 hd) rfl k) hr
theorem OGo.isub (C : Cx p s m c Z own by0 ml) (X : Sd p l e R s m args below meth c n0 T h cells slots) {x y z : Int32} (hd : decode by0 pc = .ok (.isub, 1)) (hp : pc + 1 = pc') (hz : x - y = z) (hr : OGo p e below K T (mkF m pc' Ls (.int z :: St))) : OGo p e below K T (mkF m pc Ls (.int y :: .int x :: St)) := by
  subst hp
  subst hz
  obtain ⟨-, -, locs, Y, -⟩ := X
  exact OGo.st (fun t k => XS.isub Y.here C.1 rfl (hb C.2.2.2.1 hd) rfl k) hr
theorem OGo.imul (C : Cx p s m c Z own by0 ml) (X : Sd p l e R s m args below meth c n0 T h cells slots) {x y z : Int32} (hd : decode by0 pc = .ok (.imul, 1)) (hp : pc + 1 = pc') (hz : x * y = z) (hr : OGo p e below K T (mkF m pc' Ls (.int z :: St))) : OGo p e below K T (mkF m pc Ls (.int y :: .int x :: St)) := by
  subst hp
  subst hz
  obtain ⟨-, -, locs, Y, -⟩ := X
  exact OGo.st (fun t k => XS.imul Y.here C.1 rfl (hb C.2.2.2.1 hd) rfl k) hr
theorem OGo.iand (C : Cx p s m c Z own by0 ml) (X : Sd p l e R s m args below meth c n0 T h cells slots) {x y z : Int32} (hd : decode by0 pc = .ok (.iand, 1)) (hp : pc + 1 = pc') (hz : x &&& y = z) (hr : OGo p e below K T (mkF m pc' Ls (.int z :: St))) : OGo p e below K T (mkF m pc Ls (.int y :: .int x :: St)) := by
  subst hp
  subst hz
  obtain ⟨-, -, locs, Y, -⟩ := X
  exact OGo.st (fun t k => XS.iand Y.here C.1 rfl (hb C.2.2.2.1 hd) rfl k) hr
theorem OGo.ior (C : Cx p s m c Z own by0 ml) (X : Sd p l e R s m args below meth c n0 T h cells slots) {x y z : Int32} (hd : decode by0 pc = .ok (.ior, 1)) (hp : pc + 1 = pc') (hz : x ||| y = z) (hr : OGo p e below K T (mkF m pc' Ls (.int z :: St))) : OGo p e below K T (mkF m pc Ls (.int y :: .int x :: St)) := by
  subst hp
  subst hz
  obtain ⟨-, -, locs, Y, -⟩ := X
  exact OGo.st (fun t k => XS.ior Y.here C.1 rfl (hb C.2.2.2.1 hd) rfl k) hr
theorem OGo.ixor (C : Cx p s m c Z own by0 ml) (X : Sd p l e R s m args below meth c n0 T h cells slots) {x y z : Int32} (hd : decode by0 pc = .ok (.ixor, 1)) (hp : pc + 1 = pc') (hz : x ^^^ y = z) (hr : OGo p e below K T (mkF m pc' Ls (.int z :: St))) : OGo p e below K T (mkF m pc Ls (.int y :: .int x :: St)) := by
  subst hp
  subst hz
  obtain ⟨-, -, locs, Y, -⟩ := X
  exact OGo.st (fun t k => XS.ixor Y.here C.1 rfl (hb C.2.2.2.1 hd) rfl k) hr
theorem OGo.ishl (C : Cx p s m c Z own by0 ml) (X : Sd p l e R s m args below meth c n0 T h cells slots) {x y z : Int32} (hd : decode by0 pc = .ok (.ishl, 1)) (hp : pc + 1 = pc') (hz : x <<< (y &&& 31) = z) (hr : OGo p e below K T (mkF m pc' Ls (.int z :: St))) : OGo p e below K T (mkF m pc Ls (.int y :: .int x :: St)) := by
  subst hp
  subst hz
  obtain ⟨-, -, locs, Y, -⟩ := X
  exact OGo.st (fun t k => XS.ishl Y.here C.1 rfl (hb C.2.2.2.1 hd) rfl k) hr
theorem OGo.ishr (C : Cx p s m c Z own by0 ml) (X : Sd p l e R s m args below meth c n0 T h cells slots) {x y z : Int32} (hd : decode by0 pc = .ok (.ishr, 1)) (hp : pc + 1 = pc') (hz : x >>> (y &&& 31) = z) (hr : OGo p e below K T (mkF m pc' Ls (.int z :: St))) : OGo p e below K T (mkF m pc Ls (.int y :: .int x :: St)) := by
  subst hp
  subst hz
  obtain ⟨-, -, locs, Y, -⟩ := X
  exact OGo.st (fun t k => XS.ishr Y.here C.1 rfl (hb C.2.2.2.1 hd) rfl k) hr
theorem OGo.iushr (C : Cx p s m c Z own by0 ml) (X : Sd p l e R s m args below meth c n0 T h cells slots) {x y z : Int32} (hd : decode by0 pc = .ok (.iushr, 1)) (hp : pc + 1 = pc') (hz : (x.toUInt32 >>> (y &&& 31).toUInt32).toInt32 = z) (hr : OGo p e below K T (mkF m pc' Ls (.int z :: St))) : OGo p e below K T (mkF m pc Ls (.int y :: .int x :: St)) := by
  subst hp
  subst hz
  obtain ⟨-, -, locs, Y, -⟩ := X
  exact OGo.st (fun t k => XS.iushr Y.here C.1 rfl (hb C.2.2.2.1 hd) rfl k) hr
theorem OGo.idiv (C : Cx p s m c Z own by0 ml) (X : Sd p l e R s m args below meth c n0 T h cells slots) {x y z : Int32} (hd : decode by0 pc = .ok (.idiv, 1)) (hp : pc + 1 = pc') (hy : y ≠ 0) (hz : x / y = z) (hr : OGo p e below K T (mkF m pc' Ls (.int z :: St))) : OGo p e below K T (mkF m pc Ls (.int y :: .int x :: St)) := by
  subst hp
  subst hz
  obtain ⟨-, -, locs, Y, -⟩ := X
  exact OGo.st (fun t k => XS.idiv Y.here C.1 rfl (hb C.2.2.2.1 hd) rfl hy k) hr
theorem OGo.irem (C : Cx p s m c Z own by0 ml) (X : Sd p l e R s m args below meth c n0 T h cells slots) {x y z : Int32} (hd : decode by0 pc = .ok (.irem, 1)) (hp : pc + 1 = pc') (hy : y ≠ 0) (hz : x % y = z) (hr : OGo p e below K T (mkF m pc' Ls (.int z :: St))) : OGo p e below K T (mkF m pc Ls (.int y :: .int x :: St)) := by
  subst hp
  subst hz
  obtain ⟨-, -, locs, Y, -⟩ := X
  exact OGo.st (fun t k => iremM Y C.1 rfl (hb C.2.2.2.1 hd) rfl hy k) hr
theorem OGo.ineg (C : Cx p s m c Z own by0 ml) (X : Sd p l e R s m args below meth c n0 T h cells slots) {x z : Int32} (hd : decode by0 pc = .ok (.ineg, 1)) (hp : pc + 1 = pc') (hz : -x = z) (hr : OGo p e below K T (mkF m pc' Ls (.int z :: St))) : OGo p e below K T (mkF m pc Ls (.int x :: St)) := by
  subst hp
  subst hz
  obtain ⟨-, -, locs, Y, -⟩ := X
  exact OGo.st (fun t k => XS.ineg Y.here C.1 rfl (hb C.2.2.2.1 hd) rfl k) hr
theorem OGo.iinc (C : Cx p s m c Z own by0 ml) (X : Sd p l e R s m args below meth c n0 T h cells slots) {k : Nat} {cst : Int} {x z : Int32} {l' : Array Slot} (hd : decode by0 pc = .ok (.iinc k cst, 3)) (hp : pc + 3 = pc') (hl : Ls[k]? = some (.val (.int x))) (hz : x + Int32.ofInt cst = z) (hl' : storeLocals Ls k (.int z) = some l') (hr : OGo p e below K T (mkF m pc' l' (St))) : OGo p e below K T (mkF m pc Ls (St)) := by
  subst hp
  subst hz
  obtain ⟨-, -, locs, Y, -⟩ := X
  exact OGo.st (fun t k => XS.iinc Y.here C.1 rfl (hb C.2.2.2.1 hd) hl hl' k) hr
theorem OGo.ladd (C : Cx p s m c Z own by0 ml) (X : Sd p l e R s m args below meth c n0 T h cells slots) {x y z : Int64} (hd : decode by0 pc = .ok (.ladd, 1)) (hp : pc + 1 = pc') (hz : x + y = z) (hr : OGo p e below K T (mkF m pc' Ls (.long z :: St))) : OGo p e below K T (mkF m pc Ls (.long y :: .long x :: St)) := by
  subst hp
  subst hz
  obtain ⟨-, -, locs, Y, -⟩ := X
  exact OGo.st (fun t k => XS.ladd Y.here C.1 rfl (hb C.2.2.2.1 hd) rfl k) hr
theorem OGo.lsub (C : Cx p s m c Z own by0 ml) (X : Sd p l e R s m args below meth c n0 T h cells slots) {x y z : Int64} (hd : decode by0 pc = .ok (.lsub, 1)) (hp : pc + 1 = pc') (hz : x - y = z) (hr : OGo p e below K T (mkF m pc' Ls (.long z :: St))) : OGo p e below K T (mkF m pc Ls (.long y :: .long x :: St)) := by
  subst hp
  subst hz
  obtain ⟨-, -, locs, Y, -⟩ := X
  exact OGo.st (fun t k => XS.lsub Y.here C.1 rfl (hb C.2.2.2.1 hd) rfl k) hr
theorem OGo.lmul (C : Cx p s m c Z own by0 ml) (X : Sd p l e R s m args below meth c n0 T h cells slots) {x y z : Int64} (hd : decode by0 pc = .ok (.lmul, 1)) (hp : pc + 1 = pc') (hz : x * y = z) (hr : OGo p e below K T (mkF m pc' Ls (.long z :: St))) : OGo p e below K T (mkF m pc Ls (.long y :: .long x :: St)) := by
  subst hp
  subst hz
  obtain ⟨-, -, locs, Y, -⟩ := X
  exact OGo.st (fun t k => XS.lmul Y.here C.1 rfl (hb C.2.2.2.1 hd) rfl k) hr
theorem OGo.land (C : Cx p s m c Z own by0 ml) (X : Sd p l e R s m args below meth c n0 T h cells slots) {x y z : Int64} (hd : decode by0 pc = .ok (.land, 1)) (hp : pc + 1 = pc') (hz : x &&& y = z) (hr : OGo p e below K T (mkF m pc' Ls (.long z :: St))) : OGo p e below K T (mkF m pc Ls (.long y :: .long x :: St)) := by
  subst hp
  subst hz
  obtain ⟨-, -, locs, Y, -⟩ := X
  exact OGo.st (fun t k => XS.land Y.here C.1 rfl (hb C.2.2.2.1 hd) rfl k) hr
theorem OGo.lor (C : Cx p s m c Z own by0 ml) (X : Sd p l e R s m args below meth c n0 T h cells slots) {x y z : Int64} (hd : decode by0 pc = .ok (.lor, 1)) (hp : pc + 1 = pc') (hz : x ||| y = z) (hr : OGo p e below K T (mkF m pc' Ls (.long z :: St))) : OGo p e below K T (mkF m pc Ls (.long y :: .long x :: St)) := by
  subst hp
  subst hz
  obtain ⟨-, -, locs, Y, -⟩ := X
  exact OGo.st (fun t k => XS.lor Y.here C.1 rfl (hb C.2.2.2.1 hd) rfl k) hr
theorem OGo.lxor (C : Cx p s m c Z own by0 ml) (X : Sd p l e R s m args below meth c n0 T h cells slots) {x y z : Int64} (hd : decode by0 pc = .ok (.lxor, 1)) (hp : pc + 1 = pc') (hz : x ^^^ y = z) (hr : OGo p e below K T (mkF m pc' Ls (.long z :: St))) : OGo p e below K T (mkF m pc Ls (.long y :: .long x :: St)) := by
  subst hp
  subst hz
  obtain ⟨-, -, locs, Y, -⟩ := X
  exact OGo.st (fun t k => XS.lxor Y.here C.1 rfl (hb C.2.2.2.1 hd) rfl k) hr
theorem OGo.lshl (C : Cx p s m c Z own by0 ml) (X : Sd p l e R s m args below meth c n0 T h cells slots) {x z : Int64} {y : Int32} (hd : decode by0 pc = .ok (.lshl, 1)) (hp : pc + 1 = pc') (hz : x <<< (y &&& 0x3f).toInt64 = z) (hr : OGo p e below K T (mkF m pc' Ls (.long z :: St))) : OGo p e below K T (mkF m pc Ls (.int y :: .long x :: St)) := by
  subst hp
  subst hz
  obtain ⟨-, -, locs, Y, -⟩ := X
  exact OGo.st (fun t k => XS.lshl Y.here C.1 rfl (hb C.2.2.2.1 hd) rfl k) hr
theorem OGo.lshr (C : Cx p s m c Z own by0 ml) (X : Sd p l e R s m args below meth c n0 T h cells slots) {x z : Int64} {y : Int32} (hd : decode by0 pc = .ok (.lshr, 1)) (hp : pc + 1 = pc') (hz : x >>> (y &&& 0x3f).toInt64 = z) (hr : OGo p e below K T (mkF m pc' Ls (.long z :: St))) : OGo p e below K T (mkF m pc Ls (.int y :: .long x :: St)) := by
  subst hp
  subst hz
  obtain ⟨-, -, locs, Y, -⟩ := X
  exact OGo.st (fun t k => XS.lshr Y.here C.1 rfl (hb C.2.2.2.1 hd) rfl k) hr
theorem OGo.lushr (C : Cx p s m c Z own by0 ml) (X : Sd p l e R s m args below meth c n0 T h cells slots) {x z : Int64} {y : Int32} (hd : decode by0 pc = .ok (.lushr, 1)) (hp : pc + 1 = pc') (hz : (x.toUInt64 >>> (y &&& 0x3f).toInt64.toUInt64).toInt64 = z) (hr : OGo p e below K T (mkF m pc' Ls (.long z :: St))) : OGo p e below K T (mkF m pc Ls (.int y :: .long x :: St)) := by
  subst hp
  subst hz
  obtain ⟨-, -, locs, Y, -⟩ := X
  exact OGo.st (fun t k => XS.lushr Y.here C.1 rfl (hb C.2.2.2.1 hd) rfl k) hr
theorem OGo.ldiv (C : Cx p s m c Z own by0 ml) (X : Sd p l e R s m args below meth c n0 T h cells slots) {x y z : Int64} (hd : decode by0 pc = .ok (.ldiv, 1)) (hp : pc + 1 = pc') (hy : y ≠ 0) (hz : x / y = z) (hr : OGo p e below K T (mkF m pc' Ls (.long z :: St))) : OGo p e below K T (mkF m pc Ls (.long y :: .long x :: St)) := by
  subst hp
  subst hz
  obtain ⟨-, -, locs, Y, -⟩ := X
  exact OGo.st (fun t k => XS.ldiv Y.here C.1 rfl (hb C.2.2.2.1 hd) rfl hy k) hr
theorem OGo.lrem (C : Cx p s m c Z own by0 ml) (X : Sd p l e R s m args below meth c n0 T h cells slots) {x y z : Int64} (hd : decode by0 pc = .ok (.lrem, 1)) (hp : pc + 1 = pc') (hy : y ≠ 0) (hz : x - (x / y) * y = z) (hr : OGo p e below K T (mkF m pc' Ls (.long z :: St))) : OGo p e below K T (mkF m pc Ls (.long y :: .long x :: St)) := by
  subst hp
  subst hz
  obtain ⟨-, -, locs, Y, -⟩ := X
  exact OGo.st (fun t k => XS.lrem Y.here C.1 rfl (hb C.2.2.2.1 hd) rfl hy k) hr
theorem OGo.lneg (C : Cx p s m c Z own by0 ml) (X : Sd p l e R s m args below meth c n0 T h cells slots) {x z : Int64} (hd : decode by0 pc = .ok (.lneg, 1)) (hp : pc + 1 = pc') (hz : -x = z) (hr : OGo p e below K T (mkF m pc' Ls (.long z :: St))) : OGo p e below K T (mkF m pc Ls (.long x :: St)) := by
  subst hp
  subst hz
  obtain ⟨-, -, locs, Y, -⟩ := X
  exact OGo.st (fun t k => XS.lneg Y.here C.1 rfl (hb C.2.2.2.1 hd) rfl k) hr
theorem OGo.i2l (C : Cx p s m c Z own by0 ml) (X : Sd p l e R s m args below meth c n0 T h cells slots) {x : Int32} {z : Int64} (hd : decode by0 pc = .ok (.i2l, 1)) (hp : pc + 1 = pc') (hz : x.toInt64 = z) (hr : OGo p e below K T (mkF m pc' Ls (.long z :: St))) : OGo p e below K T (mkF m pc Ls (.int x :: St)) := by
  subst hp
  subst hz
  obtain ⟨-, -, locs, Y, -⟩ := X
  exact OGo.st (fun t k => XS.i2l Y.here C.1 rfl (hb C.2.2.2.1 hd) rfl k) hr
theorem OGo.l2i (C : Cx p s m c Z own by0 ml) (X : Sd p l e R s m args below meth c n0 T h cells slots) {x : Int64} {z : Int32} (hd : decode by0 pc = .ok (.l2i, 1)) (hp : pc + 1 = pc') (hz : x.toInt32 = z) (hr : OGo p e below K T (mkF m pc' Ls (.int z :: St))) : OGo p e below K T (mkF m pc Ls (.long x :: St)) := by
  subst hp
  subst hz
  obtain ⟨-, -, locs, Y, -⟩ := X
  exact OGo.st (fun t k => XS.l2i Y.here C.1 rfl (hb C.2.2.2.1 hd) rfl k) hr
theorem OGo.i2b (C : Cx p s m c Z own by0 ml) (X : Sd p l e R s m args below meth c n0 T h cells slots) {x : Int32} {z : Int32} (hd : decode by0 pc = .ok (.i2b, 1)) (hp : pc + 1 = pc') (hz : x.toInt8.toInt32 = z) (hr : OGo p e below K T (mkF m pc' Ls (.int z :: St))) : OGo p e below K T (mkF m pc Ls (.int x :: St)) := by
  subst hp
  subst hz
  obtain ⟨-, -, locs, Y, -⟩ := X
  exact OGo.st (fun t k => XS.i2b Y.here C.1 rfl (hb C.2.2.2.1 hd) rfl k) hr
theorem OGo.i2c (C : Cx p s m c Z own by0 ml) (X : Sd p l e R s m args below meth c n0 T h cells slots) {x : Int32} {z : Int32} (hd : decode by0 pc = .ok (.i2c, 1)) (hp : pc + 1 = pc') (hz : x.toUInt32.toUInt16.toUInt32.toInt32 = z) (hr : OGo p e below K T (mkF m pc' Ls (.int z :: St))) : OGo p e below K T (mkF m pc Ls (.int x :: St)) := by
  subst hp
  subst hz
  obtain ⟨-, -, locs, Y, -⟩ := X
  exact OGo.st (fun t k => XS.i2c Y.here C.1 rfl (hb C.2.2.2.1 hd) rfl k) hr
theorem OGo.i2s (C : Cx p s m c Z own by0 ml) (X : Sd p l e R s m args below meth c n0 T h cells slots) {x : Int32} {z : Int32} (hd : decode by0 pc = .ok (.i2s, 1)) (hp : pc + 1 = pc') (hz : x.toInt16.toInt32 = z) (hr : OGo p e below K T (mkF m pc' Ls (.int z :: St))) : OGo p e below K T (mkF m pc Ls (.int x :: St)) := by
  subst hp
  subst hz
  obtain ⟨-, -, locs, Y, -⟩ := X
  exact OGo.st (fun t k => XS.i2s Y.here C.1 rfl (hb C.2.2.2.1 hd) rfl k) hr
theorem OGo.lcmp (C : Cx p s m c Z own by0 ml) (X : Sd p l e R s m args below meth c n0 T h cells slots) {x y : Int64} {z : Int32} (hd : decode by0 pc = .ok (.lcmp, 1)) (hp : pc + 1 = pc') (hz : lcmpW x y = z) (hr : OGo p e below K T (mkF m pc' Ls (.int z :: St))) : OGo p e below K T (mkF m pc Ls (.long y :: .long x :: St)) := by
  subst hp
  subst hz
  obtain ⟨-, -, locs, Y, -⟩ := X
  exact OGo.st (fun t k => XS.lcmp Y.here C.1 rfl (hb C.2.2.2.1 hd) rfl k) hr
theorem OGo.i2d (C : Cx p s m c Z own by0 ml) (X : Sd p l e R s m args below meth c n0 T h cells slots) {x : Int32} {v : UInt64} (hd : decode by0 pc = .ok (.i2d, 1)) (hp : pc + 1 = pc') (hz : FP.i2d x = v) (hr : OGo p e below K T (mkF m pc' Ls (.double v :: St))) : OGo p e below K T (mkF m pc Ls (.int x :: St)) := by
  subst hp
  obtain ⟨-, -, locs, Y, -⟩ := X
  exact OGo.st (fun t k => XS.i2dS Y.here C.1 rfl (hb C.2.2.2.1 hd) rfl hz k) hr
theorem OGo.l2d (C : Cx p s m c Z own by0 ml) (X : Sd p l e R s m args below meth c n0 T h cells slots) {x : Int64} {v : UInt64} (hd : decode by0 pc = .ok (.l2d, 1)) (hp : pc + 1 = pc') (hz : FP.l2d x = v) (hr : OGo p e below K T (mkF m pc' Ls (.double v :: St))) : OGo p e below K T (mkF m pc Ls (.long x :: St)) := by
  subst hp
  obtain ⟨-, -, locs, Y, -⟩ := X
  exact OGo.st (fun t k => XS.l2dS Y.here C.1 rfl (hb C.2.2.2.1 hd) rfl hz k) hr
theorem OGo.d2i (C : Cx p s m c Z own by0 ml) (X : Sd p l e R s m args below meth c n0 T h cells slots) {x : UInt64} {v : Int32} (hd : decode by0 pc = .ok (.d2i, 1)) (hp : pc + 1 = pc') (hz : FP.d2i x = v) (hr : OGo p e below K T (mkF m pc' Ls (.int v :: St))) : OGo p e below K T (mkF m pc Ls (.double x :: St)) := by
  subst hp
  obtain ⟨-, -, locs, Y, -⟩ := X
  exact OGo.st (fun t k => XS.d2iS Y.here C.1 rfl (hb C.2.2.2.1 hd) rfl hz k) hr
theorem OGo.d2l (C : Cx p s m c Z own by0 ml) (X : Sd p l e R s m args below meth c n0 T h cells slots) {x : UInt64} {v : Int64} (hd : decode by0 pc = .ok (.d2l, 1)) (hp : pc + 1 = pc') (hz : FP.d2l x = v) (hr : OGo p e below K T (mkF m pc' Ls (.long v :: St))) : OGo p e below K T (mkF m pc Ls (.double x :: St)) := by
  subst hp
  obtain ⟨-, -, locs, Y, -⟩ := X
  exact OGo.st (fun t k => XS.d2lS Y.here C.1 rfl (hb C.2.2.2.1 hd) rfl hz k) hr
theorem OGo.dneg (C : Cx p s m c Z own by0 ml) (X : Sd p l e R s m args below meth c n0 T h cells slots) {x : UInt64} {v : UInt64} (hd : decode by0 pc = .ok (.dneg, 1)) (hp : pc + 1 = pc') (hz : FP.dneg x = v) (hr : OGo p e below K T (mkF m pc' Ls (.double v :: St))) : OGo p e below K T (mkF m pc Ls (.double x :: St)) := by
  subst hp
  obtain ⟨-, -, locs, Y, -⟩ := X
  exact OGo.st (fun t k => XS.dnegS Y.here C.1 rfl (hb C.2.2.2.1 hd) rfl hz k) hr
theorem OGo.dcmp (C : Cx p s m c Z own by0 ml) (X : Sd p l e R s m args below meth c n0 T h cells slots) {o : CmpOp} {x y : UInt64} {v : Int32} (hd : decode by0 pc = .ok (.dcmp o, 1)) (hp : pc + 1 = pc') (hz : cmpValue (FP.dcmp x y) o = v) (hr : OGo p e below K T (mkF m pc' Ls (.int v :: St))) : OGo p e below K T (mkF m pc Ls (.double y :: .double x :: St)) := by
  subst hp
  obtain ⟨-, -, locs, Y, -⟩ := X
  exact OGo.st (fun t k => XS.dcmpS Y.here C.1 rfl (hb C.2.2.2.1 hd) rfl hz k) hr
theorem OGo.dadd (C : Cx p s m c Z own by0 ml) (X : Sd p l e R s m args below meth c n0 T h cells slots) {x y v : UInt64} (hd : decode by0 pc = .ok (.dadd, 1)) (hp : pc + 1 = pc') (hn : Jvm.Free.Fl.NoNaN64 (FP.dadd x y)) (hz : FP.dadd x y = v) (hr : OGo p e below K T (mkF m pc' Ls (.double v :: St))) : OGo p e below K T (mkF m pc Ls (.double y :: .double x :: St)) := by
  subst hp
  obtain ⟨-, -, locs, Y, -⟩ := X
  exact OGo.st (fun t k => XS.daddS Y.here C.1 rfl (hb C.2.2.2.1 hd) rfl hn hz k) hr
theorem OGo.dsub (C : Cx p s m c Z own by0 ml) (X : Sd p l e R s m args below meth c n0 T h cells slots) {x y v : UInt64} (hd : decode by0 pc = .ok (.dsub, 1)) (hp : pc + 1 = pc') (hn : Jvm.Free.Fl.NoNaN64 (FP.dsub x y)) (hz : FP.dsub x y = v) (hr : OGo p e below K T (mkF m pc' Ls (.double v :: St))) : OGo p e below K T (mkF m pc Ls (.double y :: .double x :: St)) := by
  subst hp
  obtain ⟨-, -, locs, Y, -⟩ := X
  exact OGo.st (fun t k => XS.dsubS Y.here C.1 rfl (hb C.2.2.2.1 hd) rfl hn hz k) hr
theorem OGo.dmul (C : Cx p s m c Z own by0 ml) (X : Sd p l e R s m args below meth c n0 T h cells slots) {x y v : UInt64} (hd : decode by0 pc = .ok (.dmul, 1)) (hp : pc + 1 = pc') (hn : Jvm.Free.Fl.NoNaN64 (FP.dmul x y)) (hz : FP.dmul x y = v) (hr : OGo p e below K T (mkF m pc' Ls (.double v :: St))) : OGo p e below K T (mkF m pc Ls (.double y :: .double x :: St)) := by
  subst hp
  obtain ⟨-, -, locs, Y, -⟩ := X
  exact OGo.st (fun t k => XS.dmulS Y.here C.1 rfl (hb C.2.2.2.1 hd) rfl hn hz k) hr
theorem OGo.ddiv (C : Cx p s m c Z own by0 ml) (X : Sd p l e R s m args below meth c n0 T h cells slots) {x y v : UInt64} (hd : decode by0 pc = .ok (.ddiv, 1)) (hp : pc + 1 = pc') (hn : Jvm.Free.Fl.NoNaN64 (FP.ddiv x y)) (hz : FP.ddiv x y = v) (hr : OGo p e below K T (mkF m pc' Ls (.double v :: St))) : OGo p e below K T (mkF m pc Ls (.double y :: .double x :: St)) := by
  subst hp
  obtain ⟨-, -, locs, Y, -⟩ := X
  exact OGo.st (fun t k => XS.ddivS Y.here C.1 rfl (hb C.2.2.2.1 hd) rfl hn hz k) hr
theorem OGo.dup (C : Cx p s m c Z own by0 ml) (X : Sd p l e R s m args below meth c n0 T h cells slots) {x : Value} (hd : decode by0 pc = .ok (.dup, 1)) (hp : pc + 1 = pc') (hc : x.category = 1) (hr : OGo p e below K T (mkF m pc' Ls (x :: x :: St))) : OGo p e below K T (mkF m pc Ls (x :: St)) := by
  subst hp
  obtain ⟨-, -, locs, Y, -⟩ := X
  exact OGo.st (fun t k => XS.dup Y.here C.1 rfl (hb C.2.2.2.1 hd) rfl hc k) hr
theorem OGo.pop (C : Cx p s m c Z own by0 ml) (X : Sd p l e R s m args below meth c n0 T h cells slots) {x : Value} (hd : decode by0 pc = .ok (.pop, 1)) (hp : pc + 1 = pc') (hc : x.category = 1) (hr : OGo p e below K T (mkF m pc' Ls (St))) : OGo p e below K T (mkF m pc Ls (x :: St)) := by
  subst hp
  obtain ⟨-, -, locs, Y, -⟩ := X
  exact OGo.st (fun t k => XS.pop Y.here C.1 rfl (hb C.2.2.2.1 hd) rfl hc k) hr
theorem OGo.dup_x1 (C : Cx p s m c Z own by0 ml) (X : Sd p l e R s m args below meth c n0 T h cells slots) {x y : Value} (hd : decode by0 pc = .ok (.dup_x1, 1)) (hp : pc + 1 = pc') (hc : x.category = 1) (hc' : y.category = 1) (hr : OGo p e below K T (mkF m pc' Ls (x :: y :: x :: St))) : OGo p e below K T (mkF m pc Ls (x :: y :: St)) := by
  subst hp
  obtain ⟨-, -, locs, Y, -⟩ := X
  exact OGo.st (fun t k => XS.dupX1 Y.here C.1 rfl (hb C.2.2.2.1 hd) rfl hc hc' k) hr
theorem OGo.dup2 (C : Cx p s m c Z own by0 ml) (X : Sd p l e R s m args below meth c n0 T h cells slots) {x y : Value} (hd : decode by0 pc = .ok (.dup2, 1)) (hp : pc + 1 = pc') (hc : x.category = 1) (hc' : y.category = 1) (hr : OGo p e below K T (mkF m pc' Ls (x :: y :: x :: y :: St))) : OGo p e below K T (mkF m pc Ls (x :: y :: St)) := by
  subst hp
  obtain ⟨-, -, locs, Y, -⟩ := X
  exact OGo.st (fun t k => XT.dup2 Y.here C.1 rfl (hb C.2.2.2.1 hd) rfl hc hc' k) hr
theorem OGo.goto (C : Cx p s m c Z own by0 ml) (X : Sd p l e R s m args below meth c n0 T h cells slots)  {o : Int} (hd : decode by0 pc = .ok (.goto o, 3))  (ho : 0 ≤ (pc : Int) + o) (hp : ((pc : Int) + o).toNat = pc') (hr : OGo p e below K T (mkF m pc' Ls (St))) : OGo p e below K T (mkF m pc Ls (St)) := by
  obtain ⟨-, -, locs, Y, -⟩ := X
  exact OGo.st (fun t k => XS.goto Y.here C.1 rfl (pc0 := pc) rfl (hb C.2.2.2.1 hd)  ho hp k) hr
theorem OGo.ifYes (C : Cx p s m c Z own by0 ml) (X : Sd p l e R s m args below meth c n0 T h cells slots) {cd : ClassFile.Cond} {x : Int32} {o : Int} (hd : decode by0 pc = .ok (.ifCond cd o, 3)) (hc : if_icmp.holds cd x 0 = true) (ho : 0 ≤ (pc : Int) + o) (hp : ((pc : Int) + o).toNat = pc') (hr : OGo p e below K T (mkF m pc' Ls (St))) : OGo p e below K T (mkF m pc Ls (.int x :: St)) := by
  obtain ⟨-, -, locs, Y, -⟩ := X
  exact OGo.st (fun t k => XS.ifYes Y.here C.1 rfl (pc0 := pc) rfl (hb C.2.2.2.1 hd) rfl ((if0 _ _).trans hc) ho hp k) hr
theorem OGo.ifNo (C : Cx p s m c Z own by0 ml) (X : Sd p l e R s m args below meth c n0 T h cells slots) {cd : ClassFile.Cond} {x : Int32} {o : Int} (hd : decode by0 pc = .ok (.ifCond cd o, 3)) (hp : pc + 3 = pc') (hc : if_icmp.holds cd x 0 = false) (hr : OGo p e below K T (mkF m pc' Ls (St))) : OGo p e below K T (mkF m pc Ls (.int x :: St)) := by
  subst hp
  obtain ⟨-, -, locs, Y, -⟩ := X
  exact OGo.st (fun t k => XS.ifNo Y.here C.1 rfl (hb C.2.2.2.1 hd) rfl ((if0 _ _).trans hc) k) hr
theorem OGo.icmpYes (C : Cx p s m c Z own by0 ml) (X : Sd p l e R s m args below meth c n0 T h cells slots) {cd : ClassFile.Cond} {x y : Int32} {o : Int} (hd : decode by0 pc = .ok (.if_icmp cd o, 3)) (hc : if_icmp.holds cd x y = true) (ho : 0 ≤ (pc : Int) + o) (hp : ((pc : Int) + o).toNat = pc') (hr : OGo p e below K T (mkF m pc' Ls (St))) : OGo p e below K T (mkF m pc Ls (.int y :: .int x :: St)) := by
  obtain ⟨-, -, locs, Y, -⟩ := X
  exact OGo.st (fun t k => XS.icmpYes Y.here C.1 rfl (pc0 := pc) rfl (hb C.2.2.2.1 hd) rfl hc ho hp k) hr
theorem OGo.icmpNo (C : Cx p s m c Z own by0 ml) (X : Sd p l e R s m args below meth c n0 T h cells slots) {cd : ClassFile.Cond} {x y : Int32} {o : Int} (hd : decode by0 pc = .ok (.if_icmp cd o, 3)) (hp : pc + 3 = pc') (hc : if_icmp.holds cd x y = false) (hr : OGo p e below K T (mkF m pc' Ls (St))) : OGo p e below K T (mkF m pc Ls (.int y :: .int x :: St)) := by
  subst hp
  obtain ⟨-, -, locs, Y, -⟩ := X
  exact OGo.st (fun t k => XS.icmpNo Y.here C.1 rfl (hb C.2.2.2.1 hd) rfl hc k) hr
theorem OGo.ifnullYes (C : Cx p s m c Z own by0 ml) (X : Sd p l e R s m args below meth c n0 T h cells slots)  {o : Int} (hd : decode by0 pc = .ok (.ifnull o, 3))  (ho : 0 ≤ (pc : Int) + o) (hp : ((pc : Int) + o).toNat = pc') (hr : OGo p e below K T (mkF m pc' Ls (St))) : OGo p e below K T (mkF m pc Ls (.null :: St)) := by
  obtain ⟨-, -, locs, Y, -⟩ := X
  exact OGo.st (fun t k => XS.ifnullYes Y.here C.1 rfl (pc0 := pc) rfl (hb C.2.2.2.1 hd) rfl ho hp k) hr
theorem OGo.ifnullNo (C : Cx p s m c Z own by0 ml) (X : Sd p l e R s m args below meth c n0 T h cells slots) {b : Addr} {o : Int} (hd : decode by0 pc = .ok (.ifnull o, 3)) (hp : pc + 3 = pc')  (hr : OGo p e below K T (mkF m pc' Ls (St))) : OGo p e below K T (mkF m pc Ls (.ref b :: St)) := by
  subst hp
  obtain ⟨-, -, locs, Y, -⟩ := X
  exact OGo.st (fun t k => XS.ifnullNo Y.here C.1 rfl (hb C.2.2.2.1 hd) rfl k) hr
theorem OGo.ifnonnullYes (C : Cx p s m c Z own by0 ml) (X : Sd p l e R s m args below meth c n0 T h cells slots) {b : Addr} {o : Int} (hd : decode by0 pc = .ok (.ifnonnull o, 3))  (ho : 0 ≤ (pc : Int) + o) (hp : ((pc : Int) + o).toNat = pc') (hr : OGo p e below K T (mkF m pc' Ls (St))) : OGo p e below K T (mkF m pc Ls (.ref b :: St)) := by
  obtain ⟨-, -, locs, Y, -⟩ := X
  exact OGo.st (fun t k => XS.ifnonnullYes Y.here C.1 rfl (pc0 := pc) rfl (hb C.2.2.2.1 hd) rfl ho hp k) hr
theorem OGo.ifnonnullNo (C : Cx p s m c Z own by0 ml) (X : Sd p l e R s m args below meth c n0 T h cells slots)  {o : Int} (hd : decode by0 pc = .ok (.ifnonnull o, 3)) (hp : pc + 3 = pc')  (hr : OGo p e below K T (mkF m pc' Ls (St))) : OGo p e below K T (mkF m pc Ls (.null :: St)) := by
  subst hp
  obtain ⟨-, -, locs, Y, -⟩ := X
  exact OGo.st (fun t k => XS.ifnonnullNo Y.here C.1 rfl (hb C.2.2.2.1 hd) rfl k) hr
theorem OGo.acmp (C : Cx p s m c Z own by0 ml) (X : Sd p l e R s m args below meth c n0 T h cells slots) {cd : ACond} {x y : Value} (h1 : x.isRef = true) (h2 : y.isRef = true) {o : Int} {same : Bool} (hd : decode by0 pc = .ok (.if_acmp cd o, 3)) (hq : decide (x = y) = same) (ho : 0 ≤ (pc : Int) + o) (hp : pc' = if acV cd same = true then ((pc : Int) + o).toNat else pc + 3) (hr : OGo p e below K T (mkF m pc' Ls (St))) : OGo p e below K T (mkF m pc Ls (y :: x :: St)) := by
  obtain ⟨-, -, locs, Y, -⟩ := X
  exact OGo.st (fun t k => RoadKit.acmp Y C.1 rfl h1 h2 (pc0 := pc) rfl (hb C.2.2.2.1 hd) rfl hq ho hp k) hr
theorem OGo.ldcInt (C : Cx p s m c Z own by0 ml) (X : Sd p l e R s m args below meth c n0 T h cells slots) {idx : Nat} {v : Int32} (w : (Jvm.Cond.constant own idx v).before a0 Z = true) (hd : decode by0 pc = .ok (.ldc idx, 2)) (hp : pc + 2 = pc') (hr : OGo p e below K T (mkF m pc' Ls (.int v :: St))) : OGo p e below K T (mkF m pc Ls (St)) := by
  subst hp
  obtain ⟨-, -, locs, Y, -⟩ := X
  exact OGo.st (fun t k => Y.ldcInt C.1 C.2.2.1 (mvT C.2.1 w) (g := mkF m pc Ls St) rfl (hb C.2.2.2.1 hd) t k) hr
theorem OGo.ldc2Long (C : Cx p s m c Z own by0 ml) (X : Sd p l e R s m args below meth c n0 T h cells slots) {idx : Nat} {v : Int64} (w : (Jvm.Cond.constantLong own idx v).before a0 Z = true) (hd : decode by0 pc = .ok (.ldc2_w idx, 3)) (hp : pc + 3 = pc') (hr : OGo p e below K T (mkF m pc' Ls (.long v :: St))) : OGo p e below K T (mkF m pc Ls (St)) := by
  subst hp
  obtain ⟨-, -, locs, Y, -⟩ := X
  exact OGo.st (fun t k => Y.ldc2Long C.1 C.2.2.1 (mvT C.2.1 w) (g := mkF m pc Ls St) rfl (hb C.2.2.2.1 hd) t k) hr
theorem OGo.ldc2Double (C : Cx p s m c Z own by0 ml) (X : Sd p l e R s m args below meth c n0 T h cells slots) {idx : Nat} {v : UInt64} (w : (Jvm.Cond.constantDouble own idx v).before a0 Z = true) (hd : decode by0 pc = .ok (.ldc2_w idx, 3)) (hp : pc + 3 = pc') (hr : OGo p e below K T (mkF m pc' Ls (.double v :: St))) : OGo p e below K T (mkF m pc Ls (St)) := by
  subst hp
  obtain ⟨-, -, locs, Y, -⟩ := X
  exact OGo.st (fun t k => Y.ldc2DoubleC C.1 C.2.2.1 (mvT C.2.1 w) (g := mkF m pc Ls St) rfl (hb C.2.2.2.1 hd) t k) hr
theorem OGo.ldcStr (C : Cx p s m c Z own by0 ml) (X : Sd p l e R s m args below meth c n0 T h cells slots) {idx : Nat} {text : String} {a : Addr} (w : (Jvm.Cond.stringRef own idx text).before a0 Z = true) (L : RoadKit.Lit Z own idx a) (hd : decode by0 pc = .ok (.ldc idx, 2)) (hp : pc + 2 = pc') (hr : OGo p e below K T (mkF m pc' Ls (.ref a :: St))) : OGo p e below K T (mkF m pc Ls (St)) := by
  subst hp
  obtain ⟨-, -, locs, Y, -⟩ := X
  exact OGo.st (fun t k => ldcR Y C.1 C.2.1 C.2.2.1 w L (g := mkF m pc Ls St) rfl (hb C.2.2.2.1 hd) t k) hr
theorem OGo.arraylength (C : Cx p s m c Z own by0 ml) (X : Sd p l e R s m args below meth c n0 T h cells slots) {a : Addr} {k : ClassId} {ty : FieldType} {z : Int32} {vs : List Value} {dv : Value} (V : Arv Z h a k ty z vs dv) (hd : decode by0 pc = .ok (.arraylength, 1)) (hp : pc + 1 = pc') (hr : OGo p e below K T (mkF m pc' Ls (.int z :: St))) : OGo p e below K T (mkF m pc Ls (.ref a :: St)) := by
  subst hp
  obtain ⟨eT, -, locs, Y, -⟩ := X
  obtain ⟨cl, A, -, S, q, -⟩ := V
  refine OGo.st (fun t k => Y.arraylength C.1 (by rw [eT]; exact A.1) (State.isArrayOf_alike C.2.1.alike A.2.1) (g := mkF m pc Ls (.ref a :: St)) rfl rfl (hb C.2.2.2.1 hd) t ?_) hr
  rw [len_of S q]; exact k
theorem OGo.iaload (C : Cx p s m c Z own by0 ml) (X : Sd p l e R s m args below meth c n0 T h cells slots) {a : Addr} {k : ClassId} {z : Int32} {vs : List Value} {dv : Value} (V : Arv Z h a k .int z vs dv) {j : Int32} {v : Int32} (hd : decode by0 pc = .ok (.iaload, 1)) (hp : pc + 1 = pc') (hj : ¬ j < 0 ∧ j < z) (hv : vs.getD j.toNatClampNeg dv = .int v) (hr : OGo p e below K T (mkF m pc' Ls (.int v :: St))) : OGo p e below K T (mkF m pc Ls (.int j :: .ref a :: St)) := by
  subst hp
  obtain ⟨eT, -, locs, Y, -⟩ := X
  obtain ⟨cl, A, -, S, q, H, -⟩ := V
  exact OGo.st (fun t k => Y.iaload C.1 (by rw [eT]; exact A.1) (State.isArrayOf_alike C.2.1.alike A.2.1) A.2.2 (inb_of S hj) (Has.at H (inb_of S hj) hv) (g := mkF m pc Ls (.int j :: .ref a :: St)) rfl rfl (hb C.2.2.2.1 hd) t k) hr
theorem OGo.laload (C : Cx p s m c Z own by0 ml) (X : Sd p l e R s m args below meth c n0 T h cells slots) {a : Addr} {k : ClassId} {z : Int32} {vs : List Value} {dv : Value} (V : Arv Z h a k .long z vs dv) {j : Int32} {v : Int64} (hd : decode by0 pc = .ok (.laload, 1)) (hp : pc + 1 = pc') (hj : ¬ j < 0 ∧ j < z) (hv : vs.getD j.toNatClampNeg dv = .long v) (hr : OGo p e below K T (mkF m pc' Ls (.long v :: St))) : OGo p e below K T (mkF m pc Ls (.int j :: .ref a :: St)) := by
  subst hp
  obtain ⟨eT, -, locs, Y, -⟩ := X
  obtain ⟨cl, A, -, S, q, H, -⟩ := V
  exact OGo.st (fun t k => Y.laload C.1 (by rw [eT]; exact A.1) (State.isArrayOf_alike C.2.1.alike A.2.1) A.2.2 (inb_of S hj) (Has.at H (inb_of S hj) hv) (g := mkF m pc Ls (.int j :: .ref a :: St)) rfl rfl (hb C.2.2.2.1 hd) t k) hr
theorem OGo.daload (C : Cx p s m c Z own by0 ml) (X : Sd p l e R s m args below meth c n0 T h cells slots) {a : Addr} {k : ClassId} {z : Int32} {vs : List Value} {dv : Value} (V : Arv Z h a k .double z vs dv) {j : Int32} {v : UInt64} (hd : decode by0 pc = .ok (.daload, 1)) (hp : pc + 1 = pc') (hj : ¬ j < 0 ∧ j < z) (hv : vs.getD j.toNatClampNeg dv = .double v) (hr : OGo p e below K T (mkF m pc' Ls (.double v :: St))) : OGo p e below K T (mkF m pc Ls (.int j :: .ref a :: St)) := by
  subst hp
  obtain ⟨eT, -, locs, Y, -⟩ := X
  obtain ⟨cl, A, -, S, q, H, -⟩ := V
  exact OGo.st (fun t k => Y.daload C.1 (by rw [eT]; exact A.1) (State.isArrayOf_alike C.2.1.alike A.2.1) A.2.2 (inb_of S hj) (Has.at H (inb_of S hj) hv) (g := mkF m pc Ls (.int j :: .ref a :: St)) rfl rfl (hb C.2.2.2.1 hd) t k) hr
theorem OGo.caload (C : Cx p s m c Z own by0 ml) (X : Sd p l e R s m args below meth c n0 T h cells slots) {a : Addr} {k : ClassId} {z : Int32} {vs : List Value} {dv : Value} (V : Arv Z h a k .char z vs dv) {j : Int32} {v : Int32} (hd : decode by0 pc = .ok (.caload, 1)) (hp : pc + 1 = pc') (hj : ¬ j < 0 ∧ j < z) (hv : vs.getD j.toNatClampNeg dv = .int v) (hr : OGo p e below K T (mkF m pc' Ls (.int v :: St))) : OGo p e below K T (mkF m pc Ls (.int j :: .ref a :: St)) := by
  subst hp
  obtain ⟨eT, -, locs, Y, -⟩ := X
  obtain ⟨cl, A, -, S, q, H, -⟩ := V
  exact OGo.st (fun t k => Y.caload C.1 (by rw [eT]; exact A.1) (State.isArrayOf_alike C.2.1.alike A.2.1) A.2.2 (inb_of S hj) (Has.at H (inb_of S hj) hv) (g := mkF m pc Ls (.int j :: .ref a :: St)) rfl rfl (hb C.2.2.2.1 hd) t k) hr
theorem OGo.baloadB (C : Cx p s m c Z own by0 ml) (X : Sd p l e R s m args below meth c n0 T h cells slots) {a : Addr} {k : ClassId} {z : Int32} {vs : List Value} {dv : Value} (V : Arv Z h a k .byte z vs dv) {j : Int32} {v : Int32} (hd : decode by0 pc = .ok (.baload, 1)) (hp : pc + 1 = pc') (hj : ¬ j < 0 ∧ j < z) (hv : vs.getD j.toNatClampNeg dv = .int v) (hr : OGo p e below K T (mkF m pc' Ls (.int v :: St))) : OGo p e below K T (mkF m pc Ls (.int j :: .ref a :: St)) := by
  subst hp
  obtain ⟨eT, -, locs, Y, -⟩ := X
  obtain ⟨cl, A, -, S, q, H, -⟩ := V
  exact OGo.st (fun t k => Y.baloadBytes C.1 (by rw [eT]; exact A.1) (State.isArrayOf_alike C.2.1.alike A.2.1) A.2.2 (inb_of S hj) (Has.at H (inb_of S hj) hv) (g := mkF m pc Ls (.int j :: .ref a :: St)) rfl rfl (hb C.2.2.2.1 hd) t k) hr
theorem OGo.baloadZ (C : Cx p s m c Z own by0 ml) (X : Sd p l e R s m args below meth c n0 T h cells slots) {a : Addr} {k : ClassId} {z : Int32} {vs : List Value} {dv : Value} (V : Arv Z h a k .boolean z vs dv) {j : Int32} {v : Int32} (hd : decode by0 pc = .ok (.baload, 1)) (hp : pc + 1 = pc') (hj : ¬ j < 0 ∧ j < z) (hv : vs.getD j.toNatClampNeg dv = .int v) (hr : OGo p e below K T (mkF m pc' Ls (.int v :: St))) : OGo p e below K T (mkF m pc Ls (.int j :: .ref a :: St)) := by
  subst hp
  obtain ⟨eT, -, locs, Y, -⟩ := X
  obtain ⟨cl, A, -, S, q, H, -⟩ := V
  exact OGo.st (fun t k => Y.baloadBooleans C.1 (by rw [eT]; exact A.1) (State.isArrayOf_alike C.2.1.alike A.2.1) A.2.2 (inb_of S hj) (Has.at H (inb_of S hj) hv) (g := mkF m pc Ls (.int j :: .ref a :: St)) rfl rfl (hb C.2.2.2.1 hd) t k) hr
theorem OGo.iastore (C : Cx p s m c Z own by0 ml) (X : Sd p l e R s m args below meth c n0 T h cells slots) {a : Addr} {k : ClassId} {z : Int32} {vs : List Value} {dv : Value} (V : Arv Z h a k .int z vs dv) (ga : n0 ≤ a) {j : Int32} {x : Int32} {i : Nat} (hd : decode by0 pc = .ok (.iastore, 1)) (hp : pc + 1 = pc') (hj : ¬ j < 0 ∧ j < z) (hi : j.toNatClampNeg = i) (hl : i < vs.length)
    (hr : ∀ T' h', Sd p l e R s m args below meth c n0 T' h' cells slots → Wr h h' a i (.int x) → Arv Z h' a k .int z (vs.set i (.int x)) dv → OGo p e below K T' (mkF m pc' Ls St)) : OGo p e below K T (mkF m pc Ls (.int x :: .int j :: .ref a :: St)) := by
  subst hp hi
  obtain ⟨eT, hn, locs, Y, N⟩ := X
  obtain ⟨cl, A, q1, S, q, H, Gt⟩ := V
  obtain ⟨T', h', Y', e', W, st⟩ := stI Y C.1 C.2.1 eT A (inb_of S hj) (g := mkF m pc Ls (.int x :: .int j :: .ref a :: St)) rfl rfl (hb C.2.2.2.1 hd)
  exact OGo.st st (hr T' h' ⟨e', by rw [W.size]; exact hn, _, Y', Fr.snoc Y' N ga⟩ W (Arv.set A q1 S q H Gt rfl W _ rfl hl))
theorem OGo.lastore (C : Cx p s m c Z own by0 ml) (X : Sd p l e R s m args below meth c n0 T h cells slots) {a : Addr} {k : ClassId} {z : Int32} {vs : List Value} {dv : Value} (V : Arv Z h a k .long z vs dv) (ga : n0 ≤ a) {j : Int32} {x : Int64} {i : Nat} (hd : decode by0 pc = .ok (.lastore, 1)) (hp : pc + 1 = pc') (hj : ¬ j < 0 ∧ j < z) (hi : j.toNatClampNeg = i) (hl : i < vs.length)
    (hr : ∀ T' h', Sd p l e R s m args below meth c n0 T' h' cells slots → Wr h h' a i (.long x) → Arv Z h' a k .long z (vs.set i (.long x)) dv → OGo p e below K T' (mkF m pc' Ls St)) : OGo p e below K T (mkF m pc Ls (.long x :: .int j :: .ref a :: St)) := by
  subst hp hi
  obtain ⟨eT, hn, locs, Y, N⟩ := X
  obtain ⟨cl, A, q1, S, q, H, Gt⟩ := V
  obtain ⟨T', h', Y', e', W, st⟩ := stJ Y C.1 C.2.1 eT A (inb_of S hj) (g := mkF m pc Ls (.long x :: .int j :: .ref a :: St)) rfl rfl (hb C.2.2.2.1 hd)
  exact OGo.st st (hr T' h' ⟨e', by rw [W.size]; exact hn, _, Y', Fr.snoc Y' N ga⟩ W (Arv.set A q1 S q H Gt rfl W _ rfl hl))
theorem OGo.dastore (C : Cx p s m c Z own by0 ml) (X : Sd p l e R s m args below meth c n0 T h cells slots) {a : Addr} {k : ClassId} {z : Int32} {vs : List Value} {dv : Value} (V : Arv Z h a k .double z vs dv) (ga : n0 ≤ a) {j : Int32} {x : UInt64} {i : Nat} (hd : decode by0 pc = .ok (.dastore, 1)) (hp : pc + 1 = pc') (hj : ¬ j < 0 ∧ j < z) (hi : j.toNatClampNeg = i) (hl : i < vs.length)
    (hr : ∀ T' h', Sd p l e R s m args below meth c n0 T' h' cells slots → Wr h h' a i (.double x) → Arv Z h' a k .double z (vs.set i (.double x)) dv → OGo p e below K T' (mkF m pc' Ls St)) : OGo p e below K T (mkF m pc Ls (.double x :: .int j :: .ref a :: St)) := by
  subst hp hi
  obtain ⟨eT, hn, locs, Y, N⟩ := X
  obtain ⟨cl, A, q1, S, q, H, Gt⟩ := V
  obtain ⟨T', h', Y', e', W, st⟩ := stD Y C.1 C.2.1 eT A (inb_of S hj) (g := mkF m pc Ls (.double x :: .int j :: .ref a :: St)) rfl rfl (hb C.2.2.2.1 hd)
  exact OGo.st st (hr T' h' ⟨e', by rw [W.size]; exact hn, _, Y', Fr.snoc Y' N ga⟩ W (Arv.set A q1 S q H Gt rfl W _ rfl hl))
theorem OGo.castore (C : Cx p s m c Z own by0 ml) (X : Sd p l e R s m args below meth c n0 T h cells slots) {a : Addr} {k : ClassId} {z : Int32} {vs : List Value} {dv : Value} (V : Arv Z h a k .char z vs dv) (ga : n0 ≤ a) {j : Int32} {x : Int32} {i : Nat} (hd : decode by0 pc = .ok (.castore, 1)) (hp : pc + 1 = pc') (hj : ¬ j < 0 ∧ j < z) (hi : j.toNatClampNeg = i) (hl : i < vs.length)
    (hr : ∀ T' h', Sd p l e R s m args below meth c n0 T' h' cells slots → Wr h h' a i (.int (nar .char x)) → Arv Z h' a k .char z (vs.set i (.int (nar .char x))) dv → OGo p e below K T' (mkF m pc' Ls St)) : OGo p e below K T (mkF m pc Ls (.int x :: .int j :: .ref a :: St)) := by
  subst hp hi
  obtain ⟨eT, hn, locs, Y, N⟩ := X
  obtain ⟨cl, A, q1, S, q, H, Gt⟩ := V
  obtain ⟨T', h', Y', e', W, st⟩ := stC Y C.1 C.2.1 eT A (inb_of S hj) (g := mkF m pc Ls (.int x :: .int j :: .ref a :: St)) rfl rfl (hb C.2.2.2.1 hd)
  exact OGo.st st (hr T' h' ⟨e', by rw [W.size]; exact hn, _, Y', Fr.snoc Y' N ga⟩ W (Arv.set A q1 S q H Gt (fits_nar_char x) W _ rfl hl))
theorem OGo.bastoreB (C : Cx p s m c Z own by0 ml) (X : Sd p l e R s m args below meth c n0 T h cells slots) {a : Addr} {k : ClassId} {z : Int32} {vs : List Value} {dv : Value} (V : Arv Z h a k .byte z vs dv) (ga : n0 ≤ a) {j : Int32} {x : Int32} {i : Nat} (hd : decode by0 pc = .ok (.bastore, 1)) (hp : pc + 1 = pc') (hj : ¬ j < 0 ∧ j < z) (hi : j.toNatClampNeg = i) (hl : i < vs.length)
    (hr : ∀ T' h', Sd p l e R s m args below meth c n0 T' h' cells slots → Wr h h' a i (.int (nar .byte x)) → Arv Z h' a k .byte z (vs.set i (.int (nar .byte x))) dv → OGo p e below K T' (mkF m pc' Ls St)) : OGo p e below K T (mkF m pc Ls (.int x :: .int j :: .ref a :: St)) := by
  subst hp hi
  obtain ⟨eT, hn, locs, Y, N⟩ := X
  obtain ⟨cl, A, q1, S, q, H, Gt⟩ := V
  obtain ⟨T', h', Y', e', W, st⟩ := stB Y C.1 C.2.1 eT A (inb_of S hj) (g := mkF m pc Ls (.int x :: .int j :: .ref a :: St)) rfl rfl (hb C.2.2.2.1 hd)
  exact OGo.st st (hr T' h' ⟨e', by rw [W.size]; exact hn, _, Y', Fr.snoc Y' N ga⟩ W (Arv.set A q1 S q H Gt (fits_nar_byte x) W _ rfl hl))
theorem OGo.bastoreZ (C : Cx p s m c Z own by0 ml) (X : Sd p l e R s m args below meth c n0 T h cells slots) {a : Addr} {k : ClassId} {z : Int32} {vs : List Value} {dv : Value} (V : Arv Z h a k .boolean z vs dv) (ga : n0 ≤ a) {j : Int32} {x : Int32} {i : Nat} (hd : decode by0 pc = .ok (.bastore, 1)) (hp : pc + 1 = pc') (hj : ¬ j < 0 ∧ j < z) (hi : j.toNatClampNeg = i) (hl : i < vs.length)
    (hr : ∀ T' h', Sd p l e R s m args below meth c n0 T' h' cells slots → Wr h h' a i (.int (nar .boolean x)) → Arv Z h' a k .boolean z (vs.set i (.int (nar .boolean x))) dv → OGo p e below K T' (mkF m pc' Ls St)) : OGo p e below K T (mkF m pc Ls (.int x :: .int j :: .ref a :: St)) := by
  subst hp hi
  obtain ⟨eT, hn, locs, Y, N⟩ := X
  obtain ⟨cl, A, q1, S, q, H, Gt⟩ := V
  obtain ⟨T', h', Y', e', W, st⟩ := stZ Y C.1 C.2.1 eT A (inb_of S hj) (g := mkF m pc Ls (.int x :: .int j :: .ref a :: St)) rfl rfl (hb C.2.2.2.1 hd)
  exact OGo.st st (hr T' h' ⟨e', by rw [W.size]; exact hn, _, Y', Fr.snoc Y' N ga⟩ W (Arv.set A q1 S q H Gt (fits_nar_bool x) W _ rfl hl))
theorem OGo.newarray (C : Cx p s m c Z own by0 ml) (X : Sd p l e R s m args below meth c n0 T h cells slots) {aty : ArrayType} {ty : FieldType} {n : Int32} {cap : Nat} {d0 : Value} (w : (Jvm.Cond.arrayClass ty).before a0 Z = true) (hty : newarray.typeOf aty = ty) (hd : decode by0 pc = .ok (.newarray aty, 2)) (hp : pc + 2 = pc') (hn : ¬ n < 0) (hcap : n.toNatClampNeg ≤ cap) (hb8 : cap * 8 ≤ 536870912) (hdv : defaultValue ty = d0) (hc' : cells + 1 = cells') (hs' : slots + cap = slots') (hc : cells' ≤ R.cells) (hl : slots' ≤ R.slots)
    (hr : ∀ T' h' a k, Sd p l e R s m args below meth c n0 T' h' cells' slots' → a = h.size → n0 ≤ a → Ext h h' → Arv Z h' a k ty n [] d0 → OGo p e below K T' (mkF m pc' Ls (.ref a :: St))) : OGo p e below K T (mkF m pc Ls (.int n :: St)) := by
  subst hp hc' hs' hty hdv
  obtain ⟨eT, hn0, locs, Y, N⟩ := X
  obtain ⟨T', h', cA, Y', e', E, A, st⟩ := newP Y C.1 C.2.1 w eT (g := mkF m pc Ls (.int n :: St)) rfl (hb C.2.2.2.1 hd) rfl hn hcap hb8 hc hl
  exact OGo.st st (hr T' h' _ cA ⟨e', Nat.le_trans hn0 E.1, _, Y', N⟩ rfl hn0 E (Arv.new A hn))
theorem OGo.newarrayE (C : Cx p s m c Z own by0 ml) (X : Sd p l e R s m args below meth c n0 T h cells slots) {aty : ArrayType} {ty : FieldType} {n : Int32} {cap : Nat} {d0 : Value} {ad : String} (w : (Jvm.Cond.arrayClass ty).before a0 Z = true) (hty : newarray.typeOf aty = ty) (had : "[" ++ ty.toString = ad) (hd : decode by0 pc = .ok (.newarray aty, 2)) (hp : pc + 2 = pc') (hn : ¬ n < 0) (hcap : n.toNatClampNeg ≤ cap) (hb8 : cap * 8 ≤ 536870912) (hdv : defaultValue ty = d0) (hc' : cells + 1 = cells') (hs' : slots + cap = slots') (hc : cells' ≤ R.cells) (hl : slots' ≤ R.slots)
    (hr : ∀ T' h' a k, Sd p l e R s m args below meth c n0 T' h' cells' slots' → a = h.size → n0 ≤ a → Ext h h' → Arv Z h' a k ty n [] d0 → Exa Z h' a ad → OGo p e below K T' (mkF m pc' Ls (.ref a :: St))) : OGo p e below K T (mkF m pc Ls (.int n :: St)) := by
  subst hp hc' hs' hty hdv
  obtain ⟨eT, hn0, locs, Y, N⟩ := X
  obtain ⟨T', h', cA, Y', e', E, A, EE, st⟩ := newPE Y C.1 C.2.1 w eT (g := mkF m pc Ls (.int n :: St)) rfl (hb C.2.2.2.1 hd) rfl hn hcap hb8 hc hl had
  exact OGo.st st (hr T' h' _ cA ⟨e', Nat.le_trans hn0 E.1, _, Y', N⟩ rfl hn0 E (Arv.new A hn) EE)
theorem OGo.new (C : Cx p s m c Z own by0 ml) (X : Sd p l e R s m args below meth c n0 T h cells slots) {Cn : String} {idx n : Nat} (w : (Jvm.Cond.classLink own idx Cn).before a0 Z = true) (wi : (Jvm.Cond.instantiable Cn n).before a0 Z = true) (wz : (Jvm.Cond.initialized Cn).before a0 Z = true) (hd : decode by0 pc = .ok (.new idx, 3)) (hp : pc + 3 = pc') (hc' : cells + 1 = cells') (hs' : slots + n = slots') (hc : cells' ≤ R.cells) (hl : slots' ≤ R.slots)
    (hr : ∀ T' h' a, Sd p l e R s m args below meth c n0 T' h' cells' slots' → a = h.size → n0 ≤ a → Ext h h' → Exa Z h' a Cn → (∀ {O nm d : String} {ty : FieldType}, Laid Z a0 Cn O nm d → parseFieldDescriptor d = some ty → Fld Z h' a O nm d (defaultValue ty)) → Unt h' a → OGo p e below K T' (mkF m pc' Ls (.ref a :: St))) : OGo p e below K T (mkF m pc Ls (St)) := by
  subst hp hc' hs'
  obtain ⟨eT, hn0, locs, Y, N⟩ := X
  obtain ⟨T', h', Y', e', E, A, D, U, st⟩ := newO Y C.1 C.2.1 C.2.2.1 w wi wz eT (g := mkF m pc Ls St) rfl (hb C.2.2.2.1 hd) hc hl
  exact OGo.st st (hr T' h' _ ⟨e', Nat.le_trans hn0 E.1, _, Y', N⟩ rfl hn0 E A D U)
theorem OGo.getfield (C : Cx p s m c Z own by0 ml) (X : Sd p l e R s m args below meth c n0 T h cells slots) {R0 O n d host : String} {idx : Nat} {a : Addr} {v : Value} (w : (Jvm.Cond.fieldLink own idx R0 n d).before a0 Z = true ∨ (Jvm.Cond.fieldLinkNest own idx R0 n d host).before a0 Z = true) (via : Via Z R0 O n d) (F : Fld Z h a O n d v) (hd : decode by0 pc = .ok (.getfield idx, 3)) (hp : pc + 3 = pc')
    (hr : ∀ T', Sd p l e R s m args below meth c n0 T' h cells slots → OGo p e below K T' (mkF m pc' Ls (v :: St))) : OGo p e below K T (mkF m pc Ls (.ref a :: St)) := by
  subst hp
  obtain ⟨eT, hn0, locs, Y, N⟩ := X
  obtain ⟨T', Y', e', st⟩ := getF Y C.1 C.2.1 C.2.2.1 w via eT F (g := mkF m pc Ls (.ref a :: St)) rfl rfl (hb C.2.2.2.1 hd)
  exact OGo.st st (hr T' ⟨e', hn0, _, Y', N⟩)
theorem OGo.putfield (C : Cx p s m c Z own by0 ml) (X : Sd p l e R s m args below meth c n0 T h cells slots) {R0 O n d host Cn : String} {idx kk : Nat} {ty : FieldType} {a : Addr} {v old : Value} (w : (Jvm.Cond.fieldLink own idx R0 n d).before a0 Z = true ∨ (Jvm.Cond.fieldLinkNest own idx R0 n d host).before a0 Z = true) (via : Via Z R0 O n d) (F : Fld Z h a O n d old) (E : Exa Z h a Cn) (ga : n0 ≤ a)
    (L : (Jvm.Cond.lays Cn O n d).before a0 Z = true ∨ ((Jvm.Cond.laysFinal Cn O n d).before a0 Z = true ∧ own = O ∧ meth.name = "<init>")) (wi : (Jvm.Cond.instantiable Cn kk).before a0 Z = true) (hty : parseFieldDescriptor d = some ty) (hnn : narrow ty v = v) (hf : fits ty v = true) (hd : decode by0 pc = .ok (.putfield idx, 3)) (hp : pc + 3 = pc')
    (hr : ∀ T' h', Sd p l e R s m args below meth c n0 T' h' cells slots → Wr h h' a (RoadKit.slotOf Z O n d) v → Fld Z h' a O n d v → OGo p e below K T' (mkF m pc' Ls St)) : OGo p e below K T (mkF m pc Ls (v :: .ref a :: St)) := by
  subst hp
  obtain ⟨eT, hn0, locs, Y, N⟩ := X
  obtain ⟨T', h', Y', e', W, st⟩ := putF Y C.1 C.2.1 C.2.2.1 w via eT F E L wi hty hnn hf (g := mkF m pc Ls (v :: .ref a :: St)) rfl rfl (hb C.2.2.2.1 hd)
  exact OGo.st st (hr T' h' ⟨e', by rw [W.size]; exact hn0, _, Y', Fr.snoc Y' N ga⟩ W (F.same W))
theorem OGo.putfieldN (C : Cx p s m c Z own by0 ml) (X : Sd p l e R s m args below meth c n0 T h cells slots) {R0 O n d Cn : String} {idx kk : Nat} {ty : FieldType} {a : Addr} {v v' old : Value} (w : (Jvm.Cond.fieldLink own idx R0 n d).before a0 Z = true) (via : Via Z R0 O n d) (F : Fld Z h a O n d old) (E : Exa Z h a Cn) (ga : n0 ≤ a)
    (L : (Jvm.Cond.lays Cn O n d).before a0 Z = true ∨ ((Jvm.Cond.laysFinal Cn O n d).before a0 Z = true ∧ own = O ∧ meth.name = "<init>")) (wi : (Jvm.Cond.instantiable Cn kk).before a0 Z = true) (hty : parseFieldDescriptor d = some ty) (hnn : narrow ty v = v') (hf : fits ty v' = true) (hd : decode by0 pc = .ok (.putfield idx, 3)) (hp : pc + 3 = pc')
    (hr : ∀ T' h', Sd p l e R s m args below meth c n0 T' h' cells slots → Wr h h' a (RoadKit.slotOf Z O n d) v' → Fld Z h' a O n d v' → OGo p e below K T' (mkF m pc' Ls St)) : OGo p e below K T (mkF m pc Ls (v :: .ref a :: St)) := by
  subst hp
  obtain ⟨eT, hn0, locs, Y, N⟩ := X
  obtain ⟨T', h', Y', e', W, st⟩ := putFN Y C.1 C.2.1 C.2.2.1 w via eT F E L wi hty hnn hf (g := mkF m pc Ls (v :: .ref a :: St)) rfl rfl (hb C.2.2.2.1 hd)
  exact OGo.st st (hr T' h' ⟨e', by rw [W.size]; exact hn0, _, Y', Fr.snoc Y' N ga⟩ W (F.same W))
theorem OGo.getstatic (C : Cx p s m c Z own by0 ml) (X : Sd p l e R s m args below meth c n0 T h cells slots) {R0 O n d host : String} {idx : Nat} {v : Value} (w : (Jvm.Cond.fieldLink own idx R0 n d).before a0 Z = true ∨ (Jvm.Cond.fieldLinkNest own idx R0 n d host).before a0 Z = true) (via : Via Z R0 O n d) (F : Sta Z h O n d v) (hd : decode by0 pc = .ok (.getstatic idx, 3)) (hp : pc + 3 = pc')
    (hr : ∀ T', Sd p l e R s m args below meth c n0 T' h cells slots → OGo p e below K T' (mkF m pc' Ls (v :: St))) : OGo p e below K T (mkF m pc Ls (St)) := by
  subst hp
  obtain ⟨eT, hn0, locs, Y, N⟩ := X
  obtain ⟨T', Y', e', st⟩ := getS2 Y C.1 C.2.1 C.2.2.1 w via eT F (g := mkF m pc Ls St) rfl (hb C.2.2.2.1 hd)
  exact OGo.st st (hr T' ⟨e', hn0, _, Y', N⟩)
theorem OGo.checkcast (C : Cx p s m c Z own by0 ml) (X : Sd p l e R s m args below meth c n0 T h cells slots) {Kn : String} {idx : Nat} {a : Addr} (w : (Jvm.Cond.classLink own idx Kn).before a0 Z = true) (F : Ins Z h a Kn true) (hd : decode by0 pc = .ok (.checkcast idx, 3)) (hp : pc + 3 = pc')
    (hr : ∀ T', Sd p l e R s m args below meth c n0 T' h cells slots → OGo p e below K T' (mkF m pc' Ls (.ref a :: St))) : OGo p e below K T (mkF m pc Ls (.ref a :: St)) := by
  subst hp
  obtain ⟨eT, hn0, locs, Y, N⟩ := X
  obtain ⟨T', Y', e', st⟩ := castY Y C.1 C.2.1 C.2.2.1 w eT F (g := mkF m pc Ls (.ref a :: St)) rfl rfl (hb C.2.2.2.1 hd)
  exact OGo.st st (hr T' ⟨e', hn0, _, Y', N⟩)
theorem OGo.instYes (C : Cx p s m c Z own by0 ml) (X : Sd p l e R s m args below meth c n0 T h cells slots) {Kn : String} {idx : Nat} {a : Addr} (w : (Jvm.Cond.classLink own idx Kn).before a0 Z = true) (F : Ins Z h a Kn true) (hd : decode by0 pc = .ok (.instanceof idx, 3)) (hp : pc + 3 = pc')
    (hr : ∀ T', Sd p l e R s m args below meth c n0 T' h cells slots → OGo p e below K T' (mkF m pc' Ls (.int 1 :: St))) : OGo p e below K T (mkF m pc Ls (.ref a :: St)) := by
  subst hp
  obtain ⟨eT, hn0, locs, Y, N⟩ := X
  obtain ⟨T', Y', e', st⟩ := instY Y C.1 C.2.1 C.2.2.1 w eT F (g := mkF m pc Ls (.ref a :: St)) rfl rfl (hb C.2.2.2.1 hd)
  exact OGo.st st (hr T' ⟨e', hn0, _, Y', N⟩)
theorem OGo.instNo (C : Cx p s m c Z own by0 ml) (X : Sd p l e R s m args below meth c n0 T h cells slots) {Kn Cn : String} {idx : Nat} {a : Addr} (w : (Jvm.Cond.classLink own idx Kn).before a0 Z = true) (E : Exa Z h a Cn) (F : ∃ c t, Z.vm.findClass Cn = some c ∧ Z.vm.findClass Kn = some t ∧ Z.vm.assignable c t = false) (hd : decode by0 pc = .ok (.instanceof idx, 3)) (hp : pc + 3 = pc')
    (hr : ∀ T', Sd p l e R s m args below meth c n0 T' h cells slots → OGo p e below K T' (mkF m pc' Ls (.int 0 :: St))) : OGo p e below K T (mkF m pc Ls (.ref a :: St)) := by
  subst hp
  obtain ⟨eT, hn0, locs, Y, N⟩ := X
  obtain ⟨T', Y', e', st⟩ := RoadKit.instNo Y C.1 C.2.1 C.2.2.1 w eT E F (g := mkF m pc Ls (.ref a :: St)) rfl rfl (hb C.2.2.2.1 hd)
  exact OGo.st st (hr T' ⟨e', hn0, _, Y', N⟩)
theorem OGo.initObj (C : Cx p s m c Z own by0 ml) (X : Sd p l e R s m args below meth c n0 T h cells slots) {idx : Nat} {a : Addr} (w1 : (Jvm.Cond.methodLink own idx Lib.objectInit).before a0 Z = true) (w2 : (Jvm.Cond.instanceMethod Lib.objectInit).before a0 Z = true) (w3 : (Jvm.Cond.code Lib.objectInit ⟨#[0xb1]⟩ 1 none).before a0 Z = true) (hd : decode by0 pc = .ok (.invokespecial idx, 3)) (hp : pc + 3 = pc') (hsz : Ls.size = ml) (hf : 1 ≤ R.frames) (hl : (St.map fun v => v.category).sum + 12 ≤ R.locals)
    (hr : ∀ T', Sd p l e R s m args below meth c n0 T' h cells slots → OGo p e below K T' (mkF m pc' Ls St)) : OGo p e below K T (mkF m pc Ls (.ref a :: St)) := by
  subst hp
  obtain ⟨eT, hn0, locs, Y, N⟩ := X
  obtain ⟨T', Y', e', st⟩ := initO Y C.1 C.2.1 C.2.2.1 w1 w2 w3 eT (g := mkF m pc Ls (.ref a :: St)) rfl (by rw [C.2.2.2.2]; exact hsz) rfl (hb C.2.2.2.1 hd) hf (W := (St.map fun v => v.category).sum) (by show 2 * 0 + _ ≤ _; omega) hl
  exact OGo.st st (hr T' ⟨e', hn0, _, Y', N⟩)
theorem OGo.ret (C : Cx p s m c Z own by0 ml) (X : Sd p l e R s m args below meth c n0 T h cells slots)  {Q : Option Value → Heap → Prop} {nc ns : Nat} (hd : decode by0 pc = .ok (.return_, 1)) (hret : meth.sig.returnType = none) (hlk : meth.locks = false) (hQ : Q (none) h) (hc : cells ≤ nc) (hs : slots ≤ ns) : OGo p e below (Kk s below n0 Q nc ns) T (mkF m pc Ls ([])) := by
  obtain ⟨eT, hn0, locs, Y, N⟩ := X
  obtain ⟨fs, hr, hrun, hended, hW, hsame⟩ := Y.leave (v := none) (fun hh => by rfl) hlk
  exact ⟨_, _, Y.returnOut C.1 hret (hb C.2.2.2.1 hd) hr, hrun, hended, _, locs, rfl, ⟨by show Q _ T.heap; rw [eT]; exact hQ, N⟩, ⟨_, rfl⟩, hW, hsame.mono hc hs⟩
theorem OGo.retInt (C : Cx p s m c Z own by0 ml) (X : Sd p l e R s m args below meth c n0 T h cells slots) {z : Int32} {rest : List Value} {Q : Option Value → Heap → Prop} {nc ns : Nat} (hd : decode by0 pc = .ok (.ireturn, 1)) (hret : meth.sig.returnType = some .int) (hlk : meth.locks = false) (hQ : Q (some (.int z)) h) (hc : cells ≤ nc) (hs : slots ≤ ns) : OGo p e below (Kk s below n0 Q nc ns) T (mkF m pc Ls (.int z :: rest)) := by
  obtain ⟨eT, hn0, locs, Y, N⟩ := X
  obtain ⟨fs, hr, hrun, hended, hW, hsame⟩ := Y.leave (v := some (.int z)) (fun hh => by rw [hret] at hh; cases hh) hlk
  exact ⟨_, _, retOut Y C.1 (i := .ireturn) hret rfl (Or.inl ⟨rfl, Or.inl rfl, _, rfl⟩) (hb C.2.2.2.1 hd) hr, hrun, hended, _, locs, rfl, ⟨by show Q _ T.heap; rw [eT]; exact hQ, N⟩, ⟨_, rfl⟩, hW, hsame.mono hc hs⟩
theorem OGo.retN (C : Cx p s m c Z own by0 ml) (X : Sd p l e R s m args below meth c n0 T h cells slots) {z z' : Int32} {rest : List Value} {t : FieldType} {Q : Option Value → Heap → Prop} {nc ns : Nat} (hd : decode by0 pc = .ok (.ireturn, 1)) (hret : meth.sig.returnType = some t) (ht : t = .boolean ∨ t = .byte ∨ t = .char ∨ t = .short) (hz : nar t z = z') (hlk : meth.locks = false) (hQ : Q (some (.int z')) h) (hc : cells ≤ nc) (hs : slots ≤ ns) : OGo p e below (Kk s below n0 Q nc ns) T (mkF m pc Ls (.int z :: rest)) := by
  subst hz
  obtain ⟨eT, hn0, locs, Y, N⟩ := X
  obtain ⟨fs, hr, hrun, hended, hW, hsame⟩ := Y.leave (v := some (.int (nar t z))) (fun hh => by rw [hret] at hh; cases hh) hlk
  exact ⟨_, _, RoadKit.retN Y C.1 hret ht (hb C.2.2.2.1 hd) hr, hrun, hended, _, locs, rfl, ⟨by show Q _ T.heap; rw [eT]; exact hQ, N⟩, ⟨_, rfl⟩, hW, hsame.mono hc hs⟩
theorem OGo.retD (C : Cx p s m c Z own by0 ml) (X : Sd p l e R s m args below meth c n0 T h cells slots) {z : UInt64} {rest : List Value} {Q : Option Value → Heap → Prop} {nc ns : Nat} (hd : decode by0 pc = .ok (.dreturn, 1)) (hret : meth.sig.returnType = some .double) (hlk : meth.locks = false) (hQ : Q (some (.double z)) h) (hc : cells ≤ nc) (hs : slots ≤ ns) : OGo p e below (Kk s below n0 Q nc ns) T (mkF m pc Ls (.double z :: rest)) := by
  obtain ⟨eT, hn0, locs, Y, N⟩ := X
  obtain ⟨fs, hr, hrun, hended, hW, hsame⟩ := Y.leave (v := some (.double z)) (fun hh => by rw [hret] at hh; cases hh) hlk
  exact ⟨_, _, retOut Y C.1 (i := .dreturn) hret rfl (Or.inr (Or.inr (Or.inl ⟨rfl, rfl, _, rfl⟩))) (hb C.2.2.2.1 hd) hr, hrun, hended, _, locs, rfl, ⟨by show Q _ T.heap; rw [eT]; exact hQ, N⟩, ⟨_, rfl⟩, hW, hsame.mono hc hs⟩
theorem OGo.retL (C : Cx p s m c Z own by0 ml) (X : Sd p l e R s m args below meth c n0 T h cells slots) {z : Int64} {rest : List Value} {Q : Option Value → Heap → Prop} {nc ns : Nat} (hd : decode by0 pc = .ok (.lreturn, 1)) (hret : meth.sig.returnType = some .long) (hlk : meth.locks = false) (hQ : Q (some (.long z)) h) (hc : cells ≤ nc) (hs : slots ≤ ns) : OGo p e below (Kk s below n0 Q nc ns) T (mkF m pc Ls (.long z :: rest)) := by
  obtain ⟨eT, hn0, locs, Y, N⟩ := X
  obtain ⟨fs, hr, hrun, hended, hW, hsame⟩ := Y.leave (v := some (.long z)) (fun hh => by rw [hret] at hh; cases hh) hlk
  exact ⟨_, _, retOut Y C.1 (i := .lreturn) hret rfl (Or.inr (Or.inl ⟨rfl, rfl, _, rfl⟩)) (hb C.2.2.2.1 hd) hr, hrun, hended, _, locs, rfl, ⟨by show Q _ T.heap; rw [eT]; exact hQ, N⟩, ⟨_, rfl⟩, hW, hsame.mono hc hs⟩
theorem OGo.retA (C : Cx p s m c Z own by0 ml) (X : Sd p l e R s m args below meth c n0 T h cells slots) {z : Value} {rest : List Value} {t : FieldType} {Q : Option Value → Heap → Prop} {nc ns : Nat} (hd : decode by0 pc = .ok (.areturn, 1)) (hret : meth.sig.returnType = some t) (ht : t.isReference = true) (hz : z.isRef = true) (hlk : meth.locks = false) (hQ : Q (some z) h) (hc : cells ≤ nc) (hs : slots ≤ ns) : OGo p e below (Kk s below n0 Q nc ns) T (mkF m pc Ls (z :: rest)) := by
  obtain ⟨eT, hn0, locs, Y, N⟩ := X
  obtain ⟨fs, hr, hrun, hended, hW, hsame⟩ := Y.leave (v := some z) (fun hh => by rw [hret] at hh; cases hh) hlk
  exact ⟨_, _, retOut Y C.1 (i := .areturn) hret (by rcases ref_cases hz with rfl | ⟨b, rfl⟩ <;> cases t <;> first | rfl | cases ht) (Or.inr (Or.inr (Or.inr (Or.inr ⟨rfl, ht, hz⟩)))) (hb C.2.2.2.1 hd) hr, hrun, hended, _, locs, rfl, ⟨by show Q _ T.heap; rw [eT]; exact hQ, N⟩, ⟨_, rfl⟩, hW, hsame.mono hc hs⟩
theorem backC {y : MethodName} {cb : ByteArray} {cml : Nat} {ret : Option FieldType} {rm : Room} {as' : Array Value} {Q : Option Value → Heap → Prop} {len W : Nat} (hM : Ctr l Z y cb cml ret rm n0 as' h Q) (hZ : Z.Warmed39 s.vm) (wc : (Jvm.Cond.code y cb cml ret).before a0 Z = true) (wz : (Jvm.Cond.initialized y.cls).before a0 Z = true) (hf : rm.frames + 1 ≤ R.frames) (hl : W + (cml + 11) + rm.locals ≤ R.locals) :
    Back l R p e below s args y len W (fun A a => a = as' ∧ A.U.heap = h ∧ A.cells + rm.cells ≤ R.cells ∧ A.slots + rm.slots ≤ R.slots) (fun A _ v B => ∃ L, ((Q v B.U.heap ∧ h.size ≤ B.U.heap.size) ∧ Fr n0 L) ∧ B.locs = A.locs ++ L ∧ B.cells = A.cells + rm.cells ∧ B.slots = A.slots + rm.slots) :=
  backOf (Q := fun v h' L => (Q v h' ∧ h.size ≤ h'.size) ∧ Fr n0 L) (hM []) hZ wc wz hf hl
theorem OGo.callS (C : Cx p s m c Z own by0 ml) (X : Sd p l e R s m args below meth c n0 T h cells slots) {y : MethodName} {cb : ByteArray} {cml : Nat} {ret : Option FieldType} {rm : Room} {as' : Array Value} {Q : Option Value → Heap → Prop} {idx : Nat}  (w1 : (Jvm.Cond.methodLink own idx y).before a0 Z = true) (w2 : (Jvm.Cond.static y).before a0 Z = true) (hy : y.cls ≠ "java/lang/invoke/MethodHandle" ∧ y.cls ≠ "java/lang/invoke/VarHandle") (w4 : (Jvm.Cond.code y cb cml ret).before a0 Z = true) (w5 : (Jvm.Cond.initialized y.cls).before a0 Z = true) (hM : Ctr l Z y cb cml ret rm n0 as' h Q) {argsL : List Value} (hlen : ∀ sig, parseMethodDescriptor y.desc = some sig → argsL.length = sig.parameters.length) (has : argsL.toArray = as') (hd : decode by0 pc = .ok (.invokestatic idx, 3)) (hp : pc + 3 = pc') (hsz : Ls.size = ml) (hf : rm.frames + 1 ≤ R.frames) (hl : (St.map fun v => v.category).sum + (cml + 11) + rm.locals ≤ R.locals) (hc' : cells + rm.cells = cells') (hs' : slots + rm.slots = slots') (hc : cells' ≤ R.cells) (hs : slots' ≤ R.slots)
    (hr : ∀ v T' h', Q v h' → Sd p l e R s m args below meth c n0 T' h' cells' slots' → h.size ≤ h'.size → OGo p e below K T' (mkF m pc' Ls (v.toList ++ St))) : OGo p e below K T (mkF m pc Ls (argsL.reverse ++ St)) := by
  subst hp hc' hs' has
  obtain ⟨eT, hn0, locs, Y, N⟩ := X
  have hK := backC (args := args) (p := p) (e := e) (below := below) (R := R) (len := 3) (W := (St.map fun v => v.category).sum) hM C.2.1 w4 w5 hf hl
  obtain ⟨v, _, ⟨B, L2, k2, n2⟩, -, Y', ⟨L, hQ, l1, y1, z1⟩, st⟩ := Jvm.LawKit.callS Y C.1 (y := y) C.2.2.1 (mvT C.2.1 w1) (mvT C.2.1 w2) (mvT C.2.1 w5) (mvT C.2.1 w4) hy hK (g := mkF m pc Ls (argsL.reverse ++ St)) rfl (by rw [C.2.2.2.2]; exact hsz) (argsL := argsL) (rest := St) hlen rfl (by show 2 * 0 + _ ≤ _; omega) (hb C.2.2.2.1 hd) (fun _ _ => ⟨rfl, eT, hc, hs⟩)
  dsimp only [Pt.U, Pt.locs, Pt.cells, Pt.slots] at Y' l1 y1 z1 st hQ
  subst l1 y1 z1
  obtain ⟨⟨hQ, hge⟩, hF⟩ := hQ
  exact OGo.st st (hr v B B.heap hQ ⟨rfl, Nat.le_trans hn0 hge, _, Y', N.app hF⟩ hge)
theorem OGo.callInit (C : Cx p s m c Z own by0 ml) (X : Sd p l e R s m args below meth c n0 T h cells slots) {y : MethodName} {cb : ByteArray} {cml : Nat} {ret : Option FieldType} {rm : Room} {as' : Array Value} {Q : Option Value → Heap → Prop} {idx : Nat} {a : Addr} (hy1 : y.name = "<init>") (hrn : ret = none) (w1 : (Jvm.Cond.methodLink own idx y).before a0 Z = true) (w2 : (Jvm.Cond.instanceMethod y).before a0 Z = true) (hy : y.cls ≠ "java/lang/invoke/MethodHandle" ∧ y.cls ≠ "java/lang/invoke/VarHandle") (w4 : (Jvm.Cond.code y cb cml ret).before a0 Z = true) (w5 : (Jvm.Cond.initialized y.cls).before a0 Z = true) (hM : Ctr l Z y cb cml ret rm n0 as' h Q) {argsL : List Value} (hlen : ∀ sig, parseMethodDescriptor y.desc = some sig → argsL.length = sig.parameters.length) (has : (Value.ref a :: argsL).toArray = as') (hd : decode by0 pc = .ok (.invokespecial idx, 3)) (hp : pc + 3 = pc') (hsz : Ls.size = ml) (hf : rm.frames + 1 ≤ R.frames) (hl : (St.map fun v => v.category).sum + (cml + 11) + rm.locals ≤ R.locals) (hc' : cells + rm.cells = cells') (hs' : slots + rm.slots = slots') (hc : cells' ≤ R.cells) (hs : slots' ≤ R.slots)
    (hr : ∀ v T' h', Q v h' → Sd p l e R s m args below meth c n0 T' h' cells' slots' → h.size ≤ h'.size → OGo p e below K T' (mkF m pc' Ls (v.toList ++ St))) : OGo p e below K T (mkF m pc Ls (argsL.reverse ++ Value.ref a :: St)) := by
  subst hp hc' hs' has
  obtain ⟨eT, hn0, locs, Y, N⟩ := X
  have hK := backC (args := args) (p := p) (e := e) (below := below) (R := R) (len := 3) (W := (St.map fun v => v.category).sum) hM C.2.1 w4 w5 hf hl
  obtain ⟨v, _, ⟨B, L2, k2, n2⟩, -, Y', ⟨L, hQ, l1, y1, z1⟩, st⟩ := Y.specialBack C.1 (y := y) hy1 C.2.2.1 (mvT C.2.1 w1) (mvT C.2.1 w2) (mvT C.2.1 (hrn ▸ w4)) hy hK (g := mkF m pc Ls (argsL.reverse ++ Value.ref a :: St)) rfl (by rw [C.2.2.2.2]; exact hsz) (Steps.refl _) (a := a) (argsL := argsL) (rest := St) hlen rfl (by show 2 * 0 + _ ≤ _; omega) (hb C.2.2.2.1 hd) (fun _ _ => ⟨rfl, eT, hc, hs⟩)
  dsimp only [Pt.U, Pt.locs, Pt.cells, Pt.slots] at Y' l1 y1 z1 st hQ
  subst l1 y1 z1
  obtain ⟨⟨hQ, hge⟩, hF⟩ := hQ
  exact OGo.tr st (hr v B B.heap hQ ⟨rfl, Nat.le_trans hn0 hge, _, Y', N.app hF⟩ hge)
theorem OGo.callV (C : Cx p s m c Z own by0 ml) (X : Sd p l e R s m args below meth c n0 T h cells slots) {y : MethodName} {cb : ByteArray} {cml : Nat} {ret : Option FieldType} {rm : Room} {as' : Array Value} {Q : Option Value → Heap → Prop} {idx : Nat} {a : Addr} {Cn : String} (w1 : (Jvm.Cond.methodLink own idx y).before a0 Z = true) (w2 : (Jvm.Cond.declares y).before a0 Z = true) (w3 : (Jvm.Cond.selects Cn y y).before a0 Z = true) (w6 : (Jvm.Cond.instanceMethod y).before a0 Z = true) (hy : y.cls ≠ "java/lang/invoke/MethodHandle" ∧ y.cls ≠ "java/lang/invoke/VarHandle") (E : Exa Z h a Cn) (w4 : (Jvm.Cond.code y cb cml ret).before a0 Z = true) (w5 : (Jvm.Cond.initialized y.cls).before a0 Z = true) (hM : Ctr l Z y cb cml ret rm n0 as' h Q) {argsL : List Value} (hlen : ∀ sig, parseMethodDescriptor y.desc = some sig → argsL.length = sig.parameters.length) (has : (Value.ref a :: argsL).toArray = as') (hd : decode by0 pc = .ok (.invokevirtual idx, 3)) (hp : pc + 3 = pc') (hsz : Ls.size = ml) (hf : rm.frames + 1 ≤ R.frames) (hl : (St.map fun v => v.category).sum + (cml + 11) + rm.locals ≤ R.locals) (hc' : cells + rm.cells = cells') (hs' : slots + rm.slots = slots') (hc : cells' ≤ R.cells) (hs : slots' ≤ R.slots)
    (hr : ∀ v T' h', Q v h' → Sd p l e R s m args below meth c n0 T' h' cells' slots' → h.size ≤ h'.size → OGo p e below K T' (mkF m pc' Ls (v.toList ++ St))) : OGo p e below K T (mkF m pc Ls (argsL.reverse ++ Value.ref a :: St)) := by
  subst hp hc' hs' has
  obtain ⟨eT, hn0, locs, Y, N⟩ := X
  have hK := backC (args := args) (p := p) (e := e) (below := below) (R := R) (len := 3) (W := (St.map fun v => v.category).sum) hM C.2.1 w4 w5 hf hl
  obtain ⟨v, _, ⟨B, L2, k2, n2⟩, -, Y', ⟨L, hQ, l1, y1, z1⟩, st⟩ := (let ⟨_, _, q1, _, q3⟩ := isOf C.2.1 eT E; Y.virtualBack C.1 (y := y) (z := y) C.2.2.1 (mvT C.2.1 w1) (mvT C.2.1 w2) (notFace_of_selects (args := #[]) (mvT C.2.1 w3)) (mvT C.2.1 w3) (mvT C.2.1 w6) hy hK q1 q3 (g := mkF m pc Ls (argsL.reverse ++ Value.ref a :: St)) rfl (by rw [C.2.2.2.2]; exact hsz) (Steps.refl _) (argsL := argsL) (rest := St) hlen rfl (by show 2 * 0 + _ ≤ _; omega) (hb C.2.2.2.1 hd) (fun _ _ => ⟨rfl, eT, hc, hs⟩))
  dsimp only [Pt.U, Pt.locs, Pt.cells, Pt.slots] at Y' l1 y1 z1 st hQ
  subst l1 y1 z1
  obtain ⟨⟨hQ, hge⟩, hF⟩ := hQ
  exact OGo.tr st (hr v B B.heap hQ ⟨rfl, Nat.le_trans hn0 hge, _, Y', N.app hF⟩ hge)
theorem OGo.callV2 (C : Cx p s m c Z own by0 ml) (X : Sd p l e R s m args below meth c n0 T h cells slots) {y : MethodName} {cb : ByteArray} {cml : Nat} {ret : Option FieldType} {rm : Room} {as' : Array Value} {Q : Option Value → Heap → Prop} {idx : Nat} {yr : MethodName} {a : Addr} {Cn : String} (w1 : (Jvm.Cond.methodLink own idx yr).before a0 Z = true) (w2 : (Jvm.Cond.declares yr).before a0 Z = true) (hnf : NotFace s yr) (w3 : (Jvm.Cond.selects Cn yr y).before a0 Z = true) (w6 : (Jvm.Cond.instanceMethod y).before a0 Z = true) (hy : yr.cls ≠ "java/lang/invoke/MethodHandle" ∧ yr.cls ≠ "java/lang/invoke/VarHandle") (hds : yr.desc = y.desc) (E : Exa Z h a Cn) (w4 : (Jvm.Cond.code y cb cml ret).before a0 Z = true) (w5 : (Jvm.Cond.initialized y.cls).before a0 Z = true) (hM : Ctr l Z y cb cml ret rm n0 as' h Q) {argsL : List Value} (hlen : ∀ sig, parseMethodDescriptor y.desc = some sig → argsL.length = sig.parameters.length) (has : (Value.ref a :: argsL).toArray = as') (hd : decode by0 pc = .ok (.invokevirtual idx, 3)) (hp : pc + 3 = pc') (hsz : Ls.size = ml) (hf : rm.frames + 1 ≤ R.frames) (hl : (St.map fun v => v.category).sum + (cml + 11) + rm.locals ≤ R.locals) (hc' : cells + rm.cells = cells') (hs' : slots + rm.slots = slots') (hc : cells' ≤ R.cells) (hs : slots' ≤ R.slots)
    (hr : ∀ v T' h', Q v h' → Sd p l e R s m args below meth c n0 T' h' cells' slots' → h.size ≤ h'.size → OGo p e below K T' (mkF m pc' Ls (v.toList ++ St))) : OGo p e below K T (mkF m pc Ls (argsL.reverse ++ Value.ref a :: St)) := by
  subst hp hc' hs' has
  obtain ⟨eT, hn0, locs, Y, N⟩ := X
  have hK := backC (args := args) (p := p) (e := e) (below := below) (R := R) (len := 3) (W := (St.map fun v => v.category).sum) hM C.2.1 w4 w5 hf hl
  obtain ⟨v, _, ⟨B, L2, k2, n2⟩, -, Y', ⟨L, hQ, l1, y1, z1⟩, st⟩ := (let ⟨_, _, q1, _, q3⟩ := isOf C.2.1 eT E; Y.virtualBack C.1 (y := yr) (z := y) C.2.2.1 (mvT C.2.1 w1) (mvT C.2.1 w2) hnf (mvT C.2.1 w3) (mvT C.2.1 w6) hy hK q1 q3 (g := mkF m pc Ls (argsL.reverse ++ Value.ref a :: St)) rfl (by rw [C.2.2.2.2]; exact hsz) (Steps.refl _) (argsL := argsL) (rest := St) (hds ▸ hlen) rfl (by show 2 * 0 + _ ≤ _; omega) (hb C.2.2.2.1 hd) (fun _ _ => ⟨rfl, eT, hc, hs⟩))
  dsimp only [Pt.U, Pt.locs, Pt.cells, Pt.slots] at Y' l1 y1 z1 st hQ
  subst l1 y1 z1
  obtain ⟨⟨hQ, hge⟩, hF⟩ := hQ
  exact OGo.tr st (hr v B B.heap hQ ⟨rfl, Nat.le_trans hn0 hge, _, Y', N.app hF⟩ hge)
theorem OGo.clone (C : Cx p s m c Z own by0 ml) (X : Sd p l e R s m args below meth c n0 T h cells slots) {ad : String} {idx : Nat} {a : Addr} {k : ClassId} {ty : FieldType} {z : Int32} {vs : List Value} {dv : Value} {cap : Nat} (w1 : (Jvm.Cond.methodLink own idx ⟨ad, "clone", "()Ljava/lang/Object;"⟩).before a0 Z = true) (w2 : (Jvm.Cond.sameMethod ad "java/lang/Object" "clone" "()Ljava/lang/Object;").before a0 Z = true) (w3 : (Jvm.Cond.native ⟨"java/lang/Object", "clone", "()Ljava/lang/Object;"⟩).before a0 Z = true)
    (w4 : (Jvm.Cond.instanceMethod ⟨"java/lang/Object", "clone", "()Ljava/lang/Object;"⟩).before a0 Z = true) (w5 : (Jvm.Cond.selects ad ⟨ad, "clone", "()Ljava/lang/Object;"⟩ ⟨"java/lang/Object", "clone", "()Ljava/lang/Object;"⟩).before a0 Z = true) (w6 : (Jvm.Cond.castable ad "java/lang/Cloneable").before a0 Z = true) (V : Arv Z h a k ty z vs dv) (E : Exa Z h a ad)
    (hd : decode by0 pc = .ok (.invokevirtual idx, 3)) (hp : pc + 3 = pc') (hsz : Ls.size = ml) (hf : 1 ≤ R.frames) (hl : (St.map fun v => v.category).sum + 14 ≤ R.locals) (hcap : z.toNatClampNeg ≤ cap) (hc' : cells + 1 = cells') (hs' : slots + cap = slots') (hc : cells' ≤ R.cells) (hs : slots' ≤ R.slots)
    (hr : ∀ T' h' b, Sd p l e R s m args below meth c n0 T' h' cells' slots' → b = h.size → n0 ≤ b → Ext h h' → Arv Z h' b k ty z vs dv → Exa Z h' b ad → OGo p e below K T' (mkF m pc' Ls (.ref b :: St))) : OGo p e below K T (mkF m pc Ls (.ref a :: St)) := by
  subst hp hc' hs'
  obtain ⟨eT, hn0, locs, Y, N⟩ := X
  obtain ⟨T', h', Y', e', Ex, A, EE, st⟩ := cloneH Y C.1 C.2.1 C.2.2.1 w1 w2 w3 w4 w5 w6 eT (Arv.arh V) E (g := mkF m pc Ls (.ref a :: St)) rfl (by rw [C.2.2.2.2]; exact hsz) rfl (hb C.2.2.2.1 hd) hf (W := (St.map fun v => v.category).sum) (by show 2 * 0 + _ ≤ _; omega) hl hcap hc hs
  exact OGo.st st (hr T' h' _ ⟨e', Nat.le_trans hn0 Ex.1, _, Y', N⟩ rfl hn0 Ex A EE)
theorem priv_selects {y : MethodName} {k : Nat} (hZ : Z.Warmed39 s.vm) (w2 : (Jvm.Cond.instanceMethod y).before a0 Z = true) (w3 : (Jvm.Cond.privateMethod y).before a0 Z = true) (wi : (Jvm.Cond.instantiable y.cls k).before a0 Z = true) (hy : y.cls ≠ "java/lang/invoke/MethodHandle" ∧ y.cls ≠ "java/lang/invoke/VarHandle") : (Jvm.Cond.selects y.cls y y).before args s = true := by
  obtain ⟨c, k, h1, h2, -, h4, -⟩ := Cond.instantiable_spec (show (Jvm.Cond.instantiable y.cls k).before args s = true from mvT hZ wi)
  have h5 : k.isInterface = false := by
    cases hq : k.isInterface
    · rfl
    · rw [hq] at h4; cases h4
  exact selects_self_of_private h1 h2 h5 (Cond.privateMethod_at (mvP hZ w3 (args := #[]))) (mvT hZ w2) hy
theorem OGo.callPriv (C : Cx p s m c Z own by0 ml) (X : Sd p l e R s m args below meth c n0 T h cells slots) {y : MethodName} {cb : ByteArray} {cml : Nat} {ret : Option FieldType} {rm : Room} {as' : Array Value} {Q : Option Value → Heap → Prop} {idx : Nat} {a : Addr} {Cn : String} {kk : Nat} (w1 : (Jvm.Cond.methodLink own idx y).before a0 Z = true) (w2 : (Jvm.Cond.instanceMethod y).before a0 Z = true) (w3 : (Jvm.Cond.privateMethod y).before a0 Z = true) (wi : (Jvm.Cond.instantiable y.cls kk).before a0 Z = true) (hy : y.cls ≠ "java/lang/invoke/MethodHandle" ∧ y.cls ≠ "java/lang/invoke/VarHandle") (E : Exa Z h a Cn) (w4 : (Jvm.Cond.code y cb cml ret).before a0 Z = true) (w5 : (Jvm.Cond.initialized y.cls).before a0 Z = true) (hM : Ctr l Z y cb cml ret rm n0 as' h Q) {argsL : List Value} (hlen : ∀ sig, parseMethodDescriptor y.desc = some sig → argsL.length = sig.parameters.length) (has : (Value.ref a :: argsL).toArray = as') (hd : decode by0 pc = .ok (.invokevirtual idx, 3)) (hp : pc + 3 = pc') (hsz : Ls.size = ml) (hf : rm.frames + 1 ≤ R.frames) (hl : (St.map fun v => v.category).sum + (cml + 11) + rm.locals ≤ R.locals) (hc' : cells + rm.cells = cells') (hs' : slots + rm.slots = slots') (hc : cells' ≤ R.cells) (hs : slots' ≤ R.slots)
    (hr : ∀ v T' h', Q v h' → Sd p l e R s m args below meth c n0 T' h' cells' slots' → h.size ≤ h'.size → OGo p e below K T' (mkF m pc' Ls (v.toList ++ St))) : OGo p e below K T (mkF m pc Ls (argsL.reverse ++ Value.ref a :: St)) := by
  subst hp hc' hs' has
  obtain ⟨eT, hn0, locs, Y, N⟩ := X
  have hK := backC (args := args) (p := p) (e := e) (below := below) (R := R) (len := 3) (W := (St.map fun v => v.category).sum) hM C.2.1 w4 w5 hf hl
  obtain ⟨v, _, ⟨B, L2, k2, n2⟩, -, Y', ⟨L, hQ, l1, y1, z1⟩, st⟩ := (let ⟨_, q1, q2⟩ := E.cell; Y.privateBack C.1 (y := y) C.2.2.1 (mvT C.2.1 w1) (mvT C.2.1 w2) (priv_selects C.2.1 w2 w3 wi hy) (Cond.privateMethod_at (mvP C.2.1 w3 (args := #[]))) (mvT C.2.1 w4) hy hK (g := mkF m pc Ls (argsL.reverse ++ Value.ref a :: St)) rfl (by rw [C.2.2.2.2]; exact hsz) (Steps.refl _) (a := a) (by rw [eT]; exact q1) q2 (argsL := argsL) (rest := St) hlen rfl (by show 2 * 0 + _ ≤ _; omega) (hb C.2.2.2.1 hd) (fun _ _ => ⟨rfl, eT, hc, hs⟩))
  dsimp only [Pt.U, Pt.locs, Pt.cells, Pt.slots] at Y' l1 y1 z1 st hQ
  subst l1 y1 z1
  obtain ⟨⟨hQ, hge⟩, hF⟩ := hQ
  exact OGo.tr st (hr v B B.heap hQ ⟨rfl, Nat.le_trans hn0 hge, _, Y', N.app hF⟩ hge)
theorem OGo.natS (C : Cx p s m c Z own by0 ml) (X : Sd p l e R s m args below meth c n0 T h cells slots) {y : MethodName} {cb : ByteArray} {cml : Nat} {rt : Option FieldType} {idx : Nat} {val : Value} {F : Array Value → Prop} (w1 : (Jvm.Cond.methodLink own idx y).before a0 Z = true) (w2 : (Jvm.Cond.static y).before a0 Z = true) (w3 : (Jvm.Cond.initialized y.cls).before a0 Z = true) (w4 : (Jvm.Cond.code y cb cml rt).before a0 Z = true) (hy : y.cls ≠ "java/lang/invoke/MethodHandle" ∧ y.cls ≠ "java/lang/invoke/VarHandle")
    {argsL : List Value} (hlen : ∀ sig, parseMethodDescriptor y.desc = some sig → argsL.length = sig.parameters.length) (hd : decode by0 pc = .ok (.invokestatic idx, 3)) (hp : pc + 3 = pc') (hsz : Ls.size = ml) (hc : cells ≤ R.cells) (hs : slots ≤ R.slots)
    (hK : (Jvm.Cond.code y cb cml rt).before args s = true → Back l R p e below s args y 3 ((St.map fun v => v.category).sum) (fun A a' => A.cells ≤ R.cells ∧ A.slots ≤ R.slots ∧ F a') (fun A _ v B => v = some val ∧ B = A)) (hF : F argsL.toArray)
    (hr : ∀ T', Sd p l e R s m args below meth c n0 T' h cells slots → OGo p e below K T' (mkF m pc' Ls (val :: St))) : OGo p e below K T (mkF m pc Ls (argsL.reverse ++ St)) := by
  subst hp
  obtain ⟨eT, hn0, locs, Y, N⟩ := X
  obtain ⟨T', Y', e', st⟩ := RoadKit.natS Y C.1 C.2.1 C.2.2.1 w1 w2 w3 w4 hy eT hK (g := mkF m pc Ls (argsL.reverse ++ St)) rfl (by rw [C.2.2.2.2]; exact hsz) hlen rfl (by show 2 * 0 + _ ≤ _; omega) (hb C.2.2.2.1 hd) hc hs hF rfl
  exact OGo.st st (hr T' ⟨e', hn0, _, Y', N⟩)
end OwnGo
end Jvm.Pilot.@@N@@
namespace Jvm.Pilot.@@N@@
open Jvm Jvm.ClassFile Sem Op Lib Jvm.Free Jvm.Stand Jvm.LawKit Jvm.RoadKit Jvm.Free.Fl Jvm.FP Bundle Jvm.Pilot.@@N@@.Jvm.D
abbrev HW (a0 : Array Value) (Z : State) : Prop := ∀ d ∈ tables_1, d.before a0 Z = true
theorem wd0 {a0 : Array Value} {Z : State} (hw : HW a0 Z) : ((Jvm.Cond.constant "com/example/graphtend/graphtend/method/EvaluationMeanReciprocalRankPinLaw" (7 : Nat) (1048575 : Int32))).before a0 Z = true := hw _ (List.mem_of_getElem? (i := 0) rfl)
theorem wd1 {a0 : Array Value} {Z : State} (hw : HW a0 Z) : ((Jvm.Cond.arrayClass Jvm.ClassFile.FieldType.int)).before a0 Z = true := hw _ (List.mem_of_getElem? (i := 1) rfl)
theorem wd2 {a0 : Array Value} {Z : State} (hw : HW a0 Z) : ((Jvm.Cond.classLink "com/example/graphtend/graphtend/method/EvaluationMeanReciprocalRankPinLaw" (8 : Nat) "com/example/graphtend/graphtend/method/Evaluation")).before a0 Z = true := hw _ (List.mem_of_getElem? (i := 2) rfl)
theorem wd3 {a0 : Array Value} {Z : State} (hw : HW a0 Z) : ((Jvm.Cond.instantiable "com/example/graphtend/graphtend/method/Evaluation" (3 : Nat))).before a0 Z = true := hw _ (List.mem_of_getElem? (i := 3) rfl)
theorem wd4 {a0 : Array Value} {Z : State} (hw : HW a0 Z) : ((Jvm.Cond.initialized "com/example/graphtend/graphtend/method/Evaluation")).before a0 Z = true := hw _ (List.mem_of_getElem? (i := 4) rfl)
theorem wd5 {a0 : Array Value} {Z : State} (hw : HW a0 Z) : ((Jvm.Cond.methodLink "com/example/graphtend/graphtend/method/EvaluationMeanReciprocalRankPinLaw" (10 : Nat) ({ cls := "com/example/graphtend/graphtend/method/Evaluation", name := "<init>", desc := "(I[I)V" } : Jvm.MethodName))).before a0 Z = true := hw _ (List.mem_of_getElem? (i := 5) rfl)
theorem wd6 {a0 : Array Value} {Z : State} (hw : HW a0 Z) : ((Jvm.Cond.instanceMethod ({ cls := "com/example/graphtend/graphtend/method/Evaluation", name := "<init>", desc := "(I[I)V" } : Jvm.MethodName))).before a0 Z = true := hw _ (List.mem_of_getElem? (i := 6) rfl)
theorem wd7 {a0 : Array Value} {Z : State} (hw : HW a0 Z) : ((Jvm.Cond.code ({ cls := "com/example/graphtend/graphtend/method/Evaluation", name := "<init>", desc := "(I[I)V" } : Jvm.MethodName) prog_34_method_1_code (8 : Nat) (Option.none : Option Jvm.ClassFile.FieldType))).before a0 Z = true := hw _ (List.mem_of_getElem? (i := 7) rfl)
theorem wd8 {a0 : Array Value} {Z : State} (hw : HW a0 Z) : ((Jvm.Cond.methodLink "com/example/graphtend/graphtend/method/Evaluation" (1 : Nat) ({ cls := "java/lang/Object", name := "<init>", desc := "()V" } : Jvm.MethodName))).before a0 Z = true := hw _ (List.mem_of_getElem? (i := 8) rfl)
theorem wd9 {a0 : Array Value} {Z : State} (hw : HW a0 Z) : ((Jvm.Cond.instanceMethod ({ cls := "java/lang/Object", name := "<init>", desc := "()V" } : Jvm.MethodName))).before a0 Z = true := hw _ (List.mem_of_getElem? (i := 9) rfl)
theorem wd10 {a0 : Array Value} {Z : State} (hw : HW a0 Z) : ((Jvm.Cond.code ({ cls := "java/lang/Object", name := "<init>", desc := "()V" } : Jvm.MethodName) object_method_1_code (1 : Nat) (Option.none : Option Jvm.ClassFile.FieldType))).before a0 Z = true := hw _ (List.mem_of_getElem? (i := 10) rfl)
theorem wd11 {a0 : Array Value} {Z : State} (hw : HW a0 Z) : ((Jvm.Cond.fieldLink "com/example/graphtend/graphtend/method/Evaluation" (14 : Nat) "com/example/graphtend/graphtend/method/Evaluation" "seeds" "I")).before a0 Z = true := hw _ (List.mem_of_getElem? (i := 11) rfl)
theorem wd12 {a0 : Array Value} {Z : State} (hw : HW a0 Z) : ((Jvm.Cond.laysFinal "com/example/graphtend/graphtend/method/Evaluation" "com/example/graphtend/graphtend/method/Evaluation" "seeds" "I")).before a0 Z = true := hw _ (List.mem_of_getElem? (i := 12) rfl)
theorem wd13 {a0 : Array Value} {Z : State} (hw : HW a0 Z) : ((Jvm.Cond.fieldLink "com/example/graphtend/graphtend/method/Evaluation" (20 : Nat) "com/example/graphtend/graphtend/method/Evaluation" "tests" "I")).before a0 Z = true := hw _ (List.mem_of_getElem? (i := 13) rfl)
theorem wd14 {a0 : Array Value} {Z : State} (hw : HW a0 Z) : ((Jvm.Cond.laysFinal "com/example/graphtend/graphtend/method/Evaluation" "com/example/graphtend/graphtend/method/Evaluation" "tests" "I")).before a0 Z = true := hw _ (List.mem_of_getElem? (i := 14) rfl)
theorem wd15 {a0 : Array Value} {Z : State} (hw : HW a0 Z) : ((Jvm.Cond.fieldLink "com/example/graphtend/graphtend/method/Evaluation" (23 : Nat) "com/example/graphtend/graphtend/method/Evaluation" "testsAtRank" "[I")).before a0 Z = true := hw _ (List.mem_of_getElem? (i := 15) rfl)
theorem wd16 {a0 : Array Value} {Z : State} (hw : HW a0 Z) : ((Jvm.Cond.laysFinal "com/example/graphtend/graphtend/method/Evaluation" "com/example/graphtend/graphtend/method/Evaluation" "testsAtRank" "[I")).before a0 Z = true := hw _ (List.mem_of_getElem? (i := 16) rfl)
theorem wd17 {a0 : Array Value} {Z : State} (hw : HW a0 Z) : ((Jvm.Cond.methodLink "com/example/graphtend/graphtend/method/EvaluationMeanReciprocalRankPinLaw" (13 : Nat) ({ cls := "com/example/graphtend/graphtend/method/Evaluation", name := "meanReciprocalRank", desc := "()D" } : Jvm.MethodName))).before a0 Z = true := hw _ (List.mem_of_getElem? (i := 17) rfl)
theorem wd18 {a0 : Array Value} {Z : State} (hw : HW a0 Z) : ((Jvm.Cond.declares ({ cls := "com/example/graphtend/graphtend/method/Evaluation", name := "meanReciprocalRank", desc := "()D" } : Jvm.MethodName))).before a0 Z = true := hw _ (List.mem_of_getElem? (i := 18) rfl)
theorem wd19 {a0 : Array Value} {Z : State} (hw : HW a0 Z) : ((Jvm.Cond.instanceMethod ({ cls := "com/example/graphtend/graphtend/method/Evaluation", name := "meanReciprocalRank", desc := "()D" } : Jvm.MethodName))).before a0 Z = true := hw _ (List.mem_of_getElem? (i := 19) rfl)
theorem wd20 {a0 : Array Value} {Z : State} (hw : HW a0 Z) : ((Jvm.Cond.selects "com/example/graphtend/graphtend/method/Evaluation" ({ cls := "com/example/graphtend/graphtend/method/Evaluation", name := "meanReciprocalRank", desc := "()D" } : Jvm.MethodName) ({ cls := "com/example/graphtend/graphtend/method/Evaluation", name := "meanReciprocalRank", desc := "()D" } : Jvm.MethodName))).before a0 Z = true := hw _ (List.mem_of_getElem? (i := 20) rfl)
theorem wd21 {a0 : Array Value} {Z : State} (hw : HW a0 Z) : ((Jvm.Cond.code ({ cls := "com/example/graphtend/graphtend/method/Evaluation", name := "meanReciprocalRank", desc := "()D" } : Jvm.MethodName) prog_34_method_4_code (4 : Nat) (Option.some Jvm.ClassFile.FieldType.double))).before a0 Z = true := hw _ (List.mem_of_getElem? (i := 21) rfl)
theorem d1_0 : decode prog_34_method_1_code 0 = .ok (.aload_n 0, 1) := by decide +kernel
theorem d1_1 : decode prog_34_method_1_code 1 = .ok (.invokespecial 1, 3) := by decide +kernel
theorem d1_4 : decode prog_34_method_1_code 4 = .ok (.iconst 0, 1) := by decide +kernel
theorem d1_5 : decode prog_34_method_1_code 5 = .ok (.istore_n 3, 1) := by decide +kernel
theorem d1_6 : decode prog_34_method_1_code 6 = .ok (.aload_n 2, 1) := by decide +kernel
theorem d1_7 : decode prog_34_method_1_code 7 = .ok (.astore 4, 2) := by decide +kernel
theorem d1_9 : decode prog_34_method_1_code 9 = .ok (.aload 4, 2) := by decide +kernel
theorem d1_11 : decode prog_34_method_1_code 11 = .ok (.arraylength, 1) := by decide +kernel
theorem d1_12 : decode prog_34_method_1_code 12 = .ok (.istore 5, 2) := by decide +kernel
theorem d1_14 : decode prog_34_method_1_code 14 = .ok (.iconst 0, 1) := by decide +kernel
theorem d1_15 : decode prog_34_method_1_code 15 = .ok (.istore 6, 2) := by decide +kernel
theorem d1_17 : decode prog_34_method_1_code 17 = .ok (.iload 6, 2) := by decide +kernel
theorem d1_19 : decode prog_34_method_1_code 19 = .ok (.iload 5, 2) := by decide +kernel
theorem d1_21 : decode prog_34_method_1_code 21 = .ok (.if_icmp .ge 21, 3) := by decide +kernel
theorem d1_24 : decode prog_34_method_1_code 24 = .ok (.aload 4, 2) := by decide +kernel
theorem d1_26 : decode prog_34_method_1_code 26 = .ok (.iload 6, 2) := by decide +kernel
theorem d1_28 : decode prog_34_method_1_code 28 = .ok (.iaload, 1) := by decide +kernel
theorem d1_29 : decode prog_34_method_1_code 29 = .ok (.istore 7, 2) := by decide +kernel
theorem d1_31 : decode prog_34_method_1_code 31 = .ok (.iload_n 3, 1) := by decide +kernel
theorem d1_32 : decode prog_34_method_1_code 32 = .ok (.iload 7, 2) := by decide +kernel
theorem d1_34 : decode prog_34_method_1_code 34 = .ok (.iadd, 1) := by decide +kernel
theorem d1_35 : decode prog_34_method_1_code 35 = .ok (.istore_n 3, 1) := by decide +kernel
theorem d1_36 : decode prog_34_method_1_code 36 = .ok (.iinc 6 1, 3) := by decide +kernel
theorem d1_39 : decode prog_34_method_1_code 39 = .ok (.goto (-22), 3) := by decide +kernel
theorem d1_42 : decode prog_34_method_1_code 42 = .ok (.iload_n 3, 1) := by decide +kernel
theorem d1_43 : decode prog_34_method_1_code 43 = .ok (.ifCond .eq 9, 3) := by decide +kernel
theorem d1_46 : decode prog_34_method_1_code 46 = .ok (.aload_n 2, 1) := by decide +kernel
theorem d1_47 : decode prog_34_method_1_code 47 = .ok (.iconst 0, 1) := by decide +kernel
theorem d1_48 : decode prog_34_method_1_code 48 = .ok (.iaload, 1) := by decide +kernel
theorem d1_49 : decode prog_34_method_1_code 49 = .ok (.ifCond .eq 13, 3) := by decide +kernel
theorem d1_62 : decode prog_34_method_1_code 62 = .ok (.aload_n 0, 1) := by decide +kernel
theorem d1_63 : decode prog_34_method_1_code 63 = .ok (.iload_n 1, 1) := by decide +kernel
theorem d1_64 : decode prog_34_method_1_code 64 = .ok (.putfield 14, 3) := by decide +kernel
theorem d1_67 : decode prog_34_method_1_code 67 = .ok (.aload_n 0, 1) := by decide +kernel
theorem d1_68 : decode prog_34_method_1_code 68 = .ok (.iload_n 3, 1) := by decide +kernel
theorem d1_69 : decode prog_34_method_1_code 69 = .ok (.putfield 20, 3) := by decide +kernel
theorem d1_72 : decode prog_34_method_1_code 72 = .ok (.aload_n 0, 1) := by decide +kernel
theorem d1_73 : decode prog_34_method_1_code 73 = .ok (.aload_n 2, 1) := by decide +kernel
theorem d1_74 : decode prog_34_method_1_code 74 = .ok (.putfield 23, 3) := by decide +kernel
theorem d1_77 : decode prog_34_method_1_code 77 = .ok (.return_, 1) := by decide +kernel
theorem d3_0 : decode prog_34_method_4_code 0 = .ok (.dconst 0, 1) := by decide +kernel
theorem d3_1 : decode prog_34_method_4_code 1 = .ok (.dstore_n 1, 1) := by decide +kernel
theorem d3_2 : decode prog_34_method_4_code 2 = .ok (.iconst 1, 1) := by decide +kernel
theorem d3_3 : decode prog_34_method_4_code 3 = .ok (.istore_n 3, 1) := by decide +kernel
theorem d3_4 : decode prog_34_method_4_code 4 = .ok (.iload_n 3, 1) := by decide +kernel
theorem d3_5 : decode prog_34_method_4_code 5 = .ok (.aload_n 0, 1) := by decide +kernel
theorem d3_6 : decode prog_34_method_4_code 6 = .ok (.getfield 23, 3) := by decide +kernel
theorem d3_9 : decode prog_34_method_4_code 9 = .ok (.arraylength, 1) := by decide +kernel
theorem d3_10 : decode prog_34_method_4_code 10 = .ok (.if_icmp .ge 22, 3) := by decide +kernel
theorem d3_13 : decode prog_34_method_4_code 13 = .ok (.dload_n 1, 1) := by decide +kernel
theorem d3_14 : decode prog_34_method_4_code 14 = .ok (.aload_n 0, 1) := by decide +kernel
theorem d3_15 : decode prog_34_method_4_code 15 = .ok (.getfield 23, 3) := by decide +kernel
theorem d3_18 : decode prog_34_method_4_code 18 = .ok (.iload_n 3, 1) := by decide +kernel
theorem d3_19 : decode prog_34_method_4_code 19 = .ok (.iaload, 1) := by decide +kernel
theorem d3_20 : decode prog_34_method_4_code 20 = .ok (.i2d, 1) := by decide +kernel
theorem d3_21 : decode prog_34_method_4_code 21 = .ok (.iload_n 3, 1) := by decide +kernel
theorem d3_22 : decode prog_34_method_4_code 22 = .ok (.i2d, 1) := by decide +kernel
theorem d3_23 : decode prog_34_method_4_code 23 = .ok (.ddiv, 1) := by decide +kernel
theorem d3_24 : decode prog_34_method_4_code 24 = .ok (.dadd, 1) := by decide +kernel
theorem d3_25 : decode prog_34_method_4_code 25 = .ok (.dstore_n 1, 1) := by decide +kernel
theorem d3_26 : decode prog_34_method_4_code 26 = .ok (.iinc 3 1, 3) := by decide +kernel
theorem d3_29 : decode prog_34_method_4_code 29 = .ok (.goto (-25), 3) := by decide +kernel
theorem d3_32 : decode prog_34_method_4_code 32 = .ok (.dload_n 1, 1) := by decide +kernel
theorem d3_33 : decode prog_34_method_4_code 33 = .ok (.aload_n 0, 1) := by decide +kernel
theorem d3_34 : decode prog_34_method_4_code 34 = .ok (.getfield 20, 3) := by decide +kernel
theorem d3_37 : decode prog_34_method_4_code 37 = .ok (.i2d, 1) := by decide +kernel
theorem d3_38 : decode prog_34_method_4_code 38 = .ok (.ddiv, 1) := by decide +kernel
theorem d3_39 : decode prog_34_method_4_code 39 = .ok (.dreturn, 1) := by decide +kernel
theorem pd0 : parseMethodDescriptor "(I[I)V" = some ⟨[.int, (.array .int)], none⟩ := by decide +kernel
theorem pd1 : parseMethodDescriptor "()D" = some ⟨[], some .double⟩ := by decide +kernel
theorem pn0 : plainName "com/example/graphtend/graphtend/method/Evaluation" = true := by first | (simp [plainName, overriddenIn]; done) | decide +kernel
theorem pn1 : plainName "com/example/graphtend/graphtend/method/EvaluationMeanReciprocalRankPinLaw" = true := by first | (simp [plainName, overriddenIn]; done) | decide +kernel
section OwnFl
open Jvm.FP Jvm.FP.Core Jvm.Free.Fl
/-- a double's value in units of 2 ^ (-1074) -/
abbrev zv (a : UInt64) : Int := zval b64 (val64 a)
theorem own_nn {a : UInt64} (h : NoNaN64 a) : val64 a ≠ .nan := val64_no.mp h
theorem own_l2d_zv {a : Int64} (h : B53 a) : zv (FP.l2d a) = a.toInt * (one64 : Int) := DInt_zval (l2d_whole (sm h))
theorem own_l2d_fin (a : Int64) : DFin (FP.l2d a) := fin64_core.mp (l2d_fin a)
theorem own_l2d_sgn (a : Int64) : sgn (val64 (FP.l2d a)) = decide (a.toInt < 0) := by
  obtain ⟨c, q, h⟩ := l2d_shape a
  rw [show val64 (FP.l2d a) = _ from h]; rfl
theorem own_zv_mag {a : UInt64} (h : sgn (val64 a) = false) : zv a = (zmag b64 (val64 a) : Int) := by
  show signed (sgn (val64 a)) _ = _
  rw [h]; rfl
theorem own_zv_magN {a : UInt64} (h : sgn (val64 a) = true) : zv a = -(zmag b64 (val64 a) : Int) := by
  show signed (sgn (val64 a)) _ = _
  rw [h]; rfl
theorem own_div_shape {a b : UInt64} (ha : DFin a) (hb : DFin b) (pb : 0 < zmag b64 (val64 b)) :
    ∃ s t c d q r, val64 a = .fin s c q ∧ val64 b = .fin t d r ∧ d ≠ 0 ∧ val64 (FP.ddiv a b) = roundRatio b64 (s != t) c d (q - r) := by
  obtain ⟨s, c, q, ha⟩ := ha
  obtain ⟨t, d, r, hb⟩ := hb
  have hd : d ≠ 0 := by
    rintro rfl
    rw [hb] at pb
    simp [zmag, inUnits] at pb
  refine ⟨s, t, c, d, q, r, ha, hb, hd, ?_⟩
  rw [show val64 (FP.ddiv a b) = quotient b64 (val64 a) (val64 b) from val64_ddiv a b, ha, hb]
  simp only [quotient, if_neg hd]
theorem own_div_e1 {s : Bool} {c : Nat} {q r : Int} (hq : b64.qmin ≤ q) : inUnits c (q - r) (2 * b64.qmin - r) = zmag b64 (.fin s c q) * one64 := by
  have h0 := qmin_neg good_b64
  rw [← pow_qmin64]
  show c * _ = c * _ * _
  rw [Nat.mul_assoc, ← Nat.pow_add]; congr 2; omega
theorem own_div_e2 {t : Bool} {d : Nat} {r : Int} (hr : b64.qmin ≤ r) : 2 ^ (b64.qmin - (2 * b64.qmin - r)).toNat * d = zmag b64 (.fin t d r) := by
  show _ = d * _
  rw [Nat.mul_comm]; congr 2; omega
theorem own_zmag_div_le {a b : UInt64} {V : Datum} (ha : DFin a) (hb : DFin b) (pb : 0 < zmag b64 (val64 b)) (fV : Core.fits b64 V) (nV : V ≠ .nan)
    (h : zmag b64 (val64 a) * one64 ≤ zmag b64 V * zmag b64 (val64 b)) : zmag b64 (val64 (FP.ddiv a b)) ≤ zmag b64 V := by
  obtain ⟨s, t, c, d, q, r, e1, e2, hd, e3⟩ := own_div_shape ha hb pb
  have f1 := val64_fits a; have f2 := val64_fits b
  rw [e1] at f1 h; rw [e2] at f2 h
  rw [e3]
  refine zmag_roundRatio_le good_b64 (Nat.pos_of_ne_zero hd) fV nV (e0 := 2 * b64.qmin - r) (by have := f2.2.1; omega) (by have := f1.2.1; have := qmin_neg good_b64; omega) ?_
  rw [own_div_e1 (s := s) f1.2.1, Nat.mul_assoc, own_div_e2 (t := t) f2.2.1]; exact h
theorem own_zmag_div_ge {a b : UInt64} {V : Datum} (ha : DFin a) (hb : DFin b) (pb : 0 < zmag b64 (val64 b)) (fV : Core.fits b64 V)
    (h : zmag b64 V * zmag b64 (val64 b) ≤ zmag b64 (val64 a) * one64) : zmag b64 V ≤ zmag b64 (val64 (FP.ddiv a b)) := by
  obtain ⟨s, t, c, d, q, r, e1, e2, hd, e3⟩ := own_div_shape ha hb pb
  have f1 := val64_fits a; have f2 := val64_fits b
  rw [e1] at f1 h; rw [e2] at f2 h
  rw [e3]
  refine zmag_roundRatio_ge good_b64 (Nat.pos_of_ne_zero hd) fV (e0 := 2 * b64.qmin - r) (by have := f2.2.1; omega) (by have := f1.2.1; have := qmin_neg good_b64; omega) ?_
  rw [own_div_e1 (s := s) f1.2.1, Nat.mul_assoc, own_div_e2 (t := t) f2.2.1]; exact h
theorem own_sgn_div {a b : UInt64} (ha : DFin a) (hb : DFin b) (pb : 0 < zmag b64 (val64 b)) : sgn (val64 (FP.ddiv a b)) = (sgn (val64 a) != sgn (val64 b)) := by
  obtain ⟨s, t, c, d, q, r, e1, e2, hd, e3⟩ := own_div_shape ha hb pb
  rw [e1, e2, e3, sgn_roundRatio]; rfl
theorem own_zmag_nat {f : Fmt} {V : Datum} : (0 : Int) ≤ (zmag f V : Int) := Int.natCast_nonneg _
theorem own_zval_cases (V : Datum) : zval b64 V = (zmag b64 V : Int) ∧ sgn V = false ∨ zval b64 V = -(zmag b64 V : Int) ∧ sgn V = true := by
  cases hs : sgn V
  · left; exact ⟨by show signed (sgn V) _ = _; rw [hs]; rfl, rfl⟩
  · right; exact ⟨by show signed (sgn V) _ = _; rw [hs]; rfl, rfl⟩
/-- the quotient of two doubles, the second above 0, against any double V -/
theorem own_div_le {a b : UInt64} {V : Datum} (ha : DFin a) (hb : DFin b) (sb : sgn (val64 b) = false) (pb : 0 < zv b) (fV : Core.fits b64 V) (nV : V ≠ .nan)
    (h : zv a * (one64 : Int) ≤ zval b64 V * zv b) : zv (FP.ddiv a b) ≤ zval b64 V := by
  have q := own_zv_mag sb
  have pb' : 0 < zmag b64 (val64 b) := by omega
  have s1 : sgn (val64 (FP.ddiv a b)) = sgn (val64 a) := by rw [own_sgn_div ha hb pb', sb]; simp
  have o1 : (0 : Int) < (one64 : Int) := by exact_mod_cast one64_pos
  have z2 : (0 : Int) < (zmag b64 (val64 b) : Int) := by omega
  cases sa : sgn (val64 a)
  · rw [sa] at s1
    rw [own_zv_mag s1]
    rcases own_zval_cases V with ⟨e, -⟩ | ⟨e, -⟩
    · rw [e] at h ⊢
      rw [own_zv_mag sa, q] at h
      exact Int.ofNat_le.mpr (own_zmag_div_le ha hb pb' fV nV (by exact_mod_cast h))
    · rw [e] at h ⊢
      rw [own_zv_mag sa, q, Int.neg_mul] at h
      have h1 : (0 : Int) ≤ (zmag b64 (val64 a) : Int) * (one64 : Int) := by exact_mod_cast Nat.zero_le _
      have h3 : (0 : Int) ≤ (zmag b64 V : Int) * (zmag b64 (val64 b) : Int) := by exact_mod_cast Nat.zero_le _
      have h4 : (zmag b64 V : Int) * (zmag b64 (val64 b) : Int) = 0 := by omega
      have h5 : (zmag b64 V : Int) = 0 := by
        rcases Int.mul_eq_zero.mp h4 with z | z
        · exact z
        · omega
      have h6 : (zmag b64 (val64 a) : Int) * (one64 : Int) = 0 := by omega
      have h7 : zmag b64 (val64 a) = 0 := by
        rcases Int.mul_eq_zero.mp h6 with z | z
        · exact_mod_cast z
        · omega
      have h8 : zmag b64 V = 0 := by exact_mod_cast h5
      have := own_zmag_div_le ha hb pb' fV nV (by rw [h7, h8]; simp)
      rw [h8] at this ⊢
      omega
  · rw [sa] at s1
    rw [own_zv_magN s1]
    rcases own_zval_cases V with ⟨e, -⟩ | ⟨e, -⟩
    · rw [e]
      have h1 : (0 : Int) ≤ (zmag b64 (val64 (FP.ddiv a b)) : Int) := own_zmag_nat
      have h2 : (0 : Int) ≤ (zmag b64 V : Int) := own_zmag_nat
      omega
    · rw [e] at h ⊢
      rw [own_zv_magN sa, q, Int.neg_mul, Int.neg_mul] at h
      have := own_zmag_div_ge ha hb pb' fV (by have h9 := Int.neg_le_neg_iff.mp h; exact_mod_cast h9)
      omega
theorem own_div_ge {a b : UInt64} {V : Datum} (ha : DFin a) (hb : DFin b) (sb : sgn (val64 b) = false) (pb : 0 < zv b) (fV : Core.fits b64 V) (nV : V ≠ .nan)
    (h : zval b64 V * zv b ≤ zv a * (one64 : Int)) : zval b64 V ≤ zv (FP.ddiv a b) := by
  have q := own_zv_mag sb
  have pb' : 0 < zmag b64 (val64 b) := by omega
  have s1 : sgn (val64 (FP.ddiv a b)) = sgn (val64 a) := by rw [own_sgn_div ha hb pb', sb]; simp
  have o1 : (0 : Int) < (one64 : Int) := by exact_mod_cast one64_pos
  have z2 : (0 : Int) < (zmag b64 (val64 b) : Int) := by omega
  cases sa : sgn (val64 a)
  · rw [sa] at s1
    rw [own_zv_mag s1]
    rcases own_zval_cases V with ⟨e, -⟩ | ⟨e, -⟩
    · rw [e] at h ⊢
      rw [own_zv_mag sa, q] at h
      exact Int.ofNat_le.mpr (own_zmag_div_ge ha hb pb' fV (by exact_mod_cast h))
    · rw [e]
      have h1 : (0 : Int) ≤ (zmag b64 (val64 (FP.ddiv a b)) : Int) := own_zmag_nat
      have h2 : (0 : Int) ≤ (zmag b64 V : Int) := own_zmag_nat
      omega
  · rw [sa] at s1
    rw [own_zv_magN s1]
    rcases own_zval_cases V with ⟨e, -⟩ | ⟨e, -⟩
    · rw [e] at h ⊢
      rw [own_zv_magN sa, q, Int.neg_mul] at h
      have h1 : (0 : Int) ≤ (zmag b64 (val64 a) : Int) * (one64 : Int) := by exact_mod_cast Nat.zero_le _
      have h3 : (0 : Int) ≤ (zmag b64 V : Int) * (zmag b64 (val64 b) : Int) := by exact_mod_cast Nat.zero_le _
      have h4 : (zmag b64 V : Int) * (zmag b64 (val64 b) : Int) = 0 := by omega
      have h5 : (zmag b64 V : Int) = 0 := by
        rcases Int.mul_eq_zero.mp h4 with z | z
        · exact z
        · omega
      have h6 : (zmag b64 (val64 a) : Int) * (one64 : Int) = 0 := by omega
      have h7 : zmag b64 (val64 a) = 0 := by
        rcases Int.mul_eq_zero.mp h6 with z | z
        · exact_mod_cast z
        · omega
      have h8 : zmag b64 V = 0 := by exact_mod_cast h5
      have := own_zmag_div_le ha hb pb' fV nV (by rw [h7, h8]; simp)
      rw [h8] at this ⊢
      omega
    · rw [e] at h ⊢
      rw [own_zv_magN sa, q, Int.neg_mul, Int.neg_mul] at h
      have := own_zmag_div_le ha hb pb' fV nV (by have h9 := Int.neg_le_neg_iff.mp h; exact_mod_cast h9)
      omega
/-- the quotient of two whole numbers -/
theorem own_lq_le {n m : Int64} (bn : B53 n) (bm : B53 m) (pm : 0 < m.toInt) {V : Datum} (fV : Core.fits b64 V) (nV : V ≠ .nan) (h : n.toInt * (one64 : Int) ≤ zval b64 V * m.toInt) : zv (FP.ddiv (FP.l2d n) (FP.l2d m)) ≤ zval b64 V := by
  have o1 : (0 : Int) < (one64 : Int) := by exact_mod_cast one64_pos
  refine own_div_le (own_l2d_fin n) (own_l2d_fin m) (by rw [own_l2d_sgn]; simp; omega) (by rw [own_l2d_zv bm]; exact Int.mul_pos pm o1) fV nV ?_
  rw [own_l2d_zv bn, own_l2d_zv bm, ← Int.mul_assoc]
  exact Int.mul_le_mul_of_nonneg_right h (Int.le_of_lt o1)
theorem own_lq_ge {n m : Int64} (bn : B53 n) (bm : B53 m) (pm : 0 < m.toInt) {V : Datum} (fV : Core.fits b64 V) (nV : V ≠ .nan) (h : zval b64 V * m.toInt ≤ n.toInt * (one64 : Int)) : zval b64 V ≤ zv (FP.ddiv (FP.l2d n) (FP.l2d m)) := by
  have o1 : (0 : Int) < (one64 : Int) := by exact_mod_cast one64_pos
  refine own_div_ge (own_l2d_fin n) (own_l2d_fin m) (by rw [own_l2d_sgn]; simp; omega) (by rw [own_l2d_zv bm]; exact Int.mul_pos pm o1) fV nV ?_
  rw [own_l2d_zv bn, own_l2d_zv bm, ← Int.mul_assoc]
  exact Int.mul_le_mul_of_nonneg_right h (Int.le_of_lt o1)
theorem own_lq_nn {n m : Int64} (pm : m.toInt ≠ 0) : NoNaN64 (FP.ddiv (FP.l2d n) (FP.l2d m)) :=
  Fl.ddiv_out (Fl.l2d_fin _).noNaN (Fl.l2d_fin _) (Fl.l2d_nz fun z => pm (by rw [z]; decide))
/-- a dyadic number of at most 53 digits is a datum -/
theorem own_dyad (s : Bool) {c : Nat} {q : Int} (hc : c < 2 ^ 53) (h1 : b64.qmin ≤ q) (h2 : q ≤ b64.qmax) : ∃ V : Datum, Core.fits b64 V ∧ V ≠ .nan ∧ zval b64 V = signed s (inUnits c q b64.qmin) := by
  obtain ⟨c', q', e1, e2⟩ := round_exact good_b64 s (c := c) (q := q) (by show c < 2 ^ 53; exact hc) h1 h2
  refine ⟨round b64 (.fin s c q), round_fits good_b64 _, ?_, ?_⟩
  · rw [e1]; simp
  · rw [e1]; show signed s (inUnits c' q' _) = _; rw [e2]
theorem own_sum_eq {a b : UInt64} {V : Datum} (ha : DFin a) (hb : DFin b) (fV : Core.fits b64 V) (nV : V ≠ .nan) (h : zv a + zv b = zval b64 V) : zv (FP.dadd a b) = zval b64 V := by
  have e : val64 (FP.dadd a b) = round b64 (exactSum (val64 a) (val64 b)) := val64_dadd a b
  show zval b64 (val64 (FP.dadd a b)) = _
  rw [e]
  exact Int.le_antisymm (sum_le good_b64 ha hb (val64_fits a) (val64_fits b) fV nV (Int.le_of_eq h)) (sum_ge good_b64 ha hb (val64_fits a) (val64_fits b) fV nV (Int.le_of_eq h.symm))
theorem own_sum_le {a b : UInt64} {V : Datum} (ha : DFin a) (hb : DFin b) (fV : Core.fits b64 V) (nV : V ≠ .nan) (h : zv a + zv b ≤ zval b64 V) : zv (FP.dadd a b) ≤ zval b64 V := by
  have e : val64 (FP.dadd a b) = round b64 (exactSum (val64 a) (val64 b)) := val64_dadd a b
  show zval b64 (val64 (FP.dadd a b)) ≤ _
  rw [e]; exact sum_le good_b64 ha hb (val64_fits a) (val64_fits b) fV nV h
theorem own_sum_ge {a b : UInt64} {V : Datum} (ha : DFin a) (hb : DFin b) (fV : Core.fits b64 V) (nV : V ≠ .nan) (h : zval b64 V ≤ zv a + zv b) : zval b64 V ≤ zv (FP.dadd a b) := by
  have e : val64 (FP.dadd a b) = round b64 (exactSum (val64 a) (val64 b)) := val64_dadd a b
  show _ ≤ zval b64 (val64 (FP.dadd a b))
  rw [e]; exact sum_ge good_b64 ha hb (val64_fits a) (val64_fits b) fV nV h
theorem own_diff_eq {a b : UInt64} {V : Datum} (ha : DFin a) (hb : DFin b) (fV : Core.fits b64 V) (nV : V ≠ .nan) (h : zv a - zv b = zval b64 V) : zv (FP.dsub a b) = zval b64 V := by
  have e : val64 (FP.dsub a b) = round b64 (exactSum (val64 a) (negate (val64 b))) := val64_dsub a b
  have hb' : ∃ s c q, negate (val64 b) = .fin s c q := by obtain ⟨s, c, q, z⟩ := hb; exact ⟨!s, c, q, by rw [z]; rfl⟩
  have h' : zval b64 (val64 a) - zval b64 (val64 b) = zval b64 V := h
  have hz : zval b64 (val64 a) + zval b64 (negate (val64 b)) = zval b64 V := by rw [zval_negate]; omega
  show zval b64 (val64 (FP.dsub a b)) = _
  rw [e]
  exact Int.le_antisymm (sum_le good_b64 ha hb' (val64_fits a) (negate_fits (val64_fits b)) fV nV (Int.le_of_eq hz)) (sum_ge good_b64 ha hb' (val64_fits a) (negate_fits (val64_fits b)) fV nV (Int.le_of_eq hz.symm))
/-- comparisons of doubles by their values -/
theorem own_cmp {a b : UInt64} (ha : val64 a ≠ .nan) (hb : val64 b ≠ .nan) (o : CmpOp) :
    (zv a < zv b → cmpValue (FP.dcmp a b) o = -1) ∧ (zv a = zv b → cmpValue (FP.dcmp a b) o = 0) ∧ (zv b < zv a → cmpValue (FP.dcmp a b) o = 1) := by
  refine ⟨fun h => ?_, fun h => ?_, fun h => ?_⟩
  · rw [show FP.dcmp a b = some .lt from dcmp_lt.mpr ⟨ha, hb, h⟩]; cases o <;> rfl
  · rw [show FP.dcmp a b = some .eq from dcmp_eq.mpr ⟨ha, hb, h⟩]; cases o <;> rfl
  · rw [show FP.dcmp a b = some .gt from dcmp_gt.mpr ⟨ha, hb, h⟩]; cases o <;> rfl
theorem own_cmp_le {a b : UInt64} (ha : val64 a ≠ .nan) (hb : val64 b ≠ .nan) (o : CmpOp) (h : zv a ≤ zv b) : ¬ (0 : Int32) < cmpValue (FP.dcmp a b) o := by
  rcases Int.lt_or_eq_of_le h with q | q
  · rw [(own_cmp ha hb o).1 q]; decide
  · rw [(own_cmp ha hb o).2.1 q]; decide
theorem own_cmp_ge {a b : UInt64} (ha : val64 a ≠ .nan) (hb : val64 b ≠ .nan) (o : CmpOp) (h : zv b ≤ zv a) : ¬ cmpValue (FP.dcmp a b) o < (0 : Int32) := by
  rcases Int.lt_or_eq_of_le h with q | q
  · rw [(own_cmp ha hb o).2.2 q]; decide
  · rw [(own_cmp ha hb o).2.1 q.symm]; decide
theorem own_one64_pos : (0 : Int) < (one64 : Int) := by exact_mod_cast one64_pos
theorem own_b53_0 : B53 0 := ⟨by decide, by decide⟩
theorem own_b53_1 : B53 1 := ⟨by decide, by decide⟩
theorem own_d0 : FP.dconst0 = FP.l2d 0 := by decide +kernel
theorem own_d1 : FP.dconst1 = FP.l2d 1 := by decide +kernel
theorem own_ddiv_nn {a b : UInt64} (ha : DFin a) (hb : DFin b) (pb : 0 < zv b) : NoNaN64 (FP.ddiv a b) :=
  Fl.ddiv_out (fin64_core.mpr ha).noNaN (fin64_core.mpr hb) (nz64_core.mpr fun z => by have q : zv b = 0 := DZero.zval z; omega)
end OwnFl
section OwnMrr
open Jvm.FP Jvm.FP.Core Jvm.Free.Fl
theorem own_div_canon {a b : UInt64} (ha : DFin a) (hb : DFin b) (pb : 0 < zmag b64 (val64 b)) : val64 (FP.ddiv a b) = roundRatio b64 (sgn (val64 a) != sgn (val64 b)) (zmag b64 (val64 a)) (zmag b64 (val64 b)) 0 := by
  obtain ⟨s, t, c, d, q, r, e1, e2, hd, e3⟩ := own_div_shape ha hb pb
  have f1 := val64_fits a; have f2 := val64_fits b
  rw [e2] at pb
  rw [e1] at f1; rw [e2] at f2
  rw [e3, e1, e2]
  refine roundRatio_congr (Nat.pos_of_ne_zero hd) pb ?_
  have h1 := f1.2.1; have h2 := f2.2.1
  show c * (d * 2 ^ (r - b64.qmin).toNat) * 2 ^ (q - r - 0).toNat = c * 2 ^ (q - b64.qmin).toNat * d * 2 ^ (0 - (q - r)).toNat
  rw [show c * (d * 2 ^ (r - b64.qmin).toNat) * 2 ^ (q - r - 0).toNat = c * d * (2 ^ (r - b64.qmin).toNat * 2 ^ (q - r - 0).toNat) from by ac_rfl, show c * 2 ^ (q - b64.qmin).toNat * d * 2 ^ (0 - (q - r)).toNat = c * d * (2 ^ (q - b64.qmin).toNat * 2 ^ (0 - (q - r)).toNat) from by ac_rfl, ← Nat.pow_add, ← Nat.pow_add]
  congr 2; omega
theorem own_div_same {a b a' b' : UInt64} (ha : DFin a) (hb : DFin b) (ha' : DFin a') (hb' : DFin b') (sa : sgn (val64 a) = false) (sb : sgn (val64 b) = false) (sa' : sgn (val64 a') = false) (sb' : sgn (val64 b') = false) (pb : 0 < zv b) (pb' : 0 < zv b') (h : zv a * zv b' = zv a' * zv b) : val64 (FP.ddiv a b) = val64 (FP.ddiv a' b') := by
  rw [own_zv_mag sa, own_zv_mag sb', own_zv_mag sa', own_zv_mag sb] at h
  rw [own_zv_mag sb] at pb; rw [own_zv_mag sb'] at pb'
  rw [own_div_canon ha hb (by omega), own_div_canon ha' hb' (by omega), sa, sb, sa', sb']
  refine roundRatio_congr (by omega) (by omega) ?_
  have h' : zmag b64 (val64 a) * zmag b64 (val64 b') = zmag b64 (val64 a') * zmag b64 (val64 b) := by exact_mod_cast h
  rw [h']
/-- 2 ^ k -/
def own_G (k : Nat) : Int := ((2 ^ k : Nat) : Int)
theorem own_G_add (i j : Nat) : own_G (i + j) = own_G i * own_G j := by unfold own_G; rw [← Int.natCast_mul, ← Nat.pow_add]
theorem own_G_one : (one64 : Int) = own_G 1074 := rfl
theorem own_G24 : own_G 24 = 16777216 := by decide
theorem own_G40 : own_G 40 = 1099511627776 := by decide
theorem own_G16 : own_G 16 = 65536 := by decide
/-- k over 2 ^ e, a number of at most 53 digits -/
theorem own_grid (e : Nat) (he : e ≤ 1074) (k : Nat) (hk : k < 2 ^ 53) : ∃ V : Datum, Core.fits b64 V ∧ V ≠ .nan ∧ zval b64 V = (k : Int) * own_G (1074 - e) := by
  obtain ⟨V, h1, h2, h3⟩ := own_dyad false (c := k) (q := -(e : Int)) hk (by rw [qmin_b64]; omega) (by have : b64.qmax = 971 := by decide
                                                                                                       omega)
  refine ⟨V, h1, h2, ?_⟩
  rw [h3]
  show ((k * 2 ^ (-(e : Int) - b64.qmin).toNat : Nat) : Int) = _
  rw [qmin_b64, show (-(e : Int) - (-1074)).toNat = 1074 - e from by omega, Int.natCast_mul]
  rfl
theorem own_g24 : (one64 : Int) = 16777216 * own_G 1050 := by rw [own_G_one, ← own_G24, ← own_G_add]
theorem own_g40 : (one64 : Int) = 1099511627776 * own_G 1034 := by rw [own_G_one, ← own_G40, ← own_G_add]
theorem own_g2440 : own_G 1050 = 65536 * own_G 1034 := by rw [← own_G16, ← own_G_add]
theorem own_gpos (k : Nat) : (0 : Int) < own_G k := by unfold own_G; exact_mod_cast Nat.two_pow_pos k
theorem own_ac1 (a b c d : Int) : a * b * (c * d) = a * c * b * d := by ac_rfl
theorem own_ac2 (a b c d : Int) : a * (b * c) * d = a * b * c * d := by ac_rfl
theorem own_ac3 (E M g u : Int) : E * 4194304 * g * (4 * M * u) = E * M * u * (16777216 * g) := by rw [show (16777216 : Int) = 4194304 * 4 from by decide]; ac_rfl
theorem own_ac4 (E M u v : Int) : E * M * u * v = E * u * (M * v) := by ac_rfl
theorem own_i2d_zv (a : Int32) : zv (FP.i2d a) = a.toInt * (one64 : Int) := DInt_zval (i2d_int a)
theorem own_i2d_fin (a : Int32) : DFin (FP.i2d a) := fin64_core.mp (Fl.i2d_fin a)
theorem own_i2d_sgn {a : Int32} (h : 0 ≤ a.toInt) : sgn (val64 (FP.i2d a)) = false := by
  rw [show FP.i2d a = FP.l2d a.toInt64 from i2d_w a, own_l2d_sgn, c_i2l]; simp; omega
theorem own_i2d_pos {a : Int32} (h : 0 < a.toInt) : 0 < zv (FP.i2d a) := by
  rw [own_i2d_zv]; exact Int.mul_pos h (by exact_mod_cast one64_pos)
theorem own_mag_t (x : Int32) {k : Int32} (hk : k ≠ 0) : Mag64 1057 (FP.ddiv (FP.i2d x) (FP.i2d k)) := by
  refine RoadKit.ddiv_mag (K := 1056) (L := 1023) (Fl.i2d_mag x) ?_ (by decide) (by decide)
  rw [show FP.i2d k = FP.l2d k.toInt64 from i2d_w k]
  exact RoadKit.l2d_big fun z => hk (Int32.toInt_inj.mp (by rw [← c_i2l, z]; decide))
theorem own_mag_s {K : Nat} {s t : UInt64} (hs : Mag64 K s) (ht : Mag64 1057 t) (hK : 1057 ≤ K) (hK2 : K ≤ 2000) : Mag64 (K + 2) (FP.dadd s t) := Fl.dadd_mag hs (ht.mono hK) (by omega)
theorem own_mag_0 : Mag64 1057 FP.dconst0 := by unfold Mag64; decide +kernel
/-- what is known of a double: finite, sign +, between k and k' over 2 ^ 24 -/
def own_bt (x : UInt64) (k k' : Nat) : Prop := DFin x ∧ sgn (val64 x) = false ∧ (k : Int) * own_G 1050 ≤ zv x ∧ zv x ≤ (k' : Int) * own_G 1050
theorem own_t_bt {x k : Int32} {X Kk f f' : Nat} (hx : x.toInt = (X : Int)) (hk : k.toInt = (Kk : Int)) (pk : 0 < Kk) (h1 : (f : Int) * (Kk : Int) ≤ (X : Int) * 16777216) (h2 : (X : Int) * 16777216 ≤ (f' : Int) * (Kk : Int)) (hf : f < 2 ^ 53) (hf' : f' < 2 ^ 53) : own_bt (FP.ddiv (FP.i2d x) (FP.i2d k)) f f' := by
  have pk' : 0 < k.toInt := by omega
  have sk := own_i2d_sgn (a := k) (by omega)
  have zp := own_i2d_pos pk'
  have hm : 0 < zmag b64 (val64 (FP.i2d k)) := by have := own_zv_mag sk; omega
  have g := own_gpos 1050
  have o1 : (0 : Int) < (one64 : Int) := by exact_mod_cast one64_pos
  have e1 := own_i2d_zv x; have e2 := own_i2d_zv k
  rw [hx] at e1; rw [hk] at e2
  refine ⟨fin64_core.mp ((own_mag_t x (k := k) (fun z => by rw [z] at pk'; exact absurd pk' (by decide))).fin (by decide)), ?_, ?_, ?_⟩
  · rw [own_sgn_div (own_i2d_fin x) (own_i2d_fin k) hm, sk, own_i2d_sgn (by omega)]; rfl
  · obtain ⟨V, v1, v2, v3⟩ := own_grid 24 (by decide) f hf
    rw [← v3]
    refine own_div_ge (own_i2d_fin x) (own_i2d_fin k) sk zp v1 v2 ?_
    rw [v3, e1, e2]
    have q := Int.mul_le_mul_of_nonneg_right (Int.mul_le_mul_of_nonneg_right h1 (Int.le_of_lt g)) (Int.le_of_lt o1)
    have r1 : (f : Int) * own_G (1074 - 24) * ((Kk : Int) * (one64 : Int)) = (f : Int) * (Kk : Int) * own_G 1050 * (one64 : Int) := own_ac1 _ _ _ _
    have r2 : (X : Int) * (one64 : Int) * (one64 : Int) = (X : Int) * 16777216 * own_G 1050 * (one64 : Int) := by rw [← own_ac2, ← own_g24]
    rw [r1, r2]; exact q
  · obtain ⟨V, v1, v2, v3⟩ := own_grid 24 (by decide) f' hf'
    rw [← v3]
    refine own_div_le (own_i2d_fin x) (own_i2d_fin k) sk zp v1 v2 ?_
    rw [v3, e1, e2]
    have q := Int.mul_le_mul_of_nonneg_right (Int.mul_le_mul_of_nonneg_right h2 (Int.le_of_lt g)) (Int.le_of_lt o1)
    have r1 : (f' : Int) * own_G (1074 - 24) * ((Kk : Int) * (one64 : Int)) = (f' : Int) * (Kk : Int) * own_G 1050 * (one64 : Int) := own_ac1 _ _ _ _
    have r2 : (X : Int) * (one64 : Int) * (one64 : Int) = (X : Int) * 16777216 * own_G 1050 * (one64 : Int) := by rw [← own_ac2, ← own_g24]
    rw [r1, r2]; exact q
theorem own_sgn_sum {s t : UInt64} (hs : DFin s) (ht : DFin t) (ss : sgn (val64 s) = false) (st : sgn (val64 t) = false) : sgn (val64 (FP.dadd s t)) = false := by
  obtain ⟨a, c, q, e1⟩ := hs
  obtain ⟨b, d, r, e2⟩ := ht
  rw [e1] at ss; rw [e2] at st
  have ha : a = false := ss
  have hb : b = false := st
  subst ha hb
  rw [show val64 (FP.dadd s t) = round b64 (exactSum (val64 s) (val64 t)) from val64_dadd s t, e1, e2]
  show sgn (roundRatio b64 (sumSign false false (sumUnits false c q false d r (min q r))) _ 1 _) = false
  rw [sgn_roundRatio]
  have hv : 0 ≤ sumUnits false c q false d r (min q r) := by
    show 0 ≤ ((inUnits c q (min q r) : Nat) : Int) + ((inUnits d r (min q r) : Nat) : Int)
    omega
  unfold sumSign
  split
  · rfl
  · simp; omega
theorem own_s_bt {s t : UInt64} {k k' f f' : Nat} (hs : own_bt s k k') (ht : own_bt t f f') (hm : DFin (FP.dadd s t)) (hb : k' + f' < 2 ^ 53) (hb0 : k + f < 2 ^ 53) : own_bt (FP.dadd s t) (k + f) (k' + f') := by
  obtain ⟨s1, s2, s3, s4⟩ := hs
  obtain ⟨t1, t2, t3, t4⟩ := ht
  refine ⟨hm, own_sgn_sum s1 t1 s2 t2, ?_, ?_⟩
  · obtain ⟨V, v1, v2, v3⟩ := own_grid 24 (by decide) (k + f) hb0
    have v3' : zval b64 V = ((k + f : Nat) : Int) * own_G 1050 := v3
    rw [← v3']
    refine own_sum_ge s1 t1 v1 v2 ?_
    rw [v3', Int.natCast_add, Int.add_mul]; omega
  · obtain ⟨V, v1, v2, v3⟩ := own_grid 24 (by decide) (k' + f') hb
    have v3' : zval b64 V = ((k' + f' : Nat) : Int) * own_G 1050 := v3
    rw [← v3']
    refine own_sum_le s1 t1 v1 v2 ?_
    rw [v3', Int.natCast_add, Int.add_mul]; omega
theorem own_0_bt : own_bt FP.dconst0 0 0 := by
  rw [own_d0]
  have z := own_l2d_zv own_b53_0
  have e : (0 : Int64).toInt = 0 := by decide
  rw [e, Int.zero_mul] at z
  refine ⟨own_l2d_fin 0, by rw [own_l2d_sgn]; decide, ?_, ?_⟩ <;> rw [z] <;> simp
def own_sum4 (a b c d : Int32) : UInt64 := FP.dadd (FP.dadd (FP.dadd (FP.dadd FP.dconst0 (FP.ddiv (FP.i2d a) (FP.i2d 1))) (FP.ddiv (FP.i2d b) (FP.i2d 2))) (FP.ddiv (FP.i2d c) (FP.i2d 3))) (FP.ddiv (FP.i2d d) (FP.i2d 4))
theorem own_mag_1 (a : Int32) : Mag64 1059 (FP.dadd FP.dconst0 (FP.ddiv (FP.i2d a) (FP.i2d 1))) := own_mag_s own_mag_0 (own_mag_t a (by decide)) (by decide) (by decide)
theorem own_mag_2 (a b : Int32) : Mag64 1061 (FP.dadd (FP.dadd FP.dconst0 (FP.ddiv (FP.i2d a) (FP.i2d 1))) (FP.ddiv (FP.i2d b) (FP.i2d 2))) := own_mag_s (own_mag_1 a) (own_mag_t b (by decide)) (by decide) (by decide)
theorem own_mag_3 (a b c : Int32) : Mag64 1063 (FP.dadd (FP.dadd (FP.dadd FP.dconst0 (FP.ddiv (FP.i2d a) (FP.i2d 1))) (FP.ddiv (FP.i2d b) (FP.i2d 2))) (FP.ddiv (FP.i2d c) (FP.i2d 3))) := own_mag_s (own_mag_2 a b) (own_mag_t c (by decide)) (by decide) (by decide)
theorem own_mag_4 (a b c d : Int32) : Mag64 1065 (own_sum4 a b c d) := own_mag_s (own_mag_3 a b c) (own_mag_t d (by decide)) (by decide) (by decide)
theorem own_mf {K : Nat} {x : UInt64} (h : Mag64 K x) (hK : K ≤ 2047) : DFin x := fin64_core.mp (h.fin hK)
theorem own_sum4_bt {a b c d : Int32} {A B Cc D f f' : Nat} (ha : a.toInt = (A : Int)) (hb : b.toInt = (B : Int)) (hc : c.toInt = (Cc : Int)) (hd : d.toInt = (D : Int)) (bA : A ≤ 1048575) (bB : B ≤ 1048575) (bC : Cc ≤ 1048575) (bD : D ≤ 1048575)
    (h1 : f * 3 ≤ Cc * 16777216) (h2 : Cc * 16777216 ≤ f' * 3) (hf : f' ≤ f + 1) : own_bt (own_sum4 a b c d) (A * 16777216 + B * 8388608 + f + D * 4194304) (A * 16777216 + B * 8388608 + f' + D * 4194304) := by
  obtain ⟨fa, hfa⟩ : ∃ z, z = A * 16777216 := ⟨_, rfl⟩
  obtain ⟨fb, hfb⟩ : ∃ z, z = B * 8388608 := ⟨_, rfl⟩
  obtain ⟨fd, hfd⟩ : ∃ z, z = D * 4194304 := ⟨_, rfl⟩
  rw [← hfa, ← hfb, ← hfd]
  have t1 := own_t_bt (f := fa) (f' := fa) (k := 1) (Kk := 1) ha (by decide) (by decide) (by omega) (by omega) (by omega) (by omega)
  have t2 := own_t_bt (f := fb) (f' := fb) (k := 2) (Kk := 2) hb (by decide) (by decide) (by omega) (by omega) (by omega) (by omega)
  have t3 := own_t_bt (f := f) (f' := f') (k := 3) (Kk := 3) hc (by decide) (by decide) (by omega) (by omega) (by omega) (by omega)
  have t4 := own_t_bt (f := fd) (f' := fd) (k := 4) (Kk := 4) hd (by decide) (by decide) (by omega) (by omega) (by omega) (by omega)
  have s1 := own_s_bt own_0_bt t1 (own_mf (own_mag_1 a) (by decide)) (by omega) (by omega)
  have s2 := own_s_bt s1 t2 (own_mf (own_mag_2 a b) (by decide)) (by omega) (by omega)
  have s3 := own_s_bt s2 t3 (own_mf (own_mag_3 a b c) (by decide)) (by omega) (by omega)
  have s4 := own_s_bt s3 t4 (own_mf (own_mag_4 a b c d) (by decide)) (by omega) (by omega)
  rw [Nat.zero_add] at s4
  exact s4
theorem own_mrr_nn {a b c d n : Int32} (hn : ¬ n = 0) : NoNaN64 (FP.ddiv (own_sum4 a b c d) (FP.i2d n)) := Fl.ddiv_out ((own_mag_4 a b c d).fin (by decide)).noNaN (Fl.i2d_fin _) (Fl.i2d_nz hn)
/-- no third: the quotient is that of the two whole numbers -/
theorem own_mrr_c0 {a b c d n x y : Int32} {A B D N : Nat} (ha : a.toInt = (A : Int)) (hb : b.toInt = (B : Int)) (hc : c.toInt = 0) (hd : d.toInt = (D : Int)) (bA : A ≤ 1048575) (bB : B ≤ 1048575) (bD : D ≤ 1048575) (hn : n.toInt = (N : Int)) (pN : 0 < N)
    (hx : x.toInt = ((4 * A + 2 * B + D : Nat) : Int)) (hy : y.toInt = ((4 * N : Nat) : Int)) : FP.ddiv (own_sum4 a b c d) (FP.i2d n) = FP.ddiv (FP.i2d x) (FP.i2d y) := by
  have s := own_sum4_bt (f := 0) (f' := 0) (Cc := 0) ha hb hc hd bA bB (by decide) bD (by decide) (by decide) (by decide)
  obtain ⟨s1, s2, s3, s4⟩ := s
  have sz : zv (own_sum4 a b c d) = ((4 * A + 2 * B + D : Nat) : Int) * 4194304 * own_G 1050 := by
    have e : ((A * 16777216 + B * 8388608 + 0 + D * 4194304 : Nat) : Int) = ((4 * A + 2 * B + D : Nat) : Int) * 4194304 := by omega
    rw [e] at s3 s4; omega
  have sn := own_i2d_sgn (a := n) (by omega); have sy := own_i2d_sgn (a := y) (by omega); have sx := own_i2d_sgn (a := x) (by omega)
  have pn := own_i2d_pos (a := n) (by omega); have py := own_i2d_pos (a := y) (by omega)
  have key := own_div_same s1 (own_i2d_fin n) (own_i2d_fin x) (own_i2d_fin y) s2 sn sx sy pn py (by
    rw [sz, own_i2d_zv, own_i2d_zv, own_i2d_zv, hx, hy, hn, show ((4 * N : Nat) : Int) = 4 * (N : Int) from by omega]
    rw [own_ac3, ← own_g24, own_ac4])
  exact val64_inj (own_nn (own_mrr_nn fun z => by rw [z] at hn; have : (0 : Int32).toInt = 0 := by decide
                                                  omega)) key
theorem own_up (x m : Nat) (hm : 0 < m) : ∃ w, x ≤ w * m ∧ w * m < x + m := by
  refine ⟨(x + m - 1) / m, ?_, ?_⟩
  · have h1 := Nat.div_add_mod (x + m - 1) m
    have h2 := Nat.mod_lt (x + m - 1) hm
    rw [Nat.mul_comm] at h1; omega
  · have h1 := Nat.div_mul_le_self (x + m - 1) m
    omega
/-- a third: strictly between the two bounds -/
theorem own_q_le {x y : UInt64} {w : Nat} (fx : DFin x) (fy : DFin y) (sy : sgn (val64 y) = false) (py : 0 < zv y) (hw : w < 2 ^ 53) {P Q : Int} (hx : zv x ≤ P * own_G 1034) (hy : zv y = Q * (one64 : Int)) (h : P * 1 ≤ (w : Int) * Q) : zv (FP.ddiv x y) ≤ (w : Int) * own_G 1034 := by
  obtain ⟨V, v1, v2, v3⟩ := own_grid 40 (by decide) w hw
  have v3' : zval b64 V = (w : Int) * own_G 1034 := v3
  rw [← v3']
  refine own_div_le fx fy sy py v1 v2 ?_
  have o1 : (0 : Int) < (one64 : Int) := by exact_mod_cast one64_pos
  have g := own_gpos 1034
  rw [v3', hy]
  have q1 := Int.mul_le_mul_of_nonneg_right hx (Int.le_of_lt o1)
  have q2 := Int.mul_le_mul_of_nonneg_right (Int.mul_le_mul_of_nonneg_right h (Int.le_of_lt g)) (Int.le_of_lt o1)
  rw [Int.mul_one] at q2
  have r : (w : Int) * own_G 1034 * (Q * (one64 : Int)) = (w : Int) * Q * own_G 1034 * (one64 : Int) := own_ac1 _ _ _ _
  rw [r]; exact Int.le_trans q1 q2
theorem own_q_ge {x y : UInt64} {w : Nat} (fx : DFin x) (fy : DFin y) (sy : sgn (val64 y) = false) (py : 0 < zv y) (hw : w < 2 ^ 53) {P Q : Int} (hx : P * own_G 1034 ≤ zv x) (hy : zv y = Q * (one64 : Int)) (h : (w : Int) * Q ≤ P) : (w : Int) * own_G 1034 ≤ zv (FP.ddiv x y) := by
  obtain ⟨V, v1, v2, v3⟩ := own_grid 40 (by decide) w hw
  have v3' : zval b64 V = (w : Int) * own_G 1034 := v3
  rw [← v3']
  refine own_div_ge fx fy sy py v1 v2 ?_
  have o1 : (0 : Int) < (one64 : Int) := by exact_mod_cast one64_pos
  have g := own_gpos 1034
  rw [v3', hy]
  have q1 := Int.mul_le_mul_of_nonneg_right hx (Int.le_of_lt o1)
  have q2 := Int.mul_le_mul_of_nonneg_right (Int.mul_le_mul_of_nonneg_right h (Int.le_of_lt g)) (Int.le_of_lt o1)
  have r : (w : Int) * own_G 1034 * (Q * (one64 : Int)) = (w : Int) * Q * own_G 1034 * (one64 : Int) := own_ac1 _ _ _ _
  rw [r]; exact Int.le_trans q2 q1
theorem own_mrr_c {a b c d n x x' y : Int32} {A B Cc D : Nat} (ha : a.toInt = (A : Int)) (hb : b.toInt = (B : Int)) (hc : c.toInt = (Cc : Int)) (hd : d.toInt = (D : Int)) (bA : A ≤ 1048575) (bB : B ≤ 1048575) (bC : Cc ≤ 1048575) (bD : D ≤ 1048575) (pC : 0 < Cc) (hn : n.toInt = ((A + B + Cc + D : Nat) : Int))
    (hx : x.toInt = ((24 * A + 12 * B + 8 * Cc + 6 * D - 1 : Nat) : Int)) (hx' : x'.toInt = ((24 * A + 12 * B + 8 * Cc + 6 * D + 1 : Nat) : Int)) (hy : y.toInt = ((24 * (A + B + Cc + D) : Nat) : Int)) :
    zv (FP.ddiv (FP.i2d x) (FP.i2d y)) < zv (FP.ddiv (own_sum4 a b c d) (FP.i2d n)) ∧ zv (FP.ddiv (own_sum4 a b c d) (FP.i2d n)) < zv (FP.ddiv (FP.i2d x') (FP.i2d y)) := by
  obtain ⟨f, hf⟩ : ∃ f, f = Cc * 16777216 / 3 := ⟨_, rfl⟩
  have f1 : f * 3 ≤ Cc * 16777216 := by omega
  have f2 : Cc * 16777216 ≤ (f + 1) * 3 := by omega
  obtain ⟨s1, s2, s3, s4⟩ := own_sum4_bt (f := f) (f' := f + 1) ha hb hc hd bA bB bC bD f1 f2 (Nat.le_refl _)
  obtain ⟨N, hN⟩ : ∃ N, N = A + B + Cc + D := ⟨_, rfl⟩
  rw [← hN] at hn hy
  have sn := own_i2d_sgn (a := n) (by omega); have sy := own_i2d_sgn (a := y) (by omega)
  have pn := own_i2d_pos (a := n) (by omega); have py := own_i2d_pos (a := y) (by omega)
  have zn := own_i2d_zv n; have zy := own_i2d_zv y; have zx := own_i2d_zv x; have zx' := own_i2d_zv x'
  rw [hn] at zn; rw [hy] at zy; rw [hx] at zx; rw [hx'] at zx'
  have g := own_gpos 1034
  rw [own_g2440] at s3 s4
  obtain ⟨K, hK⟩ : ∃ K, K = A * 16777216 + B * 8388608 + f + D * 4194304 := ⟨_, rfl⟩
  have s3' : ((K * 65536 : Nat) : Int) * own_G 1034 ≤ zv (own_sum4 a b c d) := by
    rw [Int.natCast_mul, Int.mul_assoc, hK]; exact s3
  have s4' : zv (own_sum4 a b c d) ≤ (((K + 1) * 65536 : Nat) : Int) * own_G 1034 := by
    rw [Int.natCast_mul, Int.mul_assoc, hK, show A * 16777216 + B * 8388608 + f + D * 4194304 + 1 = A * 16777216 + B * 8388608 + (f + 1) + D * 4194304 from by omega]; exact s4
  constructor
  · obtain ⟨w, w1, w2⟩ := own_up ((24 * A + 12 * B + 8 * Cc + 6 * D - 1) * 1099511627776) (24 * N) (by omega)
    have e1 : w * (24 * N) = 24 * (w * N) := by rw [Nat.mul_left_comm]
    have hwm : w * (24 * N) < 1099511627777 * (24 * N) := by omega
    have hw : w < 1099511627777 := Nat.lt_of_mul_lt_mul_right hwm
    have hw' : w + 1 < 2 ^ 53 := by omega
    have c1 := own_q_le (own_i2d_fin x) (own_i2d_fin y) sy py (w := w) (by omega) (P := (((24 * A + 12 * B + 8 * Cc + 6 * D - 1) * 1099511627776 : Nat) : Int)) (Q := ((24 * N : Nat) : Int)) (by
      rw [zx, own_g40, Int.natCast_mul, ← Int.mul_assoc]; exact Int.le_refl _) zy (by rw [Int.mul_one]; exact_mod_cast w1)
    have c2 := own_q_ge s1 (own_i2d_fin n) sn pn (w := w + 1) hw' s3' zn (by
      have : (w + 1) * N ≤ K * 65536 := by rw [Nat.add_mul, Nat.one_mul]; omega
      exact_mod_cast this)
    have c3 : (w : Int) * own_G 1034 < ((w + 1 : Nat) : Int) * own_G 1034 := by rw [Int.natCast_add, Int.add_mul]; omega
    omega
  · obtain ⟨w, w1, w2⟩ := own_up ((K + 1) * 65536) N (by omega)
    have hwm : w * N < 1099511693313 * N := by omega
    have hw : w < 1099511693313 := Nat.lt_of_mul_lt_mul_right hwm
    have hw' : w + 1 < 2 ^ 53 := by omega
    have c1 := own_q_le s1 (own_i2d_fin n) sn pn (w := w) (by omega) s4' zn (by rw [Int.mul_one]; exact_mod_cast w1)
    have c2 := own_q_ge (own_i2d_fin x') (own_i2d_fin y) sy py (w := w + 1) hw' (P := (((24 * A + 12 * B + 8 * Cc + 6 * D + 1) * 1099511627776 : Nat) : Int)) (Q := ((24 * N : Nat) : Int)) (by
      rw [zx', own_g40, Int.natCast_mul, ← Int.mul_assoc]; exact Int.le_refl _) zy (by
      have e1 : (w + 1) * (24 * N) = 24 * (w * N) + 24 * N := by rw [Nat.add_mul, Nat.mul_left_comm, Nat.one_mul]
      have : (w + 1) * (24 * N) ≤ (24 * A + 12 * B + 8 * Cc + 6 * D + 1) * 1099511627776 := by rw [e1]; omega
      exact_mod_cast this)
    have c3 : (w : Int) * own_G 1034 < ((w + 1 : Nat) : Int) * own_G 1034 := by rw [Int.natCast_add, Int.add_mul]; omega
    omega
end OwnMrr
def own_m20 (x : Int32) : Prop := 0 ≤ x.toInt ∧ x.toInt ≤ 1048575
theorem own_m20_0 : own_m20 0 := ⟨by decide, by decide⟩
theorem own_m20_m (x : Int32) : own_m20 (x &&& 1048575) := by
  have h := c_and x 1048575 (by decide)
  have e : (1048575 : Int32).toInt = 1048575 := by decide
  exact ⟨h.1, by omega⟩
theorem own_addI {x y : Int32} (h1 : -2147483648 ≤ x.toInt + y.toInt) (h2 : x.toInt + y.toInt < 2147483648) : (x + y).toInt = x.toInt + y.toInt := (Int32.toInt_add _ _).trans (Int.bmod_eq_of_le (by omega) (by omega))
theorem own_subI {x y : Int32} (h1 : -2147483648 ≤ x.toInt - y.toInt) (h2 : x.toInt - y.toInt < 2147483648) : (x - y).toInt = x.toInt - y.toInt := (Int32.toInt_sub _ _).trans (Int.bmod_eq_of_le (by omega) (by omega))
theorem own_mulI {x y : Int32} {k : Int} (hk : x.toInt = k) (h1 : -2147483648 ≤ k * y.toInt) (h2 : k * y.toInt < 2147483648) : (x * y).toInt = k * y.toInt := by
  rw [Int32.toInt_mul, hk]; exact Int.bmod_eq_of_le (by omega) (by omega)

theorem ef1 (m : MethodId) (x0 : Addr) (x1 : Int32) (x2 : Addr) : entryFrame m #[(.ref x0), (.int x1), (.ref x2)] 8 = mkF m 0 #[.val (.ref x0), .val (.int x1), .val (.ref x2), .unset, .unset, .unset, .unset, .unset] [] := by first | (simp [entryFrame, mkF, argsToLocals, Value.category]; done) | rfl
set_option maxRecDepth 65536 in
set_option maxHeartbeats 40000000 in
theorem ct1 {l : Launch} {Z : State} {a0 : Array Value} (hw : HW a0 Z) {n0 : Nat} {h0 : Heap} (hn0 : n0 ≤ h0.size) (a1 : Addr) (p2 : Int32) (t : Addr) (kt : ClassId) (ka kb kc kd : Int32) (E1 : Exa Z h0 a1 "com/example/graphtend/graphtend/method/Evaluation") (F_seeds : Fld Z h0 a1 "com/example/graphtend/graphtend/method/Evaluation" "seeds" "I" (.int (0 : Int32))) (F_tests : Fld Z h0 a1 "com/example/graphtend/graphtend/method/Evaluation" "tests" "I" (.int (0 : Int32))) (F_testsAtRank : Fld Z h0 a1 "com/example/graphtend/graphtend/method/Evaluation" "testsAtRank" "[I" .null) (V_t : Arv Z h0 t kt .int (5 : Int32) [(.int (0 : Int32)), (.int ka), (.int kb), (.int kc), (.int kd)] (.int (0 : Int32))) (ga : n0 ≤ a1) (hne : a1 ≠ t) (htot : ¬ ((((ka + kb) + kc) + kd) = 0)) :
    Ctr l Z (⟨"com/example/graphtend/graphtend/method/Evaluation", "<init>", "(I[I)V"⟩ : MethodName) prog_34_method_1_code 8 none ({ frames := 1, cells := 0, slots := 0, locals := 12 } : Room) n0 #[(.ref a1), (.int p2), (.ref t)] h0 (fun v h => v = none ∧ Keep h0 h [a1] ∧ Exa Z h a1 "com/example/graphtend/graphtend/method/Evaluation" ∧ Fld Z h a1 "com/example/graphtend/graphtend/method/Evaluation" "tests" "I" (.int (((ka + kb) + kc) + kd)) ∧ Fld Z h a1 "com/example/graphtend/graphtend/method/Evaluation" "testsAtRank" "[I" (.ref t)) := by
  refine Ctr.of (plainFor_of_name pn0) hn0 ?_
  intro p e s m below meth c T0 C hnm hret hlk X0
  rw [ef1 m a1 p2 t]
  refine OGo.aloadN (pc' := 1) C X0 d1_0 rfl rfl rfl ?_
  refine OGo.initObj (pc' := 4) C X0 (wd8 hw) (wd9 hw) (wd10 hw) d1_1 rfl rfl (by decide) (Nat.le_of_ble_eq_true rfl) (fun T1 X1 => ?_)
  refine OGo.iconst (pc' := 5) (z := (0 : Int32)) C X1 d1_4 rfl (by decide) ?_
  refine OGo.istoreN (pc' := 6) C X1 d1_5 rfl (l' := #[.val (.ref a1), .val (.int p2), .val (.ref t), .val (.int (0 : Int32)), .unset, .unset, .unset, .unset]) rfl ?_
  refine OGo.aloadN (pc' := 7) C X1 d1_6 rfl rfl rfl ?_
  refine OGo.astore (pc' := 9) C X1 d1_7 rfl rfl (l' := #[.val (.ref a1), .val (.int p2), .val (.ref t), .val (.int (0 : Int32)), .val (.ref t), .unset, .unset, .unset]) rfl ?_
  refine OGo.aload (pc' := 11) C X1 d1_9 rfl rfl rfl ?_
  refine OGo.arraylength (pc' := 12) C X1 V_t d1_11 rfl ?_
  refine OGo.istore (pc' := 14) C X1 d1_12 rfl (l' := #[.val (.ref a1), .val (.int p2), .val (.ref t), .val (.int (0 : Int32)), .val (.ref t), .val (.int (5 : Int32)), .unset, .unset]) rfl ?_
  refine OGo.iconst (pc' := 15) (z := (0 : Int32)) C X1 d1_14 rfl (by decide) ?_
  refine OGo.istore (pc' := 17) C X1 d1_15 rfl (l' := #[.val (.ref a1), .val (.int p2), .val (.ref t), .val (.int (0 : Int32)), .val (.ref t), .val (.int (5 : Int32)), .val (.int (0 : Int32)), .unset]) rfl ?_
  refine OGo.iload (pc' := 19) C X1 d1_17 rfl rfl ?_
  refine OGo.iload (pc' := 21) C X1 d1_19 rfl rfl ?_
  refine OGo.icmpNo (pc' := 24) C X1 d1_21 rfl (tlt (by decide : (0 : Int32) < (5 : Int32))).2.1 ?_
  refine OGo.aload (pc' := 26) C X1 d1_24 rfl rfl rfl ?_
  refine OGo.iload (pc' := 28) C X1 d1_26 rfl rfl ?_
  refine OGo.iaload (pc' := 29) C X1 V_t d1_28 rfl ⟨by decide, by decide⟩ (v := (0 : Int32)) rfl ?_
  refine OGo.istore (pc' := 31) C X1 d1_29 rfl (l' := #[.val (.ref a1), .val (.int p2), .val (.ref t), .val (.int (0 : Int32)), .val (.ref t), .val (.int (5 : Int32)), .val (.int (0 : Int32)), .val (.int (0 : Int32))]) rfl ?_
  refine OGo.iloadN (pc' := 32) C X1 d1_31 rfl rfl ?_
  refine OGo.iload (pc' := 34) C X1 d1_32 rfl rfl ?_
  refine OGo.iadd (pc' := 35) (z := (0 : Int32)) C X1 d1_34 rfl (by decide) ?_
  refine OGo.istoreN (pc' := 36) C X1 d1_35 rfl (l' := #[.val (.ref a1), .val (.int p2), .val (.ref t), .val (.int (0 : Int32)), .val (.ref t), .val (.int (5 : Int32)), .val (.int (0 : Int32)), .val (.int (0 : Int32))]) rfl ?_
  refine OGo.iinc (pc' := 39) C X1 d1_36 rfl rfl (z := (1 : Int32)) (by decide) (l' := #[.val (.ref a1), .val (.int p2), .val (.ref t), .val (.int (0 : Int32)), .val (.ref t), .val (.int (5 : Int32)), .val (.int (1 : Int32)), .val (.int (0 : Int32))]) rfl ?_
  refine OGo.goto (pc' := 17) C X1 d1_39 (by decide) (by decide) ?_
  refine OGo.iload (pc' := 19) C X1 d1_17 rfl rfl ?_
  refine OGo.iload (pc' := 21) C X1 d1_19 rfl rfl ?_
  refine OGo.icmpNo (pc' := 24) C X1 d1_21 rfl (tlt (by decide : (1 : Int32) < (5 : Int32))).2.1 ?_
  refine OGo.aload (pc' := 26) C X1 d1_24 rfl rfl rfl ?_
  refine OGo.iload (pc' := 28) C X1 d1_26 rfl rfl ?_
  refine OGo.iaload (pc' := 29) C X1 V_t d1_28 rfl ⟨by decide, by decide⟩ (v := ka) rfl ?_
  refine OGo.istore (pc' := 31) C X1 d1_29 rfl (l' := #[.val (.ref a1), .val (.int p2), .val (.ref t), .val (.int (0 : Int32)), .val (.ref t), .val (.int (5 : Int32)), .val (.int (1 : Int32)), .val (.int ka)]) rfl ?_
  refine OGo.iloadN (pc' := 32) C X1 d1_31 rfl rfl ?_
  refine OGo.iload (pc' := 34) C X1 d1_32 rfl rfl ?_
  refine OGo.iadd (pc' := 35) (z := ka) C X1 d1_34 rfl (Int32.zero_add _) ?_
  refine OGo.istoreN (pc' := 36) C X1 d1_35 rfl (l' := #[.val (.ref a1), .val (.int p2), .val (.ref t), .val (.int ka), .val (.ref t), .val (.int (5 : Int32)), .val (.int (1 : Int32)), .val (.int ka)]) rfl ?_
  refine OGo.iinc (pc' := 39) C X1 d1_36 rfl rfl (z := (2 : Int32)) (by decide) (l' := #[.val (.ref a1), .val (.int p2), .val (.ref t), .val (.int ka), .val (.ref t), .val (.int (5 : Int32)), .val (.int (2 : Int32)), .val (.int ka)]) rfl ?_
  refine OGo.goto (pc' := 17) C X1 d1_39 (by decide) (by decide) ?_
  refine OGo.iload (pc' := 19) C X1 d1_17 rfl rfl ?_
  refine OGo.iload (pc' := 21) C X1 d1_19 rfl rfl ?_
  refine OGo.icmpNo (pc' := 24) C X1 d1_21 rfl (tlt (by decide : (2 : Int32) < (5 : Int32))).2.1 ?_
  refine OGo.aload (pc' := 26) C X1 d1_24 rfl rfl rfl ?_
  refine OGo.iload (pc' := 28) C X1 d1_26 rfl rfl ?_
  refine OGo.iaload (pc' := 29) C X1 V_t d1_28 rfl ⟨by decide, by decide⟩ (v := kb) rfl ?_
  refine OGo.istore (pc' := 31) C X1 d1_29 rfl (l' := #[.val (.ref a1), .val (.int p2), .val (.ref t), .val (.int ka), .val (.ref t), .val (.int (5 : Int32)), .val (.int (2 : Int32)), .val (.int kb)]) rfl ?_
  refine OGo.iloadN (pc' := 32) C X1 d1_31 rfl rfl ?_
  refine OGo.iload (pc' := 34) C X1 d1_32 rfl rfl ?_
  refine OGo.iadd (pc' := 35) (z := (ka + kb)) C X1 d1_34 rfl rfl ?_
  refine OGo.istoreN (pc' := 36) C X1 d1_35 rfl (l' := #[.val (.ref a1), .val (.int p2), .val (.ref t), .val (.int (ka + kb)), .val (.ref t), .val (.int (5 : Int32)), .val (.int (2 : Int32)), .val (.int kb)]) rfl ?_
  refine OGo.iinc (pc' := 39) C X1 d1_36 rfl rfl (z := (3 : Int32)) (by decide) (l' := #[.val (.ref a1), .val (.int p2), .val (.ref t), .val (.int (ka + kb)), .val (.ref t), .val (.int (5 : Int32)), .val (.int (3 : Int32)), .val (.int kb)]) rfl ?_
  refine OGo.goto (pc' := 17) C X1 d1_39 (by decide) (by decide) ?_
  refine OGo.iload (pc' := 19) C X1 d1_17 rfl rfl ?_
  refine OGo.iload (pc' := 21) C X1 d1_19 rfl rfl ?_
  refine OGo.icmpNo (pc' := 24) C X1 d1_21 rfl (tlt (by decide : (3 : Int32) < (5 : Int32))).2.1 ?_
  refine OGo.aload (pc' := 26) C X1 d1_24 rfl rfl rfl ?_
  refine OGo.iload (pc' := 28) C X1 d1_26 rfl rfl ?_
  refine OGo.iaload (pc' := 29) C X1 V_t d1_28 rfl ⟨by decide, by decide⟩ (v := kc) rfl ?_
  refine OGo.istore (pc' := 31) C X1 d1_29 rfl (l' := #[.val (.ref a1), .val (.int p2), .val (.ref t), .val (.int (ka + kb)), .val (.ref t), .val (.int (5 : Int32)), .val (.int (3 : Int32)), .val (.int kc)]) rfl ?_
  refine OGo.iloadN (pc' := 32) C X1 d1_31 rfl rfl ?_
  refine OGo.iload (pc' := 34) C X1 d1_32 rfl rfl ?_
  refine OGo.iadd (pc' := 35) (z := ((ka + kb) + kc)) C X1 d1_34 rfl rfl ?_
  refine OGo.istoreN (pc' := 36) C X1 d1_35 rfl (l' := #[.val (.ref a1), .val (.int p2), .val (.ref t), .val (.int ((ka + kb) + kc)), .val (.ref t), .val (.int (5 : Int32)), .val (.int (3 : Int32)), .val (.int kc)]) rfl ?_
  refine OGo.iinc (pc' := 39) C X1 d1_36 rfl rfl (z := (4 : Int32)) (by decide) (l' := #[.val (.ref a1), .val (.int p2), .val (.ref t), .val (.int ((ka + kb) + kc)), .val (.ref t), .val (.int (5 : Int32)), .val (.int (4 : Int32)), .val (.int kc)]) rfl ?_
  refine OGo.goto (pc' := 17) C X1 d1_39 (by decide) (by decide) ?_
  refine OGo.iload (pc' := 19) C X1 d1_17 rfl rfl ?_
  refine OGo.iload (pc' := 21) C X1 d1_19 rfl rfl ?_
  refine OGo.icmpNo (pc' := 24) C X1 d1_21 rfl (tlt (by decide : (4 : Int32) < (5 : Int32))).2.1 ?_
  refine OGo.aload (pc' := 26) C X1 d1_24 rfl rfl rfl ?_
  refine OGo.iload (pc' := 28) C X1 d1_26 rfl rfl ?_
  refine OGo.iaload (pc' := 29) C X1 V_t d1_28 rfl ⟨by decide, by decide⟩ (v := kd) rfl ?_
  refine OGo.istore (pc' := 31) C X1 d1_29 rfl (l' := #[.val (.ref a1), .val (.int p2), .val (.ref t), .val (.int ((ka + kb) + kc)), .val (.ref t), .val (.int (5 : Int32)), .val (.int (4 : Int32)), .val (.int kd)]) rfl ?_
  refine OGo.iloadN (pc' := 32) C X1 d1_31 rfl rfl ?_
  refine OGo.iload (pc' := 34) C X1 d1_32 rfl rfl ?_
  refine OGo.iadd (pc' := 35) (z := (((ka + kb) + kc) + kd)) C X1 d1_34 rfl rfl ?_
  refine OGo.istoreN (pc' := 36) C X1 d1_35 rfl (l' := #[.val (.ref a1), .val (.int p2), .val (.ref t), .val (.int (((ka + kb) + kc) + kd)), .val (.ref t), .val (.int (5 : Int32)), .val (.int (4 : Int32)), .val (.int kd)]) rfl ?_
  refine OGo.iinc (pc' := 39) C X1 d1_36 rfl rfl (z := (5 : Int32)) (by decide) (l' := #[.val (.ref a1), .val (.int p2), .val (.ref t), .val (.int (((ka + kb) + kc) + kd)), .val (.ref t), .val (.int (5 : Int32)), .val (.int (5 : Int32)), .val (.int kd)]) rfl ?_
  refine OGo.goto (pc' := 17) C X1 d1_39 (by decide) (by decide) ?_
  refine OGo.iload (pc' := 19) C X1 d1_17 rfl rfl ?_
  refine OGo.iload (pc' := 21) C X1 d1_19 rfl rfl ?_
  refine OGo.icmpYes (pc' := 42) C X1 d1_21 (flt (by decide : ¬ (5 : Int32) < (5 : Int32))).2.1 (by decide) (by decide) ?_
  refine OGo.iloadN (pc' := 43) C X1 d1_42 rfl rfl ?_
  refine OGo.ifNo (pc' := 46) C X1 d1_43 rfl (feq htot).1 ?_
  refine OGo.aloadN (pc' := 47) C X1 d1_46 rfl rfl rfl ?_
  refine OGo.iconst (pc' := 48) (z := (0 : Int32)) C X1 d1_47 rfl (by decide) ?_
  refine OGo.iaload (pc' := 49) C X1 V_t d1_48 rfl ⟨by decide, by decide⟩ (v := (0 : Int32)) rfl ?_
  refine OGo.ifYes (pc' := 62) C X1 d1_49 (teq (by decide : (0 : Int32) = (0 : Int32))).1 (by decide) (by decide) ?_
  refine OGo.aloadN (pc' := 63) C X1 d1_62 rfl rfl rfl ?_
  refine OGo.iloadN (pc' := 64) C X1 d1_63 rfl rfl ?_
  refine OGo.putfield (pc' := 67) C X1 (host := "") (Or.inl (wd11 hw)) Via.refl F_seeds E1 ga (Or.inr ⟨(wd12 hw), rfl, hnm⟩) (wd3 hw) (ty := .int) (by decide) rfl rfl d1_64 rfl (fun T2 h2 X2 W2 F2 => ?_)
  have K3 : Keep h0 h2 [a1] := (Keep.refl h0 [a1]).wr W2 (Or.inl (List.mem_of_getElem? (i := 0) rfl))
  refine OGo.aloadN (pc' := 68) C X2 d1_67 rfl rfl rfl ?_
  refine OGo.iloadN (pc' := 69) C X2 d1_68 rfl rfl ?_
  have f4 := (F_tests.other W2 (Or.inr (slot_ne (Or.inr (wd14 hw)) (Or.inr (wd12 hw)) (by decide) (t := .int) (t' := .int) (by decide) (by decide))))
  have f5 := (E1.wr W2)
  refine OGo.putfield (pc' := 72) C X2 (host := "") (Or.inl (wd13 hw)) Via.refl f4 f5 ga (Or.inr ⟨(wd14 hw), rfl, hnm⟩) (wd3 hw) (ty := .int) (by decide) rfl rfl d1_69 rfl (fun T6 h6 X6 W6 F6 => ?_)
  have K7 : Keep h0 h6 [a1] := K3.wr W6 (Or.inl (List.mem_of_getElem? (i := 0) rfl))
  refine OGo.aloadN (pc' := 73) C X6 d1_72 rfl rfl rfl ?_
  refine OGo.aloadN (pc' := 74) C X6 d1_73 rfl rfl rfl ?_
  have f8 := ((F_testsAtRank.other W2 (Or.inr (slot_ne (Or.inr (wd16 hw)) (Or.inr (wd12 hw)) (by decide) (t := (.array .int)) (t' := .int) (by decide) (by decide)))).other W6 (Or.inr (slot_ne (Or.inr (wd16 hw)) (Or.inr (wd14 hw)) (by decide) (t := (.array .int)) (t' := .int) (by decide) (by decide))))
  have f9 := (f5.wr W6)
  refine OGo.putfield (pc' := 77) C X6 (host := "") (Or.inl (wd15 hw)) Via.refl f8 f9 ga (Or.inr ⟨(wd16 hw), rfl, hnm⟩) (wd3 hw) (ty := (.array .int)) (by decide) rfl rfl d1_74 rfl (fun T10 h10 X10 W10 F10 => ?_)
  have K11 : Keep h0 h10 [a1] := K7.wr W10 (Or.inl (List.mem_of_getElem? (i := 0) rfl))
  have f12 := (f9.wr W10)
  have f13 := (F6.other W10 (Or.inr (slot_ne (Or.inr (wd14 hw)) (Or.inr (wd16 hw)) (by decide) (t := .int) (t' := (.array .int)) (by decide) (by decide))))
  exact OGo.ret C X10 d1_77 hret hlk (⟨rfl, K11, f12, f13, F10⟩) (by decide) (by decide)
theorem ef3 (m : MethodId) (x0 : Addr) : entryFrame m #[(.ref x0)] 4 = mkF m 0 #[.val (.ref x0), .unset, .unset, .unset] [] := by first | (simp [entryFrame, mkF, argsToLocals, Value.category]; done) | rfl
set_option maxRecDepth 65536 in
set_option maxHeartbeats 40000000 in
theorem ct3 {l : Launch} {Z : State} {a0 : Array Value} (hw : HW a0 Z) {n0 : Nat} {h0 : Heap} (hn0 : n0 ≤ h0.size) (a1 : Addr) (t : Addr) (kt : ClassId) (ka kb kc kd tot : Int32) (F_tests : Fld Z h0 a1 "com/example/graphtend/graphtend/method/Evaluation" "tests" "I" (.int tot)) (F_arr : Fld Z h0 a1 "com/example/graphtend/graphtend/method/Evaluation" "testsAtRank" "[I" (.ref t)) (V_t : Arv Z h0 t kt .int (5 : Int32) [(.int (0 : Int32)), (.int ka), (.int kb), (.int kc), (.int kd)] (.int (0 : Int32))) (htot : ¬ tot = 0) :
    Ctr l Z (⟨"com/example/graphtend/graphtend/method/Evaluation", "meanReciprocalRank", "()D"⟩ : MethodName) prog_34_method_4_code 4 (some .double) ({ frames := 0, cells := 0, slots := 0, locals := 0 } : Room) n0 #[(.ref a1)] h0 (fun v h => v = some (.double (FP.ddiv (own_sum4 ka kb kc kd) (FP.i2d tot))) ∧ h = h0) := by
  refine Ctr.of (plainFor_of_name pn0) hn0 ?_
  intro p e s m below meth c T0 C hnm hret hlk X0
  rw [ef3 m a1]
  refine OGo.dconst0 (pc' := 1) (v := (FP.dconst0)) C X0 d3_0 rfl rfl ?_
  refine OGo.dstoreN (pc' := 2) C X0 d3_1 rfl (l' := #[.val (.ref a1), .val (.double (FP.dconst0)), .second, .unset]) rfl ?_
  refine OGo.iconst (pc' := 3) (z := (1 : Int32)) C X0 d3_2 rfl (by decide) ?_
  refine OGo.istoreN (pc' := 4) C X0 d3_3 rfl (l' := #[.val (.ref a1), .val (.double (FP.dconst0)), .second, .val (.int (1 : Int32))]) rfl ?_
  refine OGo.iloadN (pc' := 5) C X0 d3_4 rfl rfl ?_
  refine OGo.aloadN (pc' := 6) C X0 d3_5 rfl rfl rfl ?_
  refine OGo.getfield (pc' := 9) C X0 (host := "") (Or.inl (wd15 hw)) Via.refl F_arr d3_6 rfl (fun T1 X1 => ?_)
  refine OGo.arraylength (pc' := 10) C X1 V_t d3_9 rfl ?_
  refine OGo.icmpNo (pc' := 13) C X1 d3_10 rfl (tlt (by decide : (1 : Int32) < (5 : Int32))).2.1 ?_
  refine OGo.dloadN (pc' := 14) C X1 d3_13 rfl rfl ?_
  refine OGo.aloadN (pc' := 15) C X1 d3_14 rfl rfl rfl ?_
  refine OGo.getfield (pc' := 18) C X1 (host := "") (Or.inl (wd15 hw)) Via.refl F_arr d3_15 rfl (fun T2 X2 => ?_)
  refine OGo.iloadN (pc' := 19) C X2 d3_18 rfl rfl ?_
  refine OGo.iaload (pc' := 20) C X2 V_t d3_19 rfl ⟨by decide, by decide⟩ (v := ka) rfl ?_
  refine OGo.i2d (pc' := 21) (v := (FP.i2d ka)) C X2 d3_20 rfl rfl ?_
  refine OGo.iloadN (pc' := 22) C X2 d3_21 rfl rfl ?_
  refine OGo.i2d (pc' := 23) (v := (FP.i2d (1 : Int32))) C X2 d3_22 rfl rfl ?_
  refine OGo.ddiv (pc' := 24) (v := (FP.ddiv (FP.i2d ka) (FP.i2d (1 : Int32)))) C X2 d3_23 rfl (ddiv_out (i2d_fin _).noNaN (i2d_fin _) (i2d_nz (by decide))) rfl ?_
  refine OGo.dadd (pc' := 25) (v := (FP.dadd (FP.dconst0) (FP.ddiv (FP.i2d ka) (FP.i2d (1 : Int32))))) C X2 d3_24 rfl ((own_mag_1 ka).fin (by decide)).noNaN rfl ?_
  refine OGo.dstoreN (pc' := 26) C X2 d3_25 rfl (l' := #[.val (.ref a1), .val (.double (FP.dadd (FP.dconst0) (FP.ddiv (FP.i2d ka) (FP.i2d (1 : Int32))))), .second, .val (.int (1 : Int32))]) rfl ?_
  refine OGo.iinc (pc' := 29) C X2 d3_26 rfl rfl (z := (2 : Int32)) (by decide) (l' := #[.val (.ref a1), .val (.double (FP.dadd (FP.dconst0) (FP.ddiv (FP.i2d ka) (FP.i2d (1 : Int32))))), .second, .val (.int (2 : Int32))]) rfl ?_
  refine OGo.goto (pc' := 4) C X2 d3_29 (by decide) (by decide) ?_
  refine OGo.iloadN (pc' := 5) C X2 d3_4 rfl rfl ?_
  refine OGo.aloadN (pc' := 6) C X2 d3_5 rfl rfl rfl ?_
  refine OGo.getfield (pc' := 9) C X2 (host := "") (Or.inl (wd15 hw)) Via.refl F_arr d3_6 rfl (fun T3 X3 => ?_)
  refine OGo.arraylength (pc' := 10) C X3 V_t d3_9 rfl ?_
  refine OGo.icmpNo (pc' := 13) C X3 d3_10 rfl (tlt (by decide : (2 : Int32) < (5 : Int32))).2.1 ?_
  refine OGo.dloadN (pc' := 14) C X3 d3_13 rfl rfl ?_
  refine OGo.aloadN (pc' := 15) C X3 d3_14 rfl rfl rfl ?_
  refine OGo.getfield (pc' := 18) C X3 (host := "") (Or.inl (wd15 hw)) Via.refl F_arr d3_15 rfl (fun T4 X4 => ?_)
  refine OGo.iloadN (pc' := 19) C X4 d3_18 rfl rfl ?_
  refine OGo.iaload (pc' := 20) C X4 V_t d3_19 rfl ⟨by decide, by decide⟩ (v := kb) rfl ?_
  refine OGo.i2d (pc' := 21) (v := (FP.i2d kb)) C X4 d3_20 rfl rfl ?_
  refine OGo.iloadN (pc' := 22) C X4 d3_21 rfl rfl ?_
  refine OGo.i2d (pc' := 23) (v := (FP.i2d (2 : Int32))) C X4 d3_22 rfl rfl ?_
  refine OGo.ddiv (pc' := 24) (v := (FP.ddiv (FP.i2d kb) (FP.i2d (2 : Int32)))) C X4 d3_23 rfl (ddiv_out (i2d_fin _).noNaN (i2d_fin _) (i2d_nz (by decide))) rfl ?_
  refine OGo.dadd (pc' := 25) (v := (FP.dadd (FP.dadd (FP.dconst0) (FP.ddiv (FP.i2d ka) (FP.i2d (1 : Int32)))) (FP.ddiv (FP.i2d kb) (FP.i2d (2 : Int32))))) C X4 d3_24 rfl ((own_mag_2 ka kb).fin (by decide)).noNaN rfl ?_
  refine OGo.dstoreN (pc' := 26) C X4 d3_25 rfl (l' := #[.val (.ref a1), .val (.double (FP.dadd (FP.dadd (FP.dconst0) (FP.ddiv (FP.i2d ka) (FP.i2d (1 : Int32)))) (FP.ddiv (FP.i2d kb) (FP.i2d (2 : Int32))))), .second, .val (.int (2 : Int32))]) rfl ?_
  refine OGo.iinc (pc' := 29) C X4 d3_26 rfl rfl (z := (3 : Int32)) (by decide) (l' := #[.val (.ref a1), .val (.double (FP.dadd (FP.dadd (FP.dconst0) (FP.ddiv (FP.i2d ka) (FP.i2d (1 : Int32)))) (FP.ddiv (FP.i2d kb) (FP.i2d (2 : Int32))))), .second, .val (.int (3 : Int32))]) rfl ?_
  refine OGo.goto (pc' := 4) C X4 d3_29 (by decide) (by decide) ?_
  refine OGo.iloadN (pc' := 5) C X4 d3_4 rfl rfl ?_
  refine OGo.aloadN (pc' := 6) C X4 d3_5 rfl rfl rfl ?_
  refine OGo.getfield (pc' := 9) C X4 (host := "") (Or.inl (wd15 hw)) Via.refl F_arr d3_6 rfl (fun T5 X5 => ?_)
  refine OGo.arraylength (pc' := 10) C X5 V_t d3_9 rfl ?_
  refine OGo.icmpNo (pc' := 13) C X5 d3_10 rfl (tlt (by decide : (3 : Int32) < (5 : Int32))).2.1 ?_
  refine OGo.dloadN (pc' := 14) C X5 d3_13 rfl rfl ?_
  refine OGo.aloadN (pc' := 15) C X5 d3_14 rfl rfl rfl ?_
  refine OGo.getfield (pc' := 18) C X5 (host := "") (Or.inl (wd15 hw)) Via.refl F_arr d3_15 rfl (fun T6 X6 => ?_)
  refine OGo.iloadN (pc' := 19) C X6 d3_18 rfl rfl ?_
  refine OGo.iaload (pc' := 20) C X6 V_t d3_19 rfl ⟨by decide, by decide⟩ (v := kc) rfl ?_
  refine OGo.i2d (pc' := 21) (v := (FP.i2d kc)) C X6 d3_20 rfl rfl ?_
  refine OGo.iloadN (pc' := 22) C X6 d3_21 rfl rfl ?_
  refine OGo.i2d (pc' := 23) (v := (FP.i2d (3 : Int32))) C X6 d3_22 rfl rfl ?_
  refine OGo.ddiv (pc' := 24) (v := (FP.ddiv (FP.i2d kc) (FP.i2d (3 : Int32)))) C X6 d3_23 rfl (ddiv_out (i2d_fin _).noNaN (i2d_fin _) (i2d_nz (by decide))) rfl ?_
  refine OGo.dadd (pc' := 25) (v := (FP.dadd (FP.dadd (FP.dadd (FP.dconst0) (FP.ddiv (FP.i2d ka) (FP.i2d (1 : Int32)))) (FP.ddiv (FP.i2d kb) (FP.i2d (2 : Int32)))) (FP.ddiv (FP.i2d kc) (FP.i2d (3 : Int32))))) C X6 d3_24 rfl ((own_mag_3 ka kb kc).fin (by decide)).noNaN rfl ?_
  refine OGo.dstoreN (pc' := 26) C X6 d3_25 rfl (l' := #[.val (.ref a1), .val (.double (FP.dadd (FP.dadd (FP.dadd (FP.dconst0) (FP.ddiv (FP.i2d ka) (FP.i2d (1 : Int32)))) (FP.ddiv (FP.i2d kb) (FP.i2d (2 : Int32)))) (FP.ddiv (FP.i2d kc) (FP.i2d (3 : Int32))))), .second, .val (.int (3 : Int32))]) rfl ?_
  refine OGo.iinc (pc' := 29) C X6 d3_26 rfl rfl (z := (4 : Int32)) (by decide) (l' := #[.val (.ref a1), .val (.double (FP.dadd (FP.dadd (FP.dadd (FP.dconst0) (FP.ddiv (FP.i2d ka) (FP.i2d (1 : Int32)))) (FP.ddiv (FP.i2d kb) (FP.i2d (2 : Int32)))) (FP.ddiv (FP.i2d kc) (FP.i2d (3 : Int32))))), .second, .val (.int (4 : Int32))]) rfl ?_
  refine OGo.goto (pc' := 4) C X6 d3_29 (by decide) (by decide) ?_
  refine OGo.iloadN (pc' := 5) C X6 d3_4 rfl rfl ?_
  refine OGo.aloadN (pc' := 6) C X6 d3_5 rfl rfl rfl ?_
  refine OGo.getfield (pc' := 9) C X6 (host := "") (Or.inl (wd15 hw)) Via.refl F_arr d3_6 rfl (fun T7 X7 => ?_)
  refine OGo.arraylength (pc' := 10) C X7 V_t d3_9 rfl ?_
  refine OGo.icmpNo (pc' := 13) C X7 d3_10 rfl (tlt (by decide : (4 : Int32) < (5 : Int32))).2.1 ?_
  refine OGo.dloadN (pc' := 14) C X7 d3_13 rfl rfl ?_
  refine OGo.aloadN (pc' := 15) C X7 d3_14 rfl rfl rfl ?_
  refine OGo.getfield (pc' := 18) C X7 (host := "") (Or.inl (wd15 hw)) Via.refl F_arr d3_15 rfl (fun T8 X8 => ?_)
  refine OGo.iloadN (pc' := 19) C X8 d3_18 rfl rfl ?_
  refine OGo.iaload (pc' := 20) C X8 V_t d3_19 rfl ⟨by decide, by decide⟩ (v := kd) rfl ?_
  refine OGo.i2d (pc' := 21) (v := (FP.i2d kd)) C X8 d3_20 rfl rfl ?_
  refine OGo.iloadN (pc' := 22) C X8 d3_21 rfl rfl ?_
  refine OGo.i2d (pc' := 23) (v := (FP.i2d (4 : Int32))) C X8 d3_22 rfl rfl ?_
  refine OGo.ddiv (pc' := 24) (v := (FP.ddiv (FP.i2d kd) (FP.i2d (4 : Int32)))) C X8 d3_23 rfl (ddiv_out (i2d_fin _).noNaN (i2d_fin _) (i2d_nz (by decide))) rfl ?_
  refine OGo.dadd (pc' := 25) (v := (FP.dadd (FP.dadd (FP.dadd (FP.dadd (FP.dconst0) (FP.ddiv (FP.i2d ka) (FP.i2d (1 : Int32)))) (FP.ddiv (FP.i2d kb) (FP.i2d (2 : Int32)))) (FP.ddiv (FP.i2d kc) (FP.i2d (3 : Int32)))) (FP.ddiv (FP.i2d kd) (FP.i2d (4 : Int32))))) C X8 d3_24 rfl ((own_mag_4 ka kb kc kd).fin (by decide)).noNaN rfl ?_
  refine OGo.dstoreN (pc' := 26) C X8 d3_25 rfl (l' := #[.val (.ref a1), .val (.double (FP.dadd (FP.dadd (FP.dadd (FP.dadd (FP.dconst0) (FP.ddiv (FP.i2d ka) (FP.i2d (1 : Int32)))) (FP.ddiv (FP.i2d kb) (FP.i2d (2 : Int32)))) (FP.ddiv (FP.i2d kc) (FP.i2d (3 : Int32)))) (FP.ddiv (FP.i2d kd) (FP.i2d (4 : Int32))))), .second, .val (.int (4 : Int32))]) rfl ?_
  refine OGo.iinc (pc' := 29) C X8 d3_26 rfl rfl (z := (5 : Int32)) (by decide) (l' := #[.val (.ref a1), .val (.double (FP.dadd (FP.dadd (FP.dadd (FP.dadd (FP.dconst0) (FP.ddiv (FP.i2d ka) (FP.i2d (1 : Int32)))) (FP.ddiv (FP.i2d kb) (FP.i2d (2 : Int32)))) (FP.ddiv (FP.i2d kc) (FP.i2d (3 : Int32)))) (FP.ddiv (FP.i2d kd) (FP.i2d (4 : Int32))))), .second, .val (.int (5 : Int32))]) rfl ?_
  refine OGo.goto (pc' := 4) C X8 d3_29 (by decide) (by decide) ?_
  refine OGo.iloadN (pc' := 5) C X8 d3_4 rfl rfl ?_
  refine OGo.aloadN (pc' := 6) C X8 d3_5 rfl rfl rfl ?_
  refine OGo.getfield (pc' := 9) C X8 (host := "") (Or.inl (wd15 hw)) Via.refl F_arr d3_6 rfl (fun T9 X9 => ?_)
  refine OGo.arraylength (pc' := 10) C X9 V_t d3_9 rfl ?_
  refine OGo.icmpYes (pc' := 32) C X9 d3_10 (flt (by decide : ¬ (5 : Int32) < (5 : Int32))).2.1 (by decide) (by decide) ?_
  refine OGo.dloadN (pc' := 33) C X9 d3_32 rfl rfl ?_
  refine OGo.aloadN (pc' := 34) C X9 d3_33 rfl rfl rfl ?_
  refine OGo.getfield (pc' := 37) C X9 (host := "") (Or.inl (wd13 hw)) Via.refl F_tests d3_34 rfl (fun T10 X10 => ?_)
  refine OGo.i2d (pc' := 38) (v := (FP.i2d tot)) C X10 d3_37 rfl rfl ?_
  refine OGo.ddiv (pc' := 39) (v := (FP.ddiv (FP.dadd (FP.dadd (FP.dadd (FP.dadd (FP.dconst0) (FP.ddiv (FP.i2d ka) (FP.i2d (1 : Int32)))) (FP.ddiv (FP.i2d kb) (FP.i2d (2 : Int32)))) (FP.ddiv (FP.i2d kc) (FP.i2d (3 : Int32)))) (FP.ddiv (FP.i2d kd) (FP.i2d (4 : Int32)))) (FP.i2d tot))) C X10 d3_38 rfl (own_mrr_nn htot) rfl ?_
  exact OGo.retD C X10 d3_39 hret hlk (⟨rfl, rfl⟩) (by decide) (by decide)
theorem ef0 (m : MethodId) (x0 : Int32) (x1 : Int32) (x2 : Int32) (x3 : Int32) (x4 : Int32) (x5 : Int32) : entryFrame m #[(.int x0), (.int x1), (.int x2), (.int x3), (.int x4), (.int x5)] maxLocals = mkF m 0 #[.val (.int x0), .val (.int x1), .val (.int x2), .val (.int x3), .val (.int x4), .val (.int x5), .unset, .unset, .unset, .unset, .unset, .unset, .unset, .unset, .unset, .unset, .unset, .unset, .unset, .unset] [] := by first | (simp [entryFrame, mkF, argsToLocals, Value.category, maxLocals]; done) | rfl
set_option maxRecDepth 65536 in
set_option maxHeartbeats 40000000 in
theorem ct0 {l : Launch} {Z : State} {a0 : Array Value} (hw : HW a0 Z) {n0 : Nat} {h0 : Heap} (hn0 : n0 ≤ h0.size) (i0 : Int32) (i1 : Int32) (i2 : Int32) (i3 : Int32) (i4 : Int32) (i5 : Int32)  :
    Ctr l Z x code maxLocals ret room_1 n0 #[(.int i0), (.int i1), (.int i2), (.int i3), (.int i4), (.int i5)] h0 (fun v h => v = some (.int 1)) := by
  refine Ctr.of (plainFor_of_name pn1) hn0 ?_
  intro p e s m below meth c T0 C hnm hret hlk X0
  rw [ef0 m i0 i1 i2 i3 i4 i5]
  have join : ∀ ka kb kc kd : Int32, own_m20 ka → own_m20 kb → own_m20 kc → own_m20 kd → OGo p e below (Kk s below n0 (fun v h => v = some (.int 1)) room_1.cells room_1.slots) T0 (mkF m 69 #[.val (.int i0), .val (.int i1), .val (.int i2), .val (.int i3), .val (.int i4), .val (.int i5), .val (.int ka), .val (.int kb), .val (.int kc), .val (.int kd), .unset, .unset, .unset, .unset, .unset, .unset, .unset, .unset, .unset, .unset] []) := by
    intro ka kb kc kd ma mb mc md
    refine OGo.iload (pc' := 71) C X0 at_69 rfl rfl ?_
    refine OGo.iload (pc' := 73) C X0 at_71 rfl rfl ?_
    refine OGo.iadd (pc' := 74) (z := (ka + kb)) C X0 at_73 rfl rfl ?_
    refine OGo.iload (pc' := 76) C X0 at_74 rfl rfl ?_
    refine OGo.iadd (pc' := 77) (z := ((ka + kb) + kc)) C X0 at_76 rfl rfl ?_
    refine OGo.iload (pc' := 79) C X0 at_77 rfl rfl ?_
    refine OGo.iadd (pc' := 80) (z := (((ka + kb) + kc) + kd)) C X0 at_79 rfl rfl ?_
    refine OGo.istore (pc' := 82) C X0 at_80 rfl (l' := #[.val (.int i0), .val (.int i1), .val (.int i2), .val (.int i3), .val (.int i4), .val (.int i5), .val (.int ka), .val (.int kb), .val (.int kc), .val (.int kd), .val (.int (((ka + kb) + kc) + kd)), .unset, .unset, .unset, .unset, .unset, .unset, .unset, .unset, .unset]) rfl ?_
    refine OGo.iload (pc' := 84) C X0 at_82 rfl rfl ?_
    by_cases htot : (((ka + kb) + kc) + kd) = (0 : Int32)
    · refine OGo.ifNo (pc' := 87) C X0 at_84 rfl (teq htot).2 ?_
      refine OGo.iconst (pc' := 88) (z := (1 : Int32)) C X0 at_87 rfl (by decide) ?_
      exact OGo.retN C X0 at_88 hret (by simp) (z' := (1 : Int32)) (by decide) hlk (rfl) (by decide) (by decide)
    · refine OGo.ifYes (pc' := 89) C X0 at_84 (feq htot).2 (by decide) (by decide) ?_
      refine OGo.iconst (pc' := 90) (z := (5 : Int32)) C X0 at_89 rfl (by decide) ?_
      refine OGo.newarray (pc' := 92) (cap := 5) (d0 := (.int (0 : Int32))) (cells' := 1) (slots' := 5) C X0 (wd1 hw) rfl at_90 rfl (by decide) (by decide) (by decide) rfl rfl rfl (by decide) (by decide) (fun T2 h2 a2 k2 X2 g2 q2 E2 V2 => ?_)
      replace V2 : Arv Z h2 a2 k2 .int (5 : Int32) [(.int (0 : Int32)), (.int (0 : Int32)), (.int (0 : Int32)), (.int (0 : Int32)), (.int (0 : Int32))] (.int (0 : Int32)) := V2.pad (pad_rep [] (.int (0 : Int32)) 5)
      refine OGo.dup (pc' := 93) C X2 at_92 rfl rfl ?_
      refine OGo.iconst (pc' := 94) (z := (0 : Int32)) C X2 at_93 rfl (by decide) ?_
      refine OGo.iconst (pc' := 95) (z := (0 : Int32)) C X2 at_94 rfl (by decide) ?_
      refine OGo.iastore (pc' := 96) C X2 V2 q2 (i := 0) at_95 rfl ⟨by decide, by decide⟩ (by decide) (Nat.le_of_ble_eq_true rfl) (fun T3 h3 X3 W3 V3 => ?_)
      replace V3 : Arv Z h3 a2 k2 .int (5 : Int32) [(.int (0 : Int32)), (.int (0 : Int32)), (.int (0 : Int32)), (.int (0 : Int32)), (.int (0 : Int32))] (.int (0 : Int32)) := V3
      refine OGo.dup (pc' := 97) C X3 at_96 rfl rfl ?_
      refine OGo.iconst (pc' := 98) (z := (1 : Int32)) C X3 at_97 rfl (by decide) ?_
      refine OGo.iload (pc' := 100) C X3 at_98 rfl rfl ?_
      refine OGo.iastore (pc' := 101) C X3 V3 q2 (i := 1) at_100 rfl ⟨by decide, by decide⟩ (by decide) (Nat.le_of_ble_eq_true rfl) (fun T4 h4 X4 W4 V4 => ?_)
      replace V4 : Arv Z h4 a2 k2 .int (5 : Int32) [(.int (0 : Int32)), (.int ka), (.int (0 : Int32)), (.int (0 : Int32)), (.int (0 : Int32))] (.int (0 : Int32)) := V4
      refine OGo.dup (pc' := 102) C X4 at_101 rfl rfl ?_
      refine OGo.iconst (pc' := 103) (z := (2 : Int32)) C X4 at_102 rfl (by decide) ?_
      refine OGo.iload (pc' := 105) C X4 at_103 rfl rfl ?_
      refine OGo.iastore (pc' := 106) C X4 V4 q2 (i := 2) at_105 rfl ⟨by decide, by decide⟩ (by decide) (Nat.le_of_ble_eq_true rfl) (fun T5 h5 X5 W5 V5 => ?_)
      replace V5 : Arv Z h5 a2 k2 .int (5 : Int32) [(.int (0 : Int32)), (.int ka), (.int kb), (.int (0 : Int32)), (.int (0 : Int32))] (.int (0 : Int32)) := V5
      refine OGo.dup (pc' := 107) C X5 at_106 rfl rfl ?_
      refine OGo.iconst (pc' := 108) (z := (3 : Int32)) C X5 at_107 rfl (by decide) ?_
      refine OGo.iload (pc' := 110) C X5 at_108 rfl rfl ?_
      refine OGo.iastore (pc' := 111) C X5 V5 q2 (i := 3) at_110 rfl ⟨by decide, by decide⟩ (by decide) (Nat.le_of_ble_eq_true rfl) (fun T6 h6 X6 W6 V6 => ?_)
      replace V6 : Arv Z h6 a2 k2 .int (5 : Int32) [(.int (0 : Int32)), (.int ka), (.int kb), (.int kc), (.int (0 : Int32))] (.int (0 : Int32)) := V6
      refine OGo.dup (pc' := 112) C X6 at_111 rfl rfl ?_
      refine OGo.iconst (pc' := 113) (z := (4 : Int32)) C X6 at_112 rfl (by decide) ?_
      refine OGo.iload (pc' := 115) C X6 at_113 rfl rfl ?_
      refine OGo.iastore (pc' := 116) C X6 V6 q2 (i := 4) at_115 rfl ⟨by decide, by decide⟩ (by decide) (Nat.le_of_ble_eq_true rfl) (fun T7 h7 X7 W7 V7 => ?_)
      replace V7 : Arv Z h7 a2 k2 .int (5 : Int32) [(.int (0 : Int32)), (.int ka), (.int kb), (.int kc), (.int kd)] (.int (0 : Int32)) := V7
      refine OGo.astore (pc' := 118) C X7 at_116 rfl rfl (l' := #[.val (.int i0), .val (.int i1), .val (.int i2), .val (.int i3), .val (.int i4), .val (.int i5), .val (.int ka), .val (.int kb), .val (.int kc), .val (.int kd), .val (.int (((ka + kb) + kc) + kd)), .val (.ref a2), .unset, .unset, .unset, .unset, .unset, .unset, .unset, .unset]) rfl ?_
      refine OGo.new (pc' := 121) (cells' := 2) (slots' := 8) C X7 (wd2 hw) (wd3 hw) (wd4 hw) at_118 rfl rfl rfl (by decide) (by decide) (fun T8 h8 a8 X8 g8 q8 E8 A8 D8 U8 => ?_)
      have ne9 : a2 ≠ a8 := Nat.ne_of_lt (Nat.lt_of_lt_of_eq V7.lt g8.symm)
      have F8_seeds : Fld Z h8 a8 "com/example/graphtend/graphtend/method/Evaluation" "seeds" "I" (.int (0 : Int32)) := D8 (Or.inr (wd12 hw)) (ty := .int) (by decide)
      have F8_tests : Fld Z h8 a8 "com/example/graphtend/graphtend/method/Evaluation" "tests" "I" (.int (0 : Int32)) := D8 (Or.inr (wd14 hw)) (ty := .int) (by decide)
      have F8_testsAtRank : Fld Z h8 a8 "com/example/graphtend/graphtend/method/Evaluation" "testsAtRank" "[I" .null := D8 (Or.inr (wd16 hw)) (ty := (.array .int)) (by decide)
      refine OGo.dup (pc' := 122) C X8 at_121 rfl rfl ?_
      refine OGo.iload (pc' := 124) C X8 at_122 rfl rfl ?_
      refine OGo.aload (pc' := 126) C X8 at_124 rfl rfl rfl ?_
      have f10 := (V7.ext E8)
      refine OGo.callInit (pc' := 129) (cells' := 2) (slots' := 8) (argsL := [(.int i5), (.ref a2)]) (St := [(.ref a8)]) C X8 rfl rfl (wd5 hw) (wd6 hw) (by decide) (wd7 hw) (wd4 hw) (ct1 hw X8.2.1 a8 i5 a2 k2 ka kb kc kd A8 F8_seeds F8_tests F8_testsAtRank f10 q8 (Ne.symm ne9) htot) (lenOf pd0 rfl) rfl at_126 rfl rfl (by decide) (Nat.le_of_ble_eq_true rfl) rfl rfl (by decide) (by decide) (fun v11 T11 h11 Q11 X11 z11 => ?_)
      obtain ⟨hv11, K11, E11a, F11a, F11b⟩ := Q11
      subst hv11
      show OGo p e below _ T11 (mkF m 129 #[.val (.int i0), .val (.int i1), .val (.int i2), .val (.int i3), .val (.int i4), .val (.int i5), .val (.int ka), .val (.int kb), .val (.int kc), .val (.int kd), .val (.int (((ka + kb) + kc) + kd)), .val (.ref a2), .unset, .unset, .unset, .unset, .unset, .unset, .unset, .unset] [(.ref a8)])
      refine OGo.astore (pc' := 131) C X11 at_129 rfl rfl (l' := #[.val (.int i0), .val (.int i1), .val (.int i2), .val (.int i3), .val (.int i4), .val (.int i5), .val (.int ka), .val (.int kb), .val (.int kc), .val (.int kd), .val (.int (((ka + kb) + kc) + kd)), .val (.ref a2), .val (.ref a8), .unset, .unset, .unset, .unset, .unset, .unset, .unset]) rfl ?_
      refine OGo.aload (pc' := 133) C X11 at_131 rfl rfl rfl ?_
      have f12 := (f10.keep K11 (ninS ne9 nin0))
      refine OGo.callV (pc' := 136) (cells' := 2) (slots' := 8) (argsL := []) (St := []) C X11 (wd17 hw) (wd18 hw) (wd20 hw) (wd19 hw) (by decide) E11a (wd21 hw) (wd4 hw) (ct3 hw X11.2.1 a8 a2 k2 ka kb kc kd (((ka + kb) + kc) + kd) F11a F11b f12 htot) (lenOf pd1 rfl) rfl at_133 rfl rfl (by decide) (Nat.le_of_ble_eq_true rfl) rfl rfl (by decide) (by decide) (fun v13 T13 h13 Q13 X13 z13 => ?_)
      obtain ⟨hv13, hh13⟩ := Q13
      subst hv13; rw [hh13] at X13
      show OGo p e below _ T13 (mkF m 136 #[.val (.int i0), .val (.int i1), .val (.int i2), .val (.int i3), .val (.int i4), .val (.int i5), .val (.int ka), .val (.int kb), .val (.int kc), .val (.int kd), .val (.int (((ka + kb) + kc) + kd)), .val (.ref a2), .val (.ref a8), .unset, .unset, .unset, .unset, .unset, .unset, .unset] [(.double (FP.ddiv (own_sum4 ka kb kc kd) (FP.i2d (((ka + kb) + kc) + kd))))])
      refine OGo.dstore (pc' := 138) C X13 at_136 rfl (l' := #[.val (.int i0), .val (.int i1), .val (.int i2), .val (.int i3), .val (.int i4), .val (.int i5), .val (.int ka), .val (.int kb), .val (.int kc), .val (.int kd), .val (.int (((ka + kb) + kc) + kd)), .val (.ref a2), .val (.ref a8), .val (.double (FP.ddiv (own_sum4 ka kb kc kd) (FP.i2d (((ka + kb) + kc) + kd)))), .second, .unset, .unset, .unset, .unset, .unset]) rfl ?_
      obtain ⟨Na, hNa⟩ : ∃ z : Nat, ka.toInt = (z : Int) := ⟨ka.toInt.toNat, by have := ma.1; omega⟩
      obtain ⟨Nb, hNb⟩ : ∃ z : Nat, kb.toInt = (z : Int) := ⟨kb.toInt.toNat, by have := mb.1; omega⟩
      obtain ⟨Nc, hNc⟩ : ∃ z : Nat, kc.toInt = (z : Int) := ⟨kc.toInt.toNat, by have := mc.1; omega⟩
      obtain ⟨Nd, hNd⟩ : ∃ z : Nat, kd.toInt = (z : Int) := ⟨kd.toInt.toNat, by have := md.1; omega⟩
      have ma' := ma.2; have mb' := mb.2; have mc' := mc.2; have md' := md.2
      have e2 : (2 : Int32).toInt = 2 := by decide
      have e4 : (4 : Int32).toInt = 4 := by decide
      have t1 : (ka + kb).toInt = ka.toInt + kb.toInt := own_addI (by omega) (by omega)
      have t2 : (ka + kb + kc).toInt = ka.toInt + kb.toInt + kc.toInt := by rw [own_addI (by omega) (by omega), t1]
      have t3 : (ka + kb + kc + kd).toInt = ka.toInt + kb.toInt + kc.toInt + kd.toInt := by rw [own_addI (by omega) (by omega), t2]
      have hz0 : (0 : Int32).toInt = 0 := by decide
      have tpos : (ka + kb + kc + kd).toInt ≠ 0 := fun z => htot (Int32.toInt_inj.mp (z.trans hz0.symm))
      refine OGo.iload (pc' := 140) C X13 at_138 rfl rfl ?_
      by_cases hc0 : kc = (0 : Int32)
      · refine OGo.ifNo (pc' := 143) C X13 at_140 rfl (teq hc0).2 ?_
        refine OGo.dload (pc' := 145) C X13 at_143 rfl rfl ?_
        refine OGo.iconst (pc' := 146) (z := (4 : Int32)) C X13 at_145 rfl (by decide) ?_
        refine OGo.iload (pc' := 148) C X13 at_146 rfl rfl ?_
        refine OGo.imul (pc' := 149) (z := ((4 : Int32) * ka)) C X13 at_148 rfl rfl ?_
        refine OGo.iconst (pc' := 150) (z := (2 : Int32)) C X13 at_149 rfl (by decide) ?_
        refine OGo.iload (pc' := 152) C X13 at_150 rfl rfl ?_
        refine OGo.imul (pc' := 153) (z := ((2 : Int32) * kb)) C X13 at_152 rfl rfl ?_
        refine OGo.iadd (pc' := 154) (z := (((4 : Int32) * ka) + ((2 : Int32) * kb))) C X13 at_153 rfl rfl ?_
        refine OGo.iload (pc' := 156) C X13 at_154 rfl rfl ?_
        refine OGo.iadd (pc' := 157) (z := ((((4 : Int32) * ka) + ((2 : Int32) * kb)) + kd)) C X13 at_156 rfl rfl ?_
        refine OGo.i2d (pc' := 158) (v := (FP.i2d ((((4 : Int32) * ka) + ((2 : Int32) * kb)) + kd))) C X13 at_157 rfl rfl ?_
        refine OGo.iconst (pc' := 159) (z := (4 : Int32)) C X13 at_158 rfl (by decide) ?_
        refine OGo.iload (pc' := 161) C X13 at_159 rfl rfl ?_
        refine OGo.imul (pc' := 162) (z := ((4 : Int32) * (((ka + kb) + kc) + kd))) C X13 at_161 rfl rfl ?_
        refine OGo.i2d (pc' := 163) (v := (FP.i2d ((4 : Int32) * (((ka + kb) + kc) + kd)))) C X13 at_162 rfl rfl ?_
        have q4 : ((4 : Int32) * (ka + kb + kc + kd)).toInt = 4 * (ka + kb + kc + kd).toInt := own_mulI (by decide) (by omega) (by omega)
        have nz4 : ¬ ((4 : Int32) * (ka + kb + kc + kd)) = 0 := fun z => by rw [z] at q4; omega
        refine OGo.ddiv (pc' := 164) (v := (FP.ddiv (FP.i2d ((((4 : Int32) * ka) + ((2 : Int32) * kb)) + kd)) (FP.i2d ((4 : Int32) * (((ka + kb) + kc) + kd))))) C X13 at_163 rfl (ddiv_out (i2d_fin _).noNaN (i2d_fin _) (i2d_nz nz4)) rfl ?_
        have hkc : kc.toInt = 0 := by rw [hc0]; exact hz0
        have u1 : ((4 : Int32) * ka).toInt = 4 * ka.toInt := own_mulI e4 (by omega) (by omega)
        have u2 : ((2 : Int32) * kb).toInt = 2 * kb.toInt := own_mulI e2 (by omega) (by omega)
        have u3 : ((4 : Int32) * ka + (2 : Int32) * kb).toInt = 4 * ka.toInt + 2 * kb.toInt := by rw [own_addI (by omega) (by omega), u1, u2]
        have u4 : ((4 : Int32) * ka + (2 : Int32) * kb + kd).toInt = 4 * ka.toInt + 2 * kb.toInt + kd.toInt := by rw [own_addI (by omega) (by omega), u3]
        have u5 : ((4 : Int32) * (ka + kb + kc + kd)).toInt = 4 * (ka + kb + kc + kd).toInt := own_mulI e4 (by omega) (by omega)
        have key := own_mrr_c0 (N := Na + Nb + Nd) hNa hNb hkc hNd (by omega) (by omega) (by omega) (n := ka + kb + kc + kd) (by omega) (by omega) (x := (4 : Int32) * ka + (2 : Int32) * kb + kd) (y := (4 : Int32) * (ka + kb + kc + kd)) (by omega) (by omega)
        refine OGo.dcmp (pc' := 165) (v := (0 : Int32)) C X13 at_164 rfl (dcmpV_eq key (own_mrr_nn htot) .l) ?_
        refine OGo.ifNo (pc' := 168) C X13 at_165 rfl (teq (by decide : (0 : Int32) = (0 : Int32))).2 ?_
        refine OGo.iconst (pc' := 169) (z := (1 : Int32)) C X13 at_168 rfl (by decide) ?_
        refine OGo.goto (pc' := 173) C X13 at_169 (by decide) (by decide) ?_
        exact OGo.retN C X13 at_173 hret (by simp) (z' := (1 : Int32)) (by decide) hlk (rfl) (by decide) (by decide)
      · refine OGo.ifYes (pc' := 174) C X13 at_140 (feq hc0).2 (by decide) (by decide) ?_
        refine OGo.bipush (pc' := 176) (z := (12 : Int32)) C X13 at_174 rfl (by decide) ?_
        refine OGo.iload (pc' := 178) C X13 at_176 rfl rfl ?_
        refine OGo.imul (pc' := 179) (z := ((12 : Int32) * ka)) C X13 at_178 rfl rfl ?_
        refine OGo.bipush (pc' := 181) (z := (6 : Int32)) C X13 at_179 rfl (by decide) ?_
        refine OGo.iload (pc' := 183) C X13 at_181 rfl rfl ?_
        refine OGo.imul (pc' := 184) (z := ((6 : Int32) * kb)) C X13 at_183 rfl rfl ?_
        refine OGo.iadd (pc' := 185) (z := (((12 : Int32) * ka) + ((6 : Int32) * kb))) C X13 at_184 rfl rfl ?_
        refine OGo.iconst (pc' := 186) (z := (4 : Int32)) C X13 at_185 rfl (by decide) ?_
        refine OGo.iload (pc' := 188) C X13 at_186 rfl rfl ?_
        refine OGo.imul (pc' := 189) (z := ((4 : Int32) * kc)) C X13 at_188 rfl rfl ?_
        refine OGo.iadd (pc' := 190) (z := ((((12 : Int32) * ka) + ((6 : Int32) * kb)) + ((4 : Int32) * kc))) C X13 at_189 rfl rfl ?_
        refine OGo.iconst (pc' := 191) (z := (3 : Int32)) C X13 at_190 rfl (by decide) ?_
        refine OGo.iload (pc' := 193) C X13 at_191 rfl rfl ?_
        refine OGo.imul (pc' := 194) (z := ((3 : Int32) * kd)) C X13 at_193 rfl rfl ?_
        obtain ⟨big, h_big⟩ : ∃ z : Int32, ((((12 : Int32) * ka) + ((6 : Int32) * kb)) + ((4 : Int32) * kc)) + ((3 : Int32) * kd) = z := ⟨_, rfl⟩
        refine OGo.iadd (pc' := 195) (z := big) C X13 at_194 rfl h_big ?_
        refine OGo.istore (pc' := 197) C X13 at_195 rfl (l' := #[.val (.int i0), .val (.int i1), .val (.int i2), .val (.int i3), .val (.int i4), .val (.int i5), .val (.int ka), .val (.int kb), .val (.int kc), .val (.int kd), .val (.int (((ka + kb) + kc) + kd)), .val (.ref a2), .val (.ref a8), .val (.double (FP.ddiv (own_sum4 ka kb kc kd) (FP.i2d (((ka + kb) + kc) + kd)))), .second, .val (.int big), .unset, .unset, .unset, .unset]) rfl ?_
        refine OGo.iconst (pc' := 198) (z := (2 : Int32)) C X13 at_197 rfl (by decide) ?_
        refine OGo.iload (pc' := 200) C X13 at_198 rfl rfl ?_
        refine OGo.imul (pc' := 201) (z := ((2 : Int32) * big)) C X13 at_200 rfl rfl ?_
        refine OGo.iconst (pc' := 202) (z := (1 : Int32)) C X13 at_201 rfl (by decide) ?_
        refine OGo.isub (pc' := 203) (z := (((2 : Int32) * big) - (1 : Int32))) C X13 at_202 rfl rfl ?_
        refine OGo.i2d (pc' := 204) (v := (FP.i2d (((2 : Int32) * big) - (1 : Int32)))) C X13 at_203 rfl rfl ?_
        refine OGo.bipush (pc' := 206) (z := (24 : Int32)) C X13 at_204 rfl (by decide) ?_
        refine OGo.iload (pc' := 208) C X13 at_206 rfl rfl ?_
        refine OGo.imul (pc' := 209) (z := ((24 : Int32) * (((ka + kb) + kc) + kd))) C X13 at_208 rfl rfl ?_
        refine OGo.i2d (pc' := 210) (v := (FP.i2d ((24 : Int32) * (((ka + kb) + kc) + kd)))) C X13 at_209 rfl rfl ?_
        have q24 : ((24 : Int32) * (ka + kb + kc + kd)).toInt = 24 * (ka + kb + kc + kd).toInt := own_mulI (by decide) (by omega) (by omega)
        have nz24 : ¬ ((24 : Int32) * (ka + kb + kc + kd)) = 0 := fun z => by rw [z] at q24; omega
        refine OGo.ddiv (pc' := 211) (v := (FP.ddiv (FP.i2d (((2 : Int32) * big) - (1 : Int32))) (FP.i2d ((24 : Int32) * (((ka + kb) + kc) + kd))))) C X13 at_210 rfl (ddiv_out (i2d_fin _).noNaN (i2d_fin _) (i2d_nz nz24)) rfl ?_
        refine OGo.dstore (pc' := 213) C X13 at_211 rfl (l' := #[.val (.int i0), .val (.int i1), .val (.int i2), .val (.int i3), .val (.int i4), .val (.int i5), .val (.int ka), .val (.int kb), .val (.int kc), .val (.int kd), .val (.int (((ka + kb) + kc) + kd)), .val (.ref a2), .val (.ref a8), .val (.double (FP.ddiv (own_sum4 ka kb kc kd) (FP.i2d (((ka + kb) + kc) + kd)))), .second, .val (.int big), .val (.double (FP.ddiv (FP.i2d (((2 : Int32) * big) - (1 : Int32))) (FP.i2d ((24 : Int32) * (((ka + kb) + kc) + kd))))), .second, .unset, .unset]) rfl ?_
        refine OGo.iconst (pc' := 214) (z := (2 : Int32)) C X13 at_213 rfl (by decide) ?_
        refine OGo.iload (pc' := 216) C X13 at_214 rfl rfl ?_
        refine OGo.imul (pc' := 217) (z := ((2 : Int32) * big)) C X13 at_216 rfl rfl ?_
        refine OGo.iconst (pc' := 218) (z := (1 : Int32)) C X13 at_217 rfl (by decide) ?_
        refine OGo.iadd (pc' := 219) (z := (((2 : Int32) * big) + (1 : Int32))) C X13 at_218 rfl rfl ?_
        refine OGo.i2d (pc' := 220) (v := (FP.i2d (((2 : Int32) * big) + (1 : Int32)))) C X13 at_219 rfl rfl ?_
        refine OGo.bipush (pc' := 222) (z := (24 : Int32)) C X13 at_220 rfl (by decide) ?_
        refine OGo.iload (pc' := 224) C X13 at_222 rfl rfl ?_
        refine OGo.imul (pc' := 225) (z := ((24 : Int32) * (((ka + kb) + kc) + kd))) C X13 at_224 rfl rfl ?_
        refine OGo.i2d (pc' := 226) (v := (FP.i2d ((24 : Int32) * (((ka + kb) + kc) + kd)))) C X13 at_225 rfl rfl ?_
        refine OGo.ddiv (pc' := 227) (v := (FP.ddiv (FP.i2d (((2 : Int32) * big) + (1 : Int32))) (FP.i2d ((24 : Int32) * (((ka + kb) + kc) + kd))))) C X13 at_226 rfl (ddiv_out (i2d_fin _).noNaN (i2d_fin _) (i2d_nz nz24)) rfl ?_
        refine OGo.dstore (pc' := 229) C X13 at_227 rfl (l' := #[.val (.int i0), .val (.int i1), .val (.int i2), .val (.int i3), .val (.int i4), .val (.int i5), .val (.int ka), .val (.int kb), .val (.int kc), .val (.int kd), .val (.int (((ka + kb) + kc) + kd)), .val (.ref a2), .val (.ref a8), .val (.double (FP.ddiv (own_sum4 ka kb kc kd) (FP.i2d (((ka + kb) + kc) + kd)))), .second, .val (.int big), .val (.double (FP.ddiv (FP.i2d (((2 : Int32) * big) - (1 : Int32))) (FP.i2d ((24 : Int32) * (((ka + kb) + kc) + kd))))), .second, .val (.double (FP.ddiv (FP.i2d (((2 : Int32) * big) + (1 : Int32))) (FP.i2d ((24 : Int32) * (((ka + kb) + kc) + kd))))), .second]) rfl ?_
        have hkc : kc.toInt ≠ 0 := fun z => hc0 (Int32.toInt_inj.mp (z.trans hz0.symm))
        have e12 : (12 : Int32).toInt = 12 := by decide
        have e6 : (6 : Int32).toInt = 6 := by decide
        have e3 : (3 : Int32).toInt = 3 := by decide
        have e24 : (24 : Int32).toInt = 24 := by decide
        have e1 : (1 : Int32).toInt = 1 := by decide
        have u1 : ((12 : Int32) * ka).toInt = 12 * ka.toInt := own_mulI e12 (by omega) (by omega)
        have u2 : ((6 : Int32) * kb).toInt = 6 * kb.toInt := own_mulI e6 (by omega) (by omega)
        have u3 : ((4 : Int32) * kc).toInt = 4 * kc.toInt := own_mulI e4 (by omega) (by omega)
        have u4 : ((3 : Int32) * kd).toInt = 3 * kd.toInt := own_mulI e3 (by omega) (by omega)
        have v1 : ((12 : Int32) * ka + (6 : Int32) * kb).toInt = 12 * ka.toInt + 6 * kb.toInt := by rw [own_addI (by omega) (by omega), u1, u2]
        have v2 : ((12 : Int32) * ka + (6 : Int32) * kb + (4 : Int32) * kc).toInt = 12 * ka.toInt + 6 * kb.toInt + 4 * kc.toInt := by rw [own_addI (by omega) (by omega), v1, u3]
        have hbig : big.toInt = 12 * ka.toInt + 6 * kb.toInt + 4 * kc.toInt + 3 * kd.toInt := by rw [← h_big, own_addI (by omega) (by omega), v2, u4]
        have v3 : ((2 : Int32) * big).toInt = 2 * big.toInt := own_mulI e2 (by omega) (by omega)
        have v4 : ((2 : Int32) * big - (1 : Int32)).toInt = 2 * big.toInt - 1 := by rw [own_subI (by omega) (by omega), v3, e1]
        have v5 : ((2 : Int32) * big + (1 : Int32)).toInt = 2 * big.toInt + 1 := by rw [own_addI (by omega) (by omega), v3, e1]
        have v6 : ((24 : Int32) * (ka + kb + kc + kd)).toInt = 24 * (ka + kb + kc + kd).toInt := own_mulI e24 (by omega) (by omega)
        have key := own_mrr_c hNa hNb hNc hNd (by omega) (by omega) (by omega) (by omega) (by omega) (n := ka + kb + kc + kd) (by omega) (x := (2 : Int32) * big - (1 : Int32)) (x' := (2 : Int32) * big + (1 : Int32)) (y := (24 : Int32) * (ka + kb + kc + kd)) (by omega) (by omega) (by omega)
        have ny : ¬ ((24 : Int32) * (ka + kb + kc + kd)) = 0 := fun z => by rw [z] at v6; omega
        have nr := own_nn (own_mrr_nn (a := ka) (b := kb) (c := kc) (d := kd) htot)
        have nlo := own_nn (ddiv_out (i2d_fin ((2 : Int32) * big - (1 : Int32))).noNaN (i2d_fin ((24 : Int32) * (ka + kb + kc + kd))) (i2d_nz ny))
        have nhi := own_nn (ddiv_out (i2d_fin ((2 : Int32) * big + (1 : Int32))).noNaN (i2d_fin ((24 : Int32) * (ka + kb + kc + kd))) (i2d_nz ny))
        refine OGo.dload (pc' := 231) C X13 at_229 rfl rfl ?_
        refine OGo.dload (pc' := 233) C X13 at_231 rfl rfl ?_
        refine OGo.dcmp (pc' := 234) (v := (-1 : Int32)) C X13 at_233 rfl ((own_cmp nlo nr .g).1 key.1) ?_
        refine OGo.ifNo (pc' := 237) C X13 at_234 rfl (tlt (by decide : (-1 : Int32) < (0 : Int32))).2.1 ?_
        refine OGo.dload (pc' := 239) C X13 at_237 rfl rfl ?_
        refine OGo.dload (pc' := 241) C X13 at_239 rfl rfl ?_
        refine OGo.dcmp (pc' := 242) (v := (-1 : Int32)) C X13 at_241 rfl ((own_cmp nr nhi .g).1 key.2) ?_
        refine OGo.ifNo (pc' := 245) C X13 at_242 rfl (tlt (by decide : (-1 : Int32) < (0 : Int32))).2.1 ?_
        refine OGo.iconst (pc' := 246) (z := (1 : Int32)) C X13 at_245 rfl (by decide) ?_
        refine OGo.goto (pc' := 250) C X13 at_246 (by decide) (by decide) ?_
        exact OGo.retN C X13 at_250 hret (by simp) (z' := (1 : Int32)) (by decide) hlk (rfl) (by decide) (by decide)
  refine OGo.iload (pc' := 2) C X0 at_0 rfl rfl ?_
  refine OGo.iconst (pc' := 3) (z := (2 : Int32)) C X0 at_2 rfl (by decide) ?_
  refine OGo.iand (pc' := 4) (z := (i4 &&& (2 : Int32))) C X0 at_3 rfl rfl ?_
  by_cases hc15 : (i4 &&& (2 : Int32)) = (0 : Int32)
  · refine OGo.ifYes (pc' := 11) C X0 at_4 (teq hc15).1 (by decide) (by decide) ?_
    refine OGo.iloadN (pc' := 12) C X0 at_11 rfl rfl ?_
    refine OGo.ldcInt (pc' := 14) C X0 (wd0 hw) at_12 rfl ?_
    refine OGo.iand (pc' := 15) (z := (i0 &&& (1048575 : Int32))) C X0 at_14 rfl rfl ?_
    refine OGo.istore (pc' := 17) C X0 at_15 rfl (l' := #[.val (.int i0), .val (.int i1), .val (.int i2), .val (.int i3), .val (.int i4), .val (.int i5), .val (.int (i0 &&& (1048575 : Int32))), .unset, .unset, .unset, .unset, .unset, .unset, .unset, .unset, .unset, .unset, .unset, .unset, .unset]) rfl ?_
    refine OGo.iload (pc' := 19) C X0 at_17 rfl rfl ?_
    refine OGo.iconst (pc' := 20) (z := (4 : Int32)) C X0 at_19 rfl (by decide) ?_
    refine OGo.iand (pc' := 21) (z := (i4 &&& (4 : Int32))) C X0 at_20 rfl rfl ?_
    by_cases hc16 : (i4 &&& (4 : Int32)) = (0 : Int32)
    · refine OGo.ifYes (pc' := 28) C X0 at_21 (teq hc16).1 (by decide) (by decide) ?_
      refine OGo.iloadN (pc' := 29) C X0 at_28 rfl rfl ?_
      refine OGo.ldcInt (pc' := 31) C X0 (wd0 hw) at_29 rfl ?_
      refine OGo.iand (pc' := 32) (z := (i1 &&& (1048575 : Int32))) C X0 at_31 rfl rfl ?_
      refine OGo.istore (pc' := 34) C X0 at_32 rfl (l' := #[.val (.int i0), .val (.int i1), .val (.int i2), .val (.int i3), .val (.int i4), .val (.int i5), .val (.int (i0 &&& (1048575 : Int32))), .val (.int (i1 &&& (1048575 : Int32))), .unset, .unset, .unset, .unset, .unset, .unset, .unset, .unset, .unset, .unset, .unset, .unset]) rfl ?_
      refine OGo.iload (pc' := 36) C X0 at_34 rfl rfl ?_
      refine OGo.iconst (pc' := 37) (z := (1 : Int32)) C X0 at_36 rfl (by decide) ?_
      refine OGo.iand (pc' := 38) (z := (i4 &&& (1 : Int32))) C X0 at_37 rfl rfl ?_
      by_cases hc17 : (i4 &&& (1 : Int32)) = (0 : Int32)
      · refine OGo.ifYes (pc' := 45) C X0 at_38 (teq hc17).1 (by decide) (by decide) ?_
        refine OGo.iloadN (pc' := 46) C X0 at_45 rfl rfl ?_
        refine OGo.ldcInt (pc' := 48) C X0 (wd0 hw) at_46 rfl ?_
        refine OGo.iand (pc' := 49) (z := (i2 &&& (1048575 : Int32))) C X0 at_48 rfl rfl ?_
        refine OGo.istore (pc' := 51) C X0 at_49 rfl (l' := #[.val (.int i0), .val (.int i1), .val (.int i2), .val (.int i3), .val (.int i4), .val (.int i5), .val (.int (i0 &&& (1048575 : Int32))), .val (.int (i1 &&& (1048575 : Int32))), .val (.int (i2 &&& (1048575 : Int32))), .unset, .unset, .unset, .unset, .unset, .unset, .unset, .unset, .unset, .unset, .unset]) rfl ?_
        refine OGo.iload (pc' := 53) C X0 at_51 rfl rfl ?_
        refine OGo.bipush (pc' := 55) (z := (8 : Int32)) C X0 at_53 rfl (by decide) ?_
        refine OGo.iand (pc' := 56) (z := (i4 &&& (8 : Int32))) C X0 at_55 rfl rfl ?_
        by_cases hc18 : (i4 &&& (8 : Int32)) = (0 : Int32)
        · refine OGo.ifYes (pc' := 63) C X0 at_56 (teq hc18).1 (by decide) (by decide) ?_
          refine OGo.iloadN (pc' := 64) C X0 at_63 rfl rfl ?_
          refine OGo.ldcInt (pc' := 66) C X0 (wd0 hw) at_64 rfl ?_
          refine OGo.iand (pc' := 67) (z := (i3 &&& (1048575 : Int32))) C X0 at_66 rfl rfl ?_
          refine OGo.istore (pc' := 69) C X0 at_67 rfl (l' := #[.val (.int i0), .val (.int i1), .val (.int i2), .val (.int i3), .val (.int i4), .val (.int i5), .val (.int (i0 &&& (1048575 : Int32))), .val (.int (i1 &&& (1048575 : Int32))), .val (.int (i2 &&& (1048575 : Int32))), .val (.int (i3 &&& (1048575 : Int32))), .unset, .unset, .unset, .unset, .unset, .unset, .unset, .unset, .unset, .unset]) rfl ?_
          exact join _ _ _ _ (own_m20_m _) (own_m20_m _) (own_m20_m _) (own_m20_m _)
        · refine OGo.ifNo (pc' := 59) C X0 at_56 rfl (feq hc18).1 ?_
          refine OGo.iconst (pc' := 60) (z := (0 : Int32)) C X0 at_59 rfl (by decide) ?_
          refine OGo.goto (pc' := 67) C X0 at_60 (by decide) (by decide) ?_
          refine OGo.istore (pc' := 69) C X0 at_67 rfl (l' := #[.val (.int i0), .val (.int i1), .val (.int i2), .val (.int i3), .val (.int i4), .val (.int i5), .val (.int (i0 &&& (1048575 : Int32))), .val (.int (i1 &&& (1048575 : Int32))), .val (.int (i2 &&& (1048575 : Int32))), .val (.int (0 : Int32)), .unset, .unset, .unset, .unset, .unset, .unset, .unset, .unset, .unset, .unset]) rfl ?_
          exact join _ _ _ _ (own_m20_m _) (own_m20_m _) (own_m20_m _) own_m20_0
      · refine OGo.ifNo (pc' := 41) C X0 at_38 rfl (feq hc17).1 ?_
        refine OGo.iconst (pc' := 42) (z := (0 : Int32)) C X0 at_41 rfl (by decide) ?_
        refine OGo.goto (pc' := 49) C X0 at_42 (by decide) (by decide) ?_
        refine OGo.istore (pc' := 51) C X0 at_49 rfl (l' := #[.val (.int i0), .val (.int i1), .val (.int i2), .val (.int i3), .val (.int i4), .val (.int i5), .val (.int (i0 &&& (1048575 : Int32))), .val (.int (i1 &&& (1048575 : Int32))), .val (.int (0 : Int32)), .unset, .unset, .unset, .unset, .unset, .unset, .unset, .unset, .unset, .unset, .unset]) rfl ?_
        refine OGo.iload (pc' := 53) C X0 at_51 rfl rfl ?_
        refine OGo.bipush (pc' := 55) (z := (8 : Int32)) C X0 at_53 rfl (by decide) ?_
        refine OGo.iand (pc' := 56) (z := (i4 &&& (8 : Int32))) C X0 at_55 rfl rfl ?_
        by_cases hc19 : (i4 &&& (8 : Int32)) = (0 : Int32)
        · refine OGo.ifYes (pc' := 63) C X0 at_56 (teq hc19).1 (by decide) (by decide) ?_
          refine OGo.iloadN (pc' := 64) C X0 at_63 rfl rfl ?_
          refine OGo.ldcInt (pc' := 66) C X0 (wd0 hw) at_64 rfl ?_
          refine OGo.iand (pc' := 67) (z := (i3 &&& (1048575 : Int32))) C X0 at_66 rfl rfl ?_
          refine OGo.istore (pc' := 69) C X0 at_67 rfl (l' := #[.val (.int i0), .val (.int i1), .val (.int i2), .val (.int i3), .val (.int i4), .val (.int i5), .val (.int (i0 &&& (1048575 : Int32))), .val (.int (i1 &&& (1048575 : Int32))), .val (.int (0 : Int32)), .val (.int (i3 &&& (1048575 : Int32))), .unset, .unset, .unset, .unset, .unset, .unset, .unset, .unset, .unset, .unset]) rfl ?_
          exact join _ _ _ _ (own_m20_m _) (own_m20_m _) own_m20_0 (own_m20_m _)
        · refine OGo.ifNo (pc' := 59) C X0 at_56 rfl (feq hc19).1 ?_
          refine OGo.iconst (pc' := 60) (z := (0 : Int32)) C X0 at_59 rfl (by decide) ?_
          refine OGo.goto (pc' := 67) C X0 at_60 (by decide) (by decide) ?_
          refine OGo.istore (pc' := 69) C X0 at_67 rfl (l' := #[.val (.int i0), .val (.int i1), .val (.int i2), .val (.int i3), .val (.int i4), .val (.int i5), .val (.int (i0 &&& (1048575 : Int32))), .val (.int (i1 &&& (1048575 : Int32))), .val (.int (0 : Int32)), .val (.int (0 : Int32)), .unset, .unset, .unset, .unset, .unset, .unset, .unset, .unset, .unset, .unset]) rfl ?_
          exact join _ _ _ _ (own_m20_m _) (own_m20_m _) own_m20_0 own_m20_0
    · refine OGo.ifNo (pc' := 24) C X0 at_21 rfl (feq hc16).1 ?_
      refine OGo.iconst (pc' := 25) (z := (0 : Int32)) C X0 at_24 rfl (by decide) ?_
      refine OGo.goto (pc' := 32) C X0 at_25 (by decide) (by decide) ?_
      refine OGo.istore (pc' := 34) C X0 at_32 rfl (l' := #[.val (.int i0), .val (.int i1), .val (.int i2), .val (.int i3), .val (.int i4), .val (.int i5), .val (.int (i0 &&& (1048575 : Int32))), .val (.int (0 : Int32)), .unset, .unset, .unset, .unset, .unset, .unset, .unset, .unset, .unset, .unset, .unset, .unset]) rfl ?_
      refine OGo.iload (pc' := 36) C X0 at_34 rfl rfl ?_
      refine OGo.iconst (pc' := 37) (z := (1 : Int32)) C X0 at_36 rfl (by decide) ?_
      refine OGo.iand (pc' := 38) (z := (i4 &&& (1 : Int32))) C X0 at_37 rfl rfl ?_
      by_cases hc20 : (i4 &&& (1 : Int32)) = (0 : Int32)
      · refine OGo.ifYes (pc' := 45) C X0 at_38 (teq hc20).1 (by decide) (by decide) ?_
        refine OGo.iloadN (pc' := 46) C X0 at_45 rfl rfl ?_
        refine OGo.ldcInt (pc' := 48) C X0 (wd0 hw) at_46 rfl ?_
        refine OGo.iand (pc' := 49) (z := (i2 &&& (1048575 : Int32))) C X0 at_48 rfl rfl ?_
        refine OGo.istore (pc' := 51) C X0 at_49 rfl (l' := #[.val (.int i0), .val (.int i1), .val (.int i2), .val (.int i3), .val (.int i4), .val (.int i5), .val (.int (i0 &&& (1048575 : Int32))), .val (.int (0 : Int32)), .val (.int (i2 &&& (1048575 : Int32))), .unset, .unset, .unset, .unset, .unset, .unset, .unset, .unset, .unset, .unset, .unset]) rfl ?_
        refine OGo.iload (pc' := 53) C X0 at_51 rfl rfl ?_
        refine OGo.bipush (pc' := 55) (z := (8 : Int32)) C X0 at_53 rfl (by decide) ?_
        refine OGo.iand (pc' := 56) (z := (i4 &&& (8 : Int32))) C X0 at_55 rfl rfl ?_
        by_cases hc21 : (i4 &&& (8 : Int32)) = (0 : Int32)
        · refine OGo.ifYes (pc' := 63) C X0 at_56 (teq hc21).1 (by decide) (by decide) ?_
          refine OGo.iloadN (pc' := 64) C X0 at_63 rfl rfl ?_
          refine OGo.ldcInt (pc' := 66) C X0 (wd0 hw) at_64 rfl ?_
          refine OGo.iand (pc' := 67) (z := (i3 &&& (1048575 : Int32))) C X0 at_66 rfl rfl ?_
          refine OGo.istore (pc' := 69) C X0 at_67 rfl (l' := #[.val (.int i0), .val (.int i1), .val (.int i2), .val (.int i3), .val (.int i4), .val (.int i5), .val (.int (i0 &&& (1048575 : Int32))), .val (.int (0 : Int32)), .val (.int (i2 &&& (1048575 : Int32))), .val (.int (i3 &&& (1048575 : Int32))), .unset, .unset, .unset, .unset, .unset, .unset, .unset, .unset, .unset, .unset]) rfl ?_
          exact join _ _ _ _ (own_m20_m _) own_m20_0 (own_m20_m _) (own_m20_m _)
        · refine OGo.ifNo (pc' := 59) C X0 at_56 rfl (feq hc21).1 ?_
          refine OGo.iconst (pc' := 60) (z := (0 : Int32)) C X0 at_59 rfl (by decide) ?_
          refine OGo.goto (pc' := 67) C X0 at_60 (by decide) (by decide) ?_
          refine OGo.istore (pc' := 69) C X0 at_67 rfl (l' := #[.val (.int i0), .val (.int i1), .val (.int i2), .val (.int i3), .val (.int i4), .val (.int i5), .val (.int (i0 &&& (1048575 : Int32))), .val (.int (0 : Int32)), .val (.int (i2 &&& (1048575 : Int32))), .val (.int (0 : Int32)), .unset, .unset, .unset, .unset, .unset, .unset, .unset, .unset, .unset, .unset]) rfl ?_
          exact join _ _ _ _ (own_m20_m _) own_m20_0 (own_m20_m _) own_m20_0
      · refine OGo.ifNo (pc' := 41) C X0 at_38 rfl (feq hc20).1 ?_
        refine OGo.iconst (pc' := 42) (z := (0 : Int32)) C X0 at_41 rfl (by decide) ?_
        refine OGo.goto (pc' := 49) C X0 at_42 (by decide) (by decide) ?_
        refine OGo.istore (pc' := 51) C X0 at_49 rfl (l' := #[.val (.int i0), .val (.int i1), .val (.int i2), .val (.int i3), .val (.int i4), .val (.int i5), .val (.int (i0 &&& (1048575 : Int32))), .val (.int (0 : Int32)), .val (.int (0 : Int32)), .unset, .unset, .unset, .unset, .unset, .unset, .unset, .unset, .unset, .unset, .unset]) rfl ?_
        refine OGo.iload (pc' := 53) C X0 at_51 rfl rfl ?_
        refine OGo.bipush (pc' := 55) (z := (8 : Int32)) C X0 at_53 rfl (by decide) ?_
        refine OGo.iand (pc' := 56) (z := (i4 &&& (8 : Int32))) C X0 at_55 rfl rfl ?_
        by_cases hc22 : (i4 &&& (8 : Int32)) = (0 : Int32)
        · refine OGo.ifYes (pc' := 63) C X0 at_56 (teq hc22).1 (by decide) (by decide) ?_
          refine OGo.iloadN (pc' := 64) C X0 at_63 rfl rfl ?_
          refine OGo.ldcInt (pc' := 66) C X0 (wd0 hw) at_64 rfl ?_
          refine OGo.iand (pc' := 67) (z := (i3 &&& (1048575 : Int32))) C X0 at_66 rfl rfl ?_
          refine OGo.istore (pc' := 69) C X0 at_67 rfl (l' := #[.val (.int i0), .val (.int i1), .val (.int i2), .val (.int i3), .val (.int i4), .val (.int i5), .val (.int (i0 &&& (1048575 : Int32))), .val (.int (0 : Int32)), .val (.int (0 : Int32)), .val (.int (i3 &&& (1048575 : Int32))), .unset, .unset, .unset, .unset, .unset, .unset, .unset, .unset, .unset, .unset]) rfl ?_
          exact join _ _ _ _ (own_m20_m _) own_m20_0 own_m20_0 (own_m20_m _)
        · refine OGo.ifNo (pc' := 59) C X0 at_56 rfl (feq hc22).1 ?_
          refine OGo.iconst (pc' := 60) (z := (0 : Int32)) C X0 at_59 rfl (by decide) ?_
          refine OGo.goto (pc' := 67) C X0 at_60 (by decide) (by decide) ?_
          refine OGo.istore (pc' := 69) C X0 at_67 rfl (l' := #[.val (.int i0), .val (.int i1), .val (.int i2), .val (.int i3), .val (.int i4), .val (.int i5), .val (.int (i0 &&& (1048575 : Int32))), .val (.int (0 : Int32)), .val (.int (0 : Int32)), .val (.int (0 : Int32)), .unset, .unset, .unset, .unset, .unset, .unset, .unset, .unset, .unset, .unset]) rfl ?_
          exact join _ _ _ _ (own_m20_m _) own_m20_0 own_m20_0 own_m20_0
  · refine OGo.ifNo (pc' := 7) C X0 at_4 rfl (feq hc15).1 ?_
    refine OGo.iconst (pc' := 8) (z := (0 : Int32)) C X0 at_7 rfl (by decide) ?_
    refine OGo.goto (pc' := 15) C X0 at_8 (by decide) (by decide) ?_
    refine OGo.istore (pc' := 17) C X0 at_15 rfl (l' := #[.val (.int i0), .val (.int i1), .val (.int i2), .val (.int i3), .val (.int i4), .val (.int i5), .val (.int (0 : Int32)), .unset, .unset, .unset, .unset, .unset, .unset, .unset, .unset, .unset, .unset, .unset, .unset, .unset]) rfl ?_
    refine OGo.iload (pc' := 19) C X0 at_17 rfl rfl ?_
    refine OGo.iconst (pc' := 20) (z := (4 : Int32)) C X0 at_19 rfl (by decide) ?_
    refine OGo.iand (pc' := 21) (z := (i4 &&& (4 : Int32))) C X0 at_20 rfl rfl ?_
    by_cases hc23 : (i4 &&& (4 : Int32)) = (0 : Int32)
    · refine OGo.ifYes (pc' := 28) C X0 at_21 (teq hc23).1 (by decide) (by decide) ?_
      refine OGo.iloadN (pc' := 29) C X0 at_28 rfl rfl ?_
      refine OGo.ldcInt (pc' := 31) C X0 (wd0 hw) at_29 rfl ?_
      refine OGo.iand (pc' := 32) (z := (i1 &&& (1048575 : Int32))) C X0 at_31 rfl rfl ?_
      refine OGo.istore (pc' := 34) C X0 at_32 rfl (l' := #[.val (.int i0), .val (.int i1), .val (.int i2), .val (.int i3), .val (.int i4), .val (.int i5), .val (.int (0 : Int32)), .val (.int (i1 &&& (1048575 : Int32))), .unset, .unset, .unset, .unset, .unset, .unset, .unset, .unset, .unset, .unset, .unset, .unset]) rfl ?_
      refine OGo.iload (pc' := 36) C X0 at_34 rfl rfl ?_
      refine OGo.iconst (pc' := 37) (z := (1 : Int32)) C X0 at_36 rfl (by decide) ?_
      refine OGo.iand (pc' := 38) (z := (i4 &&& (1 : Int32))) C X0 at_37 rfl rfl ?_
      by_cases hc24 : (i4 &&& (1 : Int32)) = (0 : Int32)
      · refine OGo.ifYes (pc' := 45) C X0 at_38 (teq hc24).1 (by decide) (by decide) ?_
        refine OGo.iloadN (pc' := 46) C X0 at_45 rfl rfl ?_
        refine OGo.ldcInt (pc' := 48) C X0 (wd0 hw) at_46 rfl ?_
        refine OGo.iand (pc' := 49) (z := (i2 &&& (1048575 : Int32))) C X0 at_48 rfl rfl ?_
        refine OGo.istore (pc' := 51) C X0 at_49 rfl (l' := #[.val (.int i0), .val (.int i1), .val (.int i2), .val (.int i3), .val (.int i4), .val (.int i5), .val (.int (0 : Int32)), .val (.int (i1 &&& (1048575 : Int32))), .val (.int (i2 &&& (1048575 : Int32))), .unset, .unset, .unset, .unset, .unset, .unset, .unset, .unset, .unset, .unset, .unset]) rfl ?_
        refine OGo.iload (pc' := 53) C X0 at_51 rfl rfl ?_
        refine OGo.bipush (pc' := 55) (z := (8 : Int32)) C X0 at_53 rfl (by decide) ?_
        refine OGo.iand (pc' := 56) (z := (i4 &&& (8 : Int32))) C X0 at_55 rfl rfl ?_
        by_cases hc25 : (i4 &&& (8 : Int32)) = (0 : Int32)
        · refine OGo.ifYes (pc' := 63) C X0 at_56 (teq hc25).1 (by decide) (by decide) ?_
          refine OGo.iloadN (pc' := 64) C X0 at_63 rfl rfl ?_
          refine OGo.ldcInt (pc' := 66) C X0 (wd0 hw) at_64 rfl ?_
          refine OGo.iand (pc' := 67) (z := (i3 &&& (1048575 : Int32))) C X0 at_66 rfl rfl ?_
          refine OGo.istore (pc' := 69) C X0 at_67 rfl (l' := #[.val (.int i0), .val (.int i1), .val (.int i2), .val (.int i3), .val (.int i4), .val (.int i5), .val (.int (0 : Int32)), .val (.int (i1 &&& (1048575 : Int32))), .val (.int (i2 &&& (1048575 : Int32))), .val (.int (i3 &&& (1048575 : Int32))), .unset, .unset, .unset, .unset, .unset, .unset, .unset, .unset, .unset, .unset]) rfl ?_
          exact join _ _ _ _ own_m20_0 (own_m20_m _) (own_m20_m _) (own_m20_m _)
        · refine OGo.ifNo (pc' := 59) C X0 at_56 rfl (feq hc25).1 ?_
          refine OGo.iconst (pc' := 60) (z := (0 : Int32)) C X0 at_59 rfl (by decide) ?_
          refine OGo.goto (pc' := 67) C X0 at_60 (by decide) (by decide) ?_
          refine OGo.istore (pc' := 69) C X0 at_67 rfl (l' := #[.val (.int i0), .val (.int i1), .val (.int i2), .val (.int i3), .val (.int i4), .val (.int i5), .val (.int (0 : Int32)), .val (.int (i1 &&& (1048575 : Int32))), .val (.int (i2 &&& (1048575 : Int32))), .val (.int (0 : Int32)), .unset, .unset, .unset, .unset, .unset, .unset, .unset, .unset, .unset, .unset]) rfl ?_
          exact join _ _ _ _ own_m20_0 (own_m20_m _) (own_m20_m _) own_m20_0
      · refine OGo.ifNo (pc' := 41) C X0 at_38 rfl (feq hc24).1 ?_
        refine OGo.iconst (pc' := 42) (z := (0 : Int32)) C X0 at_41 rfl (by decide) ?_
        refine OGo.goto (pc' := 49) C X0 at_42 (by decide) (by decide) ?_
        refine OGo.istore (pc' := 51) C X0 at_49 rfl (l' := #[.val (.int i0), .val (.int i1), .val (.int i2), .val (.int i3), .val (.int i4), .val (.int i5), .val (.int (0 : Int32)), .val (.int (i1 &&& (1048575 : Int32))), .val (.int (0 : Int32)), .unset, .unset, .unset, .unset, .unset, .unset, .unset, .unset, .unset, .unset, .unset]) rfl ?_
        refine OGo.iload (pc' := 53) C X0 at_51 rfl rfl ?_
        refine OGo.bipush (pc' := 55) (z := (8 : Int32)) C X0 at_53 rfl (by decide) ?_
        refine OGo.iand (pc' := 56) (z := (i4 &&& (8 : Int32))) C X0 at_55 rfl rfl ?_
        by_cases hc26 : (i4 &&& (8 : Int32)) = (0 : Int32)
        · refine OGo.ifYes (pc' := 63) C X0 at_56 (teq hc26).1 (by decide) (by decide) ?_
          refine OGo.iloadN (pc' := 64) C X0 at_63 rfl rfl ?_
          refine OGo.ldcInt (pc' := 66) C X0 (wd0 hw) at_64 rfl ?_
          refine OGo.iand (pc' := 67) (z := (i3 &&& (1048575 : Int32))) C X0 at_66 rfl rfl ?_
          refine OGo.istore (pc' := 69) C X0 at_67 rfl (l' := #[.val (.int i0), .val (.int i1), .val (.int i2), .val (.int i3), .val (.int i4), .val (.int i5), .val (.int (0 : Int32)), .val (.int (i1 &&& (1048575 : Int32))), .val (.int (0 : Int32)), .val (.int (i3 &&& (1048575 : Int32))), .unset, .unset, .unset, .unset, .unset, .unset, .unset, .unset, .unset, .unset]) rfl ?_
          exact join _ _ _ _ own_m20_0 (own_m20_m _) own_m20_0 (own_m20_m _)
        · refine OGo.ifNo (pc' := 59) C X0 at_56 rfl (feq hc26).1 ?_
          refine OGo.iconst (pc' := 60) (z := (0 : Int32)) C X0 at_59 rfl (by decide) ?_
          refine OGo.goto (pc' := 67) C X0 at_60 (by decide) (by decide) ?_
          refine OGo.istore (pc' := 69) C X0 at_67 rfl (l' := #[.val (.int i0), .val (.int i1), .val (.int i2), .val (.int i3), .val (.int i4), .val (.int i5), .val (.int (0 : Int32)), .val (.int (i1 &&& (1048575 : Int32))), .val (.int (0 : Int32)), .val (.int (0 : Int32)), .unset, .unset, .unset, .unset, .unset, .unset, .unset, .unset, .unset, .unset]) rfl ?_
          exact join _ _ _ _ own_m20_0 (own_m20_m _) own_m20_0 own_m20_0
    · refine OGo.ifNo (pc' := 24) C X0 at_21 rfl (feq hc23).1 ?_
      refine OGo.iconst (pc' := 25) (z := (0 : Int32)) C X0 at_24 rfl (by decide) ?_
      refine OGo.goto (pc' := 32) C X0 at_25 (by decide) (by decide) ?_
      refine OGo.istore (pc' := 34) C X0 at_32 rfl (l' := #[.val (.int i0), .val (.int i1), .val (.int i2), .val (.int i3), .val (.int i4), .val (.int i5), .val (.int (0 : Int32)), .val (.int (0 : Int32)), .unset, .unset, .unset, .unset, .unset, .unset, .unset, .unset, .unset, .unset, .unset, .unset]) rfl ?_
      refine OGo.iload (pc' := 36) C X0 at_34 rfl rfl ?_
      refine OGo.iconst (pc' := 37) (z := (1 : Int32)) C X0 at_36 rfl (by decide) ?_
      refine OGo.iand (pc' := 38) (z := (i4 &&& (1 : Int32))) C X0 at_37 rfl rfl ?_
      by_cases hc27 : (i4 &&& (1 : Int32)) = (0 : Int32)
      · refine OGo.ifYes (pc' := 45) C X0 at_38 (teq hc27).1 (by decide) (by decide) ?_
        refine OGo.iloadN (pc' := 46) C X0 at_45 rfl rfl ?_
        refine OGo.ldcInt (pc' := 48) C X0 (wd0 hw) at_46 rfl ?_
        refine OGo.iand (pc' := 49) (z := (i2 &&& (1048575 : Int32))) C X0 at_48 rfl rfl ?_
        refine OGo.istore (pc' := 51) C X0 at_49 rfl (l' := #[.val (.int i0), .val (.int i1), .val (.int i2), .val (.int i3), .val (.int i4), .val (.int i5), .val (.int (0 : Int32)), .val (.int (0 : Int32)), .val (.int (i2 &&& (1048575 : Int32))), .unset, .unset, .unset, .unset, .unset, .unset, .unset, .unset, .unset, .unset, .unset]) rfl ?_
        refine OGo.iload (pc' := 53) C X0 at_51 rfl rfl ?_
        refine OGo.bipush (pc' := 55) (z := (8 : Int32)) C X0 at_53 rfl (by decide) ?_
        refine OGo.iand (pc' := 56) (z := (i4 &&& (8 : Int32))) C X0 at_55 rfl rfl ?_
        by_cases hc28 : (i4 &&& (8 : Int32)) = (0 : Int32)
        · refine OGo.ifYes (pc' := 63) C X0 at_56 (teq hc28).1 (by decide) (by decide) ?_
          refine OGo.iloadN (pc' := 64) C X0 at_63 rfl rfl ?_
          refine OGo.ldcInt (pc' := 66) C X0 (wd0 hw) at_64 rfl ?_
          refine OGo.iand (pc' := 67) (z := (i3 &&& (1048575 : Int32))) C X0 at_66 rfl rfl ?_
          refine OGo.istore (pc' := 69) C X0 at_67 rfl (l' := #[.val (.int i0), .val (.int i1), .val (.int i2), .val (.int i3), .val (.int i4), .val (.int i5), .val (.int (0 : Int32)), .val (.int (0 : Int32)), .val (.int (i2 &&& (1048575 : Int32))), .val (.int (i3 &&& (1048575 : Int32))), .unset, .unset, .unset, .unset, .unset, .unset, .unset, .unset, .unset, .unset]) rfl ?_
          exact join _ _ _ _ own_m20_0 own_m20_0 (own_m20_m _) (own_m20_m _)
        · refine OGo.ifNo (pc' := 59) C X0 at_56 rfl (feq hc28).1 ?_
          refine OGo.iconst (pc' := 60) (z := (0 : Int32)) C X0 at_59 rfl (by decide) ?_
          refine OGo.goto (pc' := 67) C X0 at_60 (by decide) (by decide) ?_
          refine OGo.istore (pc' := 69) C X0 at_67 rfl (l' := #[.val (.int i0), .val (.int i1), .val (.int i2), .val (.int i3), .val (.int i4), .val (.int i5), .val (.int (0 : Int32)), .val (.int (0 : Int32)), .val (.int (i2 &&& (1048575 : Int32))), .val (.int (0 : Int32)), .unset, .unset, .unset, .unset, .unset, .unset, .unset, .unset, .unset, .unset]) rfl ?_
          exact join _ _ _ _ own_m20_0 own_m20_0 (own_m20_m _) own_m20_0
      · refine OGo.ifNo (pc' := 41) C X0 at_38 rfl (feq hc27).1 ?_
        refine OGo.iconst (pc' := 42) (z := (0 : Int32)) C X0 at_41 rfl (by decide) ?_
        refine OGo.goto (pc' := 49) C X0 at_42 (by decide) (by decide) ?_
        refine OGo.istore (pc' := 51) C X0 at_49 rfl (l' := #[.val (.int i0), .val (.int i1), .val (.int i2), .val (.int i3), .val (.int i4), .val (.int i5), .val (.int (0 : Int32)), .val (.int (0 : Int32)), .val (.int (0 : Int32)), .unset, .unset, .unset, .unset, .unset, .unset, .unset, .unset, .unset, .unset, .unset]) rfl ?_
        refine OGo.iload (pc' := 53) C X0 at_51 rfl rfl ?_
        refine OGo.bipush (pc' := 55) (z := (8 : Int32)) C X0 at_53 rfl (by decide) ?_
        refine OGo.iand (pc' := 56) (z := (i4 &&& (8 : Int32))) C X0 at_55 rfl rfl ?_
        by_cases hc29 : (i4 &&& (8 : Int32)) = (0 : Int32)
        · refine OGo.ifYes (pc' := 63) C X0 at_56 (teq hc29).1 (by decide) (by decide) ?_
          refine OGo.iloadN (pc' := 64) C X0 at_63 rfl rfl ?_
          refine OGo.ldcInt (pc' := 66) C X0 (wd0 hw) at_64 rfl ?_
          refine OGo.iand (pc' := 67) (z := (i3 &&& (1048575 : Int32))) C X0 at_66 rfl rfl ?_
          refine OGo.istore (pc' := 69) C X0 at_67 rfl (l' := #[.val (.int i0), .val (.int i1), .val (.int i2), .val (.int i3), .val (.int i4), .val (.int i5), .val (.int (0 : Int32)), .val (.int (0 : Int32)), .val (.int (0 : Int32)), .val (.int (i3 &&& (1048575 : Int32))), .unset, .unset, .unset, .unset, .unset, .unset, .unset, .unset, .unset, .unset]) rfl ?_
          exact join _ _ _ _ own_m20_0 own_m20_0 own_m20_0 (own_m20_m _)
        · refine OGo.ifNo (pc' := 59) C X0 at_56 rfl (feq hc29).1 ?_
          refine OGo.iconst (pc' := 60) (z := (0 : Int32)) C X0 at_59 rfl (by decide) ?_
          refine OGo.goto (pc' := 67) C X0 at_60 (by decide) (by decide) ?_
          refine OGo.istore (pc' := 69) C X0 at_67 rfl (l' := #[.val (.int i0), .val (.int i1), .val (.int i2), .val (.int i3), .val (.int i4), .val (.int i5), .val (.int (0 : Int32)), .val (.int (0 : Int32)), .val (.int (0 : Int32)), .val (.int (0 : Int32)), .unset, .unset, .unset, .unset, .unset, .unset, .unset, .unset, .unset, .unset]) rfl ?_
          exact join _ _ _ _ own_m20_0 own_m20_0 own_m20_0 own_m20_0
set_option maxRecDepth 65536 in
set_option maxHeartbeats 40000000 in
theorem comes_1 {Post : Tables → Env → Array Value → State → Outcome → State → Prop} (hpost : ∀ tb e args s v u, (limb_1_1.after args s (.returned v) u = true ∧ limb_1_2.after args s (.returned v) u = true ∧ True) → FrameEnd s (.returned v) u (Jvm.fieldLocs frame_1_writes args s ++ Jvm.arrayLocs frame_1_arrays args s ++ Jvm.staticLocs frame_1_statics s) 16 128 → Post tb e args s (.returned v) u) :
    ArmFor flags0 classFile x code maxLocals ret World_1 tables_1 room_1 Calls_1 rest_1 Pre_1 Post := by
  intro l hfl _ _ p e ha hc hk s m args below hf hA hF happ hP
  obtain ⟨hcalls, hrest, hpre⟩ := hP
  obtain ⟨-, -, -, hnamed, -, -, -, hat⟩ := (Spec.applies_iff hf).mp happ
  obtain ⟨hg, hn⟩ := and_e (Cond.before_iff.mp (show (Jvm.Cond.and given_1 narrow_1).before args s = true from hpre))
  obtain ⟨g1, g2⟩ := and_e hg
  obtain ⟨g3, g4⟩ := and_e g2
  obtain ⟨g5, g6⟩ := and_e g4
  obtain ⟨g7, g8⟩ := and_e g6
  obtain ⟨g9, g10⟩ := and_e g8
  obtain ⟨g11, g12⟩ := and_e g10
  obtain ⟨w0, w1, w2, w3, w4, w5, rfl⟩ : ∃ w0 w1 w2 w3 w4 w5 : Value, args = #[w0, w1, w2, w3, w4, w5] := by
    have hs : args.size = 6 := by simpa [Cond.value, given_1] using g1
    obtain ⟨L⟩ := args
    match L, hs with
    | [w0, w1, w2, w3, w4, w5], _ => exact ⟨w0, w1, w2, w3, w4, w5, rfl⟩
  have hw := fun d (hd : d ∈ tables_1) => atoms_spec (ws := Jvm.Cond.code x code maxLocals ret :: tables_1) hat d (List.mem_cons_of_mem _ hd)
  have hfit : Fit s := fun {y c} hc i hi => by
    obtain ⟨ha, rfl⟩ := Array.getElem?_eq_some_iff.mp hc
    have q := List.all_eq_true.mp ((Array.all_eq_true_iff_forall_mem.mp hF) _ (Array.getElem_mem ha)) i (List.mem_range.mpr hi)
    simpa [Array.getElem?_eq_getElem hi] using q
  obtain ⟨i0, ei0⟩ := is_v g3
  obtain rfl : w0 = (.int i0) := Option.some.inj ei0
  obtain ⟨i1, ei1⟩ := is_v g5
  obtain rfl : w1 = (.int i1) := Option.some.inj ei1
  obtain ⟨i2, ei2⟩ := is_v g7
  obtain rfl : w2 = (.int i2) := Option.some.inj ei2
  obtain ⟨i3, ei3⟩ := is_v g9
  obtain rfl : w3 = (.int i3) := Option.some.inj ei3
  obtain ⟨i4, ei4⟩ := is_v g11
  obtain rfl : w4 = (.int i4) := Option.some.inj ei4
  obtain ⟨i5, ei5⟩ := is_v g12
  obtain rfl : w5 = (.int i5) := Option.some.inj ei5
  obtain ⟨n, o, h1, h2, h3, _, L, rfl, ⟨⟨rfl, -⟩, N⟩, hq⟩ := ct0 (l := l) (Z := s) hw (n0 := s.heap.size) (h0 := s.heap) (Nat.le_refl _) i0 i1 i2 i3 i4 i5  tables_1 p e ha hc hk s m _ below hf ((Spec.applies_iff_loose hf).mp happ).1 ⟨rfl, State.Warmed39.refl s, rfl⟩ trivial
  refine ⟨n, _, h1, h2, h3, hpost _ _ _ _ _ _ ⟨Cond.after_iff.mpr rfl, Cond.after_iff.mpr (eq_i res_at (Term.int_eval (1)) rfl), trivial⟩ ⟨hq.1, hq.2.1, (hq.2.2.sift fun y hy => Or.inr (N y hy)).mono (by decide) (by decide)⟩⟩
theorem main_1_1 : Claimed_1_1 := comes_1 fun _ _ _ _ _ _ h hF => ⟨h.1, hF⟩
theorem main_1_2 : Claimed_1_2 := comes_1 fun _ _ _ _ _ _ h hF => ⟨h.2.1, hF⟩
end Jvm.Pilot.@@N@@
namespace Jvm.Pilot.@@N@@
open Jvm Jvm.ClassFile Sem Op Lib Jvm.Free Jvm.Stand Jvm.Pilot.@@N@@.Jvm.D
/-! MADE BY PROGRAM (witnessworld.py) out of the Statement's table words and the real class files: 9 classes; the members and pool entries that the words name. The judged class is class 1, her method 1. -/
namespace start1
open Jvm.ClassFile
def u (s : String) : CpInfo := .utf8 (stringToUtf16 s)
/-- a pool by its gaps: so many unusable entries, then the entry; so many at the end -/
def gap : Nat → List CpInfo → List CpInfo
  | 0, r => r
  | n + 1, r => .unusable :: gap n r
def poolList (es : List (Nat × CpInfo)) (last : Nat) : List CpInfo := es.foldr (fun e r => gap e.1 (e.2 :: r)) (gap last [])
def pool (es : List (Nat × CpInfo)) (last : Nat) : Array CpInfo := ⟨poolList es last⟩
def fileOf (pool : Array CpInfo) (this : Nat) (attrs : Array Attribute := #[]) (ms : Array MethodInfo := #[]) (fl : Nat := 33) (sup : Nat := 0) (ifs : Array Nat := #[]) (fds : Array FieldInfo := #[]) : ClassFile where
  minorVersion := 0
  majorVersion := 65
  constantPool := pool
  accessFlags := fl
  thisClass := this
  superClass := sup
  interfaces := ifs
  fields := fds
  methods := ms
  attributes := attrs
def plain (name : String) (sup : Option ClassId) : Class where
  name := name
  kind := .ordinary
  loader := none
  accessFlags := 33
  super := sup
  interfaces := #[]
  cf := none
  fields := #[]
  methods := #[]
  instanceTypes := #[]
  staticTypes := #[]
  resolved := #[]
  callSites := []
  init := .initialized
  statics := none
  mirror := none

def pool0 : Array CpInfo := pool [(5, u "<init>"), (0, u "()V"), (1, .class_ 10), (1, u "java/lang/Object")] 113

def k0c0 : Code := { maxStack := 0, maxLocals := 1, code := object_method_1_code, exceptionTable := #[], attributes := #[] }
def k0m0 : Method := { name := "<init>", desc := "()V", sig := { parameters := [], returnType := none }, accessFlags := 1, code := some k0c0 }
/-- java/lang/Object -/
def k0 : Class := { plain "java/lang/Object" none with
  accessFlags := 33
  interfaces := #[]
  cf := some (fileOf pool0 8 #[] #[{ accessFlags := 1, nameIndex := 5, descriptorIndex := 6, attributes := #[] }] 33 0 #[] #[])
  fields := #[]
  methods := #[k0m0]
  instanceTypes := #[]
  staticTypes := #[]
  resolved := Array.replicate 124 none
  statics := none }

def pool1 : Array CpInfo := pool [(2, .class_ 4), (1, u "java/lang/Object"), (0, u "<init>"), (0, u "()V"), (0, .integer 1048575), (0, .class_ 9), (0, u "com/example/graphtend/graphtend/method/Evaluation"), (0, .methodref 8 11), (0, .nameAndType 5 12), (0, u "(I[I)V"), (0, .methodref 8 14), (0, .nameAndType 15 16), (0, u "meanReciprocalRank"), (0, u "()D"), (0, .class_ 18), (0, u "com/example/graphtend/graphtend/method/EvaluationMeanReciprocalRankPinLaw"), (2, u "law"), (0, u "(IIIIII)Z")] 5

def k1m0 : Method := { name := "<init>", desc := "()V", sig := { parameters := [], returnType := none }, accessFlags := 1, code := none }
def k1c1 : Code := { maxStack := 6, maxLocals := 20, code := code, exceptionTable := #[], attributes := #[] }
def k1m1 : Method := { name := "law", desc := "(IIIIII)Z", sig := { parameters := [.int, .int, .int, .int, .int, .int], returnType := some .boolean }, accessFlags := 9, code := some k1c1 }
/-- com/example/graphtend/graphtend/method/EvaluationMeanReciprocalRankPinLaw -/
def k1 : Class := { plain "com/example/graphtend/graphtend/method/EvaluationMeanReciprocalRankPinLaw" (some 0) with
  accessFlags := 49
  interfaces := #[]
  cf := some (fileOf pool1 17 #[] #[{ accessFlags := 1, nameIndex := 5, descriptorIndex := 6, attributes := #[] }, { accessFlags := 9, nameIndex := 21, descriptorIndex := 22, attributes := #[] }] 49 2 #[] #[])
  fields := #[]
  methods := #[k1m0, k1m1]
  instanceTypes := #[]
  staticTypes := #[]
  resolved := Array.replicate 28 none
  statics := none }

def pool2 : Array CpInfo := pool [(1, .methodref 2 3), (0, .class_ 4), (0, .nameAndType 5 6), (0, u "java/lang/Object"), (0, u "<init>"), (0, u "()V"), (7, .fieldref 15 16), (0, .class_ 17), (0, .nameAndType 18 19), (0, u "com/example/graphtend/graphtend/method/Evaluation"), (0, u "seeds"), (0, u "I"), (0, .fieldref 15 21), (0, .nameAndType 22 19), (0, u "tests"), (0, .fieldref 15 24), (0, .nameAndType 25 26), (0, u "testsAtRank"), (0, u "[I"), (0, u "(I[I)V"), (5, u "meanReciprocalRank"), (0, u "()D")] 4

def k2c0 : Code := { maxStack := 3, maxLocals := 8, code := prog_34_method_1_code, exceptionTable := #[], attributes := #[] }
def k2m0 : Method := { name := "<init>", desc := "(I[I)V", sig := { parameters := [.int, (.array .int)], returnType := none }, accessFlags := 0, code := some k2c0 }
def k2c1 : Code := { maxStack := 6, maxLocals := 4, code := prog_34_method_4_code, exceptionTable := #[], attributes := #[] }
def k2m1 : Method := { name := "meanReciprocalRank", desc := "()D", sig := { parameters := [], returnType := some .double }, accessFlags := 1, code := some k2c1 }
/-- com/example/graphtend/graphtend/method/Evaluation -/
def k2 : Class := { plain "com/example/graphtend/graphtend/method/Evaluation" (some 0) with
  accessFlags := 33
  interfaces := #[]
  cf := some (fileOf pool2 15 #[] #[{ accessFlags := 0, nameIndex := 5, descriptorIndex := 27, attributes := #[] }, { accessFlags := 1, nameIndex := 33, descriptorIndex := 34, attributes := #[] }] 33 2 #[] #[{ accessFlags := 18, nameIndex := 18, descriptorIndex := 19, attributes := #[] }, { accessFlags := 18, nameIndex := 22, descriptorIndex := 19, attributes := #[] }, { accessFlags := 18, nameIndex := 25, descriptorIndex := 26, attributes := #[] }])
  fields := #[{ name := "seeds", type := .int, accessFlags := 18, slot := 0, constantValue := 0 }, { name := "tests", type := .int, accessFlags := 18, slot := 1, constantValue := 0 }, { name := "testsAtRank", type := (.array .int), accessFlags := 18, slot := 2, constantValue := 0 }]
  methods := #[k2m0, k2m1]
  instanceTypes := #[.int, .int, (.array .int)]
  staticTypes := #[]
  resolved := Array.replicate 39 none
  statics := none }

def pool3 : Array CpInfo := pool [(1, u "java/lang/Cloneable"), (0, .class_ 1), (0, u "java/lang/Object"), (0, .class_ 3)] 3

/-- java/lang/Cloneable -/
def k3 : Class := { plain "java/lang/Cloneable" (some 0) with
  accessFlags := 1537
  interfaces := #[]
  cf := some (fileOf pool3 2 #[] #[] 1537 4 #[] #[])
  fields := #[]
  methods := #[]
  instanceTypes := #[]
  staticTypes := #[]
  resolved := Array.replicate 8 none
  statics := none }

def pool4 : Array CpInfo := pool [(1, u "java/io/Serializable"), (0, .class_ 1), (0, u "java/lang/Object"), (0, .class_ 3)] 3

/-- java/io/Serializable -/
def k4 : Class := { plain "java/io/Serializable" (some 0) with
  accessFlags := 1537
  interfaces := #[]
  cf := some (fileOf pool4 2 #[] #[] 1537 4 #[] #[])
  fields := #[]
  methods := #[]
  instanceTypes := #[]
  staticTypes := #[]
  resolved := Array.replicate 8 none
  statics := none }

/-- the primitive byte -/
def k5 : Class := { plain "byte" none with kind := .primitive 'B', accessFlags := 0x411 }
/-- [B -/
def k6 : Class := { plain "[B" (some 0) with kind := .array 5 .byte, interfaces := #[3, 4], accessFlags := 1041 }

/-- the primitive int -/
def k7 : Class := { plain "int" none with kind := .primitive 'I', accessFlags := 0x411 }
/-- [I -/
def k8 : Class := { plain "[I" (some 0) with kind := .array 7 .int, interfaces := #[3, 4], accessFlags := 1041 }

def heap : Heap := #[]
def classes : Array Class := #[k0, k1, k2, k3, k4, k5, k6, k7, k8]
def interned : List (Array UInt16 × Addr) := []
def slotsUsed : Nat := 0
def theMethod : MethodId := ⟨1, 1⟩
def args0 : Array Value := #[.int 1, .int 2, .int 3, .int 4, .int 0, .int 5]
def aboutOver (below : List Frame) : State where
  vm := { classes := classes, interned := interned.toArray }
  heap := heap
  slotsUsed := slotsUsed
  threads := #[{ frames := .invoking theMethod args0 :: below }]
def below0 : List Frame := [.native { method := ⟨0, 0⟩, args := #[] }]
def about1 : State := aboutOver below0
def p0 : Program := .bare "" "" ""
def e0 : Env := launch0.env 0 0 0
theorem w_frames : about1.frames = Frame.invoking theMethod args0 :: below0 := rfl
set_option maxRecDepth 65536 in
theorem w_args : argsFit about1.vm theMethod args0 = true := by decide +kernel
set_option maxRecDepth 65536 in
theorem w_heap : heapFits about1 = true := by decide +kernel
set_option maxRecDepth 65536 in
theorem w_runnable : about1.curStatus? = some .runnable := by decide +kernel
set_option maxRecDepth 65536 in
theorem w_alone : about1.alone = true := by decide +kernel
set_option maxRecDepth 65536 in
theorem w_named : about1.methodNamed? x = some theMethod := by decide +kernel
set_option maxRecDepth 65536 in
theorem w_hears : about1.hears theMethod below0 = true := by decide +kernel
set_option maxRecDepth 65536 in
theorem w_ripe : about1.ripe theMethod args0 below0 = true := by decide +kernel
theorem w_running : about1.status = .running := rfl
set_option maxRecDepth 65536 in
theorem w_room : about1.hasRoom e0.platform room_1 = true :=
  launch0.hasRoom_least _ room_1 (by decide +kernel) (by decide +kernel) (by decide +kernel) (by decide +kernel) (by decide +kernel) (by decide +kernel)
theorem allAtoms_all (ts : List Jvm.Cond) (a : Array Jvm.Value) (st : Jvm.State) : (allAtoms ts).before a st = ts.all (fun c => c.before a st) := by
  induction ts with
  | nil => rfl
  | cons c t ih =>
    show (Jvm.Cond.and c (allAtoms t)).before a st = _
    rw [Jvm.Cond.before_and, ih, List.all_cons]
def words1 : List Jvm.Cond := Jvm.Cond.code x code maxLocals ret :: tables_1
/-- a 'code' word, met by the world's own term for the bytes: nothing is compared byte by byte -/
theorem code_word {y : MethodName} {bytes : ByteArray} {mx : Nat} {rt : Option FieldType} {a : Array Value} {s : State} {m : MethodId} {meth : Method} {c : Code} (h1 : s.methodNamed? y = some m) (h2 : s.vm.method? m = some meth) (h3 : meth.code = some c) (h4 : c.code = bytes)
    (h5 : (c.maxLocals == mx && c.exceptionTable.isEmpty && decide (c.maxStack ≤ mostOperands) && decide (meth.sig.returnType = rt) && !meth.locks && decide (parseMethodDescriptor y.desc = some meth.sig)) = true) : (Jvm.Cond.code y bytes mx rt).before a s = true := by
  simp only [Bool.and_eq_true, beq_iff_eq, Bool.not_eq_true', decide_eq_true_eq] at h5
  obtain ⟨⟨⟨⟨⟨g1, g2⟩, g3⟩, g4⟩, g5⟩, g6⟩ := h5
  simp [Cond.before, Cond.holds, Cond.value, h1, h2, h3, h4, g1, g2, g3, g4, g5, g6]
def isCode : Jvm.Cond → Bool
  | .code _ _ _ _ => true
  | _ => false
theorem all_split {L : List Jvm.Cond} {P : Jvm.Cond → Bool} (h1 : L.all (fun c => isCode c || P c) = true) (h2 : ∀ c ∈ L.filter isCode, P c = true) : L.all P = true := by
  refine List.all_eq_true.mpr fun c hc => ?_
  have h := List.all_eq_true.mp h1 c hc
  rcases Bool.eq_false_or_eq_true (isCode c) with hi | hi
  · exact h2 c (List.mem_filter.mpr ⟨hc, hi⟩)
  · simpa [hi] using h
set_option maxRecDepth 65536 in
theorem w_c0 : (Jvm.Cond.code x code maxLocals ret).before args0 about1 = true := code_word (m := ⟨1, 1⟩) (meth := k1m1) (c := k1c1) (by decide +kernel) rfl rfl rfl (by decide +kernel)
set_option maxRecDepth 65536 in
theorem w_c1 : (Jvm.Cond.code ({ cls := "com/example/graphtend/graphtend/method/Evaluation", name := "<init>", desc := "(I[I)V" } : Jvm.MethodName) prog_34_method_1_code (8 : Nat) (Option.none : Option Jvm.ClassFile.FieldType)).before args0 about1 = true := code_word (m := ⟨2, 0⟩) (meth := k2m0) (c := k2c0) (by decide +kernel) rfl rfl rfl (by decide +kernel)
set_option maxRecDepth 65536 in
theorem w_c2 : (Jvm.Cond.code ({ cls := "java/lang/Object", name := "<init>", desc := "()V" } : Jvm.MethodName) object_method_1_code (1 : Nat) (Option.none : Option Jvm.ClassFile.FieldType)).before args0 about1 = true := code_word (m := ⟨0, 0⟩) (meth := k0m0) (c := k0c0) (by decide +kernel) rfl rfl rfl (by decide +kernel)
set_option maxRecDepth 65536 in
theorem w_c3 : (Jvm.Cond.code ({ cls := "com/example/graphtend/graphtend/method/Evaluation", name := "meanReciprocalRank", desc := "()D" } : Jvm.MethodName) prog_34_method_4_code (4 : Nat) (Option.some Jvm.ClassFile.FieldType.double)).before args0 about1 = true := code_word (m := ⟨2, 1⟩) (meth := k2m1) (c := k2c1) (by decide +kernel) rfl rfl rfl (by decide +kernel)
def codes1 : List Jvm.Cond := [Jvm.Cond.code x code maxLocals ret, Jvm.Cond.code ({ cls := "com/example/graphtend/graphtend/method/Evaluation", name := "<init>", desc := "(I[I)V" } : Jvm.MethodName) prog_34_method_1_code (8 : Nat) (Option.none : Option Jvm.ClassFile.FieldType), Jvm.Cond.code ({ cls := "java/lang/Object", name := "<init>", desc := "()V" } : Jvm.MethodName) object_method_1_code (1 : Nat) (Option.none : Option Jvm.ClassFile.FieldType), Jvm.Cond.code ({ cls := "com/example/graphtend/graphtend/method/Evaluation", name := "meanReciprocalRank", desc := "()D" } : Jvm.MethodName) prog_34_method_4_code (4 : Nat) (Option.some Jvm.ClassFile.FieldType.double)]
set_option maxRecDepth 65536 in
theorem codes_eq : words1.filter isCode = codes1 := rfl
theorem w_codes : ∀ c ∈ words1.filter isCode, c.before args0 about1 = true := by
  rw [codes_eq]
  intro c hc
  simp only [codes1, List.mem_cons, List.not_mem_nil, or_false] at hc
  rcases hc with rfl | rfl | rfl | rfl
  · exact w_c0
  · exact w_c1
  · exact w_c2
  · exact w_c3
set_option maxRecDepth 65536 in
theorem w_t1 : words1.all (fun c => isCode c || c.before args0 about1) = true := by decide +kernel
theorem w_tables : (allAtoms (Jvm.Cond.code x code maxLocals ret :: tables_1)).before args0 about1 = true := by
  rw [allAtoms_all]
  show words1.all (fun c => c.before args0 about1) = true
  refine all_split ?_ w_codes
  rw [w_t1]
set_option maxRecDepth 65536 in
theorem w_case : (Jvm.Cond.and given_1 narrow_1).before args0 about1 = true := by decide +kernel
theorem w_applies : (headSpec (Jvm.Cond.code x code maxLocals ret :: tables_1) room_1).applies x e0.platform about1 = true :=
  (Spec.applies_iff w_frames).mpr ⟨w_running, w_runnable, w_alone, w_named, w_hears, w_ripe, w_room, w_tables⟩
theorem atStart : AtStart classFile x code maxLocals ret World_1 tables_1 room_1 Calls_1 rest_1 Pre_1 launch0 p0 e0 about1 theMethod args0 below0 :=
  ⟨lists_1, trivial, launch0.admits_env _ _ _, launch0.least_env, fairChoices_fair.cas, fairChoices_fair.clock, w_frames, w_args, w_heap, w_applies, trivial, trivial, w_case⟩
end start1
theorem witness_1 : WitnessClaimed_1 := ⟨start1.p0, start1.e0, start1.about1, start1.theMethod, start1.args0, start1.below0, start1.atStart⟩
end Jvm.Pilot.@@N@@
