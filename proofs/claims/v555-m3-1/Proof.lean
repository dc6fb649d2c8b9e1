import JvmDerived
import JvmDerived.Pilot.@@N@@Statement
import JvmDerived.Pilot.@@N@@Code
set_option linter.unusedVariables false
set_option linter.unusedSimpArgs false
namespace Jvm.Pilot.@@N@@
open Jvm Jvm.ClassFile Sem Op Lib Jvm.Free Jvm.Stand Jvm.LawKit Jvm.RoadKit Bundle Jvm.Pilot.@@N@@.Jvm.D
section OwnGo
variable {p : Program} {l : Launch} {e : Env} {R : Room} {s : State} {m : MethodId} {args : Array Value} {below : List Frame} {meth : Method} {c : Code} {T : State} {n0 cells slots cells' slots' : Nat} {Z : State} {a0 : Array Value} {h : Heap} {K : State → Outcome → Prop} {pc pc' : Nat} {Ls : Array Slot} {St : List Value} {own : String} {by0 : ByteArray} {ml : Nat}
/-- from state T with the frame g on top the run comes to an end of which K holds -/
def OGo (p : Program) (e : Env) (below : List Frame) (K : State → Outcome → Prop) (T : State) (g : JFrame) : Prop := ∃ t o, Steps p.tables e below (T.setTop g) t ∧ K t o
/-- what does not change during one body's walk -/
def Cx (p : Program) (s : State) (m : MethodId) (c : Code) (Z : State) (own : String) (by0 : ByteArray) (ml : Nat) : Prop := p.tables.exec = Jvm.exec ∧ Z.Warmed39 s.vm ∧ s.vm.findClass own = some m.cls ∧ c.code = by0 ∧ c.maxLocals = ml
/-- where the walk stands: heap h, only cells from n0 on written -/
def Sd (p : Program) (l : Launch) (e : Env) (R : Room) (s : State) (m : MethodId) (args : Array Value) (below : List Frame) (meth : Method) (c : Code) (n0 : Nat) (T : State) (h : Heap) (cells slots : Nat) : Prop := T.heap = h ∧ n0 ≤ h.size ∧ ∃ locs, Stand p l e R s m args below meth c T locs cells slots ∧ Fr n0 locs
/-- what a body owes at its end -/
def Kk (s : State) (below : List Frame) (n0 : Nat) (Q : Option Value → Heap → Prop) (nc ns : Nat) : State → Outcome → Prop := fun t o => t.status = .running ∧ Ended t below o ∧ ∃ v L, o = .returned v ∧ (Q v t.heap ∧ Fr n0 L) ∧ FrameEnd s o t L nc ns
/-- a body's contract -/
def Ctr (l : Launch) (Z : State) (y : MethodName) (by0 : ByteArray) (ml : Nat) (ret : Option FieldType) (rm : Room) (n0 : Nat) (as' : Array Value) (h : Heap) (Q : Option Value → Heap → Prop) : Prop :=
  ∀ ws, MetFree l y (head1 (Jvm.Cond.code y by0 ml ret :: ws) rm) (fun a U => a = as' ∧ Z.Warmed39 U.vm ∧ U.heap = h) (fun _ _ _ _ _ => True) (fun _ U o U' => ∃ v L, o = .returned v ∧ ((Q v U'.heap ∧ h.size ≤ U'.heap.size) ∧ Fr n0 L) ∧ FrameEnd U o U' L rm.cells rm.slots)
theorem OGo.st {T T' : State} {g g' : JFrame} (st : ∀ target, Steps p.tables e below (T'.setTop g') target → Steps p.tables e below (T.setTop g) target) (hr : OGo p e below K T' g') : OGo p e below K T g := by
  obtain ⟨t, o, h1, h2⟩ := hr
  exact ⟨t, o, st t h1, h2⟩
theorem OGo.tr {T T' : State} {g g' : JFrame} (st : Steps p.tables e below (T.setTop g) (T'.setTop g')) (hr : OGo p e below K T' g') : OGo p e below K T g := by
  obtain ⟨t, o, h1, h2⟩ := hr
  exact ⟨t, o, st.trans h1, h2⟩
theorem Ctr.of {y : MethodName} {ret : Option FieldType} {rm : Room} {as' : Array Value} {Q : Option Value → Heap → Prop} (hpl : plainFor y = true) (hn : n0 ≤ h.size)
    (body : ∀ p e s m below meth c T, Cx p s m c Z y.cls by0 ml → meth.name = y.name → meth.sig.returnType = ret → meth.locks = false → Sd p l e rm s m as' below meth c n0 T h 0 0 → OGo p e below (Kk s below n0 Q rm.cells rm.slots) T (entryFrame m as' ml)) :
    Ctr l Z y by0 ml ret rm n0 as' h Q := by
  intro ws
  refine MetFree.of_bodySF hpl hisR ?_
  intro p e s m args below meth c s₁ Bd hml0 hP hK
  obtain ⟨rfl, hZ, hh⟩ := hP
  have hown : s.vm.findClass y.cls = some m.cls := findClass_of_methodNamed Bd.named
  have hnm := (name_of_methodNamed Bd.named Bd.method).1
  have X0 := Stand.of_body Bd
  have e0 : s₁.heap = h := by rw [← hh, Bd.state]; rfl
  obtain ⟨t, o, h1, h2, h3, v, L, h4, ⟨h5, h6⟩, h7⟩ := body p e s m below meth c s₁ ⟨Bd.exec, hZ, hown, Bd.bytes, hml0⟩ hnm Bd.returns (BodyLoose.notSynchronized Bd) ⟨e0, hn, [], X0, Fr.nil n0⟩
  exact ⟨t, o, h1, h2, h3, v, L, h4, ⟨⟨h5, by rw [← hh]; exact h7.2.2.2.1⟩, h6⟩, h7⟩
theorem Ctr.mono {y : MethodName} {ret : Option FieldType} {rm : Room} {as' : Array Value} {Q Q' : Option Value → Heap → Prop} (hM : Ctr l Z y by0 ml ret rm n0 as' h Q) (hq : ∀ v h', Q v h' → Q' v h') : Ctr l Z y by0 ml ret rm n0 as' h Q' := by
  intro ws p e ha hc hk s m args below hf happ hP hK
  obtain ⟨n, o, h1, h2, h3, v, L, h4, ⟨⟨h5, h8⟩, h6⟩, h7⟩ := hM ws p e ha hc hk s m args below hf happ hP hK
  exact ⟨n, o, h1, h2, h3, v, L, h4, ⟨⟨hq _ _ h5, h8⟩, h6⟩, h7⟩
theorem Sd.up (X : Sd p l e R s m args below meth c n0 T h cells slots) (hc : cells ≤ cells') (hs : slots ≤ slots') : Sd p l e R s m args below meth c n0 T h cells' slots' := by
  obtain ⟨h1, h2, locs, Y, N⟩ := X
  exact ⟨h1, h2, locs, { Y with same := Y.same.mono hc hs }, N⟩
theorem OGo.iload (C : Cx p s m c Z own by0 ml) (X : Sd p l e R s m args below meth c n0 T h cells slots) {k : Nat} {v : Int32} (hd : decode by0 pc = .ok (.iload k, 2)) (hp : pc + 2 = pc') (hl : Ls[k]? = some (.val (.int v))) (hr : OGo p e below K T (mkF m pc' Ls (.int v :: St))) : OGo p e below K T (mkF m pc Ls (St)) := by
  subst hp
  obtain ⟨-, -, locs, Y, -⟩ := X
  exact OGo.st (fun t k => XS.iload Y.here C.1 rfl (hb C.2.2.2.1 hd) hl k) hr
theorem OGo.iloadN (C : Cx p s m c Z own by0 ml) (X : Sd p l e R s m args below meth c n0 T h cells slots) {k : Fin 4} {v : Int32} (hd : decode by0 pc = .ok (.iload_n k, 1)) (hp : pc + 1 = pc') (hl : Ls[k.val]? = some (.val (.int v))) (hr : OGo p e below K T (mkF m pc' Ls (.int v :: St))) : OGo p e below K T (mkF m pc Ls (St)) := by
  subst hp
  obtain ⟨-, -, locs, Y, -⟩ := X
  exact OGo.st (fun t k => XS.iloadN Y.here C.1 rfl (hb C.2.2.2.1 hd) hl k) hr
theorem OGo.lload (C : Cx p s m c Z own by0 ml) (X : Sd p l e R s m args below meth c n0 T h cells slots) {k : Nat} {v : Int64} (hd : decode by0 pc = .ok (.lload k, 2)) (hp : pc + 2 = pc') (hl : Ls[k]? = some (.val (.long v))) (hr : OGo p e below K T (mkF m pc' Ls (.long v :: St))) : OGo p e below K T (mkF m pc Ls (St)) := by
  subst hp
  obtain ⟨-, -, locs, Y, -⟩ := X
  exact OGo.st (fun t k => XS.lload Y.here C.1 rfl (hb C.2.2.2.1 hd) hl k) hr
theorem OGo.lloadN (C : Cx p s m c Z own by0 ml) (X : Sd p l e R s m args below meth c n0 T h cells slots) {k : Fin 4} {v : Int64} (hd : decode by0 pc = .ok (.lload_n k, 1)) (hp : pc + 1 = pc') (hl : Ls[k.val]? = some (.val (.long v))) (hr : OGo p e below K T (mkF m pc' Ls (.long v :: St))) : OGo p e below K T (mkF m pc Ls (St)) := by
  subst hp
  obtain ⟨-, -, locs, Y, -⟩ := X
  exact OGo.st (fun t k => XS.lloadN Y.here C.1 rfl (hb C.2.2.2.1 hd) hl k) hr
theorem OGo.dload (C : Cx p s m c Z own by0 ml) (X : Sd p l e R s m args below meth c n0 T h cells slots) {k : Nat} {v : UInt64} (hd : decode by0 pc = .ok (.dload k, 2)) (hp : pc + 2 = pc') (hl : Ls[k]? = some (.val (.double v))) (hr : OGo p e below K T (mkF m pc' Ls (.double v :: St))) : OGo p e below K T (mkF m pc Ls (St)) := by
  subst hp
  obtain ⟨-, -, locs, Y, -⟩ := X
  exact OGo.st (fun t k => XS.dload Y.here C.1 rfl (hb C.2.2.2.1 hd) hl k) hr
theorem OGo.dloadN (C : Cx p s m c Z own by0 ml) (X : Sd p l e R s m args below meth c n0 T h cells slots) {k : Fin 4} {v : UInt64} (hd : decode by0 pc = .ok (.dload_n k, 1)) (hp : pc + 1 = pc') (hl : Ls[k.val]? = some (.val (.double v))) (hr : OGo p e below K T (mkF m pc' Ls (.double v :: St))) : OGo p e below K T (mkF m pc Ls (St)) := by
  subst hp
  obtain ⟨-, -, locs, Y, -⟩ := X
  exact OGo.st (fun t k => XS.dloadN Y.here C.1 rfl (hb C.2.2.2.1 hd) hl k) hr
theorem OGo.aload (C : Cx p s m c Z own by0 ml) (X : Sd p l e R s m args below meth c n0 T h cells slots) {k : Nat} {v : Value} (hd : decode by0 pc = .ok (.aload k, 2)) (hp : pc + 2 = pc') (hl : Ls[k]? = some (.val v)) (hv : v.isRef = true) (hr : OGo p e below K T (mkF m pc' Ls (v :: St))) : OGo p e below K T (mkF m pc Ls (St)) := by
  subst hp
  obtain ⟨-, -, locs, Y, -⟩ := X
  exact OGo.st (fun t k => XS.aload Y.here C.1 rfl (hb C.2.2.2.1 hd) hl hv k) hr
theorem OGo.aloadN (C : Cx p s m c Z own by0 ml) (X : Sd p l e R s m args below meth c n0 T h cells slots) {k : Fin 4} {v : Value} (hd : decode by0 pc = .ok (.aload_n k, 1)) (hp : pc + 1 = pc') (hl : Ls[k.val]? = some (.val v)) (hv : v.isRef = true) (hr : OGo p e below K T (mkF m pc' Ls (v :: St))) : OGo p e below K T (mkF m pc Ls (St)) := by
  subst hp
  obtain ⟨-, -, locs, Y, -⟩ := X
  exact OGo.st (fun t k => XS.aloadN Y.here C.1 rfl (hb C.2.2.2.1 hd) hl hv k) hr
theorem OGo.istore (C : Cx p s m c Z own by0 ml) (X : Sd p l e R s m args below meth c n0 T h cells slots) {k : Nat} {x : Int32} {l' : Array Slot} (hd : decode by0 pc = .ok (.istore k, 2)) (hp : pc + 2 = pc') (hl : storeLocals Ls k (.int x) = some l') (hr : OGo p e below K T (mkF m pc' l' (St))) : OGo p e below K T (mkF m pc Ls (.int x :: St)) := by
  subst hp
  obtain ⟨-, -, locs, Y, -⟩ := X
  exact OGo.st (fun t k => XS.istore Y.here C.1 rfl (hb C.2.2.2.1 hd) rfl hl k) hr
theorem OGo.istoreN (C : Cx p s m c Z own by0 ml) (X : Sd p l e R s m args below meth c n0 T h cells slots) {k : Fin 4} {x : Int32} {l' : Array Slot} (hd : decode by0 pc = .ok (.istore_n k, 1)) (hp : pc + 1 = pc') (hl : storeLocals Ls k.val (.int x) = some l') (hr : OGo p e below K T (mkF m pc' l' (St))) : OGo p e below K T (mkF m pc Ls (.int x :: St)) := by
  subst hp
  obtain ⟨-, -, locs, Y, -⟩ := X
  exact OGo.st (fun t k => XS.istoreN Y.here C.1 rfl (hb C.2.2.2.1 hd) rfl hl k) hr
theorem OGo.lstore (C : Cx p s m c Z own by0 ml) (X : Sd p l e R s m args below meth c n0 T h cells slots) {k : Nat} {x : Int64} {l' : Array Slot} (hd : decode by0 pc = .ok (.lstore k, 2)) (hp : pc + 2 = pc') (hl : storeLocals Ls k (.long x) = some l') (hr : OGo p e below K T (mkF m pc' l' (St))) : OGo p e below K T (mkF m pc Ls (.long x :: St)) := by
  subst hp
  obtain ⟨-, -, locs, Y, -⟩ := X
  exact OGo.st (fun t k => XS.lstore Y.here C.1 rfl (hb C.2.2.2.1 hd) rfl hl k) hr
theorem OGo.lstoreN (C : Cx p s m c Z own by0 ml) (X : Sd p l e R s m args below meth c n0 T h cells slots) {k : Fin 4} {x : Int64} {l' : Array Slot} (hd : decode by0 pc = .ok (.lstore_n k, 1)) (hp : pc + 1 = pc') (hl : storeLocals Ls k.val (.long x) = some l') (hr : OGo p e below K T (mkF m pc' l' (St))) : OGo p e below K T (mkF m pc Ls (.long x :: St)) := by
  subst hp
  obtain ⟨-, -, locs, Y, -⟩ := X
  exact OGo.st (fun t k => XS.lstoreN Y.here C.1 rfl (hb C.2.2.2.1 hd) rfl hl k) hr
theorem OGo.dstore (C : Cx p s m c Z own by0 ml) (X : Sd p l e R s m args below meth c n0 T h cells slots) {k : Nat} {x : UInt64} {l' : Array Slot} (hd : decode by0 pc = .ok (.dstore k, 2)) (hp : pc + 2 = pc') (hl : storeLocals Ls k (.double x) = some l') (hr : OGo p e below K T (mkF m pc' l' (St))) : OGo p e below K T (mkF m pc Ls (.double x :: St)) := by
  subst hp
  obtain ⟨-, -, locs, Y, -⟩ := X
  exact OGo.st (fun t k => XS.dstore Y.here C.1 rfl (hb C.2.2.2.1 hd) rfl hl k) hr
theorem OGo.dstoreN (C : Cx p s m c Z own by0 ml) (X : Sd p l e R s m args below meth c n0 T h cells slots) {k : Fin 4} {x : UInt64} {l' : Array Slot} (hd : decode by0 pc = .ok (.dstore_n k, 1)) (hp : pc + 1 = pc') (hl : storeLocals Ls k.val (.double x) = some l') (hr : OGo p e below K T (mkF m pc' l' (St))) : OGo p e below K T (mkF m pc Ls (.double x :: St)) := by
  subst hp
  obtain ⟨-, -, locs, Y, -⟩ := X
  exact OGo.st (fun t k => XS.dstoreN Y.here C.1 rfl (hb C.2.2.2.1 hd) rfl hl k) hr
theorem OGo.astore (C : Cx p s m c Z own by0 ml) (X : Sd p l e R s m args below meth c n0 T h cells slots) {k : Nat} {x : Value} {l' : Array Slot} (hd : decode by0 pc = .ok (.astore k, 2)) (hp : pc + 2 = pc') (hv : x.isRef = true) (hl : storeLocals Ls k x = some l') (hr : OGo p e below K T (mkF m pc' l' (St))) : OGo p e below K T (mkF m pc Ls (x :: St)) := by
  subst hp
  obtain ⟨-, -, locs, Y, -⟩ := X
  exact OGo.st (fun t k => XS.astore Y.here C.1 rfl (hb C.2.2.2.1 hd) rfl hv hl k) hr
theorem OGo.astoreN (C : Cx p s m c Z own by0 ml) (X : Sd p l e R s m args below meth c n0 T h cells slots) {k : Fin 4} {x : Value} {l' : Array Slot} (hd : decode by0 pc = .ok (.astore_n k, 1)) (hp : pc + 1 = pc') (hv : x.isRef = true) (hl : storeLocals Ls k.val x = some l') (hr : OGo p e below K T (mkF m pc' l' (St))) : OGo p e below K T (mkF m pc Ls (x :: St)) := by
  subst hp
  obtain ⟨-, -, locs, Y, -⟩ := X
  exact OGo.st (fun t k => XS.astoreN Y.here C.1 rfl (hb C.2.2.2.1 hd) rfl hv hl k) hr
theorem OGo.iconst (C : Cx p s m c Z own by0 ml) (X : Sd p l e R s m args below meth c n0 T h cells slots) {i : Int} {z : Int32} (hd : decode by0 pc = .ok (.iconst i, 1)) (hp : pc + 1 = pc') (hz : Int32.ofInt i = z) (hr : OGo p e below K T (mkF m pc' Ls (.int z :: St))) : OGo p e below K T (mkF m pc Ls (St)) := by
  subst hp
  subst hz
  obtain ⟨-, -, locs, Y, -⟩ := X
  exact OGo.st (fun t k => XS.iconst Y.here C.1 rfl (hb C.2.2.2.1 hd)  k) hr
theorem OGo.bipush (C : Cx p s m c Z own by0 ml) (X : Sd p l e R s m args below meth c n0 T h cells slots) {i : Int} {z : Int32} (hd : decode by0 pc = .ok (.bipush i, 2)) (hp : pc + 2 = pc') (hz : (Int8.ofInt i).toInt32 = z) (hr : OGo p e below K T (mkF m pc' Ls (.int z :: St))) : OGo p e below K T (mkF m pc Ls (St)) := by
  subst hp
  subst hz
  obtain ⟨-, -, locs, Y, -⟩ := X
  exact OGo.st (fun t k => XS.bipush Y.here C.1 rfl (hb C.2.2.2.1 hd)  k) hr
theorem OGo.sipush (C : Cx p s m c Z own by0 ml) (X : Sd p l e R s m args below meth c n0 T h cells slots) {i : Int} {z : Int32} (hd : decode by0 pc = .ok (.sipush i, 3)) (hp : pc + 3 = pc') (hz : (Int16.ofInt i).toInt32 = z) (hr : OGo p e below K T (mkF m pc' Ls (.int z :: St))) : OGo p e below K T (mkF m pc Ls (St)) := by
  subst hp
  subst hz
  obtain ⟨-, -, locs, Y, -⟩ := X
  exact OGo.st (fun t k => XS.sipush Y.here C.1 rfl (hb C.2.2.2.1 hd)  k) hr
theorem OGo.lconst (C : Cx p s m c Z own by0 ml) (X : Sd p l e R s m args below meth c n0 T h cells slots) {k : Fin 2} {z : Int64} (hd : decode by0 pc = .ok (.lconst k, 1)) (hp : pc + 1 = pc') (hz : Int64.ofNat k = z) (hr : OGo p e below K T (mkF m pc' Ls (.long z :: St))) : OGo p e below K T (mkF m pc Ls (St)) := by
  subst hp
  subst hz
  obtain ⟨-, -, locs, Y, -⟩ := X
  exact OGo.st (fun t k => XS.lconst Y.here C.1 rfl (hb C.2.2.2.1 hd)  k) hr
theorem OGo.dconst0 (C : Cx p s m c Z own by0 ml) (X : Sd p l e R s m args below meth c n0 T h cells slots) {v : UInt64} (hd : decode by0 pc = .ok (.dconst 0, 1)) (hp : pc + 1 = pc') (hz : FP.dconst0 = v) (hr : OGo p e below K T (mkF m pc' Ls (.double v :: St))) : OGo p e below K T (mkF m pc Ls (St)) := by
  subst hp
  obtain ⟨-, -, locs, Y, -⟩ := X
  exact OGo.st (fun t k => XS.dconst0 Y.here C.1 rfl (hb C.2.2.2.1 hd) hz k) hr
theorem OGo.dconst1 (C : Cx p s m c Z own by0 ml) (X : Sd p l e R s m args below meth c n0 T h cells slots) {v : UInt64} (hd : decode by0 pc = .ok (.dconst 1, 1)) (hp : pc + 1 = pc') (hz : FP.dconst1 = v) (hr : OGo p e below K T (mkF m pc' Ls (.double v :: St))) : OGo p e below K T (mkF m pc Ls (St)) := by
  subst hp
  obtain ⟨-, -, locs, Y, -⟩ := X
  exact OGo.st (fun t k => XS.dconst1 Y.here C.1 rfl (hb C.2.2.2.1 hd) hz k) hr
theorem OGo.aconst_null (C : Cx p s m c Z own by0 ml) (X : Sd p l e R s m args below meth c n0 T h cells slots)  (hd : decode by0 pc = .ok (.aconst_null, 1)) (hp : pc + 1 = pc')  (hr : OGo p e below K T (mkF m pc' Ls (.null :: St))) : OGo p e below K T (mkF m pc Ls (St)) := by
  subst hp
  obtain ⟨-, -, locs, Y, -⟩ := X
  exact OGo.st (fun t k => XS.aconstNull Y.here C.1 rfl (hb C.2.2.2.1 hd)  k) hr
theorem OGo.iadd (C : Cx p s m c Z own by0 ml) (X : Sd p l e R s m args below meth c n0 T h cells slots) {x y z : Int32} (hd : decode by0 pc = .ok (.iadd, 1)) (hp : pc + 1 = pc') (hz : x + y = z) (hr : OGo p e below K T (mkF m pc' Ls (.int z :: St))) : OGo p e below K T (mkF m pc Ls (.int y :: .int x :: St)) := by
  subst hp
  subst hz
  obtain ⟨-, -, locs, Y, -⟩ := X
  exact OGo.st (fun t k => XS.iadd Y.here C.1 rfl (hb C.2.2.2.1 hd) rfl k) hr
theorem OGo.isub (C : Cx p s m c Z own by0 ml) (X : Sd p l e R s m args below meth c n0 T h cells slots) {x y z : Int32} (hd : decode by0 pc = .ok (.isub, 1)) (hp : pc + 1 = pc') (hz : x - y = z) (hr : OGo p e below K T (mkF m pc' Ls (.int z :: St))) : OGo p e below K T (mkF m pc Ls (.int y :: .int x :: St)) := by
  subst hp
  subst hz
  obtain ⟨-, -, locs, Y, -⟩ := X
  exact OGo.st (fun t k => XS.isub Y.here C.1 rfl (hb C.2.2.2.1 hd) rfl k) hr
theorem OGo.imul (C : Cx p s m c Z own by0 ml) (X : Sd p l e R s m args below meth c n0 T h cells slots) {x y z : Int32} (hd : decode by0 pc = .ok (.imul, 1)) (hp : pc + 1 = pc') (hz : x * y = z) (hr : OGo p e below K T (mkF m pc' Ls (.int z :: St))) : OGo p e below K T (mkF m pc Ls (.int y :: .int x :: St)) := by
  subst hp
  subst hz
  obtain ⟨-, -, locs, Y, -⟩ := X
  exact OGo.st (fun t k => XS.imul Y.here C.1 rfl (hb C.2.2.2.1 hd) rfl k) hr
theorem OGo.iand (C : Cx p s m c Z own by0 ml) (X : Sd p l e R s m args below meth c n0 T h cells slots) {x y z : Int32} (hd : decode by0 pc = .ok (.iand, 1)) (hp : pc + 1 = pc') (hz : x &&& y = z) (hr : OGo p e below K T (mkF m pc' Ls (.int z :: St))) : OGo p e below K T (mkF m pc Ls (.int y :: .int x :: St)) := by
  subst hp
  subst hz
  obtain ⟨-, -, locs, Y, -⟩ := X
  exact OGo.st (fun t k => XS.iand Y.here C.1 rfl (hb C.2.2.2.1 hd) rfl k) hr
theorem OGo.ior (C : Cx p s m c Z own by0 ml) (X : Sd p l e R s m args below meth c n0 T h cells slots) {x y z : Int32} (hd : decode by0 pc = .ok (.ior, 1)) (hp : pc + 1 = pc') (hz : x ||| y = z) (hr : OGo p e below K T (mkF m pc' Ls (.int z :: St))) : OGo p e below K T (mkF m pc Ls (.int y :: .int x :: St)) := by
  subst hp
  subst hz
  obtain ⟨-, -, locs, Y, -⟩ := X
  exact OGo.st (fun t k => XS.ior Y.here C.1 rfl (hb C.2.2.2.1 hd) rfl k) hr
theorem OGo.ixor (C : Cx p s m c Z own by0 ml) (X : Sd p l e R s m args below meth c n0 T h cells slots) {x y z : Int32} (hd : decode by0 pc = .ok (.ixor, 1)) (hp : pc + 1 = pc') (hz : x ^^^ y = z) (hr : OGo p e below K T (mkF m pc' Ls (.int z :: St))) : OGo p e below K T (mkF m pc Ls (.int y :: .int x :: St)) := by
  subst hp
  subst hz
  obtain ⟨-, -, locs, Y, -⟩ := X
  exact OGo.st (fun t k => XS.ixor Y.here C.1 rfl (hb C.2.2.2.1 hd) rfl k) hr
theorem OGo.ishl (C : Cx p s m c Z own by0 ml) (X : Sd p l e R s m args below meth c n0 T h cells slots) {x y z : Int32} (hd : decode by0 pc = .ok (.ishl, 1)) (hp : pc + 1 = pc') (hz : x <<< (y &&& 31) = z) (hr : OGo p e below K T (mkF m pc' Ls (.int z :: St))) : OGo p e below K T (mkF m pc Ls (.int y :: .int x :: St)) := by
  subst hp
  subst hz
  obtain ⟨-, -, locs, Y, -⟩ := X
  exact OGo.st (fun t k => XS.ishl Y.here C.1 rfl (hb C.2.2.2.1 hd) rfl k) hr
theorem OGo.ishr (C : Cx p s m c Z own by0 ml) (X : Sd p l e R s m args below meth c n0 T h cells slots) {x y z : Int32} (hd : decode by0 pc = .ok (.ishr, 1)) (hp : pc + 1 = pc') (hz : x >>> (y &&& 31) = z) (hr : OGo p e below K T (mkF m pc' Ls (.int z :: St))) : OGo p e below K T (mkF m pc Ls (.int y :: .int x :: St)) := by
  subst hp
  subst hz
  obtain ⟨-, -, locs, Y, -⟩ := X
  exact OGo.st (fun t k => XS.ishr Y.here C.1 rfl (hb C.2.2.2.1 hd) rfl k) hr
theorem OGo.iushr (C : Cx p s m c Z own by0 ml) (X : Sd p l e R s m args below meth c n0 T h cells slots) {x y z : Int32} (hd : decode by0 pc = .ok (.iushr, 1)) (hp : pc + 1 = pc') (hz : (x.toUInt32 >>> (y &&& 31).toUInt32).toInt32 = z) (hr : OGo p e below K T (mkF m pc' Ls (.int z :: St))) : OGo p e below K T (mkF m pc Ls (.int y :: .int x :: St)) := by
  subst hp
  subst hz
  obtain ⟨-, -, locs, Y, -⟩ := X
  exact OGo.st (fun t k => XS.iushr Y.here C.1 rfl (hb C.2.2.2.1 hd) rfl k) hr
theorem OGo.idiv (C : Cx p s m c Z own by0 ml) (X : Sd p l e R s m args below meth c n0 T h cells slots) {x y z : Int32} (hd : decode by0 pc = .ok (.idiv, 1)) (hp : pc + 1 = pc') (hy : y ≠ 0) (hz : x / y = z) (hr : OGo p e below K T (mkF m pc' Ls (.int z :: St))) : OGo p e below K T (mkF m pc Ls (.int y :: .int x :: St)) := by
  subst hp
  subst hz
  obtain ⟨-, -, locs, Y, -⟩ := X
  exact OGo.st (fun t k => XS.idiv Y.here C.1 rfl (hb C.2.2.2.1 hd) rfl hy k) hr
theorem OGo.irem (C : Cx p s m c Z own by0 ml) (X : Sd p l e R s m args below meth c n0 T h cells slots) {x y z : Int32} (hd : decode by0 pc = .ok (.irem, 1)) (hp : pc + 1 = pc') (hy : y ≠ 0) (hz : x % y = z) (hr : OGo p e below K T (mkF m pc' Ls (.int z :: St))) : OGo p e below K T (mkF m pc Ls (.int y :: .int x :: St)) := by
  subst hp
  subst hz
  obtain ⟨-, -, locs, Y, -⟩ := X
  exact OGo.st (fun t k => iremM Y C.1 rfl (hb C.2.2.2.1 hd) rfl hy k) hr
theorem OGo.ineg (C : Cx p s m c Z own by0 ml) (X : Sd p l e R s m args below meth c n0 T h cells slots) {x z : Int32} (hd : decode by0 pc = .ok (.ineg, 1)) (hp : pc + 1 = pc') (hz : -x = z) (hr : OGo p e below K T (mkF m pc' Ls (.int z :: St))) : OGo p e below K T (mkF m pc Ls (.int x :: St)) := by
  subst hp
  subst hz
  obtain ⟨-, -, locs, Y, -⟩ := X
  exact OGo.st (fun t k => XS.ineg Y.here C.1 rfl (hb C.2.2.2.1 hd) rfl k) hr
theorem OGo.iinc (C : Cx p s m c Z own by0 ml) (X : Sd p l e R s m args below meth c n0 T h cells slots) {k : Nat} {cst : Int} {x z : Int32} {l' : Array Slot} (hd : decode by0 pc = .ok (.iinc k cst, 3)) (hp : pc + 3 = pc') (hl : Ls[k]? = some (.val (.int x))) (hz : x + Int32.ofInt cst = z) (hl' : storeLocals Ls k (.int z) = some l') (hr : OGo p e below K T (mkF m pc' l' (St))) : OGo p e below K T (mkF m pc Ls (St)) := by
  subst hp
  subst hz
  obtain ⟨-, -, locs, Y, -⟩ := X
  exact OGo.st (fun t k => XS.iinc Y.here C.1 rfl (hb C.2.2.2.1 hd) hl hl' k) hr
theorem OGo.ladd (C : Cx p s m c Z own by0 ml) (X : Sd p l e R s m args below meth c n0 T h cells slots) {x y z : Int64} (hd : decode by0 pc = .ok (.ladd, 1)) (hp : pc + 1 = pc') (hz : x + y = z) (hr : OGo p e below K T (mkF m pc' Ls (.long z :: St))) : OGo p e below K T (mkF m pc Ls (.long y :: .long x :: St)) := by
  subst hp
  subst hz
  obtain ⟨-, -, locs, Y, -⟩ := X
  exact OGo.st (fun t k => XS.ladd Y.here C.1 rfl (hb C.2.2.2.1 hd) rfl k) hr
theorem OGo.lsub (C : Cx p s m c Z own by0 ml) (X : Sd p l e R s m args below meth c n0 T h cells slots) {x y z : Int64} (hd : decode by0 pc = .ok (.lsub, 1)) (hp : pc + 1 = pc') (hz : x - y = z) (hr : OGo p e below K T (mkF m pc' Ls (.long z :: St))) : OGo p e below K T (mkF m pc Ls (.long y :: .long x :: St)) := by
  subst hp
  subst hz
  obtain ⟨-, -, locs, Y, -⟩ := X
  exact OGo.st (fun t k => XS.lsub Y.here C.1 rfl (hb C.2.2.2.1 hd) rfl k) hr
theorem OGo.lmul (C : Cx p s m c Z own by0 ml) (X : Sd p l e R s m args below meth c n0 T h cells slots) {x y z : Int64} (hd : decode by0 pc = .ok (.lmul, 1)) (hp : pc + 1 = pc') (hz : x * y = z) (hr : OGo p e below K T (mkF m pc' Ls (.long z :: St))) : OGo p e below K T (mkF m pc Ls (.long y :: .long x :: St)) := by
  subst hp
  subst hz
  obtain ⟨-, -, locs, Y, -⟩ := X
  exact OGo.st (fun t k => XS.lmul Y.here C.1 rfl (hb C.2.2.2.1 hd) rfl k) hr
theorem OGo.land (C : Cx p s m c Z own by0 ml) (X : Sd p l e R s m args below meth c n0 T h cells slots) {x y z : Int64} (hd : decode by0 pc = .ok (.land, 1)) (hp : pc + 1 = pc') (hz : x &&& y = z) (hr : OGo p e below K T (mkF m pc' Ls (.long z :: St))) : OGo p e below K T (mkF m pc Ls (.long y :: .long x :: St)) := by
  subst hp
  subst hz
  obtain ⟨-, -, locs, Y, -⟩ := X
  exact OGo.st (fun t k => XS.land Y.here C.1 rfl (hb C.2.2.2.1 hd) rfl k) hr
theorem OGo.lor (C : Cx p s m c Z own by0 ml) (X : Sd p l e R s m args below meth c n0 T h cells slots) {x y z : Int64} (hd : decode by0 pc = .ok (.lor, 1)) (hp : pc + 1 = pc') (hz : x ||| y = z) (hr : OGo p e below K T (mkF m pc' Ls (.long z :: St))) : OGo p e below K T (mkF m pc Ls (.long y :: .long x :: St)) := by
  subst hp
  subst hz
  obtain ⟨-, -, locs, Y, -⟩ := X
  exact OGo.st (fun t k => XS.lor Y.here C.1 rfl (hb C.2.2.2.1 hd) rfl k) hr
theorem OGo.lxor (C : Cx p s m c Z own by0 ml) (X : Sd p l e R s m args below meth c n0 T h cells slots) {x y z : Int64} (hd : decode by0 pc = .ok (.lxor, 1)) (hp : pc + 1 = pc') (hz : x ^^^ y = z) (hr : OGo p e below K T (mkF m pc' Ls (.long z :: St))) : OGo p e below K T (mkF m pc Ls (.long y :: .long x :: St)) := by
  subst hp
  subst hz
  obtain ⟨-, -, locs, Y, -⟩ := X
  exact OGo.st (fun t k => XS.lxor Y.here C.1 rfl (hb C.2.2.2.1 hd) rfl k) hr
theorem OGo.lshl (C : Cx p s m c Z own by0 ml) (X : Sd p l e R s m args below meth c n0 T h cells slots) {x z : Int64} {y : Int32} (hd : decode by0 pc = .ok (.lshl, 1)) (hp : pc + 1 = pc') (hz : x <<< (y &&& 0x3f).toInt64 = z) (hr : OGo p e below K T (mkF m pc' Ls (.long z :: St))) : OGo p e below K T (mkF m pc Ls (.int y :: .long x :: St)) := by
  subst hp
  subst hz
  obtain ⟨-, -, locs, Y, -⟩ := X
  exact OGo.st (fun t k => XS.lshl Y.here C.1 rfl (hb C.2.2.2.1 hd) rfl k) hr
theorem OGo.lshr (C : Cx p s m c Z own by0 ml) (X : Sd p l e R s m args below meth c n0 T h cells slots) {x z : Int64} {y : Int32} (hd : decode by0 pc = .ok (.lshr, 1)) (hp : pc + 1 = pc') (hz : x >>> (y &&& 0x3f).toInt64 = z) (hr : OGo p e below K T (mkF m pc' Ls (.long z :: St))) : OGo p e below K T (mkF m pc Ls (.int y :: .long x :: St)) := by
  subst hp
  subst hz
  obtain ⟨-, -, locs, Y, -⟩ := X
  exact OGo.st (fun t k => XS.lshr Y.here C.1 rfl (hb C.2.2.2.1 hd) rfl k) hr
theorem OGo.lushr (C : Cx p s m c Z own by0 ml) (X : Sd p l e R s m args below meth c n0 T h cells slots) {x z : Int64} {y : Int32} (hd : decode by0 pc = .ok (.lushr, 1)) (hp : pc + 1 = pc') (hz : (x.toUInt64 >>> (y &&& 0x3f).toInt64.toUInt64).toInt64 = z) (hr : OGo p e below K T (mkF m pc' Ls (.long z :: St))) : OGo p e below K T (mkF m pc Ls (.int y :: .long x :: St)) := by
  subst hp
  subst hz
  obtain ⟨-, -, locs, Y, -⟩ := X
  exact OGo.st (fun t k => XS.lushr Y.here C.1 rfl (hb C.2.2.2.1 hd) rfl k) hr
theorem OGo.ldiv (C : Cx p s m c Z own by0 ml) (X : Sd p l e R s m args below meth c n0 T h cells slots) {x y z : Int64} (hd : decode by0 pc = .ok (.ldiv, 1)) (hp : pc + 1 = pc') (hy : y ≠ 0) (hz : x / y = z) (hr : OGo p e below K T (mkF m pc' Ls (.long z :: St))) : OGo p e below K T (mkF m pc Ls (.long y :: .long x :: St)) := by
  subst hp
  subst hz
  obtain ⟨-, -, locs, Y, -⟩ := X
  exact OGo.st (fun t k => XS.ldiv Y.here C.1 rfl (hb C.2.2.2.1 hd) rfl hy k) hr
theorem OGo.lrem (C : Cx p s m c Z own by0 ml) (X : Sd p l e R s m args below meth c n0 T h cells slots) {x y z : Int64} (hd : decode by0 pc = .ok (.lrem, 1)) (hp : pc + 1 = pc') (hy : y ≠ 0) (hz : x - (x / y) * y = z) (hr : OGo p e below K T (mkF m pc' Ls (.long z :: St))) : OGo p e below K T (mkF m pc Ls (.long y :: .long x :: St)) := by
  subst hp
  subst hz
  obtain ⟨-, -, locs, Y, -⟩ := X
  exact OGo.st (fun t k => XS.lrem Y.here C.1 rfl (hb C.2.2.2.1 hd) rfl hy k) hr
theorem OGo.lneg (C : Cx p s m c Z own by0 ml) (X : Sd p l e R s m args below meth c n0 T h cells slots) {x z : Int64} (hd : decode by0 pc = .ok (.lneg, 1)) (hp : pc + 1 = pc') (hz : -x = z) (hr : OGo p e below K T (mkF m pc' Ls (.long z :: St))) : OGo p e below K T (mkF m pc Ls (.long x :: St)) := by
  subst hp
  subst hz
  obtain ⟨-, -, locs, Y, -⟩ := X
  exact OGo.st (fun t k => XS.lneg Y.here C.1 rfl (hb C.2.2.2.1 hd) rfl k) hr
theorem OGo.i2l (C : Cx p s m c Z own by0 ml) (X : Sd p l e R s m args below meth c n0 T h cells slots) {x : Int32} {z : Int64} (hd : decode by0 pc = .ok (.i2l, 1)) (hp : pc + 1 = pc') (hz : x.toInt64 = z) (hr : OGo p e below K T (mkF m pc' Ls (.long z :: St))) : OGo p e below K T (mkF m pc Ls (.int x :: St)) := by
  subst hp
  subst hz
  obtain ⟨-, -, locs, Y, -⟩ := X
  exact OGo.st (fun t k => XS.i2l Y.here C.1 rfl (hb C.2.2.2.1 hd) rfl k) hr
theorem OGo.l2i (C : Cx p s m c Z own by0 ml) (X : Sd p l e R s m args below meth c n0 T h cells slots) {x : Int64} {z : Int32} (hd : decode by0 pc = .ok (.l2i, 1)) (hp : pc + 1 = pc') (hz : x.toInt32 = z) (hr : OGo p e below K T (mkF m pc' Ls (.int z :: St))) : OGo p e below K T (mkF m pc Ls (.long x :: St)) := by
  subst hp
  subst hz
  obtain ⟨-, -, locs, Y, -⟩ := X
  exact OGo.st (fun t k => XS.l2i Y.here C.1 rfl (hb C.2.2.2.1 hd) rfl k) hr
theorem OGo.i2b (C : Cx p s m c Z own by0 ml) (X : Sd p l e R s m args below meth c n0 T h cells slots) {x : Int32} {z : Int32} (hd : decode by0 pc = .ok (.i2b, 1)) (hp : pc + 1 = pc') (hz : x.toInt8.toInt32 = z) (hr : OGo p e below K T (mkF m pc' Ls (.int z :: St))) : OGo p e below K T (mkF m pc Ls (.int x :: St)) := by
  subst hp
  subst hz
  obtain ⟨-, -, locs, Y, -⟩ := X
  exact OGo.st (fun t k => XS.i2b Y.here C.1 rfl (hb C.2.2.2.1 hd) rfl k) hr
theorem OGo.i2c (C : Cx p s m c Z own by0 ml) (X : Sd p l e R s m args below meth c n0 T h cells slots) {x : Int32} {z : Int32} (hd : decode by0 pc = .ok (.i2c, 1)) (hp : pc + 1 = pc') (hz : x.toUInt32.toUInt16.toUInt32.toInt32 = z) (hr : OGo p e below K T (mkF m pc' Ls (.int z :: St))) : OGo p e below K T (mkF m pc Ls (.int x :: St)) := by
  subst hp
  subst hz
  obtain ⟨-, -, locs, Y, -⟩ := X
  exact OGo.st (fun t k => XS.i2c Y.here C.1 rfl (hb C.2.2.2.1 hd) rfl k) hr
theorem OGo.i2s (C : Cx p s m c Z own by0 ml) (X : Sd p l e R s m args below meth c n0 T h cells slots) {x : Int32} {z : Int32} (hd : decode by0 pc = .ok (.i2s, 1)) (hp : pc + 1 = pc') (hz : x.toInt16.toInt32 = z) (hr : OGo p e below K T (mkF m pc' Ls (.int z :: St))) : OGo p e below K T (mkF m pc Ls (.int x :: St)) := by
  subst hp
  subst hz
  obtain ⟨-, -, locs, Y, -⟩ := X
  exact OGo.st (fun t k => XS.i2s Y.here C.1 rfl (hb C.2.2.2.1 hd) rfl k) hr
theorem OGo.lcmp (C : Cx p s m c Z own by0 ml) (X : Sd p l e R s m args below meth c n0 T h cells slots) {x y : Int64} {z : Int32} (hd : decode by0 pc = .ok (.lcmp, 1)) (hp : pc + 1 = pc') (hz : lcmpW x y = z) (hr : OGo p e below K T (mkF m pc' Ls (.int z :: St))) : OGo p e below K T (mkF m pc Ls (.long y :: .long x :: St)) := by
  subst hp
  subst hz
  obtain ⟨-, -, locs, Y, -⟩ := X
  exact OGo.st (fun t k => XS.lcmp Y.here C.1 rfl (hb C.2.2.2.1 hd) rfl k) hr
theorem OGo.i2d (C : Cx p s m c Z own by0 ml) (X : Sd p l e R s m args below meth c n0 T h cells slots) {x : Int32} {v : UInt64} (hd : decode by0 pc = .ok (.i2d, 1)) (hp : pc + 1 = pc') (hz : FP.i2d x = v) (hr : OGo p e below K T (mkF m pc' Ls (.double v :: St))) : OGo p e below K T (mkF m pc Ls (.int x :: St)) := by
  subst hp
  obtain ⟨-, -, locs, Y, -⟩ := X
  exact OGo.st (fun t k => XS.i2dS Y.here C.1 rfl (hb C.2.2.2.1 hd) rfl hz k) hr
theorem OGo.l2d (C : Cx p s m c Z own by0 ml) (X : Sd p l e R s m args below meth c n0 T h cells slots) {x : Int64} {v : UInt64} (hd : decode by0 pc = .ok (.l2d, 1)) (hp : pc + 1 = pc') (hz : FP.l2d x = v) (hr : OGo p e below K T (mkF m pc' Ls (.double v :: St))) : OGo p e below K T (mkF m pc Ls (.long x :: St)) := by
  subst hp
  obtain ⟨-, -, locs, Y, -⟩ := X
  exact OGo.st (fun t k => XS.l2dS Y.here C.1 rfl (hb C.2.2.2.1 hd) rfl hz k) hr
theorem OGo.d2i (C : Cx p s m c Z own by0 ml) (X : Sd p l e R s m args below meth c n0 T h cells slots) {x : UInt64} {v : Int32} (hd : decode by0 pc = .ok (.d2i, 1)) (hp : pc + 1 = pc') (hz : FP.d2i x = v) (hr : OGo p e below K T (mkF m pc' Ls (.int v :: St))) : OGo p e below K T (mkF m pc Ls (.double x :: St)) := by
  subst hp
  obtain ⟨-, -, locs, Y, -⟩ := X
  exact OGo.st (fun t k => XS.d2iS Y.here C.1 rfl (hb C.2.2.2.1 hd) rfl hz k) hr
theorem OGo.d2l (C : Cx p s m c Z own by0 ml) (X : Sd p l e R s m args below meth c n0 T h cells slots) {x : UInt64} {v : Int64} (hd : decode by0 pc = .ok (.d2l, 1)) (hp : pc + 1 = pc') (hz : FP.d2l x = v) (hr : OGo p e below K T (mkF m pc' Ls (.long v :: St))) : OGo p e below K T (mkF m pc Ls (.double x :: St)) := by
  subst hp
  obtain ⟨-, -, locs, Y, -⟩ := X
  exact OGo.st (fun t k => XS.d2lS Y.here C.1 rfl (hb C.2.2.2.1 hd) rfl hz k) hr
theorem OGo.dneg (C : Cx p s m c Z own by0 ml) (X : Sd p l e R s m args below meth c n0 T h cells slots) {x : UInt64} {v : UInt64} (hd : decode by0 pc = .ok (.dneg, 1)) (hp : pc + 1 = pc') (hz : FP.dneg x = v) (hr : OGo p e below K T (mkF m pc' Ls (.double v :: St))) : OGo p e below K T (mkF m pc Ls (.double x :: St)) := by
  subst hp
  obtain ⟨-, -, locs, Y, -⟩ := X
  exact OGo.st (fun t k => XS.dnegS Y.here C.1 rfl (hb C.2.2.2.1 hd) rfl hz k) hr
theorem OGo.dcmp (C : Cx p s m c Z own by0 ml) (X : Sd p l e R s m args below meth c n0 T h cells slots) {o : CmpOp} {x y : UInt64} {v : Int32} (hd : decode by0 pc = .ok (.dcmp o, 1)) (hp : pc + 1 = pc') (hz : cmpValue (FP.dcmp x y) o = v) (hr : OGo p e below K T (mkF m pc' Ls (.int v :: St))) : OGo p e below K T (mkF m pc Ls (.double y :: .double x :: St)) := by
  subst hp
  obtain ⟨-, -, locs, Y, -⟩ := X
  exact OGo.st (fun t k => XS.dcmpS Y.here C.1 rfl (hb C.2.2.2.1 hd) rfl hz k) hr
theorem OGo.dadd (C : Cx p s m c Z own by0 ml) (X : Sd p l e R s m args below meth c n0 T h cells slots) {x y v : UInt64} (hd : decode by0 pc = .ok (.dadd, 1)) (hp : pc + 1 = pc') (hn : Jvm.Free.Fl.NoNaN64 (FP.dadd x y)) (hz : FP.dadd x y = v) (hr : OGo p e below K T (mkF m pc' Ls (.double v :: St))) : OGo p e below K T (mkF m pc Ls (.double y :: .double x :: St)) := by
  subst hp
  obtain ⟨-, -, locs, Y, -⟩ := X
  exact OGo.st (fun t k => XS.daddS Y.here C.1 rfl (hb C.2.2.2.1 hd) rfl hn hz k) hr
theorem OGo.dsub (C : Cx p s m c Z own by0 ml) (X : Sd p l e R s m args below meth c n0 T h cells slots) {x y v : UInt64} (hd : decode by0 pc = .ok (.dsub, 1)) (hp : pc + 1 = pc') (hn : Jvm.Free.Fl.NoNaN64 (FP.dsub x y)) (hz : FP.dsub x y = v) (hr : OGo p e below K T (mkF m pc' Ls (.double v :: St))) : OGo p e below K T (mkF m pc Ls (.double y :: .double x :: St)) := by
  subst hp
  obtain ⟨-, -, locs, Y, -⟩ := X
  exact OGo.st (fun t k => XS.dsubS Y.here C.1 rfl (hb C.2.2.2.1 hd) rfl hn hz k) hr
theorem OGo.dmul (C : Cx p s m c Z own by0 ml) (X : Sd p l e R s m args below meth c n0 T h cells slots) {x y v : UInt64} (hd : decode by0 pc = .ok (.dmul, 1)) (hp : pc + 1 = pc') (hn : Jvm.Free.Fl.NoNaN64 (FP.dmul x y)) (hz : FP.dmul x y = v) (hr : OGo p e below K T (mkF m pc' Ls (.double v :: St))) : OGo p e below K T (mkF m pc Ls (.double y :: .double x :: St)) := by
  subst hp
  obtain ⟨-, -, locs, Y, -⟩ := X
  exact OGo.st (fun t k => XS.dmulS Y.here C.1 rfl (hb C.2.2.2.1 hd) rfl hn hz k) hr
theorem OGo.ddiv (C : Cx p s m c Z own by0 ml) (X : Sd p l e R s m args below meth c n0 T h cells slots) {x y v : UInt64} (hd : decode by0 pc = .ok (.ddiv, 1)) (hp : pc + 1 = pc') (hn : Jvm.Free.Fl.NoNaN64 (FP.ddiv x y)) (hz : FP.ddiv x y = v) (hr : OGo p e below K T (mkF m pc' Ls (.double v :: St))) : OGo p e below K T (mkF m pc Ls (.double y :: .double x :: St)) := by
  subst hp
  obtain ⟨-, -, locs, Y, -⟩ := X
  exact OGo.st (fun t k => XS.ddivS Y.here C.1 rfl (hb C.2.2.2.1 hd) rfl hn hz k) hr
theorem OGo.dup (C : Cx p s m c Z own by0 ml) (X : Sd p l e R s m args below meth c n0 T h cells slots) {x : Value} (hd : decode by0 pc = .ok (.dup, 1)) (hp : pc + 1 = pc') (hc : x.category = 1) (hr : OGo p e below K T (mkF m pc' Ls (x :: x :: St))) : OGo p e below K T (mkF m pc Ls (x :: St)) := by
  subst hp
  obtain ⟨-, -, locs, Y, -⟩ := X
  exact OGo.st (fun t k => XS.dup Y.here C.1 rfl (hb C.2.2.2.1 hd) rfl hc k) hr
theorem OGo.pop (C : Cx p s m c Z own by0 ml) (X : Sd p l e R s m args below meth c n0 T h cells slots) {x : Value} (hd : decode by0 pc = .ok (.pop, 1)) (hp : pc + 1 = pc') (hc : x.category = 1) (hr : OGo p e below K T (mkF m pc' Ls (St))) : OGo p e below K T (mkF m pc Ls (x :: St)) := by
  subst hp
  obtain ⟨-, -, locs, Y, -⟩ := X
  exact OGo.st (fun t k => XS.pop Y.here C.1 rfl (hb C.2.2.2.1 hd) rfl hc k) hr
theorem OGo.dup_x1 (C : Cx p s m c Z own by0 ml) (X : Sd p l e R s m args below meth c n0 T h cells slots) {x y : Value} (hd : decode by0 pc = .ok (.dup_x1, 1)) (hp : pc + 1 = pc') (hc : x.category = 1) (hc' : y.category = 1) (hr : OGo p e below K T (mkF m pc' Ls (x :: y :: x :: St))) : OGo p e below K T (mkF m pc Ls (x :: y :: St)) := by
  subst hp
  obtain ⟨-, -, locs, Y, -⟩ := X
  exact OGo.st (fun t k => XS.dupX1 Y.here C.1 rfl (hb C.2.2.2.1 hd) rfl hc hc' k) hr
theorem OGo.dup2 (C : Cx p s m c Z own by0 ml) (X : Sd p l e R s m args below meth c n0 T h cells slots) {x y : Value} (hd : decode by0 pc = .ok (.dup2, 1)) (hp : pc + 1 = pc') (hc : x.category = 1) (hc' : y.category = 1) (hr : OGo p e below K T (mkF m pc' Ls (x :: y :: x :: y :: St))) : OGo p e below K T (mkF m pc Ls (x :: y :: St)) := by
  subst hp
  obtain ⟨-, -, locs, Y, -⟩ := X
  exact OGo.st (fun t k => XT.dup2 Y.here C.1 rfl (hb C.2.2.2.1 hd) rfl hc hc' k) hr
theorem OGo.goto (C : Cx p s m c Z own by0 ml) (X : Sd p l e R s m args below meth c n0 T h cells slots)  {o : Int} (hd : decode by0 pc = .ok (.goto o, 3))  (ho : 0 ≤ (pc : Int) + o) (hp : ((pc : Int) + o).toNat = pc') (hr : OGo p e below K T (mkF m pc' Ls (St))) : OGo p e below K T (mkF m pc Ls (St)) := by
  obtain ⟨-, -, locs, Y, -⟩ := X
  exact OGo.st (fun t k => XS.goto Y.here C.1 rfl (pc0 := pc) rfl (hb C.2.2.2.1 hd)  ho hp k) hr
theorem OGo.ifYes (C : Cx p s m c Z own by0 ml) (X : Sd p l e R s m args below meth c n0 T h cells slots) {cd : ClassFile.Cond} {x : Int32} {o : Int} (hd : decode by0 pc = .ok (.ifCond cd o, 3)) (hc : if_icmp.holds cd x 0 = true) (ho : 0 ≤ (pc : Int) + o) (hp : ((pc : Int) + o).toNat = pc') (hr : OGo p e below K T (mkF m pc' Ls (St))) : OGo p e below K T (mkF m pc Ls (.int x :: St)) := by
  obtain ⟨-, -, locs, Y, -⟩ := X
  exact OGo.st (fun t k => XS.ifYes Y.here C.1 rfl (pc0 := pc) rfl (hb C.2.2.2.1 hd) rfl ((if0 _ _).trans hc) ho hp k) hr
theorem OGo.ifNo (C : Cx p s m c Z own by0 ml) (X : Sd p l e R s m args below meth c n0 T h cells slots) {cd : ClassFile.Cond} {x : Int32} {o : Int} (hd : decode by0 pc = .ok (.ifCond cd o, 3)) (hp : pc + 3 = pc') (hc : if_icmp.holds cd x 0 = false) (hr : OGo p e below K T (mkF m pc' Ls (St))) : OGo p e below K T (mkF m pc Ls (.int x :: St)) := by
  subst hp
  obtain ⟨-, -, locs, Y, -⟩ := X
  exact OGo.st (fun t k => XS.ifNo Y.here C.1 rfl (hb C.2.2.2.1 hd) rfl ((if0 _ _).trans hc) k) hr
theorem OGo.icmpYes (C : Cx p s m c Z own by0 ml) (X : Sd p l e R s m args below meth c n0 T h cells slots) {cd : ClassFile.Cond} {x y : Int32} {o : Int} (hd : decode by0 pc = .ok (.if_icmp cd o, 3)) (hc : if_icmp.holds cd x y = true) (ho : 0 ≤ (pc : Int) + o) (hp : ((pc : Int) + o).toNat = pc') (hr : OGo p e below K T (mkF m pc' Ls (St))) : OGo p e below K T (mkF m pc Ls (.int y :: .int x :: St)) := by
  obtain ⟨-, -, locs, Y, -⟩ := X
  exact OGo.st (fun t k => XS.icmpYes Y.here C.1 rfl (pc0 := pc) rfl (hb C.2.2.2.1 hd) rfl hc ho hp k) hr
theorem OGo.icmpNo (C : Cx p s m c Z own by0 ml) (X : Sd p l e R s m args below meth c n0 T h cells slots) {cd : ClassFile.Cond} {x y : Int32} {o : Int} (hd : decode by0 pc = .ok (.if_icmp cd o, 3)) (hp : pc + 3 = pc') (hc : if_icmp.holds cd x y = false) (hr : OGo p e below K T (mkF m pc' Ls (St))) : OGo p e below K T (mkF m pc Ls (.int y :: .int x :: St)) := by
  subst hp
  obtain ⟨-, -, locs, Y, -⟩ := X
  exact OGo.st (fun t k => XS.icmpNo Y.here C.1 rfl (hb C.2.2.2.1 hd) rfl hc k) hr
theorem OGo.ifnullYes (C : Cx p s m c Z own by0 ml) (X : Sd p l e R s m args below meth c n0 T h cells slots)  {o : Int} (hd : decode by0 pc = .ok (.ifnull o, 3))  (ho : 0 ≤ (pc : Int) + o) (hp : ((pc : Int) + o).toNat = pc') (hr : OGo p e below K T (mkF m pc' Ls (St))) : OGo p e below K T (mkF m pc Ls (.null :: St)) := by
  obtain ⟨-, -, locs, Y, -⟩ := X
  exact OGo.st (fun t k => XS.ifnullYes Y.here C.1 rfl (pc0 := pc) rfl (hb C.2.2.2.1 hd) rfl ho hp k) hr
theorem OGo.ifnullNo (C : Cx p s m c Z own by0 ml) (X : Sd p l e R s m args below meth c n0 T h cells slots) {b : Addr} {o : Int} (hd : decode by0 pc = .ok (.ifnull o, 3)) (hp : pc + 3 = pc')  (hr : OGo p e below K T (mkF m pc' Ls (St))) : OGo p e below K T (mkF m pc Ls (.ref b :: St)) := by
  subst hp
  obtain ⟨-, -, locs, Y, -⟩ := X
  exact OGo.st (fun t k => XS.ifnullNo Y.here C.1 rfl (hb C.2.2.2.1 hd) rfl k) hr
theorem OGo.ifnonnullYes (C : Cx p s m c Z own by0 ml) (X : Sd p l e R s m args below meth c n0 T h cells slots) {b : Addr} {o : Int} (hd : decode by0 pc = .ok (.ifnonnull o, 3))  (ho : 0 ≤ (pc : Int) + o) (hp : ((pc : Int) + o).toNat = pc') (hr : OGo p e below K T (mkF m pc' Ls (St))) : OGo p e below K T (mkF m pc Ls (.ref b :: St)) := by
  obtain ⟨-, -, locs, Y, -⟩ := X
  exact OGo.st (fun t k => XS.ifnonnullYes Y.here C.1 rfl (pc0 := pc) rfl (hb C.2.2.2.1 hd) rfl ho hp k) hr
theorem OGo.ifnonnullNo (C : Cx p s m c Z own by0 ml) (X : Sd p l e R s m args below meth c n0 T h cells slots)  {o : Int} (hd : decode by0 pc = .ok (.ifnonnull o, 3)) (hp : pc + 3 = pc')  (hr : OGo p e below K T (mkF m pc' Ls (St))) : OGo p e below K T (mkF m pc Ls (.null :: St)) := by
  subst hp
  obtain ⟨-, -, locs, Y, -⟩ := X
  exact OGo.st (fun t k => XS.ifnonnullNo Y.here C.1 rfl (hb C.2.2.2.1 hd) rfl k) hr
theorem OGo.acmp (C : Cx p s m c Z own by0 ml) (X : Sd p l e R s m args below meth c n0 T h cells slots) {cd : ACond} {x y : Value} (h1 : x.isRef = true) (h2 : y.isRef = true) {o : Int} {same : Bool} (hd : decode by0 pc = .ok (.if_acmp cd o, 3)) (hq : decide (x = y) = same) (ho : 0 ≤ (pc : Int) + o) (hp : pc' = if acV cd same = true then ((pc : Int) + o).toNat else pc + 3) (hr : OGo p e below K T (mkF m pc' Ls (St))) : OGo p e below K T (mkF m pc Ls (y :: x :: St)) := by
  obtain ⟨-, -, locs, Y, -⟩ := X
  exact OGo.st (fun t k => RoadKit.acmp Y C.1 rfl h1 h2 (pc0 := pc) rfl (hb C.2.2.2.1 hd) rfl hq ho hp k) hr
theorem OGo.ldcInt (C : Cx p s m c Z own by0 ml) (X : Sd p l e R s m args below meth c n0 T h cells slots) {idx : Nat} {v : Int32} (w : (Jvm.Cond.constant own idx v).before a0 Z = true) (hd : decode by0 pc = .ok (.ldc idx, 2)) (hp : pc + 2 = pc') (hr : OGo p e below K T (mkF m pc' Ls (.int v :: St))) : OGo p e below K T (mkF m pc Ls (St)) := by
  subst hp
  obtain ⟨-, -, locs, Y, -⟩ := X
  exact OGo.st (fun t k => Y.ldcInt C.1 C.2.2.1 (mvT C.2.1 w) (g := mkF m pc Ls St) rfl (hb C.2.2.2.1 hd) t k) hr
theorem OGo.ldc2Long (C : Cx p s m c Z own by0 ml) (X : Sd p l e R s m args below meth c n0 T h cells slots) {idx : Nat} {v : Int64} (w : (Jvm.Cond.constantLong own idx v).before a0 Z = true) (hd : decode by0 pc = .ok (.ldc2_w idx, 3)) (hp : pc + 3 = pc') (hr : OGo p e below K T (mkF m pc' Ls (.long v :: St))) : OGo p e below K T (mkF m pc Ls (St)) := by
  subst hp
  obtain ⟨-, -, locs, Y, -⟩ := X
  exact OGo.st (fun t k => Y.ldc2Long C.1 C.2.2.1 (mvT C.2.1 w) (g := mkF m pc Ls St) rfl (hb C.2.2.2.1 hd) t k) hr
theorem OGo.ldc2Double (C : Cx p s m c Z own by0 ml) (X : Sd p l e R s m args below meth c n0 T h cells slots) {idx : Nat} {v : UInt64} (w : (Jvm.Cond.constantDouble own idx v).before a0 Z = true) (hd : decode by0 pc = .ok (.ldc2_w idx, 3)) (hp : pc + 3 = pc') (hr : OGo p e below K T (mkF m pc' Ls (.double v :: St))) : OGo p e below K T (mkF m pc Ls (St)) := by
  subst hp
  obtain ⟨-, -, locs, Y, -⟩ := X
  exact OGo.st (fun t k => Y.ldc2DoubleC C.1 C.2.2.1 (mvT C.2.1 w) (g := mkF m pc Ls St) rfl (hb C.2.2.2.1 hd) t k) hr
theorem OGo.ldcStr (C : Cx p s m c Z own by0 ml) (X : Sd p l e R s m args below meth c n0 T h cells slots) {idx : Nat} {text : String} {a : Addr} (w : (Jvm.Cond.stringRef own idx text).before a0 Z = true) (L : RoadKit.Lit Z own idx a) (hd : decode by0 pc = .ok (.ldc idx, 2)) (hp : pc + 2 = pc') (hr : OGo p e below K T (mkF m pc' Ls (.ref a :: St))) : OGo p e below K T (mkF m pc Ls (St)) := by
  subst hp
  obtain ⟨-, -, locs, Y, -⟩ := X
  exact OGo.st (fun t k => ldcR Y C.1 C.2.1 C.2.2.1 w L (g := mkF m pc Ls St) rfl (hb C.2.2.2.1 hd) t k) hr
theorem OGo.arraylength (C : Cx p s m c Z own by0 ml) (X : Sd p l e R s m args below meth c n0 T h cells slots) {a : Addr} {k : ClassId} {ty : FieldType} {z : Int32} {vs : List Value} {dv : Value} (V : Arv Z h a k ty z vs dv) (hd : decode by0 pc = .ok (.arraylength, 1)) (hp : pc + 1 = pc') (hr : OGo p e below K T (mkF m pc' Ls (.int z :: St))) : OGo p e below K T (mkF m pc Ls (.ref a :: St)) := by
  subst hp
  obtain ⟨eT, -, locs, Y, -⟩ := X
  obtain ⟨cl, A, -, S, q, -⟩ := V
  refine OGo.st (fun t k => Y.arraylength C.1 (by rw [eT]; exact A.1) (State.isArrayOf_alike C.2.1.alike A.2.1) (g := mkF m pc Ls (.ref a :: St)) rfl rfl (hb C.2.2.2.1 hd) t ?_) hr
  rw [len_of S q]; exact k
theorem OGo.iaload (C : Cx p s m c Z own by0 ml) (X : Sd p l e R s m args below meth c n0 T h cells slots) {a : Addr} {k : ClassId} {z : Int32} {vs : List Value} {dv : Value} (V : Arv Z h a k .int z vs dv) {j : Int32} {v : Int32} (hd : decode by0 pc = .ok (.iaload, 1)) (hp : pc + 1 = pc') (hj : ¬ j < 0 ∧ j < z) (hv : vs.getD j.toNatClampNeg dv = .int v) (hr : OGo p e below K T (mkF m pc' Ls (.int v :: St))) : OGo p e below K T (mkF m pc Ls (.int j :: .ref a :: St)) := by
  subst hp
  obtain ⟨eT, -, locs, Y, -⟩ := X
  obtain ⟨cl, A, -, S, q, H, -⟩ := V
  exact OGo.st (fun t k => Y.iaload C.1 (by rw [eT]; exact A.1) (State.isArrayOf_alike C.2.1.alike A.2.1) A.2.2 (inb_of S hj) (Has.at H (inb_of S hj) hv) (g := mkF m pc Ls (.int j :: .ref a :: St)) rfl rfl (hb C.2.2.2.1 hd) t k) hr
theorem OGo.laload (C : Cx p s m c Z own by0 ml) (X : Sd p l e R s m args below meth c n0 T h cells slots) {a : Addr} {k : ClassId} {z : Int32} {vs : List Value} {dv : Value} (V : Arv Z h a k .long z vs dv) {j : Int32} {v : Int64} (hd : decode by0 pc = .ok (.laload, 1)) (hp : pc + 1 = pc') (hj : ¬ j < 0 ∧ j < z) (hv : vs.getD j.toNatClampNeg dv = .long v) (hr : OGo p e below K T (mkF m pc' Ls (.long v :: St))) : OGo p e below K T (mkF m pc Ls (.int j :: .ref a :: St)) := by
  subst hp
  obtain ⟨eT, -, locs, Y, -⟩ := X
  obtain ⟨cl, A, -, S, q, H, -⟩ := V
  exact OGo.st (fun t k => Y.laload C.1 (by rw [eT]; exact A.1) (State.isArrayOf_alike C.2.1.alike A.2.1) A.2.2 (inb_of S hj) (Has.at H (inb_of S hj) hv) (g := mkF m pc Ls (.int j :: .ref a :: St)) rfl rfl (hb C.2.2.2.1 hd) t k) hr
theorem OGo.daload (C : Cx p s m c Z own by0 ml) (X : Sd p l e R s m args below meth c n0 T h cells slots) {a : Addr} {k : ClassId} {z : Int32} {vs : List Value} {dv : Value} (V : Arv Z h a k .double z vs dv) {j : Int32} {v : UInt64} (hd : decode by0 pc = .ok (.daload, 1)) (hp : pc + 1 = pc') (hj : ¬ j < 0 ∧ j < z) (hv : vs.getD j.toNatClampNeg dv = .double v) (hr : OGo p e below K T (mkF m pc' Ls (.double v :: St))) : OGo p e below K T (mkF m pc Ls (.int j :: .ref a :: St)) := by
  subst hp
  obtain ⟨eT, -, locs, Y, -⟩ := X
  obtain ⟨cl, A, -, S, q, H, -⟩ := V
  exact OGo.st (fun t k => Y.daload C.1 (by rw [eT]; exact A.1) (State.isArrayOf_alike C.2.1.alike A.2.1) A.2.2 (inb_of S hj) (Has.at H (inb_of S hj) hv) (g := mkF m pc Ls (.int j :: .ref a :: St)) rfl rfl (hb C.2.2.2.1 hd) t k) hr
theorem OGo.caload (C : Cx p s m c Z own by0 ml) (X : Sd p l e R s m args below meth c n0 T h cells slots) {a : Addr} {k : ClassId} {z : Int32} {vs : List Value} {dv : Value} (V : Arv Z h a k .char z vs dv) {j : Int32} {v : Int32} (hd : decode by0 pc = .ok (.caload, 1)) (hp : pc + 1 = pc') (hj : ¬ j < 0 ∧ j < z) (hv : vs.getD j.toNatClampNeg dv = .int v) (hr : OGo p e below K T (mkF m pc' Ls (.int v :: St))) : OGo p e below K T (mkF m pc Ls (.int j :: .ref a :: St)) := by
  subst hp
  obtain ⟨eT, -, locs, Y, -⟩ := X
  obtain ⟨cl, A, -, S, q, H, -⟩ := V
  exact OGo.st (fun t k => Y.caload C.1 (by rw [eT]; exact A.1) (State.isArrayOf_alike C.2.1.alike A.2.1) A.2.2 (inb_of S hj) (Has.at H (inb_of S hj) hv) (g := mkF m pc Ls (.int j :: .ref a :: St)) rfl rfl (hb C.2.2.2.1 hd) t k) hr
theorem OGo.baloadB (C : Cx p s m c Z own by0 ml) (X : Sd p l e R s m args below meth c n0 T h cells slots) {a : Addr} {k : ClassId} {z : Int32} {vs : List Value} {dv : Value} (V : Arv Z h a k .byte z vs dv) {j : Int32} {v : Int32} (hd : decode by0 pc = .ok (.baload, 1)) (hp : pc + 1 = pc') (hj : ¬ j < 0 ∧ j < z) (hv : vs.getD j.toNatClampNeg dv = .int v) (hr : OGo p e below K T (mkF m pc' Ls (.int v :: St))) : OGo p e below K T (mkF m pc Ls (.int j :: .ref a :: St)) := by
  subst hp
  obtain ⟨eT, -, locs, Y, -⟩ := X
  obtain ⟨cl, A, -, S, q, H, -⟩ := V
  exact OGo.st (fun t k => Y.baloadBytes C.1 (by rw [eT]; exact A.1) (State.isArrayOf_alike C.2.1.alike A.2.1) A.2.2 (inb_of S hj) (Has.at H (inb_of S hj) hv) (g := mkF m pc Ls (.int j :: .ref a :: St)) rfl rfl (hb C.2.2.2.1 hd) t k) hr
theorem OGo.baloadZ (C : Cx p s m c Z own by0 ml) (X : Sd p l e R s m args below meth c n0 T h cells slots) {a : Addr} {k : ClassId} {z : Int32} {vs : List Value} {dv : Value} (V : Arv Z h a k .boolean z vs dv) {j : Int32} {v : Int32} (hd : decode by0 pc = .ok (.baload, 1)) (hp : pc + 1 = pc') (hj : ¬ j < 0 ∧ j < z) (hv : vs.getD j.toNatClampNeg dv = .int v) (hr : OGo p e below K T (mkF m pc' Ls (.int v :: St))) : OGo p e below K T (mkF m pc Ls (.int j :: .ref a :: St)) := by
  subst hp
  obtain ⟨eT, -, locs, Y, -⟩ := X
  obtain ⟨cl, A, -, S, q, H, -⟩ := V
  exact OGo.st (fun t k => Y.baloadBooleans C.1 (by rw [eT]; exact A.1) (State.isArrayOf_alike C.2.1.alike A.2.1) A.2.2 (inb_of S hj) (Has.at H (inb_of S hj) hv) (g := mkF m pc Ls (.int j :: .ref a :: St)) rfl rfl (hb C.2.2.2.1 hd) t k) hr
theorem OGo.iastore (C : Cx p s m c Z own by0 ml) (X : Sd p l e R s m args below meth c n0 T h cells slots) {a : Addr} {k : ClassId} {z : Int32} {vs : List Value} {dv : Value} (V : Arv Z h a k .int z vs dv) (ga : n0 ≤ a) {j : Int32} {x : Int32} {i : Nat} (hd : decode by0 pc = .ok (.iastore, 1)) (hp : pc + 1 = pc') (hj : ¬ j < 0 ∧ j < z) (hi : j.toNatClampNeg = i) (hl : i < vs.length)
    (hr : ∀ T' h', Sd p l e R s m args below meth c n0 T' h' cells slots → Wr h h' a i (.int x) → Arv Z h' a k .int z (vs.set i (.int x)) dv → OGo p e below K T' (mkF m pc' Ls St)) : OGo p e below K T (mkF m pc Ls (.int x :: .int j :: .ref a :: St)) := by
  subst hp hi
  obtain ⟨eT, hn, locs, Y, N⟩ := X
  obtain ⟨cl, A, q1, S, q, H, Gt⟩ := V
  obtain ⟨T', h', Y', e', W, st⟩ := stI Y C.1 C.2.1 eT A (inb_of S hj) (g := mkF m pc Ls (.int x :: .int j :: .ref a :: St)) rfl rfl (hb C.2.2.2.1 hd)
  exact OGo.st st (hr T' h' ⟨e', by rw [W.size]; exact hn, _, Y', Fr.snoc Y' N ga⟩ W (Arv.set A q1 S q H Gt rfl W _ rfl hl))
theorem OGo.lastore (C : Cx p s m c Z own by0 ml) (X : Sd p l e R s m args below meth c n0 T h cells slots) {a : Addr} {k : ClassId} {z : Int32} {vs : List Value} {dv : Value} (V : Arv Z h a k .long z vs dv) (ga : n0 ≤ a) {j : Int32} {x : Int64} {i : Nat} (hd : decode by0 pc = .ok (.lastore, 1)) (hp : pc + 1 = pc') (hj : ¬ j < 0 ∧ j < z) (hi : j.toNatClampNeg = i) (hl : i < vs.length)
    (hr : ∀ T' h', Sd p l e R s m args below meth c n0 T' h' cells slots → Wr h h' a i (.long x) → Arv Z h' a k .long z (vs.set i (.long x)) dv → OGo p e below K T' (mkF m pc' Ls St)) : OGo p e below K T (mkF m pc Ls (.long x :: .int j :: .ref a :: St)) := by
  subst hp hi
  obtain ⟨eT, hn, locs, Y, N⟩ := X
  obtain ⟨cl, A, q1, S, q, H, Gt⟩ := V
  obtain ⟨T', h', Y', e', W, st⟩ := stJ Y C.1 C.2.1 eT A (inb_of S hj) (g := mkF m pc Ls (.long x :: .int j :: .ref a :: St)) rfl rfl (hb C.2.2.2.1 hd)
  exact OGo.st st (hr T' h' ⟨e', by rw [W.size]; exact hn, _, Y', Fr.snoc Y' N ga⟩ W (Arv.set A q1 S q H Gt rfl W _ rfl hl))
theorem OGo.dastore (C : Cx p s m c Z own by0 ml) (X : Sd p l e R s m args below meth c n0 T h cells slots) {a : Addr} {k : ClassId} {z : Int32} {vs : List Value} {dv : Value} (V : Arv Z h a k .double z vs dv) (ga : n0 ≤ a) {j : Int32} {x : UInt64} {i : Nat} (hd : decode by0 pc = .ok (.dastore, 1)) (hp : pc + 1 = pc') (hj : ¬ j < 0 ∧ j < z) (hi : j.toNatClampNeg = i) (hl : i < vs.length)
    (hr : ∀ T' h', Sd p l e R s m args below meth c n0 T' h' cells slots → Wr h h' a i (.double x) → Arv Z h' a k .double z (vs.set i (.double x)) dv → OGo p e below K T' (mkF m pc' Ls St)) : OGo p e below K T (mkF m pc Ls (.double x :: .int j :: .ref a :: St)) := by
  subst hp hi
  obtain ⟨eT, hn, locs, Y, N⟩ := X
  obtain ⟨cl, A, q1, S, q, H, Gt⟩ := V
  obtain ⟨T', h', Y', e', W, st⟩ := stD Y C.1 C.2.1 eT A (inb_of S hj) (g := mkF m pc Ls (.double x :: .int j :: .ref a :: St)) rfl rfl (hb C.2.2.2.1 hd)
  exact OGo.st st (hr T' h' ⟨e', by rw [W.size]; exact hn, _, Y', Fr.snoc Y' N ga⟩ W (Arv.set A q1 S q H Gt rfl W _ rfl hl))
theorem OGo.castore (C : Cx p s m c Z own by0 ml) (X : Sd p l e R s m args below meth c n0 T h cells slots) {a : Addr} {k : ClassId} {z : Int32} {vs : List Value} {dv : Value} (V : Arv Z h a k .char z vs dv) (ga : n0 ≤ a) {j : Int32} {x : Int32} {i : Nat} (hd : decode by0 pc = .ok (.castore, 1)) (hp : pc + 1 = pc') (hj : ¬ j < 0 ∧ j < z) (hi : j.toNatClampNeg = i) (hl : i < vs.length)
    (hr : ∀ T' h', Sd p l e R s m args below meth c n0 T' h' cells slots → Wr h h' a i (.int (nar .char x)) → Arv Z h' a k .char z (vs.set i (.int (nar .char x))) dv → OGo p e below K T' (mkF m pc' Ls St)) : OGo p e below K T (mkF m pc Ls (.int x :: .int j :: .ref a :: St)) := by
  subst hp hi
  obtain ⟨eT, hn, locs, Y, N⟩ := X
  obtain ⟨cl, A, q1, S, q, H, Gt⟩ := V
  obtain ⟨T', h', Y', e', W, st⟩ := stC Y C.1 C.2.1 eT A (inb_of S hj) (g := mkF m pc Ls (.int x :: .int j :: .ref a :: St)) rfl rfl (hb C.2.2.2.1 hd)
  exact OGo.st st (hr T' h' ⟨e', by rw [W.size]; exact hn, _, Y', Fr.snoc Y' N ga⟩ W (Arv.set A q1 S q H Gt (fits_nar_char x) W _ rfl hl))
theorem OGo.bastoreB (C : Cx p s m c Z own by0 ml) (X : Sd p l e R s m args below meth c n0 T h cells slots) {a : Addr} {k : ClassId} {z : Int32} {vs : List Value} {dv : Value} (V : Arv Z h a k .byte z vs dv) (ga : n0 ≤ a) {j : Int32} {x : Int32} {i : Nat} (hd : decode by0 pc = .ok (.bastore, 1)) (hp : pc + 1 = pc') (hj : ¬ j < 0 ∧ j < z) (hi : j.toNatClampNeg = i) (hl : i < vs.length)
    (hr : ∀ T' h', Sd p l e R s m args below meth c n0 T' h' cells slots → Wr h h' a i (.int (nar .byte x)) → Arv Z h' a k .byte z (vs.set i (.int (nar .byte x))) dv → OGo p e below K T' (mkF m pc' Ls St)) : OGo p e below K T (mkF m pc Ls (.int x :: .int j :: .ref a :: St)) := by
  subst hp hi
  obtain ⟨eT, hn, locs, Y, N⟩ := X
  obtain ⟨cl, A, q1, S, q, H, Gt⟩ := V
  obtain ⟨T', h', Y', e', W, st⟩ := stB Y C.1 C.2.1 eT A (inb_of S hj) (g := mkF m pc Ls (.int x :: .int j :: .ref a :: St)) rfl rfl (hb C.2.2.2.1 hd)
  exact OGo.st st (hr T' h' ⟨e', by rw [W.size]; exact hn, _, Y', Fr.snoc Y' N ga⟩ W (Arv.set A q1 S q H Gt (fits_nar_byte x) W _ rfl hl))
theorem OGo.bastoreZ (C : Cx p s m c Z own by0 ml) (X : Sd p l e R s m args below meth c n0 T h cells slots) {a : Addr} {k : ClassId} {z : Int32} {vs : List Value} {dv : Value} (V : Arv Z h a k .boolean z vs dv) (ga : n0 ≤ a) {j : Int32} {x : Int32} {i : Nat} (hd : decode by0 pc = .ok (.bastore, 1)) (hp : pc + 1 = pc') (hj : ¬ j < 0 ∧ j < z) (hi : j.toNatClampNeg = i) (hl : i < vs.length)
    (hr : ∀ T' h', Sd p l e R s m args below meth c n0 T' h' cells slots → Wr h h' a i (.int (nar .boolean x)) → Arv Z h' a k .boolean z (vs.set i (.int (nar .boolean x))) dv → OGo p e below K T' (mkF m pc' Ls St)) : OGo p e below K T (mkF m pc Ls (.int x :: .int j :: .ref a :: St)) := by
  subst hp hi
  obtain ⟨eT, hn, locs, Y, N⟩ := X
  obtain ⟨cl, A, q1, S, q, H, Gt⟩ := V
  obtain ⟨T', h', Y', e', W, st⟩ := stZ Y C.1 C.2.1 eT A (inb_of S hj) (g := mkF m pc Ls (.int x :: .int j :: .ref a :: St)) rfl rfl (hb C.2.2.2.1 hd)
  exact OGo.st st (hr T' h' ⟨e', by rw [W.size]; exact hn, _, Y', Fr.snoc Y' N ga⟩ W (Arv.set A q1 S q H Gt (fits_nar_bool x) W _ rfl hl))
theorem OGo.newarray (C : Cx p s m c Z own by0 ml) (X : Sd p l e R s m args below meth c n0 T h cells slots) {aty : ArrayType} {ty : FieldType} {n : Int32} {cap : Nat} {d0 : Value} (w : (Jvm.Cond.arrayClass ty).before a0 Z = true) (hty : newarray.typeOf aty = ty) (hd : decode by0 pc = .ok (.newarray aty, 2)) (hp : pc + 2 = pc') (hn : ¬ n < 0) (hcap : n.toNatClampNeg ≤ cap) (hb8 : cap * 8 ≤ 536870912) (hdv : defaultValue ty = d0) (hc' : cells + 1 = cells') (hs' : slots + cap = slots') (hc : cells' ≤ R.cells) (hl : slots' ≤ R.slots)
    (hr : ∀ T' h' a k, Sd p l e R s m args below meth c n0 T' h' cells' slots' → a = h.size → n0 ≤ a → Ext h h' → Arv Z h' a k ty n [] d0 → OGo p e below K T' (mkF m pc' Ls (.ref a :: St))) : OGo p e below K T (mkF m pc Ls (.int n :: St)) := by
  subst hp hc' hs' hty hdv
  obtain ⟨eT, hn0, locs, Y, N⟩ := X
  obtain ⟨T', h', cA, Y', e', E, A, st⟩ := newP Y C.1 C.2.1 w eT (g := mkF m pc Ls (.int n :: St)) rfl (hb C.2.2.2.1 hd) rfl hn hcap hb8 hc hl
  exact OGo.st st (hr T' h' _ cA ⟨e', Nat.le_trans hn0 E.1, _, Y', N⟩ rfl hn0 E (Arv.new A hn))
theorem OGo.newarrayE (C : Cx p s m c Z own by0 ml) (X : Sd p l e R s m args below meth c n0 T h cells slots) {aty : ArrayType} {ty : FieldType} {n : Int32} {cap : Nat} {d0 : Value} {ad : String} (w : (Jvm.Cond.arrayClass ty).before a0 Z = true) (hty : newarray.typeOf aty = ty) (had : "[" ++ ty.toString = ad) (hd : decode by0 pc = .ok (.newarray aty, 2)) (hp : pc + 2 = pc') (hn : ¬ n < 0) (hcap : n.toNatClampNeg ≤ cap) (hb8 : cap * 8 ≤ 536870912) (hdv : defaultValue ty = d0) (hc' : cells + 1 = cells') (hs' : slots + cap = slots') (hc : cells' ≤ R.cells) (hl : slots' ≤ R.slots)
    (hr : ∀ T' h' a k, Sd p l e R s m args below meth c n0 T' h' cells' slots' → a = h.size → n0 ≤ a → Ext h h' → Arv Z h' a k ty n [] d0 → Exa Z h' a ad → OGo p e below K T' (mkF m pc' Ls (.ref a :: St))) : OGo p e below K T (mkF m pc Ls (.int n :: St)) := by
  subst hp hc' hs' hty hdv
  obtain ⟨eT, hn0, locs, Y, N⟩ := X
  obtain ⟨T', h', cA, Y', e', E, A, EE, st⟩ := newPE Y C.1 C.2.1 w eT (g := mkF m pc Ls (.int n :: St)) rfl (hb C.2.2.2.1 hd) rfl hn hcap hb8 hc hl had
  exact OGo.st st (hr T' h' _ cA ⟨e', Nat.le_trans hn0 E.1, _, Y', N⟩ rfl hn0 E (Arv.new A hn) EE)
theorem OGo.new (C : Cx p s m c Z own by0 ml) (X : Sd p l e R s m args below meth c n0 T h cells slots) {Cn : String} {idx n : Nat} (w : (Jvm.Cond.classLink own idx Cn).before a0 Z = true) (wi : (Jvm.Cond.instantiable Cn n).before a0 Z = true) (wz : (Jvm.Cond.initialized Cn).before a0 Z = true) (hd : decode by0 pc = .ok (.new idx, 3)) (hp : pc + 3 = pc') (hc' : cells + 1 = cells') (hs' : slots + n = slots') (hc : cells' ≤ R.cells) (hl : slots' ≤ R.slots)
    (hr : ∀ T' h' a, Sd p l e R s m args below meth c n0 T' h' cells' slots' → a = h.size → n0 ≤ a → Ext h h' → Exa Z h' a Cn → (∀ {O nm d : String} {ty : FieldType}, Laid Z a0 Cn O nm d → parseFieldDescriptor d = some ty → Fld Z h' a O nm d (defaultValue ty)) → Unt h' a → OGo p e below K T' (mkF m pc' Ls (.ref a :: St))) : OGo p e below K T (mkF m pc Ls (St)) := by
  subst hp hc' hs'
  obtain ⟨eT, hn0, locs, Y, N⟩ := X
  obtain ⟨T', h', Y', e', E, A, D, U, st⟩ := newO Y C.1 C.2.1 C.2.2.1 w wi wz eT (g := mkF m pc Ls St) rfl (hb C.2.2.2.1 hd) hc hl
  exact OGo.st st (hr T' h' _ ⟨e', Nat.le_trans hn0 E.1, _, Y', N⟩ rfl hn0 E A D U)
theorem OGo.getfield (C : Cx p s m c Z own by0 ml) (X : Sd p l e R s m args below meth c n0 T h cells slots) {R0 O n d host : String} {idx : Nat} {a : Addr} {v : Value} (w : (Jvm.Cond.fieldLink own idx R0 n d).before a0 Z = true ∨ (Jvm.Cond.fieldLinkNest own idx R0 n d host).before a0 Z = true) (via : Via Z R0 O n d) (F : Fld Z h a O n d v) (hd : decode by0 pc = .ok (.getfield idx, 3)) (hp : pc + 3 = pc')
    (hr : ∀ T', Sd p l e R s m args below meth c n0 T' h cells slots → OGo p e below K T' (mkF m pc' Ls (v :: St))) : OGo p e below K T (mkF m pc Ls (.ref a :: St)) := by
  subst hp
  obtain ⟨eT, hn0, locs, Y, N⟩ := X
  obtain ⟨T', Y', e', st⟩ := getF Y C.1 C.2.1 C.2.2.1 w via eT F (g := mkF m pc Ls (.ref a :: St)) rfl rfl (hb C.2.2.2.1 hd)
  exact OGo.st st (hr T' ⟨e', hn0, _, Y', N⟩)
theorem OGo.putfield (C : Cx p s m c Z own by0 ml) (X : Sd p l e R s m args below meth c n0 T h cells slots) {R0 O n d host Cn : String} {idx kk : Nat} {ty : FieldType} {a : Addr} {v old : Value} (w : (Jvm.Cond.fieldLink own idx R0 n d).before a0 Z = true ∨ (Jvm.Cond.fieldLinkNest own idx R0 n d host).before a0 Z = true) (via : Via Z R0 O n d) (F : Fld Z h a O n d old) (E : Exa Z h a Cn) (ga : n0 ≤ a)
    (L : (Jvm.Cond.lays Cn O n d).before a0 Z = true ∨ ((Jvm.Cond.laysFinal Cn O n d).before a0 Z = true ∧ own = O ∧ meth.name = "<init>")) (wi : (Jvm.Cond.instantiable Cn kk).before a0 Z = true) (hty : parseFieldDescriptor d = some ty) (hnn : narrow ty v = v) (hf : fits ty v = true) (hd : decode by0 pc = .ok (.putfield idx, 3)) (hp : pc + 3 = pc')
    (hr : ∀ T' h', Sd p l e R s m args below meth c n0 T' h' cells slots → Wr h h' a (RoadKit.slotOf Z O n d) v → Fld Z h' a O n d v → OGo p e below K T' (mkF m pc' Ls St)) : OGo p e below K T (mkF m pc Ls (v :: .ref a :: St)) := by
  subst hp
  obtain ⟨eT, hn0, locs, Y, N⟩ := X
  obtain ⟨T', h', Y', e', W, st⟩ := putF Y C.1 C.2.1 C.2.2.1 w via eT F E L wi hty hnn hf (g := mkF m pc Ls (v :: .ref a :: St)) rfl rfl (hb C.2.2.2.1 hd)
  exact OGo.st st (hr T' h' ⟨e', by rw [W.size]; exact hn0, _, Y', Fr.snoc Y' N ga⟩ W (F.same W))
theorem OGo.putfieldN (C : Cx p s m c Z own by0 ml) (X : Sd p l e R s m args below meth c n0 T h cells slots) {R0 O n d Cn : String} {idx kk : Nat} {ty : FieldType} {a : Addr} {v v' old : Value} (w : (Jvm.Cond.fieldLink own idx R0 n d).before a0 Z = true) (via : Via Z R0 O n d) (F : Fld Z h a O n d old) (E : Exa Z h a Cn) (ga : n0 ≤ a)
    (L : (Jvm.Cond.lays Cn O n d).before a0 Z = true ∨ ((Jvm.Cond.laysFinal Cn O n d).before a0 Z = true ∧ own = O ∧ meth.name = "<init>")) (wi : (Jvm.Cond.instantiable Cn kk).before a0 Z = true) (hty : parseFieldDescriptor d = some ty) (hnn : narrow ty v = v') (hf : fits ty v' = true) (hd : decode by0 pc = .ok (.putfield idx, 3)) (hp : pc + 3 = pc')
    (hr : ∀ T' h', Sd p l e R s m args below meth c n0 T' h' cells slots → Wr h h' a (RoadKit.slotOf Z O n d) v' → Fld Z h' a O n d v' → OGo p e below K T' (mkF m pc' Ls St)) : OGo p e below K T (mkF m pc Ls (v :: .ref a :: St)) := by
  subst hp
  obtain ⟨eT, hn0, locs, Y, N⟩ := X
  obtain ⟨T', h', Y', e', W, st⟩ := putFN Y C.1 C.2.1 C.2.2.1 w via eT F E L wi hty hnn hf (g := mkF m pc Ls (v :: .ref a :: St)) rfl rfl (hb C.2.2.2.1 hd)
  exact OGo.st st (hr T' h' ⟨e', by rw [W.size]; exact hn0, _, Y', Fr.snoc Y' N ga⟩ W (F.same W))
theorem OGo.getstatic (C : Cx p s m c Z own by0 ml) (X : Sd p l e R s m args below meth c n0 T h cells slots) {R0 O n d host : String} {idx : Nat} {v : Value} (w : (Jvm.Cond.fieldLink own idx R0 n d).before a0 Z = true ∨ (Jvm.Cond.fieldLinkNest own idx R0 n d host).before a0 Z = true) (via : Via Z R0 O n d) (F : Sta Z h O n d v) (hd : decode by0 pc = .ok (.getstatic idx, 3)) (hp : pc + 3 = pc')
    (hr : ∀ T', Sd p l e R s m args below meth c n0 T' h cells slots → OGo p e below K T' (mkF m pc' Ls (v :: St))) : OGo p e below K T (mkF m pc Ls (St)) := by
  subst hp
  obtain ⟨eT, hn0, locs, Y, N⟩ := X
  obtain ⟨T', Y', e', st⟩ := getS2 Y C.1 C.2.1 C.2.2.1 w via eT F (g := mkF m pc Ls St) rfl (hb C.2.2.2.1 hd)
  exact OGo.st st (hr T' ⟨e', hn0, _, Y', N⟩)
theorem OGo.checkcast (C : Cx p s m c Z own by0 ml) (X : Sd p l e R s m args below meth c n0 T h cells slots) {Kn : String} {idx : Nat} {a : Addr} (w : (Jvm.Cond.classLink own idx Kn).before a0 Z = true) (F : Ins Z h a Kn true) (hd : decode by0 pc = .ok (.checkcast idx, 3)) (hp : pc + 3 = pc')
    (hr : ∀ T', Sd p l e R s m args below meth c n0 T' h cells slots → OGo p e below K T' (mkF m pc' Ls (.ref a :: St))) : OGo p e below K T (mkF m pc Ls (.ref a :: St)) := by
  subst hp
  obtain ⟨eT, hn0, locs, Y, N⟩ := X
  obtain ⟨T', Y', e', st⟩ := castY Y C.1 C.2.1 C.2.2.1 w eT F (g := mkF m pc Ls (.ref a :: St)) rfl rfl (hb C.2.2.2.1 hd)
  exact OGo.st st (hr T' ⟨e', hn0, _, Y', N⟩)
theorem OGo.instYes (C : Cx p s m c Z own by0 ml) (X : Sd p l e R s m args below meth c n0 T h cells slots) {Kn : String} {idx : Nat} {a : Addr} (w : (Jvm.Cond.classLink own idx Kn).before a0 Z = true) (F : Ins Z h a Kn true) (hd : decode by0 pc = .ok (.instanceof idx, 3)) (hp : pc + 3 = pc')
    (hr : ∀ T', Sd p l e R s m args below meth c n0 T' h cells slots → OGo p e below K T' (mkF m pc' Ls (.int 1 :: St))) : OGo p e below K T (mkF m pc Ls (.ref a :: St)) := by
  subst hp
  obtain ⟨eT, hn0, locs, Y, N⟩ := X
  obtain ⟨T', Y', e', st⟩ := instY Y C.1 C.2.1 C.2.2.1 w eT F (g := mkF m pc Ls (.ref a :: St)) rfl rfl (hb C.2.2.2.1 hd)
  exact OGo.st st (hr T' ⟨e', hn0, _, Y', N⟩)
theorem OGo.instNo (C : Cx p s m c Z own by0 ml) (X : Sd p l e R s m args below meth c n0 T h cells slots) {Kn Cn : String} {idx : Nat} {a : Addr} (w : (Jvm.Cond.classLink own idx Kn).before a0 Z = true) (E : Exa Z h a Cn) (F : ∃ c t, Z.vm.findClass Cn = some c ∧ Z.vm.findClass Kn = some t ∧ Z.vm.assignable c t = false) (hd : decode by0 pc = .ok (.instanceof idx, 3)) (hp : pc + 3 = pc')
    (hr : ∀ T', Sd p l e R s m args below meth c n0 T' h cells slots → OGo p e below K T' (mkF m pc' Ls (.int 0 :: St))) : OGo p e below K T (mkF m pc Ls (.ref a :: St)) := by
  subst hp
  obtain ⟨eT, hn0, locs, Y, N⟩ := X
  obtain ⟨T', Y', e', st⟩ := RoadKit.instNo Y C.1 C.2.1 C.2.2.1 w eT E F (g := mkF m pc Ls (.ref a :: St)) rfl rfl (hb C.2.2.2.1 hd)
  exact OGo.st st (hr T' ⟨e', hn0, _, Y', N⟩)
theorem OGo.initObj (C : Cx p s m c Z own by0 ml) (X : Sd p l e R s m args below meth c n0 T h cells slots) {idx : Nat} {a : Addr} (w1 : (Jvm.Cond.methodLink own idx Lib.objectInit).before a0 Z = true) (w2 : (Jvm.Cond.instanceMethod Lib.objectInit).before a0 Z = true) (w3 : (Jvm.Cond.code Lib.objectInit ⟨#[0xb1]⟩ 1 none).before a0 Z = true) (hd : decode by0 pc = .ok (.invokespecial idx, 3)) (hp : pc + 3 = pc') (hsz : Ls.size = ml) (hf : 1 ≤ R.frames) (hl : (St.map fun v => v.category).sum + 12 ≤ R.locals)
    (hr : ∀ T', Sd p l e R s m args below meth c n0 T' h cells slots → OGo p e below K T' (mkF m pc' Ls St)) : OGo p e below K T (mkF m pc Ls (.ref a :: St)) := by
  subst hp
  obtain ⟨eT, hn0, locs, Y, N⟩ := X
  obtain ⟨T', Y', e', st⟩ := initO Y C.1 C.2.1 C.2.2.1 w1 w2 w3 eT (g := mkF m pc Ls (.ref a :: St)) rfl (by rw [C.2.2.2.2]; exact hsz) rfl (hb C.2.2.2.1 hd) hf (W := (St.map fun v => v.category).sum) (by show 2 * 0 + _ ≤ _; omega) hl
  exact OGo.st st (hr T' ⟨e', hn0, _, Y', N⟩)
theorem OGo.ret (C : Cx p s m c Z own by0 ml) (X : Sd p l e R s m args below meth c n0 T h cells slots)  {Q : Option Value → Heap → Prop} {nc ns : Nat} (hd : decode by0 pc = .ok (.return_, 1)) (hret : meth.sig.returnType = none) (hlk : meth.locks = false) (hQ : Q (none) h) (hc : cells ≤ nc) (hs : slots ≤ ns) : OGo p e below (Kk s below n0 Q nc ns) T (mkF m pc Ls ([])) := by
  obtain ⟨eT, hn0, locs, Y, N⟩ := X
  obtain ⟨fs, hr, hrun, hended, hW, hsame⟩ := Y.leave (v := none) (fun hh => by rfl) hlk
  exact ⟨_, _, Y.returnOut C.1 hret (hb C.2.2.2.1 hd) hr, hrun, hended, _, locs, rfl, ⟨by show Q _ T.heap; rw [eT]; exact hQ, N⟩, ⟨_, rfl⟩, hW, hsame.mono hc hs⟩
theorem OGo.retInt (C : Cx p s m c Z own by0 ml) (X : Sd p l e R s m args below meth c n0 T h cells slots) {z : Int32} {rest : List Value} {Q : Option Value → Heap → Prop} {nc ns : Nat} (hd : decode by0 pc = .ok (.ireturn, 1)) (hret : meth.sig.returnType = some .int) (hlk : meth.locks = false) (hQ : Q (some (.int z)) h) (hc : cells ≤ nc) (hs : slots ≤ ns) : OGo p e below (Kk s below n0 Q nc ns) T (mkF m pc Ls (.int z :: rest)) := by
  obtain ⟨eT, hn0, locs, Y, N⟩ := X
  obtain ⟨fs, hr, hrun, hended, hW, hsame⟩ := Y.leave (v := some (.int z)) (fun hh => by rw [hret] at hh; cases hh) hlk
  exact ⟨_, _, retOut Y C.1 (i := .ireturn) hret rfl (Or.inl ⟨rfl, Or.inl rfl, _, rfl⟩) (hb C.2.2.2.1 hd) hr, hrun, hended, _, locs, rfl, ⟨by show Q _ T.heap; rw [eT]; exact hQ, N⟩, ⟨_, rfl⟩, hW, hsame.mono hc hs⟩
theorem OGo.retN (C : Cx p s m c Z own by0 ml) (X : Sd p l e R s m args below meth c n0 T h cells slots) {z z' : Int32} {rest : List Value} {t : FieldType} {Q : Option Value → Heap → Prop} {nc ns : Nat} (hd : decode by0 pc = .ok (.ireturn, 1)) (hret : meth.sig.returnType = some t) (ht : t = .boolean ∨ t = .byte ∨ t = .char ∨ t = .short) (hz : nar t z = z') (hlk : meth.locks = false) (hQ : Q (some (.int z')) h) (hc : cells ≤ nc) (hs : slots ≤ ns) : OGo p e below (Kk s below n0 Q nc ns) T (mkF m pc Ls (.int z :: rest)) := by
  subst hz
  obtain ⟨eT, hn0, locs, Y, N⟩ := X
  obtain ⟨fs, hr, hrun, hended, hW, hsame⟩ := Y.leave (v := some (.int (nar t z))) (fun hh => by rw [hret] at hh; cases hh) hlk
  exact ⟨_, _, RoadKit.retN Y C.1 hret ht (hb C.2.2.2.1 hd) hr, hrun, hended, _, locs, rfl, ⟨by show Q _ T.heap; rw [eT]; exact hQ, N⟩, ⟨_, rfl⟩, hW, hsame.mono hc hs⟩
theorem OGo.retD (C : Cx p s m c Z own by0 ml) (X : Sd p l e R s m args below meth c n0 T h cells slots) {z : UInt64} {rest : List Value} {Q : Option Value → Heap → Prop} {nc ns : Nat} (hd : decode by0 pc = .ok (.dreturn, 1)) (hret : meth.sig.returnType = some .double) (hlk : meth.locks = false) (hQ : Q (some (.double z)) h) (hc : cells ≤ nc) (hs : slots ≤ ns) : OGo p e below (Kk s below n0 Q nc ns) T (mkF m pc Ls (.double z :: rest)) := by
  obtain ⟨eT, hn0, locs, Y, N⟩ := X
  obtain ⟨fs, hr, hrun, hended, hW, hsame⟩ := Y.leave (v := some (.double z)) (fun hh => by rw [hret] at hh; cases hh) hlk
  exact ⟨_, _, retOut Y C.1 (i := .dreturn) hret rfl (Or.inr (Or.inr (Or.inl ⟨rfl, rfl, _, rfl⟩))) (hb C.2.2.2.1 hd) hr, hrun, hended, _, locs, rfl, ⟨by show Q _ T.heap; rw [eT]; exact hQ, N⟩, ⟨_, rfl⟩, hW, hsame.mono hc hs⟩
theorem OGo.retL (C : Cx p s m c Z own by0 ml) (X : Sd p l e R s m args below meth c n0 T h cells slots) {z : Int64} {rest : List Value} {Q : Option Value → Heap → Prop} {nc ns : Nat} (hd : decode by0 pc = .ok (.lreturn, 1)) (hret : meth.sig.returnType = some .long) (hlk : meth.locks = false) (hQ : Q (some (.long z)) h) (hc : cells ≤ nc) (hs : slots ≤ ns) : OGo p e below (Kk s below n0 Q nc ns) T (mkF m pc Ls (.long z :: rest)) := by
  obtain ⟨eT, hn0, locs, Y, N⟩ := X
  obtain ⟨fs, hr, hrun, hended, hW, hsame⟩ := Y.leave (v := some (.long z)) (fun hh => by rw [hret] at hh; cases hh) hlk
  exact ⟨_, _, retOut Y C.1 (i := .lreturn) hret rfl (Or.inr (Or.inl ⟨rfl, rfl, _, rfl⟩)) (hb C.2.2.2.1 hd) hr, hrun, hended, _, locs, rfl, ⟨by show Q _ T.heap; rw [eT]; exact hQ, N⟩, ⟨_, rfl⟩, hW, hsame.mono hc hs⟩
theorem OGo.retA (C : Cx p s m c Z own by0 ml) (X : Sd p l e R s m args below meth c n0 T h cells slots) {z : Value} {rest : List Value} {t : FieldType} {Q : Option Value → Heap → Prop} {nc ns : Nat} (hd : decode by0 pc = .ok (.areturn, 1)) (hret : meth.sig.returnType = some t) (ht : t.isReference = true) (hz : z.isRef = true) (hlk : meth.locks = false) (hQ : Q (some z) h) (hc : cells ≤ nc) (hs : slots ≤ ns) : OGo p e below (Kk s below n0 Q nc ns) T (mkF m pc Ls (z :: rest)) := by
  obtain ⟨eT, hn0, locs, Y, N⟩ := X
  obtain ⟨fs, hr, hrun, hended, hW, hsame⟩ := Y.leave (v := some z) (fun hh => by rw [hret] at hh; cases hh) hlk
  exact ⟨_, _, retOut Y C.1 (i := .areturn) hret (by rcases ref_cases hz with rfl | ⟨b, rfl⟩ <;> cases t <;> first | rfl | cases ht) (Or.inr (Or.inr (Or.inr (Or.inr ⟨rfl, ht, hz⟩)))) (hb C.2.2.2.1 hd) hr, hrun, hended, _, locs, rfl, ⟨by show Q _ T.heap; rw [eT]; exact hQ, N⟩, ⟨_, rfl⟩, hW, hsame.mono hc hs⟩
theorem backC {y : MethodName} {cb : ByteArray} {cml : Nat} {ret : Option FieldType} {rm : Room} {as' : Array Value} {Q : Option Value → Heap → Prop} {len W : Nat} (hM : Ctr l Z y cb cml ret rm n0 as' h Q) (hZ : Z.Warmed39 s.vm) (wc : (Jvm.Cond.code y cb cml ret).before a0 Z = true) (wz : (Jvm.Cond.initialized y.cls).before a0 Z = true) (hf : rm.frames + 1 ≤ R.frames) (hl : W + (cml + 11) + rm.locals ≤ R.locals) :
    Back l R p e below s args y len W (fun A a => a = as' ∧ A.U.heap = h ∧ A.cells + rm.cells ≤ R.cells ∧ A.slots + rm.slots ≤ R.slots) (fun A _ v B => ∃ L, ((Q v B.U.heap ∧ h.size ≤ B.U.heap.size) ∧ Fr n0 L) ∧ B.locs = A.locs ++ L ∧ B.cells = A.cells + rm.cells ∧ B.slots = A.slots + rm.slots) :=
  backOf (Q := fun v h' L => (Q v h' ∧ h.size ≤ h'.size) ∧ Fr n0 L) (hM []) hZ wc wz hf hl
theorem OGo.callS (C : Cx p s m c Z own by0 ml) (X : Sd p l e R s m args below meth c n0 T h cells slots) {y : MethodName} {cb : ByteArray} {cml : Nat} {ret : Option FieldType} {rm : Room} {as' : Array Value} {Q : Option Value → Heap → Prop} {idx : Nat}  (w1 : (Jvm.Cond.methodLink own idx y).before a0 Z = true) (w2 : (Jvm.Cond.static y).before a0 Z = true) (hy : y.cls ≠ "java/lang/invoke/MethodHandle" ∧ y.cls ≠ "java/lang/invoke/VarHandle") (w4 : (Jvm.Cond.code y cb cml ret).before a0 Z = true) (w5 : (Jvm.Cond.initialized y.cls).before a0 Z = true) (hM : Ctr l Z y cb cml ret rm n0 as' h Q) {argsL : List Value} (hlen : ∀ sig, parseMethodDescriptor y.desc = some sig → argsL.length = sig.parameters.length) (has : argsL.toArray = as') (hd : decode by0 pc = .ok (.invokestatic idx, 3)) (hp : pc + 3 = pc') (hsz : Ls.size = ml) (hf : rm.frames + 1 ≤ R.frames) (hl : (St.map fun v => v.category).sum + (cml + 11) + rm.locals ≤ R.locals) (hc' : cells + rm.cells = cells') (hs' : slots + rm.slots = slots') (hc : cells' ≤ R.cells) (hs : slots' ≤ R.slots)
    (hr : ∀ v T' h', Q v h' → Sd p l e R s m args below meth c n0 T' h' cells' slots' → h.size ≤ h'.size → OGo p e below K T' (mkF m pc' Ls (v.toList ++ St))) : OGo p e below K T (mkF m pc Ls (argsL.reverse ++ St)) := by
  subst hp hc' hs' has
  obtain ⟨eT, hn0, locs, Y, N⟩ := X
  have hK := backC (args := args) (p := p) (e := e) (below := below) (R := R) (len := 3) (W := (St.map fun v => v.category).sum) hM C.2.1 w4 w5 hf hl
  obtain ⟨v, _, ⟨B, L2, k2, n2⟩, -, Y', ⟨L, hQ, l1, y1, z1⟩, st⟩ := Jvm.LawKit.callS Y C.1 (y := y) C.2.2.1 (mvT C.2.1 w1) (mvT C.2.1 w2) (mvT C.2.1 w5) (mvT C.2.1 w4) hy hK (g := mkF m pc Ls (argsL.reverse ++ St)) rfl (by rw [C.2.2.2.2]; exact hsz) (argsL := argsL) (rest := St) hlen rfl (by show 2 * 0 + _ ≤ _; omega) (hb C.2.2.2.1 hd) (fun _ _ => ⟨rfl, eT, hc, hs⟩)
  dsimp only [Pt.U, Pt.locs, Pt.cells, Pt.slots] at Y' l1 y1 z1 st hQ
  subst l1 y1 z1
  obtain ⟨⟨hQ, hge⟩, hF⟩ := hQ
  exact OGo.st st (hr v B B.heap hQ ⟨rfl, Nat.le_trans hn0 hge, _, Y', N.app hF⟩ hge)
theorem OGo.callInit (C : Cx p s m c Z own by0 ml) (X : Sd p l e R s m args below meth c n0 T h cells slots) {y : MethodName} {cb : ByteArray} {cml : Nat} {ret : Option FieldType} {rm : Room} {as' : Array Value} {Q : Option Value → Heap → Prop} {idx : Nat} {a : Addr} (hy1 : y.name = "<init>") (hrn : ret = none) (w1 : (Jvm.Cond.methodLink own idx y).before a0 Z = true) (w2 : (Jvm.Cond.instanceMethod y).before a0 Z = true) (hy : y.cls ≠ "java/lang/invoke/MethodHandle" ∧ y.cls ≠ "java/lang/invoke/VarHandle") (w4 : (Jvm.Cond.code y cb cml ret).before a0 Z = true) (w5 : (Jvm.Cond.initialized y.cls).before a0 Z = true) (hM : Ctr l Z y cb cml ret rm n0 as' h Q) {argsL : List Value} (hlen : ∀ sig, parseMethodDescriptor y.desc = some sig → argsL.length = sig.parameters.length) (has : (Value.ref a :: argsL).toArray = as') (hd : decode by0 pc = .ok (.invokespecial idx, 3)) (hp : pc + 3 = pc') (hsz : Ls.size = ml) (hf : rm.frames + 1 ≤ R.frames) (hl : (St.map fun v => v.category).sum + (cml + 11) + rm.locals ≤ R.locals) (hc' : cells + rm.cells = cells') (hs' : slots + rm.slots = slots') (hc : cells' ≤ R.cells) (hs : slots' ≤ R.slots)
    (hr : ∀ v T' h', Q v h' → Sd p l e R s m args below meth c n0 T' h' cells' slots' → h.size ≤ h'.size → OGo p e below K T' (mkF m pc' Ls (v.toList ++ St))) : OGo p e below K T (mkF m pc Ls (argsL.reverse ++ Value.ref a :: St)) := by
  subst hp hc' hs' has
  obtain ⟨eT, hn0, locs, Y, N⟩ := X
  have hK := backC (args := args) (p := p) (e := e) (below := below) (R := R) (len := 3) (W := (St.map fun v => v.category).sum) hM C.2.1 w4 w5 hf hl
  obtain ⟨v, _, ⟨B, L2, k2, n2⟩, -, Y', ⟨L, hQ, l1, y1, z1⟩, st⟩ := Y.specialBack C.1 (y := y) hy1 C.2.2.1 (mvT C.2.1 w1) (mvT C.2.1 w2) (mvT C.2.1 (hrn ▸ w4)) hy hK (g := mkF m pc Ls (argsL.reverse ++ Value.ref a :: St)) rfl (by rw [C.2.2.2.2]; exact hsz) (Steps.refl _) (a := a) (argsL := argsL) (rest := St) hlen rfl (by show 2 * 0 + _ ≤ _; omega) (hb C.2.2.2.1 hd) (fun _ _ => ⟨rfl, eT, hc, hs⟩)
  dsimp only [Pt.U, Pt.locs, Pt.cells, Pt.slots] at Y' l1 y1 z1 st hQ
  subst l1 y1 z1
  obtain ⟨⟨hQ, hge⟩, hF⟩ := hQ
  exact OGo.tr st (hr v B B.heap hQ ⟨rfl, Nat.le_trans hn0 hge, _, Y', N.app hF⟩ hge)
theorem OGo.callV (C : Cx p s m c Z own by0 ml) (X : Sd p l e R s m args below meth c n0 T h cells slots) {y : MethodName} {cb : ByteArray} {cml : Nat} {ret : Option FieldType} {rm : Room} {as' : Array Value} {Q : Option Value → Heap → Prop} {idx : Nat} {a : Addr} {Cn : String} (w1 : (Jvm.Cond.methodLink own idx y).before a0 Z = true) (w2 : (Jvm.Cond.declares y).before a0 Z = true) (w3 : (Jvm.Cond.selects Cn y y).before a0 Z = true) (w6 : (Jvm.Cond.instanceMethod y).before a0 Z = true) (hy : y.cls ≠ "java/lang/invoke/MethodHandle" ∧ y.cls ≠ "java/lang/invoke/VarHandle") (E : Exa Z h a Cn) (w4 : (Jvm.Cond.code y cb cml ret).before a0 Z = true) (w5 : (Jvm.Cond.initialized y.cls).before a0 Z = true) (hM : Ctr l Z y cb cml ret rm n0 as' h Q) {argsL : List Value} (hlen : ∀ sig, parseMethodDescriptor y.desc = some sig → argsL.length = sig.parameters.length) (has : (Value.ref a :: argsL).toArray = as') (hd : decode by0 pc = .ok (.invokevirtual idx, 3)) (hp : pc + 3 = pc') (hsz : Ls.size = ml) (hf : rm.frames + 1 ≤ R.frames) (hl : (St.map fun v => v.category).sum + (cml + 11) + rm.locals ≤ R.locals) (hc' : cells + rm.cells = cells') (hs' : slots + rm.slots = slots') (hc : cells' ≤ R.cells) (hs : slots' ≤ R.slots)
    (hr : ∀ v T' h', Q v h' → Sd p l e R s m args below meth c n0 T' h' cells' slots' → h.size ≤ h'.size → OGo p e below K T' (mkF m pc' Ls (v.toList ++ St))) : OGo p e below K T (mkF m pc Ls (argsL.reverse ++ Value.ref a :: St)) := by
  subst hp hc' hs' has
  obtain ⟨eT, hn0, locs, Y, N⟩ := X
  have hK := backC (args := args) (p := p) (e := e) (below := below) (R := R) (len := 3) (W := (St.map fun v => v.category).sum) hM C.2.1 w4 w5 hf hl
  obtain ⟨v, _, ⟨B, L2, k2, n2⟩, -, Y', ⟨L, hQ, l1, y1, z1⟩, st⟩ := (let ⟨_, _, q1, _, q3⟩ := isOf C.2.1 eT E; Y.virtualBack C.1 (y := y) (z := y) C.2.2.1 (mvT C.2.1 w1) (mvT C.2.1 w2) (notFace_of_selects (args := #[]) (mvT C.2.1 w3)) (mvT C.2.1 w3) (mvT C.2.1 w6) hy hK q1 q3 (g := mkF m pc Ls (argsL.reverse ++ Value.ref a :: St)) rfl (by rw [C.2.2.2.2]; exact hsz) (Steps.refl _) (argsL := argsL) (rest := St) hlen rfl (by show 2 * 0 + _ ≤ _; omega) (hb C.2.2.2.1 hd) (fun _ _ => ⟨rfl, eT, hc, hs⟩))
  dsimp only [Pt.U, Pt.locs, Pt.cells, Pt.slots] at Y' l1 y1 z1 st hQ
  subst l1 y1 z1
  obtain ⟨⟨hQ, hge⟩, hF⟩ := hQ
  exact OGo.tr st (hr v B B.heap hQ ⟨rfl, Nat.le_trans hn0 hge, _, Y', N.app hF⟩ hge)
theorem OGo.callV2 (C : Cx p s m c Z own by0 ml) (X : Sd p l e R s m args below meth c n0 T h cells slots) {y : MethodName} {cb : ByteArray} {cml : Nat} {ret : Option FieldType} {rm : Room} {as' : Array Value} {Q : Option Value → Heap → Prop} {idx : Nat} {yr : MethodName} {a : Addr} {Cn : String} (w1 : (Jvm.Cond.methodLink own idx yr).before a0 Z = true) (w2 : (Jvm.Cond.declares yr).before a0 Z = true) (hnf : NotFace s yr) (w3 : (Jvm.Cond.selects Cn yr y).before a0 Z = true) (w6 : (Jvm.Cond.instanceMethod y).before a0 Z = true) (hy : yr.cls ≠ "java/lang/invoke/MethodHandle" ∧ yr.cls ≠ "java/lang/invoke/VarHandle") (hds : yr.desc = y.desc) (E : Exa Z h a Cn) (w4 : (Jvm.Cond.code y cb cml ret).before a0 Z = true) (w5 : (Jvm.Cond.initialized y.cls).before a0 Z = true) (hM : Ctr l Z y cb cml ret rm n0 as' h Q) {argsL : List Value} (hlen : ∀ sig, parseMethodDescriptor y.desc = some sig → argsL.length = sig.parameters.length) (has : (Value.ref a :: argsL).toArray = as') (hd : decode by0 pc = .ok (.invokevirtual idx, 3)) (hp : pc + 3 = pc') (hsz : Ls.size = ml) (hf : rm.frames + 1 ≤ R.frames) (hl : (St.map fun v => v.category).sum + (cml + 11) + rm.locals ≤ R.locals) (hc' : cells + rm.cells = cells') (hs' : slots + rm.slots = slots') (hc : cells' ≤ R.cells) (hs : slots' ≤ R.slots)
    (hr : ∀ v T' h', Q v h' → Sd p l e R s m args below meth c n0 T' h' cells' slots' → h.size ≤ h'.size → OGo p e below K T' (mkF m pc' Ls (v.toList ++ St))) : OGo p e below K T (mkF m pc Ls (argsL.reverse ++ Value.ref a :: St)) := by
  subst hp hc' hs' has
  obtain ⟨eT, hn0, locs, Y, N⟩ := X
  have hK := backC (args := args) (p := p) (e := e) (below := below) (R := R) (len := 3) (W := (St.map fun v => v.category).sum) hM C.2.1 w4 w5 hf hl
  obtain ⟨v, _, ⟨B, L2, k2, n2⟩, -, Y', ⟨L, hQ, l1, y1, z1⟩, st⟩ := (let ⟨_, _, q1, _, q3⟩ := isOf C.2.1 eT E; Y.virtualBack C.1 (y := yr) (z := y) C.2.2.1 (mvT C.2.1 w1) (mvT C.2.1 w2) hnf (mvT C.2.1 w3) (mvT C.2.1 w6) hy hK q1 q3 (g := mkF m pc Ls (argsL.reverse ++ Value.ref a :: St)) rfl (by rw [C.2.2.2.2]; exact hsz) (Steps.refl _) (argsL := argsL) (rest := St) (hds ▸ hlen) rfl (by show 2 * 0 + _ ≤ _; omega) (hb C.2.2.2.1 hd) (fun _ _ => ⟨rfl, eT, hc, hs⟩))
  dsimp only [Pt.U, Pt.locs, Pt.cells, Pt.slots] at Y' l1 y1 z1 st hQ
  subst l1 y1 z1
  obtain ⟨⟨hQ, hge⟩, hF⟩ := hQ
  exact OGo.tr st (hr v B B.heap hQ ⟨rfl, Nat.le_trans hn0 hge, _, Y', N.app hF⟩ hge)
theorem OGo.clone (C : Cx p s m c Z own by0 ml) (X : Sd p l e R s m args below meth c n0 T h cells slots) {ad : String} {idx : Nat} {a : Addr} {k : ClassId} {ty : FieldType} {z : Int32} {vs : List Value} {dv : Value} {cap : Nat} (w1 : (Jvm.Cond.methodLink own idx ⟨ad, "clone", "()Ljava/lang/Object;"⟩).before a0 Z = true) (w2 : (Jvm.Cond.sameMethod ad "java/lang/Object" "clone" "()Ljava/lang/Object;").before a0 Z = true) (w3 : (Jvm.Cond.native ⟨"java/lang/Object", "clone", "()Ljava/lang/Object;"⟩).before a0 Z = true)
    (w4 : (Jvm.Cond.instanceMethod ⟨"java/lang/Object", "clone", "()Ljava/lang/Object;"⟩).before a0 Z = true) (w5 : (Jvm.Cond.selects ad ⟨ad, "clone", "()Ljava/lang/Object;"⟩ ⟨"java/lang/Object", "clone", "()Ljava/lang/Object;"⟩).before a0 Z = true) (w6 : (Jvm.Cond.castable ad "java/lang/Cloneable").before a0 Z = true) (V : Arv Z h a k ty z vs dv) (E : Exa Z h a ad)
    (hd : decode by0 pc = .ok (.invokevirtual idx, 3)) (hp : pc + 3 = pc') (hsz : Ls.size = ml) (hf : 1 ≤ R.frames) (hl : (St.map fun v => v.category).sum + 14 ≤ R.locals) (hcap : z.toNatClampNeg ≤ cap) (hc' : cells + 1 = cells') (hs' : slots + cap = slots') (hc : cells' ≤ R.cells) (hs : slots' ≤ R.slots)
    (hr : ∀ T' h' b, Sd p l e R s m args below meth c n0 T' h' cells' slots' → b = h.size → n0 ≤ b → Ext h h' → Arv Z h' b k ty z vs dv → Exa Z h' b ad → OGo p e below K T' (mkF m pc' Ls (.ref b :: St))) : OGo p e below K T (mkF m pc Ls (.ref a :: St)) := by
  subst hp hc' hs'
  obtain ⟨eT, hn0, locs, Y, N⟩ := X
  obtain ⟨T', h', Y', e', Ex, A, EE, st⟩ := cloneH Y C.1 C.2.1 C.2.2.1 w1 w2 w3 w4 w5 w6 eT (Arv.arh V) E (g := mkF m pc Ls (.ref a :: St)) rfl (by rw [C.2.2.2.2]; exact hsz) rfl (hb C.2.2.2.1 hd) hf (W := (St.map fun v => v.category).sum) (by show 2 * 0 + _ ≤ _; omega) hl hcap hc hs
  exact OGo.st st (hr T' h' _ ⟨e', Nat.le_trans hn0 Ex.1, _, Y', N⟩ rfl hn0 Ex A EE)
theorem priv_selects {y : MethodName} {k : Nat} (hZ : Z.Warmed39 s.vm) (w2 : (Jvm.Cond.instanceMethod y).before a0 Z = true) (w3 : (Jvm.Cond.privateMethod y).before a0 Z = true) (wi : (Jvm.Cond.instantiable y.cls k).before a0 Z = true) (hy : y.cls ≠ "java/lang/invoke/MethodHandle" ∧ y.cls ≠ "java/lang/invoke/VarHandle") : (Jvm.Cond.selects y.cls y y).before args s = true := by
  obtain ⟨c, k, h1, h2, -, h4, -⟩ := Cond.instantiable_spec (show (Jvm.Cond.instantiable y.cls k).before args s = true from mvT hZ wi)
  have h5 : k.isInterface = false := by
    cases hq : k.isInterface
    · rfl
    · rw [hq] at h4; cases h4
  exact selects_self_of_private h1 h2 h5 (Cond.privateMethod_at (mvP hZ w3 (args := #[]))) (mvT hZ w2) hy
theorem OGo.callPriv (C : Cx p s m c Z own by0 ml) (X : Sd p l e R s m args below meth c n0 T h cells slots) {y : MethodName} {cb : ByteArray} {cml : Nat} {ret : Option FieldType} {rm : Room} {as' : Array Value} {Q : Option Value → Heap → Prop} {idx : Nat} {a : Addr} {Cn : String} {kk : Nat} (w1 : (Jvm.Cond.methodLink own idx y).before a0 Z = true) (w2 : (Jvm.Cond.instanceMethod y).before a0 Z = true) (w3 : (Jvm.Cond.privateMethod y).before a0 Z = true) (wi : (Jvm.Cond.instantiable y.cls kk).before a0 Z = true) (hy : y.cls ≠ "java/lang/invoke/MethodHandle" ∧ y.cls ≠ "java/lang/invoke/VarHandle") (E : Exa Z h a Cn) (w4 : (Jvm.Cond.code y cb cml ret).before a0 Z = true) (w5 : (Jvm.Cond.initialized y.cls).before a0 Z = true) (hM : Ctr l Z y cb cml ret rm n0 as' h Q) {argsL : List Value} (hlen : ∀ sig, parseMethodDescriptor y.desc = some sig → argsL.length = sig.parameters.length) (has : (Value.ref a :: argsL).toArray = as') (hd : decode by0 pc = .ok (.invokevirtual idx, 3)) (hp : pc + 3 = pc') (hsz : Ls.size = ml) (hf : rm.frames + 1 ≤ R.frames) (hl : (St.map fun v => v.category).sum + (cml + 11) + rm.locals ≤ R.locals) (hc' : cells + rm.cells = cells') (hs' : slots + rm.slots = slots') (hc : cells' ≤ R.cells) (hs : slots' ≤ R.slots)
    (hr : ∀ v T' h', Q v h' → Sd p l e R s m args below meth c n0 T' h' cells' slots' → h.size ≤ h'.size → OGo p e below K T' (mkF m pc' Ls (v.toList ++ St))) : OGo p e below K T (mkF m pc Ls (argsL.reverse ++ Value.ref a :: St)) := by
  subst hp hc' hs' has
  obtain ⟨eT, hn0, locs, Y, N⟩ := X
  have hK := backC (args := args) (p := p) (e := e) (below := below) (R := R) (len := 3) (W := (St.map fun v => v.category).sum) hM C.2.1 w4 w5 hf hl
  obtain ⟨v, _, ⟨B, L2, k2, n2⟩, -, Y', ⟨L, hQ, l1, y1, z1⟩, st⟩ := (let ⟨_, q1, q2⟩ := E.cell; Y.privateBack C.1 (y := y) C.2.2.1 (mvT C.2.1 w1) (mvT C.2.1 w2) (priv_selects C.2.1 w2 w3 wi hy) (Cond.privateMethod_at (mvP C.2.1 w3 (args := #[]))) (mvT C.2.1 w4) hy hK (g := mkF m pc Ls (argsL.reverse ++ Value.ref a :: St)) rfl (by rw [C.2.2.2.2]; exact hsz) (Steps.refl _) (a := a) (by rw [eT]; exact q1) q2 (argsL := argsL) (rest := St) hlen rfl (by show 2 * 0 + _ ≤ _; omega) (hb C.2.2.2.1 hd) (fun _ _ => ⟨rfl, eT, hc, hs⟩))
  dsimp only [Pt.U, Pt.locs, Pt.cells, Pt.slots] at Y' l1 y1 z1 st hQ
  subst l1 y1 z1
  obtain ⟨⟨hQ, hge⟩, hF⟩ := hQ
  exact OGo.tr st (hr v B B.heap hQ ⟨rfl, Nat.le_trans hn0 hge, _, Y', N.app hF⟩ hge)
theorem OGo.natS (C : Cx p s m c Z own by0 ml) (X : Sd p l e R s m args below meth c n0 T h cells slots) {y : MethodName} {cb : ByteArray} {cml : Nat} {rt : Option FieldType} {idx : Nat} {val : Value} {F : Array Value → Prop} (w1 : (Jvm.Cond.methodLink own idx y).before a0 Z = true) (w2 : (Jvm.Cond.static y).before a0 Z = true) (w3 : (Jvm.Cond.initialized y.cls).before a0 Z = true) (w4 : (Jvm.Cond.code y cb cml rt).before a0 Z = true) (hy : y.cls ≠ "java/lang/invoke/MethodHandle" ∧ y.cls ≠ "java/lang/invoke/VarHandle")
    {argsL : List Value} (hlen : ∀ sig, parseMethodDescriptor y.desc = some sig → argsL.length = sig.parameters.length) (hd : decode by0 pc = .ok (.invokestatic idx, 3)) (hp : pc + 3 = pc') (hsz : Ls.size = ml) (hc : cells ≤ R.cells) (hs : slots ≤ R.slots)
    (hK : (Jvm.Cond.code y cb cml rt).before args s = true → Back l R p e below s args y 3 ((St.map fun v => v.category).sum) (fun A a' => A.cells ≤ R.cells ∧ A.slots ≤ R.slots ∧ F a') (fun A _ v B => v = some val ∧ B = A)) (hF : F argsL.toArray)
    (hr : ∀ T', Sd p l e R s m args below meth c n0 T' h cells slots → OGo p e below K T' (mkF m pc' Ls (val :: St))) : OGo p e below K T (mkF m pc Ls (argsL.reverse ++ St)) := by
  subst hp
  obtain ⟨eT, hn0, locs, Y, N⟩ := X
  obtain ⟨T', Y', e', st⟩ := RoadKit.natS Y C.1 C.2.1 C.2.2.1 w1 w2 w3 w4 hy eT hK (g := mkF m pc Ls (argsL.reverse ++ St)) rfl (by rw [C.2.2.2.2]; exact hsz) hlen rfl (by show 2 * 0 + _ ≤ _; omega) (hb C.2.2.2.1 hd) hc hs hF rfl
  exact OGo.st st (hr T' ⟨e', hn0, _, Y', N⟩)
end OwnGo
end Jvm.Pilot.@@N@@
namespace Jvm.Pilot.@@N@@
open Jvm Jvm.ClassFile Sem Op Lib Jvm.Free Jvm.Stand Jvm.LawKit Jvm.RoadKit Jvm.Free.Fl Bundle Jvm.Pilot.@@N@@.Jvm.D
abbrev HW (a0 : Array Value) (Z : State) : Prop := ∀ d ∈ tables_1, d.before a0 Z = true
theorem wd0 {a0 : Array Value} {Z : State} (hw : HW a0 Z) : ((Jvm.Cond.constant "com/example/graphtend/graphtend/method/LabelValuesListPinLaw" (7 : Nat) (2147483647 : Int32))).before a0 Z = true := hw _ (List.mem_of_getElem? (i := 0) rfl)
theorem wd1 {a0 : Array Value} {Z : State} (hw : HW a0 Z) : ((Jvm.Cond.constant "com/example/graphtend/graphtend/method/LabelValuesListPinLaw" (8 : Nat) (65535 : Int32))).before a0 Z = true := hw _ (List.mem_of_getElem? (i := 1) rfl)
theorem wd2 {a0 : Array Value} {Z : State} (hw : HW a0 Z) : ((Jvm.Cond.classLink "com/example/graphtend/graphtend/method/LabelValuesListPinLaw" (9 : Nat) "com/example/graphtend/graphtend/method/LabelValues")).before a0 Z = true := hw _ (List.mem_of_getElem? (i := 2) rfl)
theorem wd3 {a0 : Array Value} {Z : State} (hw : HW a0 Z) : ((Jvm.Cond.instantiable "com/example/graphtend/graphtend/method/LabelValues" (5 : Nat))).before a0 Z = true := hw _ (List.mem_of_getElem? (i := 3) rfl)
theorem wd4 {a0 : Array Value} {Z : State} (hw : HW a0 Z) : ((Jvm.Cond.initialized "com/example/graphtend/graphtend/method/LabelValues")).before a0 Z = true := hw _ (List.mem_of_getElem? (i := 4) rfl)
theorem wd5 {a0 : Array Value} {Z : State} (hw : HW a0 Z) : ((Jvm.Cond.methodLink "com/example/graphtend/graphtend/method/LabelValuesListPinLaw" (11 : Nat) ({ cls := "com/example/graphtend/graphtend/method/LabelValues", name := "<init>", desc := "(I)V" } : Jvm.MethodName))).before a0 Z = true := hw _ (List.mem_of_getElem? (i := 5) rfl)
theorem wd6 {a0 : Array Value} {Z : State} (hw : HW a0 Z) : ((Jvm.Cond.instanceMethod ({ cls := "com/example/graphtend/graphtend/method/LabelValues", name := "<init>", desc := "(I)V" } : Jvm.MethodName))).before a0 Z = true := hw _ (List.mem_of_getElem? (i := 6) rfl)
theorem wd7 {a0 : Array Value} {Z : State} (hw : HW a0 Z) : ((Jvm.Cond.code ({ cls := "com/example/graphtend/graphtend/method/LabelValues", name := "<init>", desc := "(I)V" } : Jvm.MethodName) prog_39_method_1_code (2 : Nat) (Option.none : Option Jvm.ClassFile.FieldType))).before a0 Z = true := hw _ (List.mem_of_getElem? (i := 7) rfl)
theorem wd8 {a0 : Array Value} {Z : State} (hw : HW a0 Z) : ((Jvm.Cond.methodLink "com/example/graphtend/graphtend/method/LabelValues" (1 : Nat) ({ cls := "java/lang/Object", name := "<init>", desc := "()V" } : Jvm.MethodName))).before a0 Z = true := hw _ (List.mem_of_getElem? (i := 8) rfl)
theorem wd9 {a0 : Array Value} {Z : State} (hw : HW a0 Z) : ((Jvm.Cond.instanceMethod ({ cls := "java/lang/Object", name := "<init>", desc := "()V" } : Jvm.MethodName))).before a0 Z = true := hw _ (List.mem_of_getElem? (i := 9) rfl)
theorem wd10 {a0 : Array Value} {Z : State} (hw : HW a0 Z) : ((Jvm.Cond.code ({ cls := "java/lang/Object", name := "<init>", desc := "()V" } : Jvm.MethodName) object_method_1_code (1 : Nat) (Option.none : Option Jvm.ClassFile.FieldType))).before a0 Z = true := hw _ (List.mem_of_getElem? (i := 10) rfl)
theorem wd11 {a0 : Array Value} {Z : State} (hw : HW a0 Z) : ((Jvm.Cond.arrayClass Jvm.ClassFile.FieldType.double)).before a0 Z = true := hw _ (List.mem_of_getElem? (i := 11) rfl)
theorem wd12 {a0 : Array Value} {Z : State} (hw : HW a0 Z) : ((Jvm.Cond.fieldLink "com/example/graphtend/graphtend/method/LabelValues" (7 : Nat) "com/example/graphtend/graphtend/method/LabelValues" "values" "[D")).before a0 Z = true := hw _ (List.mem_of_getElem? (i := 12) rfl)
theorem wd13 {a0 : Array Value} {Z : State} (hw : HW a0 Z) : ((Jvm.Cond.laysFinal "com/example/graphtend/graphtend/method/LabelValues" "com/example/graphtend/graphtend/method/LabelValues" "values" "[D")).before a0 Z = true := hw _ (List.mem_of_getElem? (i := 13) rfl)
theorem wd14 {a0 : Array Value} {Z : State} (hw : HW a0 Z) : ((Jvm.Cond.arrayClass Jvm.ClassFile.FieldType.boolean)).before a0 Z = true := hw _ (List.mem_of_getElem? (i := 14) rfl)
theorem wd15 {a0 : Array Value} {Z : State} (hw : HW a0 Z) : ((Jvm.Cond.fieldLink "com/example/graphtend/graphtend/method/LabelValues" (13 : Nat) "com/example/graphtend/graphtend/method/LabelValues" "listed" "[Z")).before a0 Z = true := hw _ (List.mem_of_getElem? (i := 15) rfl)
theorem wd16 {a0 : Array Value} {Z : State} (hw : HW a0 Z) : ((Jvm.Cond.laysFinal "com/example/graphtend/graphtend/method/LabelValues" "com/example/graphtend/graphtend/method/LabelValues" "listed" "[Z")).before a0 Z = true := hw _ (List.mem_of_getElem? (i := 16) rfl)
theorem wd17 {a0 : Array Value} {Z : State} (hw : HW a0 Z) : ((Jvm.Cond.arrayClass Jvm.ClassFile.FieldType.int)).before a0 Z = true := hw _ (List.mem_of_getElem? (i := 17) rfl)
theorem wd18 {a0 : Array Value} {Z : State} (hw : HW a0 Z) : ((Jvm.Cond.fieldLink "com/example/graphtend/graphtend/method/LabelValues" (17 : Nat) "com/example/graphtend/graphtend/method/LabelValues" "labels" "[I")).before a0 Z = true := hw _ (List.mem_of_getElem? (i := 18) rfl)
theorem wd19 {a0 : Array Value} {Z : State} (hw : HW a0 Z) : ((Jvm.Cond.laysFinal "com/example/graphtend/graphtend/method/LabelValues" "com/example/graphtend/graphtend/method/LabelValues" "labels" "[I")).before a0 Z = true := hw _ (List.mem_of_getElem? (i := 19) rfl)
theorem wd20 {a0 : Array Value} {Z : State} (hw : HW a0 Z) : ((Jvm.Cond.methodLink "com/example/graphtend/graphtend/method/LabelValuesListPinLaw" (14 : Nat) ({ cls := "com/example/graphtend/graphtend/method/LabelValues", name := "setRest", desc := "(D)V" } : Jvm.MethodName))).before a0 Z = true := hw _ (List.mem_of_getElem? (i := 20) rfl)
theorem wd21 {a0 : Array Value} {Z : State} (hw : HW a0 Z) : ((Jvm.Cond.declares ({ cls := "com/example/graphtend/graphtend/method/LabelValues", name := "setRest", desc := "(D)V" } : Jvm.MethodName))).before a0 Z = true := hw _ (List.mem_of_getElem? (i := 21) rfl)
theorem wd22 {a0 : Array Value} {Z : State} (hw : HW a0 Z) : ((Jvm.Cond.instanceMethod ({ cls := "com/example/graphtend/graphtend/method/LabelValues", name := "setRest", desc := "(D)V" } : Jvm.MethodName))).before a0 Z = true := hw _ (List.mem_of_getElem? (i := 22) rfl)
theorem wd23 {a0 : Array Value} {Z : State} (hw : HW a0 Z) : ((Jvm.Cond.selects "com/example/graphtend/graphtend/method/LabelValues" ({ cls := "com/example/graphtend/graphtend/method/LabelValues", name := "setRest", desc := "(D)V" } : Jvm.MethodName) ({ cls := "com/example/graphtend/graphtend/method/LabelValues", name := "setRest", desc := "(D)V" } : Jvm.MethodName))).before a0 Z = true := hw _ (List.mem_of_getElem? (i := 23) rfl)
theorem wd24 {a0 : Array Value} {Z : State} (hw : HW a0 Z) : ((Jvm.Cond.code ({ cls := "com/example/graphtend/graphtend/method/LabelValues", name := "setRest", desc := "(D)V" } : Jvm.MethodName) prog_39_method_8_code (3 : Nat) (Option.none : Option Jvm.ClassFile.FieldType))).before a0 Z = true := hw _ (List.mem_of_getElem? (i := 24) rfl)
theorem wd25 {a0 : Array Value} {Z : State} (hw : HW a0 Z) : ((Jvm.Cond.fieldLink "com/example/graphtend/graphtend/method/LabelValues" (34 : Nat) "com/example/graphtend/graphtend/method/LabelValues" "rest" "D")).before a0 Z = true := hw _ (List.mem_of_getElem? (i := 25) rfl)
theorem wd26 {a0 : Array Value} {Z : State} (hw : HW a0 Z) : ((Jvm.Cond.lays "com/example/graphtend/graphtend/method/LabelValues" "com/example/graphtend/graphtend/method/LabelValues" "rest" "D")).before a0 Z = true := hw _ (List.mem_of_getElem? (i := 26) rfl)
theorem wd27 {a0 : Array Value} {Z : State} (hw : HW a0 Z) : ((Jvm.Cond.methodLink "com/example/graphtend/graphtend/method/LabelValuesListPinLaw" (18 : Nat) ({ cls := "com/example/graphtend/graphtend/method/LabelValues", name := "list", desc := "(I)V" } : Jvm.MethodName))).before a0 Z = true := hw _ (List.mem_of_getElem? (i := 27) rfl)
theorem wd28 {a0 : Array Value} {Z : State} (hw : HW a0 Z) : ((Jvm.Cond.declares ({ cls := "com/example/graphtend/graphtend/method/LabelValues", name := "list", desc := "(I)V" } : Jvm.MethodName))).before a0 Z = true := hw _ (List.mem_of_getElem? (i := 28) rfl)
theorem wd29 {a0 : Array Value} {Z : State} (hw : HW a0 Z) : ((Jvm.Cond.instanceMethod ({ cls := "com/example/graphtend/graphtend/method/LabelValues", name := "list", desc := "(I)V" } : Jvm.MethodName))).before a0 Z = true := hw _ (List.mem_of_getElem? (i := 29) rfl)
theorem wd30 {a0 : Array Value} {Z : State} (hw : HW a0 Z) : ((Jvm.Cond.selects "com/example/graphtend/graphtend/method/LabelValues" ({ cls := "com/example/graphtend/graphtend/method/LabelValues", name := "list", desc := "(I)V" } : Jvm.MethodName) ({ cls := "com/example/graphtend/graphtend/method/LabelValues", name := "list", desc := "(I)V" } : Jvm.MethodName))).before a0 Z = true := hw _ (List.mem_of_getElem? (i := 30) rfl)
theorem wd31 {a0 : Array Value} {Z : State} (hw : HW a0 Z) : ((Jvm.Cond.code ({ cls := "com/example/graphtend/graphtend/method/LabelValues", name := "list", desc := "(I)V" } : Jvm.MethodName) prog_39_method_3_code (2 : Nat) (Option.none : Option Jvm.ClassFile.FieldType))).before a0 Z = true := hw _ (List.mem_of_getElem? (i := 31) rfl)
theorem wd32 {a0 : Array Value} {Z : State} (hw : HW a0 Z) : ((Jvm.Cond.fieldLink "com/example/graphtend/graphtend/method/LabelValues" (21 : Nat) "com/example/graphtend/graphtend/method/LabelValues" "count" "I")).before a0 Z = true := hw _ (List.mem_of_getElem? (i := 32) rfl)
theorem wd33 {a0 : Array Value} {Z : State} (hw : HW a0 Z) : ((Jvm.Cond.lays "com/example/graphtend/graphtend/method/LabelValues" "com/example/graphtend/graphtend/method/LabelValues" "count" "I")).before a0 Z = true := hw _ (List.mem_of_getElem? (i := 33) rfl)
theorem wd34 {a0 : Array Value} {Z : State} (hw : HW a0 Z) : ((Jvm.Cond.methodLink "com/example/graphtend/graphtend/method/LabelValuesListPinLaw" (21 : Nat) ({ cls := "com/example/graphtend/graphtend/method/LabelValues", name := "count", desc := "()I" } : Jvm.MethodName))).before a0 Z = true := hw _ (List.mem_of_getElem? (i := 34) rfl)
theorem wd35 {a0 : Array Value} {Z : State} (hw : HW a0 Z) : ((Jvm.Cond.declares ({ cls := "com/example/graphtend/graphtend/method/LabelValues", name := "count", desc := "()I" } : Jvm.MethodName))).before a0 Z = true := hw _ (List.mem_of_getElem? (i := 35) rfl)
theorem wd36 {a0 : Array Value} {Z : State} (hw : HW a0 Z) : ((Jvm.Cond.instanceMethod ({ cls := "com/example/graphtend/graphtend/method/LabelValues", name := "count", desc := "()I" } : Jvm.MethodName))).before a0 Z = true := hw _ (List.mem_of_getElem? (i := 36) rfl)
theorem wd37 {a0 : Array Value} {Z : State} (hw : HW a0 Z) : ((Jvm.Cond.selects "com/example/graphtend/graphtend/method/LabelValues" ({ cls := "com/example/graphtend/graphtend/method/LabelValues", name := "count", desc := "()I" } : Jvm.MethodName) ({ cls := "com/example/graphtend/graphtend/method/LabelValues", name := "count", desc := "()I" } : Jvm.MethodName))).before a0 Z = true := hw _ (List.mem_of_getElem? (i := 37) rfl)
theorem wd38 {a0 : Array Value} {Z : State} (hw : HW a0 Z) : ((Jvm.Cond.code ({ cls := "com/example/graphtend/graphtend/method/LabelValues", name := "count", desc := "()I" } : Jvm.MethodName) prog_39_method_9_code (1 : Nat) (Option.some Jvm.ClassFile.FieldType.int))).before a0 Z = true := hw _ (List.mem_of_getElem? (i := 38) rfl)
theorem wd39 {a0 : Array Value} {Z : State} (hw : HW a0 Z) : ((Jvm.Cond.methodLink "com/example/graphtend/graphtend/method/LabelValuesListPinLaw" (25 : Nat) ({ cls := "com/example/graphtend/graphtend/method/LabelValues", name := "label", desc := "(I)I" } : Jvm.MethodName))).before a0 Z = true := hw _ (List.mem_of_getElem? (i := 39) rfl)
theorem wd40 {a0 : Array Value} {Z : State} (hw : HW a0 Z) : ((Jvm.Cond.declares ({ cls := "com/example/graphtend/graphtend/method/LabelValues", name := "label", desc := "(I)I" } : Jvm.MethodName))).before a0 Z = true := hw _ (List.mem_of_getElem? (i := 40) rfl)
theorem wd41 {a0 : Array Value} {Z : State} (hw : HW a0 Z) : ((Jvm.Cond.instanceMethod ({ cls := "com/example/graphtend/graphtend/method/LabelValues", name := "label", desc := "(I)I" } : Jvm.MethodName))).before a0 Z = true := hw _ (List.mem_of_getElem? (i := 41) rfl)
theorem wd42 {a0 : Array Value} {Z : State} (hw : HW a0 Z) : ((Jvm.Cond.selects "com/example/graphtend/graphtend/method/LabelValues" ({ cls := "com/example/graphtend/graphtend/method/LabelValues", name := "label", desc := "(I)I" } : Jvm.MethodName) ({ cls := "com/example/graphtend/graphtend/method/LabelValues", name := "label", desc := "(I)I" } : Jvm.MethodName))).before a0 Z = true := hw _ (List.mem_of_getElem? (i := 42) rfl)
theorem wd43 {a0 : Array Value} {Z : State} (hw : HW a0 Z) : ((Jvm.Cond.code ({ cls := "com/example/graphtend/graphtend/method/LabelValues", name := "label", desc := "(I)I" } : Jvm.MethodName) prog_39_method_10_code (2 : Nat) (Option.some Jvm.ClassFile.FieldType.int))).before a0 Z = true := hw _ (List.mem_of_getElem? (i := 43) rfl)
theorem wd44 {a0 : Array Value} {Z : State} (hw : HW a0 Z) : ((Jvm.Cond.methodLink "com/example/graphtend/graphtend/method/LabelValuesListPinLaw" (29 : Nat) ({ cls := "com/example/graphtend/graphtend/method/LabelValues", name := "value", desc := "(I)D" } : Jvm.MethodName))).before a0 Z = true := hw _ (List.mem_of_getElem? (i := 44) rfl)
theorem wd45 {a0 : Array Value} {Z : State} (hw : HW a0 Z) : ((Jvm.Cond.declares ({ cls := "com/example/graphtend/graphtend/method/LabelValues", name := "value", desc := "(I)D" } : Jvm.MethodName))).before a0 Z = true := hw _ (List.mem_of_getElem? (i := 45) rfl)
theorem wd46 {a0 : Array Value} {Z : State} (hw : HW a0 Z) : ((Jvm.Cond.instanceMethod ({ cls := "com/example/graphtend/graphtend/method/LabelValues", name := "value", desc := "(I)D" } : Jvm.MethodName))).before a0 Z = true := hw _ (List.mem_of_getElem? (i := 46) rfl)
theorem wd47 {a0 : Array Value} {Z : State} (hw : HW a0 Z) : ((Jvm.Cond.selects "com/example/graphtend/graphtend/method/LabelValues" ({ cls := "com/example/graphtend/graphtend/method/LabelValues", name := "value", desc := "(I)D" } : Jvm.MethodName) ({ cls := "com/example/graphtend/graphtend/method/LabelValues", name := "value", desc := "(I)D" } : Jvm.MethodName))).before a0 Z = true := hw _ (List.mem_of_getElem? (i := 47) rfl)
theorem wd48 {a0 : Array Value} {Z : State} (hw : HW a0 Z) : ((Jvm.Cond.code ({ cls := "com/example/graphtend/graphtend/method/LabelValues", name := "value", desc := "(I)D" } : Jvm.MethodName) prog_39_method_13_code (2 : Nat) (Option.some Jvm.ClassFile.FieldType.double))).before a0 Z = true := hw _ (List.mem_of_getElem? (i := 48) rfl)
theorem wd49 {a0 : Array Value} {Z : State} (hw : HW a0 Z) : ((Jvm.Cond.methodLink "com/example/graphtend/graphtend/method/LabelValuesListPinLaw" (33 : Nat) ({ cls := "com/example/graphtend/graphtend/method/LabelValues", name := "rest", desc := "()D" } : Jvm.MethodName))).before a0 Z = true := hw _ (List.mem_of_getElem? (i := 49) rfl)
theorem wd50 {a0 : Array Value} {Z : State} (hw : HW a0 Z) : ((Jvm.Cond.declares ({ cls := "com/example/graphtend/graphtend/method/LabelValues", name := "rest", desc := "()D" } : Jvm.MethodName))).before a0 Z = true := hw _ (List.mem_of_getElem? (i := 50) rfl)
theorem wd51 {a0 : Array Value} {Z : State} (hw : HW a0 Z) : ((Jvm.Cond.instanceMethod ({ cls := "com/example/graphtend/graphtend/method/LabelValues", name := "rest", desc := "()D" } : Jvm.MethodName))).before a0 Z = true := hw _ (List.mem_of_getElem? (i := 51) rfl)
theorem wd52 {a0 : Array Value} {Z : State} (hw : HW a0 Z) : ((Jvm.Cond.selects "com/example/graphtend/graphtend/method/LabelValues" ({ cls := "com/example/graphtend/graphtend/method/LabelValues", name := "rest", desc := "()D" } : Jvm.MethodName) ({ cls := "com/example/graphtend/graphtend/method/LabelValues", name := "rest", desc := "()D" } : Jvm.MethodName))).before a0 Z = true := hw _ (List.mem_of_getElem? (i := 52) rfl)
theorem wd53 {a0 : Array Value} {Z : State} (hw : HW a0 Z) : ((Jvm.Cond.code ({ cls := "com/example/graphtend/graphtend/method/LabelValues", name := "rest", desc := "()D" } : Jvm.MethodName) prog_39_method_7_code (1 : Nat) (Option.some Jvm.ClassFile.FieldType.double))).before a0 Z = true := hw _ (List.mem_of_getElem? (i := 53) rfl)
theorem d1_0 : decode prog_39_method_1_code 0 = .ok (.aload_n 0, 1) := by decide +kernel
theorem d1_1 : decode prog_39_method_1_code 1 = .ok (.invokespecial 1, 3) := by decide +kernel
theorem d1_4 : decode prog_39_method_1_code 4 = .ok (.aload_n 0, 1) := by decide +kernel
theorem d1_5 : decode prog_39_method_1_code 5 = .ok (.iload_n 1, 1) := by decide +kernel
theorem d1_6 : decode prog_39_method_1_code 6 = .ok (.newarray .double, 2) := by decide +kernel
theorem d1_8 : decode prog_39_method_1_code 8 = .ok (.putfield 7, 3) := by decide +kernel
theorem d1_11 : decode prog_39_method_1_code 11 = .ok (.aload_n 0, 1) := by decide +kernel
theorem d1_12 : decode prog_39_method_1_code 12 = .ok (.iload_n 1, 1) := by decide +kernel
theorem d1_13 : decode prog_39_method_1_code 13 = .ok (.newarray .boolean, 2) := by decide +kernel
theorem d1_15 : decode prog_39_method_1_code 15 = .ok (.putfield 13, 3) := by decide +kernel
theorem d1_18 : decode prog_39_method_1_code 18 = .ok (.aload_n 0, 1) := by decide +kernel
theorem d1_19 : decode prog_39_method_1_code 19 = .ok (.iload_n 1, 1) := by decide +kernel
theorem d1_20 : decode prog_39_method_1_code 20 = .ok (.newarray .int, 2) := by decide +kernel
theorem d1_22 : decode prog_39_method_1_code 22 = .ok (.putfield 17, 3) := by decide +kernel
theorem d1_25 : decode prog_39_method_1_code 25 = .ok (.return_, 1) := by decide +kernel
theorem d3_0 : decode prog_39_method_8_code 0 = .ok (.aload_n 0, 1) := by decide +kernel
theorem d3_1 : decode prog_39_method_8_code 1 = .ok (.dload_n 1, 1) := by decide +kernel
theorem d3_2 : decode prog_39_method_8_code 2 = .ok (.putfield 34, 3) := by decide +kernel
theorem d3_5 : decode prog_39_method_8_code 5 = .ok (.return_, 1) := by decide +kernel
theorem d4_0 : decode prog_39_method_3_code 0 = .ok (.aload_n 0, 1) := by decide +kernel
theorem d4_1 : decode prog_39_method_3_code 1 = .ok (.getfield 13, 3) := by decide +kernel
theorem d4_4 : decode prog_39_method_3_code 4 = .ok (.iload_n 1, 1) := by decide +kernel
theorem d4_5 : decode prog_39_method_3_code 5 = .ok (.baload, 1) := by decide +kernel
theorem d4_6 : decode prog_39_method_3_code 6 = .ok (.ifCond .ne 27, 3) := by decide +kernel
theorem d4_9 : decode prog_39_method_3_code 9 = .ok (.aload_n 0, 1) := by decide +kernel
theorem d4_10 : decode prog_39_method_3_code 10 = .ok (.getfield 13, 3) := by decide +kernel
theorem d4_13 : decode prog_39_method_3_code 13 = .ok (.iload_n 1, 1) := by decide +kernel
theorem d4_14 : decode prog_39_method_3_code 14 = .ok (.iconst 1, 1) := by decide +kernel
theorem d4_15 : decode prog_39_method_3_code 15 = .ok (.bastore, 1) := by decide +kernel
theorem d4_16 : decode prog_39_method_3_code 16 = .ok (.aload_n 0, 1) := by decide +kernel
theorem d4_17 : decode prog_39_method_3_code 17 = .ok (.getfield 17, 3) := by decide +kernel
theorem d4_20 : decode prog_39_method_3_code 20 = .ok (.aload_n 0, 1) := by decide +kernel
theorem d4_21 : decode prog_39_method_3_code 21 = .ok (.dup, 1) := by decide +kernel
theorem d4_22 : decode prog_39_method_3_code 22 = .ok (.getfield 21, 3) := by decide +kernel
theorem d4_25 : decode prog_39_method_3_code 25 = .ok (.dup_x1, 1) := by decide +kernel
theorem d4_26 : decode prog_39_method_3_code 26 = .ok (.iconst 1, 1) := by decide +kernel
theorem d4_27 : decode prog_39_method_3_code 27 = .ok (.iadd, 1) := by decide +kernel
theorem d4_28 : decode prog_39_method_3_code 28 = .ok (.putfield 21, 3) := by decide +kernel
theorem d4_31 : decode prog_39_method_3_code 31 = .ok (.iload_n 1, 1) := by decide +kernel
theorem d4_32 : decode prog_39_method_3_code 32 = .ok (.iastore, 1) := by decide +kernel
theorem d4_33 : decode prog_39_method_3_code 33 = .ok (.return_, 1) := by decide +kernel
theorem d5_0 : decode prog_39_method_9_code 0 = .ok (.aload_n 0, 1) := by decide +kernel
theorem d5_1 : decode prog_39_method_9_code 1 = .ok (.getfield 21, 3) := by decide +kernel
theorem d5_4 : decode prog_39_method_9_code 4 = .ok (.ireturn, 1) := by decide +kernel
theorem d6_0 : decode prog_39_method_10_code 0 = .ok (.aload_n 0, 1) := by decide +kernel
theorem d6_1 : decode prog_39_method_10_code 1 = .ok (.getfield 17, 3) := by decide +kernel
theorem d6_4 : decode prog_39_method_10_code 4 = .ok (.iload_n 1, 1) := by decide +kernel
theorem d6_5 : decode prog_39_method_10_code 5 = .ok (.iaload, 1) := by decide +kernel
theorem d6_6 : decode prog_39_method_10_code 6 = .ok (.ireturn, 1) := by decide +kernel
theorem d7_0 : decode prog_39_method_13_code 0 = .ok (.aload_n 0, 1) := by decide +kernel
theorem d7_1 : decode prog_39_method_13_code 1 = .ok (.getfield 13, 3) := by decide +kernel
theorem d7_4 : decode prog_39_method_13_code 4 = .ok (.iload_n 1, 1) := by decide +kernel
theorem d7_5 : decode prog_39_method_13_code 5 = .ok (.baload, 1) := by decide +kernel
theorem d7_6 : decode prog_39_method_13_code 6 = .ok (.ifCond .eq 12, 3) := by decide +kernel
theorem d7_9 : decode prog_39_method_13_code 9 = .ok (.aload_n 0, 1) := by decide +kernel
theorem d7_10 : decode prog_39_method_13_code 10 = .ok (.getfield 7, 3) := by decide +kernel
theorem d7_13 : decode prog_39_method_13_code 13 = .ok (.iload_n 1, 1) := by decide +kernel
theorem d7_14 : decode prog_39_method_13_code 14 = .ok (.daload, 1) := by decide +kernel
theorem d7_15 : decode prog_39_method_13_code 15 = .ok (.goto 7, 3) := by decide +kernel
theorem d7_18 : decode prog_39_method_13_code 18 = .ok (.aload_n 0, 1) := by decide +kernel
theorem d7_19 : decode prog_39_method_13_code 19 = .ok (.getfield 34, 3) := by decide +kernel
theorem d7_22 : decode prog_39_method_13_code 22 = .ok (.dreturn, 1) := by decide +kernel
theorem d8_0 : decode prog_39_method_7_code 0 = .ok (.aload_n 0, 1) := by decide +kernel
theorem d8_1 : decode prog_39_method_7_code 1 = .ok (.getfield 34, 3) := by decide +kernel
theorem d8_4 : decode prog_39_method_7_code 4 = .ok (.dreturn, 1) := by decide +kernel
theorem pd0 : parseMethodDescriptor "(I)V" = some ⟨[.int], none⟩ := by decide +kernel
theorem pd1 : parseMethodDescriptor "(D)V" = some ⟨[.double], none⟩ := by decide +kernel
theorem pd2 : parseMethodDescriptor "()I" = some ⟨[], some .int⟩ := by decide +kernel
theorem pd3 : parseMethodDescriptor "(I)I" = some ⟨[.int], some .int⟩ := by decide +kernel
theorem pd4 : parseMethodDescriptor "(I)D" = some ⟨[.int], some .double⟩ := by decide +kernel
theorem pd5 : parseMethodDescriptor "()D" = some ⟨[], some .double⟩ := by decide +kernel
theorem pn0 : plainName "com/example/graphtend/graphtend/method/LabelValues" = true := by first | (simp [plainName, overriddenIn]; done) | decide +kernel
theorem pn1 : plainName "com/example/graphtend/graphtend/method/LabelValuesListPinLaw" = true := by first | (simp [plainName, overriddenIn]; done) | decide +kernel
section OwnTab
/-- the list of F 0 .. F (n - 1) -/
def own_tab (n : Nat) (F : Int32 → Value) : List Value := (List.range n).map fun i => F (Int32.ofNat i)
theorem own_tab_len (n : Nat) (F : Int32 → Value) : (own_tab n F).length = n := by simp [own_tab]
theorem own_ofnat {j : Int32} (h : ¬ j < 0) : Int32.ofNat j.toNatClampNeg = j := (back32 h).1
theorem own_tab_get {n : Nat} {F : Int32 → Value} {d : Value} {j : Int32} (h0 : ¬ j < 0) (hj : j.toNatClampNeg < n) : (own_tab n F).getD j.toNatClampNeg d = F j := by
  simp [own_tab, List.getD, hj, own_ofnat h0]
theorem own_nc_ofnat {i : Nat} (h : i < 2147483648) : (Int32.ofNat i).toNatClampNeg = i := by
  have := Int32.toInt_ofNat_small (n := i) (by omega)
  simp only [Int32.toNatClampNeg, this]; omega
theorem own_tab_set {n : Nat} {F : Int32 → Value} {v : Value} {j : Int32} (h0 : ¬ j < 0) (hn : n ≤ 2147483648) : (own_tab n F).set j.toNatClampNeg v = own_tab n (fun k => if k = j then v else F k) := by
  apply List.ext_getElem
  · simp [own_tab]
  · intro i h1 h2
    have hi : i < n := by simpa [own_tab] using h2
    rw [List.getElem_set]
    simp only [own_tab, List.getElem_map, List.getElem_range]
    by_cases e : j.toNatClampNeg = i
    · subst e; simp [own_ofnat h0]
    · have : Int32.ofNat i ≠ j := fun z => e (by rw [← z]; exact own_nc_ofnat (by omega))
      simp [e, this]
theorem own_tab_const (n : Nat) (d : Value) : ∀ i, (own_tab n fun _ => d).getD i d = ([] : List Value).getD i d := by
  intro i
  simp only [own_tab, List.getD]
  by_cases h : i < n <;> simp [h]
theorem own_nc_lt {j m : Int32} (h0 : ¬ j < 0) (h : j < m) : j.toNatClampNeg < m.toNatClampNeg := by
  simp only [Int32.lt_iff_toInt_lt, Int32.toNatClampNeg, Int32.reduceToInt] at *; omega
theorem own_nc_le (m : Int32) : m.toNatClampNeg ≤ 2147483648 := by
  have := Int32.toInt_lt m
  simp only [Int32.toNatClampNeg]; omega
theorem own_nc_cap {m : Int32} {k : Nat} (h : m.toInt ≤ k) : m.toNatClampNeg ≤ k := by simp only [Int32.toNatClampNeg]; omega
end OwnTab
def own_LV (Z : State) (h : Heap) (n0 : Nat) (a : Addr) (lm : Int32) (FL FB : Int32 → Value) (cnt : Int32) (r : UInt64) : Prop :=
  Exa Z h a "com/example/graphtend/graphtend/method/LabelValues" ∧ ∃ (v li la : Addr) (kv kl ka : ClassId), Fld Z h a "com/example/graphtend/graphtend/method/LabelValues" "values" "[D" (.ref v) ∧ Fld Z h a "com/example/graphtend/graphtend/method/LabelValues" "listed" "[Z" (.ref li) ∧ Fld Z h a "com/example/graphtend/graphtend/method/LabelValues" "labels" "[I" (.ref la) ∧ Fld Z h a "com/example/graphtend/graphtend/method/LabelValues" "count" "I" (.int cnt) ∧ Fld Z h a "com/example/graphtend/graphtend/method/LabelValues" "rest" "D" (.double r) ∧
    Arv Z h v kv .double lm (own_tab lm.toNatClampNeg fun _ => .double (0 : UInt64)) (.double (0 : UInt64)) ∧ Arv Z h li kl .boolean lm (own_tab lm.toNatClampNeg FL) (.int (0 : Int32)) ∧ Arv Z h la ka .int lm (own_tab lm.toNatClampNeg FB) (.int (0 : Int32)) ∧
    n0 ≤ a ∧ n0 ≤ li ∧ n0 ≤ la ∧ a ≠ v ∧ a ≠ li ∧ a ≠ la ∧ v ≠ li ∧ v ≠ la ∧ li ≠ la

theorem ef1 (m : MethodId) (x0 : Addr) (x1 : Int32) : entryFrame m #[(.ref x0), (.int x1)] 2 = mkF m 0 #[.val (.ref x0), .val (.int x1)] [] := by first | (simp [entryFrame, mkF, argsToLocals, Value.category]; done) | rfl
set_option maxRecDepth 65536 in
set_option maxHeartbeats 40000000 in
theorem ct1 {l : Launch} {Z : State} {a0 : Array Value} (hw : HW a0 Z) {n0 : Nat} {h0 : Heap} (hn0 : n0 ≤ h0.size) (a1 : Addr) (lm : Int32) (E : Exa Z h0 a1 "com/example/graphtend/graphtend/method/LabelValues") (F_values : Fld Z h0 a1 "com/example/graphtend/graphtend/method/LabelValues" "values" "[D" .null) (F_listed : Fld Z h0 a1 "com/example/graphtend/graphtend/method/LabelValues" "listed" "[Z" .null) (F_labels : Fld Z h0 a1 "com/example/graphtend/graphtend/method/LabelValues" "labels" "[I" .null) (F_count : Fld Z h0 a1 "com/example/graphtend/graphtend/method/LabelValues" "count" "I" (.int (0 : Int32))) (F_rest : Fld Z h0 a1 "com/example/graphtend/graphtend/method/LabelValues" "rest" "D" (.double (0 : UInt64))) (ga : n0 ≤ a1) (hm0 : ¬ lm < 0) (hm4 : lm.toNatClampNeg ≤ 4) :
    Ctr l Z (⟨"com/example/graphtend/graphtend/method/LabelValues", "<init>", "(I)V"⟩ : MethodName) prog_39_method_1_code 2 none ({ frames := 1, cells := 3, slots := 12, locals := 12 } : Room) n0 #[(.ref a1), (.int lm)] h0 (fun v h => v = none ∧ own_LV Z h n0 a1 lm (fun _ => .int (0 : Int32)) (fun _ => .int (0 : Int32)) (0 : Int32) (0 : UInt64)) := by
  refine Ctr.of (plainFor_of_name pn0) hn0 ?_
  intro p e s m below meth c T0 C hnm hret hlk X0
  rw [ef1 m a1 lm]
  refine OGo.aloadN (pc' := 1) C X0 d1_0 rfl rfl rfl ?_
  refine OGo.initObj (pc' := 4) C X0 (wd8 hw) (wd9 hw) (wd10 hw) d1_1 rfl rfl (by decide) (Nat.le_of_ble_eq_true rfl) (fun T1 X1 => ?_)
  refine OGo.aloadN (pc' := 5) C X1 d1_4 rfl rfl rfl ?_
  refine OGo.iloadN (pc' := 6) C X1 d1_5 rfl rfl ?_
  refine OGo.newarray (pc' := 8) (cap := 4) (d0 := (.double (0 : UInt64))) (cells' := 1) (slots' := 4) C X1 (wd11 hw) rfl d1_6 rfl hm0 hm4 (by decide) rfl rfl rfl (by decide) (by decide) (fun T2 h2 a2 k2 X2 g2 q2 E2 V2 => ?_)
  have ne3 : a1 ≠ a2 := Nat.ne_of_lt (Nat.lt_of_lt_of_eq E.lt g2.symm)
  replace V2 : Arv Z h2 a2 k2 .double lm (own_tab lm.toNatClampNeg fun _ => (.double (0 : UInt64))) (.double (0 : UInt64)) := V2.pad (own_tab_const _ _)
  have f4 := (F_values.ext E2)
  have f5 := (E.ext E2)
  refine OGo.putfield (pc' := 11) C X2 (host := "") (Or.inl (wd12 hw)) Via.refl f4 f5 ga (Or.inr ⟨(wd13 hw), rfl, hnm⟩) (wd3 hw) (ty := (.array .double)) (by decide) rfl rfl d1_8 rfl (fun T6 h6 X6 W6 F6 => ?_)
  refine OGo.aloadN (pc' := 12) C X6 d1_11 rfl rfl rfl ?_
  refine OGo.iloadN (pc' := 13) C X6 d1_12 rfl rfl ?_
  refine OGo.newarray (pc' := 15) (cap := 4) (d0 := (.int (0 : Int32))) (cells' := 2) (slots' := 8) C X6 (wd14 hw) rfl d1_13 rfl hm0 hm4 (by decide) rfl rfl rfl (by decide) (by decide) (fun T7 h7 a7 k7 X7 g7 q7 E7 V7 => ?_)
  have f9 := (f5.wr W6)
  have ne8 : a1 ≠ a7 := Nat.ne_of_lt (Nat.lt_of_lt_of_eq f9.lt g7.symm)
  have f11 := (V2.other W6 (Ne.symm ne3))
  have ne10 : a2 ≠ a7 := Nat.ne_of_lt (Nat.lt_of_lt_of_eq f11.lt g7.symm)
  replace V7 : Arv Z h7 a7 k7 .boolean lm (own_tab lm.toNatClampNeg fun _ => (.int (0 : Int32))) (.int (0 : Int32)) := V7.pad (own_tab_const _ _)
  have f12 := (((F_listed.ext E2).other W6 (Or.inr (slot_ne (Or.inr (wd16 hw)) (Or.inr (wd13 hw)) (by decide) (t := (.array .boolean)) (t' := (.array .double)) (by decide) (by decide)))).ext E7)
  have f13 := (f9.ext E7)
  refine OGo.putfield (pc' := 18) C X7 (host := "") (Or.inl (wd15 hw)) Via.refl f12 f13 ga (Or.inr ⟨(wd16 hw), rfl, hnm⟩) (wd3 hw) (ty := (.array .boolean)) (by decide) rfl rfl d1_15 rfl (fun T14 h14 X14 W14 F14 => ?_)
  refine OGo.aloadN (pc' := 19) C X14 d1_18 rfl rfl rfl ?_
  refine OGo.iloadN (pc' := 20) C X14 d1_19 rfl rfl ?_
  refine OGo.newarray (pc' := 22) (cap := 4) (d0 := (.int (0 : Int32))) (cells' := 3) (slots' := 12) C X14 (wd17 hw) rfl d1_20 rfl hm0 hm4 (by decide) rfl rfl rfl (by decide) (by decide) (fun T15 h15 a15 k15 X15 g15 q15 E15 V15 => ?_)
  have f17 := (f13.wr W14)
  have ne16 : a1 ≠ a15 := Nat.ne_of_lt (Nat.lt_of_lt_of_eq f17.lt g15.symm)
  have f19 := ((f11.ext E7).other W14 (Ne.symm ne3))
  have ne18 : a2 ≠ a15 := Nat.ne_of_lt (Nat.lt_of_lt_of_eq f19.lt g15.symm)
  have f21 := (V7.other W14 (Ne.symm ne8))
  have ne20 : a7 ≠ a15 := Nat.ne_of_lt (Nat.lt_of_lt_of_eq f21.lt g15.symm)
  replace V15 : Arv Z h15 a15 k15 .int lm (own_tab lm.toNatClampNeg fun _ => (.int (0 : Int32))) (.int (0 : Int32)) := V15.pad (own_tab_const _ _)
  have f22 := (((((F_labels.ext E2).other W6 (Or.inr (slot_ne (Or.inr (wd19 hw)) (Or.inr (wd13 hw)) (by decide) (t := (.array .int)) (t' := (.array .double)) (by decide) (by decide)))).ext E7).other W14 (Or.inr (slot_ne (Or.inr (wd19 hw)) (Or.inr (wd16 hw)) (by decide) (t := (.array .int)) (t' := (.array .boolean)) (by decide) (by decide)))).ext E15)
  have f23 := (f17.ext E15)
  refine OGo.putfield (pc' := 25) C X15 (host := "") (Or.inl (wd18 hw)) Via.refl f22 f23 ga (Or.inr ⟨(wd19 hw), rfl, hnm⟩) (wd3 hw) (ty := (.array .int)) (by decide) rfl rfl d1_22 rfl (fun T24 h24 X24 W24 F24 => ?_)
  have f25 := (f23.wr W24)
  have f26 := ((((F6.ext E7).other W14 (Or.inr (slot_ne (Or.inr (wd13 hw)) (Or.inr (wd16 hw)) (by decide) (t := (.array .double)) (t' := (.array .boolean)) (by decide) (by decide)))).ext E15).other W24 (Or.inr (slot_ne (Or.inr (wd13 hw)) (Or.inr (wd19 hw)) (by decide) (t := (.array .double)) (t' := (.array .int)) (by decide) (by decide))))
  have f27 := ((F14.ext E15).other W24 (Or.inr (slot_ne (Or.inr (wd16 hw)) (Or.inr (wd19 hw)) (by decide) (t := (.array .boolean)) (t' := (.array .int)) (by decide) (by decide))))
  have f28 := ((((((F_count.ext E2).other W6 (Or.inr (slot_ne (Or.inl (wd33 hw)) (Or.inr (wd13 hw)) (by decide) (t := .int) (t' := (.array .double)) (by decide) (by decide)))).ext E7).other W14 (Or.inr (slot_ne (Or.inl (wd33 hw)) (Or.inr (wd16 hw)) (by decide) (t := .int) (t' := (.array .boolean)) (by decide) (by decide)))).ext E15).other W24 (Or.inr (slot_ne (Or.inl (wd33 hw)) (Or.inr (wd19 hw)) (by decide) (t := .int) (t' := (.array .int)) (by decide) (by decide))))
  have f29 := ((((((F_rest.ext E2).other W6 (Or.inr (slot_ne (Or.inl (wd26 hw)) (Or.inr (wd13 hw)) (by decide) (t := .double) (t' := (.array .double)) (by decide) (by decide)))).ext E7).other W14 (Or.inr (slot_ne (Or.inl (wd26 hw)) (Or.inr (wd16 hw)) (by decide) (t := .double) (t' := (.array .boolean)) (by decide) (by decide)))).ext E15).other W24 (Or.inr (slot_ne (Or.inl (wd26 hw)) (Or.inr (wd19 hw)) (by decide) (t := .double) (t' := (.array .int)) (by decide) (by decide))))
  have f30 := ((f19.ext E15).other W24 (Ne.symm ne3))
  have f31 := ((f21.ext E15).other W24 (Ne.symm ne8))
  have f32 := (V15.other W24 (Ne.symm ne16))
  exact OGo.ret C X24 d1_25 hret hlk (⟨rfl, ⟨f25, a2, a7, a15, k2, k7, k15, f26, f27, F24, f28, f29, f30, f31, f32, ga, q7, q15, ne3, ne8, ne16, ne10, ne18, ne20⟩⟩) (by decide) (by decide)
theorem ef3 (m : MethodId) (x0 : Addr) (x1 : UInt64) : entryFrame m #[(.ref x0), (.double x1)] 3 = mkF m 0 #[.val (.ref x0), .val (.double x1), .second] [] := by first | (simp [entryFrame, mkF, argsToLocals, Value.category]; done) | rfl
set_option maxRecDepth 65536 in
set_option maxHeartbeats 40000000 in
theorem ct3 {l : Launch} {Z : State} {a0 : Array Value} (hw : HW a0 Z) {n0 : Nat} {h0 : Heap} (hn0 : n0 ≤ h0.size) (a1 : Addr) (lm : Int32) (FL FB : Int32 → Value) (cnt : Int32) (r : UInt64) (u : UInt64) (H : own_LV Z h0 n0 a1 lm FL FB cnt r) :
    Ctr l Z (⟨"com/example/graphtend/graphtend/method/LabelValues", "setRest", "(D)V"⟩ : MethodName) prog_39_method_8_code 3 none ({ frames := 0, cells := 0, slots := 0, locals := 0 } : Room) n0 #[(.ref a1), (.double u)] h0 (fun v h => v = none ∧ own_LV Z h n0 a1 lm FL FB cnt u) := by
  refine Ctr.of (plainFor_of_name pn0) hn0 ?_
  intro p e s m below meth c T0 C hnm hret hlk X0
  rw [ef3 m a1 u]
  obtain ⟨E, v, li, la, kv, kl, ka, Fv, Fli, Fla, Fc, Fr, Vv, Vli, Vla, g1, g2, g3, n1, n2, n3, n4, n5, n6⟩ := H
  refine OGo.aloadN (pc' := 1) C X0 d3_0 rfl rfl rfl ?_
  refine OGo.dloadN (pc' := 2) C X0 d3_1 rfl rfl ?_
  refine OGo.putfield (pc' := 5) C X0 (host := "") (Or.inl (wd25 hw)) Via.refl Fr E g1 (Or.inl (wd26 hw)) (wd3 hw) (ty := .double) (by decide) rfl rfl d3_2 rfl (fun T1 h1 X1 W1 F1 => ?_)
  have f2 := (E.wr W1)
  have f3 := (Fv.other W1 (Or.inr (slot_ne (Or.inr (wd13 hw)) (Or.inl (wd26 hw)) (by decide) (t := (.array .double)) (t' := .double) (by decide) (by decide))))
  have f4 := (Fli.other W1 (Or.inr (slot_ne (Or.inr (wd16 hw)) (Or.inl (wd26 hw)) (by decide) (t := (.array .boolean)) (t' := .double) (by decide) (by decide))))
  have f5 := (Fla.other W1 (Or.inr (slot_ne (Or.inr (wd19 hw)) (Or.inl (wd26 hw)) (by decide) (t := (.array .int)) (t' := .double) (by decide) (by decide))))
  have f6 := (Fc.other W1 (Or.inr (slot_ne (Or.inl (wd33 hw)) (Or.inl (wd26 hw)) (by decide) (t := .int) (t' := .double) (by decide) (by decide))))
  have f7 := (Vv.other W1 (Ne.symm n1))
  have f8 := (Vli.other W1 (Ne.symm n2))
  have f9 := (Vla.other W1 (Ne.symm n3))
  exact OGo.ret C X1 d3_5 hret hlk (⟨rfl, ⟨f2, v, li, la, kv, kl, ka, f3, f4, f5, f6, F1, f7, f8, f9, g1, g2, g3, n1, n2, n3, n4, n5, n6⟩⟩) (by decide) (by decide)
theorem ef4 (m : MethodId) (x0 : Addr) (x1 : Int32) : entryFrame m #[(.ref x0), (.int x1)] 2 = mkF m 0 #[.val (.ref x0), .val (.int x1)] [] := by first | (simp [entryFrame, mkF, argsToLocals, Value.category]; done) | rfl
set_option maxRecDepth 65536 in
set_option maxHeartbeats 40000000 in
theorem ctL0 {l : Launch} {Z : State} {a0 : Array Value} (hw : HW a0 Z) {n0 : Nat} {h0 : Heap} (hn0 : n0 ≤ h0.size) (a1 : Addr) (lm : Int32) (FL FB : Int32 → Value) (cnt : Int32) (r : UInt64) (j : Int32) (H : own_LV Z h0 n0 a1 lm FL FB cnt r) (hj0 : ¬ j < 0) (hjm : j < lm) (hF : FL j = .int (0 : Int32)) (hc0 : ¬ cnt < 0) (hcm : cnt < lm) :
    Ctr l Z (⟨"com/example/graphtend/graphtend/method/LabelValues", "list", "(I)V"⟩ : MethodName) prog_39_method_3_code 2 none ({ frames := 0, cells := 0, slots := 0, locals := 0 } : Room) n0 #[(.ref a1), (.int j)] h0 (fun v h => v = none ∧ own_LV Z h n0 a1 lm (fun k => if k = j then .int 1 else FL k) (fun k => if k = cnt then .int j else FB k) (cnt + (1 : Int32)) r) := by
  refine Ctr.of (plainFor_of_name pn0) hn0 ?_
  intro p e s m below meth c T0 C hnm hret hlk X0
  rw [ef4 m a1 j]
  obtain ⟨E, v, li, la, kv, kl, ka, Fv, Fli, Fla, Fc, Fr, Vv, Vli, Vla, g1, g2, g3, n1, n2, n3, n4, n5, n6⟩ := H
  refine OGo.aloadN (pc' := 1) C X0 d4_0 rfl rfl rfl ?_
  refine OGo.getfield (pc' := 4) C X0 (host := "") (Or.inl (wd15 hw)) Via.refl Fli d4_1 rfl (fun T1 X1 => ?_)
  refine OGo.iloadN (pc' := 5) C X1 d4_4 rfl rfl ?_
  refine OGo.baloadZ (pc' := 6) C X1 Vli d4_5 rfl ⟨hj0, hjm⟩ (v := (0 : Int32)) ((own_tab_get hj0 (own_nc_lt hj0 hjm)).trans hF) ?_
  refine OGo.ifNo (pc' := 9) C X1 d4_6 rfl (teq (by decide : (0 : Int32) = (0 : Int32))).2 ?_
  refine OGo.aloadN (pc' := 10) C X1 d4_9 rfl rfl rfl ?_
  refine OGo.getfield (pc' := 13) C X1 (host := "") (Or.inl (wd15 hw)) Via.refl Fli d4_10 rfl (fun T2 X2 => ?_)
  refine OGo.iloadN (pc' := 14) C X2 d4_13 rfl rfl ?_
  refine OGo.iconst (pc' := 15) (z := (1 : Int32)) C X2 d4_14 rfl (by decide) ?_
  refine OGo.bastoreZ (pc' := 16) C X2 Vli g2 (i := j.toNatClampNeg) d4_15 rfl ⟨hj0, hjm⟩ rfl (by rw [own_tab_len]; exact own_nc_lt hj0 hjm) (fun T3 h3 X3 W3 V3 => ?_)
  rw [own_tab_set hj0 (own_nc_le _)] at V3
  refine OGo.aloadN (pc' := 17) C X3 d4_16 rfl rfl rfl ?_
  have f4 := (Fla.other W3 (Or.inl n2))
  refine OGo.getfield (pc' := 20) C X3 (host := "") (Or.inl (wd18 hw)) Via.refl f4 d4_17 rfl (fun T5 X5 => ?_)
  refine OGo.aloadN (pc' := 21) C X5 d4_20 rfl rfl rfl ?_
  refine OGo.dup (pc' := 22) C X5 d4_21 rfl rfl ?_
  have f6 := (Fc.other W3 (Or.inl n2))
  refine OGo.getfield (pc' := 25) C X5 (host := "") (Or.inl (wd32 hw)) Via.refl f6 d4_22 rfl (fun T7 X7 => ?_)
  refine OGo.dup_x1 (pc' := 26) C X7 d4_25 rfl rfl rfl ?_
  refine OGo.iconst (pc' := 27) (z := (1 : Int32)) C X7 d4_26 rfl (by decide) ?_
  refine OGo.iadd (pc' := 28) (z := (cnt + (1 : Int32))) C X7 d4_27 rfl rfl ?_
  have f8 := (E.wr W3)
  refine OGo.putfield (pc' := 31) C X7 (host := "") (Or.inl (wd32 hw)) Via.refl f6 f8 g1 (Or.inl (wd33 hw)) (wd3 hw) (ty := .int) (by decide) rfl rfl d4_28 rfl (fun T9 h9 X9 W9 F9 => ?_)
  refine OGo.iloadN (pc' := 32) C X9 d4_31 rfl rfl ?_
  have f10 := ((Vla.other W3 (Ne.symm n6)).other W9 (Ne.symm n3))
  refine OGo.iastore (pc' := 33) C X9 f10 g3 (i := cnt.toNatClampNeg) d4_32 rfl ⟨hc0, hcm⟩ rfl (by rw [own_tab_len]; exact own_nc_lt hc0 hcm) (fun T11 h11 X11 W11 V11 => ?_)
  rw [own_tab_set hc0 (own_nc_le _)] at V11
  have f12 := ((f8.wr W9).wr W11)
  have f13 := (((Fv.other W3 (Or.inl n2)).other W9 (Or.inr (slot_ne (Or.inr (wd13 hw)) (Or.inl (wd33 hw)) (by decide) (t := (.array .double)) (t' := .int) (by decide) (by decide)))).other W11 (Or.inl n3))
  have f14 := (((Fli.other W3 (Or.inl n2)).other W9 (Or.inr (slot_ne (Or.inr (wd16 hw)) (Or.inl (wd33 hw)) (by decide) (t := (.array .boolean)) (t' := .int) (by decide) (by decide)))).other W11 (Or.inl n3))
  have f15 := ((f4.other W9 (Or.inr (slot_ne (Or.inr (wd19 hw)) (Or.inl (wd33 hw)) (by decide) (t := (.array .int)) (t' := .int) (by decide) (by decide)))).other W11 (Or.inl n3))
  have f16 := (F9.other W11 (Or.inl n3))
  have f17 := (((Fr.other W3 (Or.inl n2)).other W9 (Or.inr (slot_ne (Or.inl (wd26 hw)) (Or.inl (wd33 hw)) (by decide) (t := .double) (t' := .int) (by decide) (by decide)))).other W11 (Or.inl n3))
  have f18 := (((Vv.other W3 n4).other W9 (Ne.symm n1)).other W11 n5)
  have f19 := ((V3.other W9 (Ne.symm n2)).other W11 n6)
  exact OGo.ret C X11 d4_33 hret hlk (⟨rfl, ⟨f12, v, li, la, kv, kl, ka, f13, f14, f15, f16, f17, f18, f19, V11, g1, g2, g3, n1, n2, n3, n4, n5, n6⟩⟩) (by decide) (by decide)
set_option maxRecDepth 65536 in
set_option maxHeartbeats 40000000 in
theorem ctL1 {l : Launch} {Z : State} {a0 : Array Value} (hw : HW a0 Z) {n0 : Nat} {h0 : Heap} (hn0 : n0 ≤ h0.size) (a1 : Addr) (lm : Int32) (FL FB : Int32 → Value) (cnt : Int32) (r : UInt64) (j : Int32) (H : own_LV Z h0 n0 a1 lm FL FB cnt r) (hj0 : ¬ j < 0) (hjm : j < lm) (hF : FL j = .int (1 : Int32)) :
    Ctr l Z (⟨"com/example/graphtend/graphtend/method/LabelValues", "list", "(I)V"⟩ : MethodName) prog_39_method_3_code 2 none ({ frames := 0, cells := 0, slots := 0, locals := 0 } : Room) n0 #[(.ref a1), (.int j)] h0 (fun v h => v = none ∧ h = h0) := by
  refine Ctr.of (plainFor_of_name pn0) hn0 ?_
  intro p e s m below meth c T0 C hnm hret hlk X0
  rw [ef4 m a1 j]
  obtain ⟨E, v, li, la, kv, kl, ka, Fv, Fli, Fla, Fc, Fr, Vv, Vli, Vla, g1, g2, g3, n1, n2, n3, n4, n5, n6⟩ := H
  refine OGo.aloadN (pc' := 1) C X0 d4_0 rfl rfl rfl ?_
  refine OGo.getfield (pc' := 4) C X0 (host := "") (Or.inl (wd15 hw)) Via.refl Fli d4_1 rfl (fun T1 X1 => ?_)
  refine OGo.iloadN (pc' := 5) C X1 d4_4 rfl rfl ?_
  refine OGo.baloadZ (pc' := 6) C X1 Vli d4_5 rfl ⟨hj0, hjm⟩ (v := (1 : Int32)) ((own_tab_get hj0 (own_nc_lt hj0 hjm)).trans hF) ?_
  refine OGo.ifYes (pc' := 33) C X1 d4_6 (feq (by decide : ¬ (1 : Int32) = (0 : Int32))).2 (by decide) (by decide) ?_
  exact OGo.ret C X1 d4_33 hret hlk (⟨rfl, rfl⟩) (by decide) (by decide)
theorem ef5 (m : MethodId) (x0 : Addr) : entryFrame m #[(.ref x0)] 1 = mkF m 0 #[.val (.ref x0)] [] := by first | (simp [entryFrame, mkF, argsToLocals, Value.category]; done) | rfl
set_option maxRecDepth 65536 in
set_option maxHeartbeats 40000000 in
theorem ct5 {l : Launch} {Z : State} {a0 : Array Value} (hw : HW a0 Z) {n0 : Nat} {h0 : Heap} (hn0 : n0 ≤ h0.size) (a1 : Addr) (lm : Int32) (FL FB : Int32 → Value) (cnt : Int32) (r : UInt64) (H : own_LV Z h0 n0 a1 lm FL FB cnt r) :
    Ctr l Z (⟨"com/example/graphtend/graphtend/method/LabelValues", "count", "()I"⟩ : MethodName) prog_39_method_9_code 1 (some .int) ({ frames := 0, cells := 0, slots := 0, locals := 0 } : Room) n0 #[(.ref a1)] h0 (fun v h => v = some (.int cnt) ∧ h = h0) := by
  refine Ctr.of (plainFor_of_name pn0) hn0 ?_
  intro p e s m below meth c T0 C hnm hret hlk X0
  rw [ef5 m a1]
  obtain ⟨E, v, li, la, kv, kl, ka, Fv, Fli, Fla, Fc, Fr, Vv, Vli, Vla, g1, g2, g3, n1, n2, n3, n4, n5, n6⟩ := H
  refine OGo.aloadN (pc' := 1) C X0 d5_0 rfl rfl rfl ?_
  refine OGo.getfield (pc' := 4) C X0 (host := "") (Or.inl (wd32 hw)) Via.refl Fc d5_1 rfl (fun T1 X1 => ?_)
  exact OGo.retInt C X1 d5_4 hret hlk (⟨rfl, rfl⟩) (by decide) (by decide)
theorem ef6 (m : MethodId) (x0 : Addr) (x1 : Int32) : entryFrame m #[(.ref x0), (.int x1)] 2 = mkF m 0 #[.val (.ref x0), .val (.int x1)] [] := by first | (simp [entryFrame, mkF, argsToLocals, Value.category]; done) | rfl
set_option maxRecDepth 65536 in
set_option maxHeartbeats 40000000 in
theorem ct6 {l : Launch} {Z : State} {a0 : Array Value} (hw : HW a0 Z) {n0 : Nat} {h0 : Heap} (hn0 : n0 ≤ h0.size) (a1 : Addr) (lm : Int32) (FL FB : Int32 → Value) (cnt : Int32) (r : UInt64) (j z : Int32) (H : own_LV Z h0 n0 a1 lm FL FB cnt r) (hj0 : ¬ j < 0) (hjm : j < lm) (hF : FB j = .int z) :
    Ctr l Z (⟨"com/example/graphtend/graphtend/method/LabelValues", "label", "(I)I"⟩ : MethodName) prog_39_method_10_code 2 (some .int) ({ frames := 0, cells := 0, slots := 0, locals := 0 } : Room) n0 #[(.ref a1), (.int j)] h0 (fun v h => v = some (.int z) ∧ h = h0) := by
  refine Ctr.of (plainFor_of_name pn0) hn0 ?_
  intro p e s m below meth c T0 C hnm hret hlk X0
  rw [ef6 m a1 j]
  obtain ⟨E, v, li, la, kv, kl, ka, Fv, Fli, Fla, Fc, Fr, Vv, Vli, Vla, g1, g2, g3, n1, n2, n3, n4, n5, n6⟩ := H
  refine OGo.aloadN (pc' := 1) C X0 d6_0 rfl rfl rfl ?_
  refine OGo.getfield (pc' := 4) C X0 (host := "") (Or.inl (wd18 hw)) Via.refl Fla d6_1 rfl (fun T1 X1 => ?_)
  refine OGo.iloadN (pc' := 5) C X1 d6_4 rfl rfl ?_
  refine OGo.iaload (pc' := 6) C X1 Vla d6_5 rfl ⟨hj0, hjm⟩ (v := z) ((own_tab_get hj0 (own_nc_lt hj0 hjm)).trans hF) ?_
  exact OGo.retInt C X1 d6_6 hret hlk (⟨rfl, rfl⟩) (by decide) (by decide)
theorem ef8 (m : MethodId) (x0 : Addr) : entryFrame m #[(.ref x0)] 1 = mkF m 0 #[.val (.ref x0)] [] := by first | (simp [entryFrame, mkF, argsToLocals, Value.category]; done) | rfl
set_option maxRecDepth 65536 in
set_option maxHeartbeats 40000000 in
theorem ct8 {l : Launch} {Z : State} {a0 : Array Value} (hw : HW a0 Z) {n0 : Nat} {h0 : Heap} (hn0 : n0 ≤ h0.size) (a1 : Addr) (lm : Int32) (FL FB : Int32 → Value) (cnt : Int32) (r : UInt64) (H : own_LV Z h0 n0 a1 lm FL FB cnt r) :
    Ctr l Z (⟨"com/example/graphtend/graphtend/method/LabelValues", "rest", "()D"⟩ : MethodName) prog_39_method_7_code 1 (some .double) ({ frames := 0, cells := 0, slots := 0, locals := 0 } : Room) n0 #[(.ref a1)] h0 (fun v h => v = some (.double r) ∧ h = h0) := by
  refine Ctr.of (plainFor_of_name pn0) hn0 ?_
  intro p e s m below meth c T0 C hnm hret hlk X0
  rw [ef8 m a1]
  obtain ⟨E, v, li, la, kv, kl, ka, Fv, Fli, Fla, Fc, Fr, Vv, Vli, Vla, g1, g2, g3, n1, n2, n3, n4, n5, n6⟩ := H
  refine OGo.aloadN (pc' := 1) C X0 d8_0 rfl rfl rfl ?_
  refine OGo.getfield (pc' := 4) C X0 (host := "") (Or.inl (wd25 hw)) Via.refl Fr d8_1 rfl (fun T1 X1 => ?_)
  exact OGo.retD C X1 d8_4 hret hlk (⟨rfl, rfl⟩) (by decide) (by decide)
theorem ef7 (m : MethodId) (x0 : Addr) (x1 : Int32) : entryFrame m #[(.ref x0), (.int x1)] 2 = mkF m 0 #[.val (.ref x0), .val (.int x1)] [] := by first | (simp [entryFrame, mkF, argsToLocals, Value.category]; done) | rfl
set_option maxRecDepth 65536 in
set_option maxHeartbeats 40000000 in
theorem ctV1 {l : Launch} {Z : State} {a0 : Array Value} (hw : HW a0 Z) {n0 : Nat} {h0 : Heap} (hn0 : n0 ≤ h0.size) (a1 : Addr) (lm : Int32) (FL FB : Int32 → Value) (cnt : Int32) (r : UInt64) (j : Int32) (H : own_LV Z h0 n0 a1 lm FL FB cnt r) (hj0 : ¬ j < 0) (hjm : j < lm) (hF : FL j = .int (1 : Int32)) :
    Ctr l Z (⟨"com/example/graphtend/graphtend/method/LabelValues", "value", "(I)D"⟩ : MethodName) prog_39_method_13_code 2 (some .double) ({ frames := 0, cells := 0, slots := 0, locals := 0 } : Room) n0 #[(.ref a1), (.int j)] h0 (fun v h => v = some (.double (0 : UInt64)) ∧ h = h0) := by
  refine Ctr.of (plainFor_of_name pn0) hn0 ?_
  intro p e s m below meth c T0 C hnm hret hlk X0
  rw [ef7 m a1 j]
  obtain ⟨E, v, li, la, kv, kl, ka, Fv, Fli, Fla, Fc, Fr, Vv, Vli, Vla, g1, g2, g3, n1, n2, n3, n4, n5, n6⟩ := H
  refine OGo.aloadN (pc' := 1) C X0 d7_0 rfl rfl rfl ?_
  refine OGo.getfield (pc' := 4) C X0 (host := "") (Or.inl (wd15 hw)) Via.refl Fli d7_1 rfl (fun T1 X1 => ?_)
  refine OGo.iloadN (pc' := 5) C X1 d7_4 rfl rfl ?_
  refine OGo.baloadZ (pc' := 6) C X1 Vli d7_5 rfl ⟨hj0, hjm⟩ (v := (1 : Int32)) ((own_tab_get hj0 (own_nc_lt hj0 hjm)).trans hF) ?_
  refine OGo.ifNo (pc' := 9) C X1 d7_6 rfl (feq (by decide : ¬ (1 : Int32) = (0 : Int32))).1 ?_
  refine OGo.aloadN (pc' := 10) C X1 d7_9 rfl rfl rfl ?_
  refine OGo.getfield (pc' := 13) C X1 (host := "") (Or.inl (wd12 hw)) Via.refl Fv d7_10 rfl (fun T2 X2 => ?_)
  refine OGo.iloadN (pc' := 14) C X2 d7_13 rfl rfl ?_
  refine OGo.daload (pc' := 15) C X2 Vv d7_14 rfl ⟨hj0, hjm⟩ (v := (0 : UInt64)) (own_tab_get hj0 (own_nc_lt hj0 hjm)) ?_
  refine OGo.goto (pc' := 22) C X2 d7_15 (by decide) (by decide) ?_
  exact OGo.retD C X2 d7_22 hret hlk (⟨rfl, rfl⟩) (by decide) (by decide)
set_option maxRecDepth 65536 in
set_option maxHeartbeats 40000000 in
theorem ctV0 {l : Launch} {Z : State} {a0 : Array Value} (hw : HW a0 Z) {n0 : Nat} {h0 : Heap} (hn0 : n0 ≤ h0.size) (a1 : Addr) (lm : Int32) (FL FB : Int32 → Value) (cnt : Int32) (r : UInt64) (j : Int32) (H : own_LV Z h0 n0 a1 lm FL FB cnt r) (hj0 : ¬ j < 0) (hjm : j < lm) (hF : FL j = .int (0 : Int32)) :
    Ctr l Z (⟨"com/example/graphtend/graphtend/method/LabelValues", "value", "(I)D"⟩ : MethodName) prog_39_method_13_code 2 (some .double) ({ frames := 0, cells := 0, slots := 0, locals := 0 } : Room) n0 #[(.ref a1), (.int j)] h0 (fun v h => v = some (.double r) ∧ h = h0) := by
  refine Ctr.of (plainFor_of_name pn0) hn0 ?_
  intro p e s m below meth c T0 C hnm hret hlk X0
  rw [ef7 m a1 j]
  obtain ⟨E, v, li, la, kv, kl, ka, Fv, Fli, Fla, Fc, Fr, Vv, Vli, Vla, g1, g2, g3, n1, n2, n3, n4, n5, n6⟩ := H
  refine OGo.aloadN (pc' := 1) C X0 d7_0 rfl rfl rfl ?_
  refine OGo.getfield (pc' := 4) C X0 (host := "") (Or.inl (wd15 hw)) Via.refl Fli d7_1 rfl (fun T1 X1 => ?_)
  refine OGo.iloadN (pc' := 5) C X1 d7_4 rfl rfl ?_
  refine OGo.baloadZ (pc' := 6) C X1 Vli d7_5 rfl ⟨hj0, hjm⟩ (v := (0 : Int32)) ((own_tab_get hj0 (own_nc_lt hj0 hjm)).trans hF) ?_
  refine OGo.ifYes (pc' := 18) C X1 d7_6 (teq (by decide : (0 : Int32) = (0 : Int32))).1 (by decide) (by decide) ?_
  refine OGo.aloadN (pc' := 19) C X1 d7_18 rfl rfl rfl ?_
  refine OGo.getfield (pc' := 22) C X1 (host := "") (Or.inl (wd25 hw)) Via.refl Fr d7_19 rfl (fun T2 X2 => ?_)
  exact OGo.retD C X2 d7_22 hret hlk (⟨rfl, rfl⟩) (by decide) (by decide)
theorem ef0 (m : MethodId) (x0 : Int32) (x1 : Int32) (x2 : Int32) (x3 : Int32) (x4 : Int32) (x5 : Int32) : entryFrame m #[(.int x0), (.int x1), (.int x2), (.int x3), (.int x4), (.int x5)] maxLocals = mkF m 0 #[.val (.int x0), .val (.int x1), .val (.int x2), .val (.int x3), .val (.int x4), .val (.int x5), .unset, .unset, .unset, .unset, .unset, .unset, .unset, .unset, .unset, .unset, .unset, .unset, .unset, .unset] [] := by first | (simp [entryFrame, mkF, argsToLocals, Value.category, maxLocals]; done) | rfl
set_option maxRecDepth 65536 in
set_option maxHeartbeats 40000000 in
theorem ct0 {l : Launch} {Z : State} {a0 : Array Value} (hw : HW a0 Z) {n0 : Nat} {h0 : Heap} (hn0 : n0 ≤ h0.size) (i0 : Int32) (i1 : Int32) (i2 : Int32) (i3 : Int32) (i4 : Int32) (i5 : Int32)  :
    Ctr l Z x code maxLocals ret room_1 n0 #[(.int i0), (.int i1), (.int i2), (.int i3), (.int i4), (.int i5)] h0 (fun v h => v = some (.int 1)) := by
  refine Ctr.of (plainFor_of_name pn1) hn0 ?_
  intro p e s m below meth c T0 C hnm hret hlk X0
  rw [ef0 m i0 i1 i2 i3 i4 i5]
  refine OGo.iconst (pc' := 1) (z := (1 : Int32)) C X0 at_0 rfl (by decide) ?_
  refine OGo.iloadN (pc' := 2) C X0 at_1 rfl rfl ?_
  refine OGo.iconst (pc' := 3) (z := (3 : Int32)) C X0 at_2 rfl (by decide) ?_
  refine OGo.iand (pc' := 4) (z := (i0 &&& (3 : Int32))) C X0 at_3 rfl rfl ?_
  obtain ⟨lm, h_lm⟩ : ∃ z : Int32, (1 : Int32) + (i0 &&& (3 : Int32)) = z := ⟨_, rfl⟩
  refine OGo.iadd (pc' := 5) (z := lm) C X0 at_4 rfl h_lm ?_
  refine OGo.istore (pc' := 7) C X0 at_5 rfl (l' := #[.val (.int i0), .val (.int i1), .val (.int i2), .val (.int i3), .val (.int i4), .val (.int i5), .val (.int lm), .unset, .unset, .unset, .unset, .unset, .unset, .unset, .unset, .unset, .unset, .unset, .unset, .unset]) rfl ?_
  have hm : lm.toInt = 1 + i0.toInt % 4 := by
    have q := c_mask i0 3 2 (by decide) (by decide)
    have q2 := c_iadd 1 (i0 &&& 3)
    rw [h_lm] at q2; have e1 : (1 : Int32).toInt = 1 := by decide
    have := rng32 lm; omega
  have e0 : (0 : Int32).toInt = 0 := by decide
  have hm0 : ¬ lm < 0 := by rw [Int32.lt_iff_toInt_lt, e0]; omega
  have hm4 : lm.toNatClampNeg ≤ 4 := own_nc_cap (by omega)
  have hmz : lm ≠ 0 := fun z => by rw [z] at hm; omega
  refine OGo.iloadN (pc' := 8) C X0 at_7 rfl rfl ?_
  refine OGo.ldcInt (pc' := 10) C X0 (wd0 hw) at_8 rfl ?_
  obtain ⟨am, h_am⟩ : ∃ z : Int32, i1 &&& (2147483647 : Int32) = z := ⟨_, rfl⟩
  refine OGo.iand (pc' := 11) (z := am) C X0 at_10 rfl h_am ?_
  refine OGo.iload (pc' := 13) C X0 at_11 rfl rfl ?_
  obtain ⟨a, h_a⟩ : ∃ z : Int32, am % lm = z := ⟨_, rfl⟩
  refine OGo.irem (pc' := 14) (z := a) C X0 at_13 rfl hmz h_a ?_
  refine OGo.istore (pc' := 16) C X0 at_14 rfl (l' := #[.val (.int i0), .val (.int i1), .val (.int i2), .val (.int i3), .val (.int i4), .val (.int i5), .val (.int lm), .val (.int a), .unset, .unset, .unset, .unset, .unset, .unset, .unset, .unset, .unset, .unset, .unset, .unset]) rfl ?_
  have ba : ¬ a < 0 ∧ a < lm := by
    have q := (c_iremV am lm).1 (by rw [← h_am]; exact (c_and _ 2147483647 (by decide)).1) (by omega)
    rw [h_a] at q
    rw [Int32.lt_iff_toInt_lt, Int32.lt_iff_toInt_lt, e0]; omega
  refine OGo.iloadN (pc' := 17) C X0 at_16 rfl rfl ?_
  refine OGo.ldcInt (pc' := 19) C X0 (wd0 hw) at_17 rfl ?_
  obtain ⟨bm, h_bm⟩ : ∃ z : Int32, i2 &&& (2147483647 : Int32) = z := ⟨_, rfl⟩
  refine OGo.iand (pc' := 20) (z := bm) C X0 at_19 rfl h_bm ?_
  refine OGo.iload (pc' := 22) C X0 at_20 rfl rfl ?_
  obtain ⟨b, h_b⟩ : ∃ z : Int32, bm % lm = z := ⟨_, rfl⟩
  refine OGo.irem (pc' := 23) (z := b) C X0 at_22 rfl hmz h_b ?_
  refine OGo.istore (pc' := 25) C X0 at_23 rfl (l' := #[.val (.int i0), .val (.int i1), .val (.int i2), .val (.int i3), .val (.int i4), .val (.int i5), .val (.int lm), .val (.int a), .val (.int b), .unset, .unset, .unset, .unset, .unset, .unset, .unset, .unset, .unset, .unset, .unset]) rfl ?_
  have bb : ¬ b < 0 ∧ b < lm := by
    have q := (c_iremV bm lm).1 (by rw [← h_bm]; exact (c_and _ 2147483647 (by decide)).1) (by omega)
    rw [h_b] at q
    rw [Int32.lt_iff_toInt_lt, Int32.lt_iff_toInt_lt, e0]; omega
  refine OGo.iloadN (pc' := 26) C X0 at_25 rfl rfl ?_
  refine OGo.ldcInt (pc' := 28) C X0 (wd0 hw) at_26 rfl ?_
  obtain ⟨cm, h_cm⟩ : ∃ z : Int32, i3 &&& (2147483647 : Int32) = z := ⟨_, rfl⟩
  refine OGo.iand (pc' := 29) (z := cm) C X0 at_28 rfl h_cm ?_
  refine OGo.iload (pc' := 31) C X0 at_29 rfl rfl ?_
  obtain ⟨c, h_c⟩ : ∃ z : Int32, cm % lm = z := ⟨_, rfl⟩
  refine OGo.irem (pc' := 32) (z := c) C X0 at_31 rfl hmz h_c ?_
  refine OGo.istore (pc' := 34) C X0 at_32 rfl (l' := #[.val (.int i0), .val (.int i1), .val (.int i2), .val (.int i3), .val (.int i4), .val (.int i5), .val (.int lm), .val (.int a), .val (.int b), .val (.int c), .unset, .unset, .unset, .unset, .unset, .unset, .unset, .unset, .unset, .unset]) rfl ?_
  have bc : ¬ c < 0 ∧ c < lm := by
    have q := (c_iremV cm lm).1 (by rw [← h_cm]; exact (c_and _ 2147483647 (by decide)).1) (by omega)
    rw [h_c] at q
    rw [Int32.lt_iff_toInt_lt, Int32.lt_iff_toInt_lt, e0]; omega
  refine OGo.iload (pc' := 36) C X0 at_34 rfl rfl ?_
  refine OGo.ldcInt (pc' := 38) C X0 (wd0 hw) at_36 rfl ?_
  obtain ⟨dm, h_dm⟩ : ∃ z : Int32, i4 &&& (2147483647 : Int32) = z := ⟨_, rfl⟩
  refine OGo.iand (pc' := 39) (z := dm) C X0 at_38 rfl h_dm ?_
  refine OGo.iload (pc' := 41) C X0 at_39 rfl rfl ?_
  obtain ⟨d, h_d⟩ : ∃ z : Int32, dm % lm = z := ⟨_, rfl⟩
  refine OGo.irem (pc' := 42) (z := d) C X0 at_41 rfl hmz h_d ?_
  refine OGo.istore (pc' := 44) C X0 at_42 rfl (l' := #[.val (.int i0), .val (.int i1), .val (.int i2), .val (.int i3), .val (.int i4), .val (.int i5), .val (.int lm), .val (.int a), .val (.int b), .val (.int c), .val (.int d), .unset, .unset, .unset, .unset, .unset, .unset, .unset, .unset, .unset]) rfl ?_
  have bd : ¬ d < 0 ∧ d < lm := by
    have q := (c_iremV dm lm).1 (by rw [← h_dm]; exact (c_and _ 2147483647 (by decide)).1) (by omega)
    rw [h_d] at q
    rw [Int32.lt_iff_toInt_lt, Int32.lt_iff_toInt_lt, e0]; omega
  refine OGo.iload (pc' := 46) C X0 at_44 rfl rfl ?_
  refine OGo.ldcInt (pc' := 48) C X0 (wd1 hw) at_46 rfl ?_
  refine OGo.iand (pc' := 49) (z := (i5 &&& (65535 : Int32))) C X0 at_48 rfl rfl ?_
  refine OGo.iconst (pc' := 50) (z := (1 : Int32)) C X0 at_49 rfl (by decide) ?_
  refine OGo.iadd (pc' := 51) (z := ((i5 &&& (65535 : Int32)) + (1 : Int32))) C X0 at_50 rfl rfl ?_
  obtain ⟨r, h_r⟩ : ∃ z : UInt64, FP.i2d ((i5 &&& (65535 : Int32)) + (1 : Int32)) = z := ⟨_, rfl⟩
  refine OGo.i2d (pc' := 52) (v := r) C X0 at_51 rfl h_r ?_
  refine OGo.dstore (pc' := 54) C X0 at_52 rfl (l' := #[.val (.int i0), .val (.int i1), .val (.int i2), .val (.int i3), .val (.int i4), .val (.int i5), .val (.int lm), .val (.int a), .val (.int b), .val (.int c), .val (.int d), .val (.double r), .second, .unset, .unset, .unset, .unset, .unset, .unset, .unset]) rfl ?_
  refine OGo.new (pc' := 57) (cells' := 1) (slots' := 5) C X0 (wd2 hw) (wd3 hw) (wd4 hw) at_54 rfl rfl rfl (by decide) (by decide) (fun T1 h1 a1 X1 g1 q1 E1 A1 D1 U1 => ?_)
  have F1_values : Fld Z h1 a1 "com/example/graphtend/graphtend/method/LabelValues" "values" "[D" .null := D1 (Or.inr (wd13 hw)) (ty := (.array .double)) (by decide)
  have F1_listed : Fld Z h1 a1 "com/example/graphtend/graphtend/method/LabelValues" "listed" "[Z" .null := D1 (Or.inr (wd16 hw)) (ty := (.array .boolean)) (by decide)
  have F1_labels : Fld Z h1 a1 "com/example/graphtend/graphtend/method/LabelValues" "labels" "[I" .null := D1 (Or.inr (wd19 hw)) (ty := (.array .int)) (by decide)
  have F1_rest : Fld Z h1 a1 "com/example/graphtend/graphtend/method/LabelValues" "rest" "D" (.double (0 : UInt64)) := D1 (Or.inl (wd26 hw)) (ty := .double) (by decide)
  have F1_count : Fld Z h1 a1 "com/example/graphtend/graphtend/method/LabelValues" "count" "I" (.int (0 : Int32)) := D1 (Or.inl (wd33 hw)) (ty := .int) (by decide)
  refine OGo.dup (pc' := 58) C X1 at_57 rfl rfl ?_
  refine OGo.iload (pc' := 60) C X1 at_58 rfl rfl ?_
  refine OGo.callInit (pc' := 63) (cells' := 4) (slots' := 17) (argsL := [(.int lm)]) (St := [(.ref a1)]) C X1 rfl rfl (wd5 hw) (wd6 hw) (by decide) (wd7 hw) (wd4 hw) (ct1 hw X1.2.1 a1 lm A1 F1_values F1_listed F1_labels F1_count F1_rest q1 hm0 hm4) (lenOf pd0 rfl) rfl at_60 rfl rfl (by decide) (Nat.le_of_ble_eq_true rfl) rfl rfl (by decide) (by decide) (fun v2 T2 h2 Q2 X2 z2 => ?_)
  obtain ⟨hv2, H2⟩ := Q2
  subst hv2
  show OGo p e below _ T2 (mkF m 63 #[.val (.int i0), .val (.int i1), .val (.int i2), .val (.int i3), .val (.int i4), .val (.int i5), .val (.int lm), .val (.int a), .val (.int b), .val (.int c), .val (.int d), .val (.double r), .second, .unset, .unset, .unset, .unset, .unset, .unset, .unset] [(.ref a1)])
  refine OGo.astore (pc' := 65) C X2 at_63 rfl rfl (l' := #[.val (.int i0), .val (.int i1), .val (.int i2), .val (.int i3), .val (.int i4), .val (.int i5), .val (.int lm), .val (.int a), .val (.int b), .val (.int c), .val (.int d), .val (.double r), .second, .val (.ref a1), .unset, .unset, .unset, .unset, .unset, .unset]) rfl ?_
  refine OGo.aload (pc' := 67) C X2 at_65 rfl rfl rfl ?_
  refine OGo.dload (pc' := 69) C X2 at_67 rfl rfl ?_
  refine OGo.callV (pc' := 72) (cells' := 4) (slots' := 17) (argsL := [(.double r)]) (St := []) C X2 (wd20 hw) (wd21 hw) (wd23 hw) (wd22 hw) (by decide) H2.1 (wd24 hw) (wd4 hw) (ct3 hw X2.2.1 a1 lm (fun _ => .int (0 : Int32)) (fun _ => .int (0 : Int32)) (0 : Int32) (0 : UInt64) r H2) (lenOf pd1 rfl) rfl at_69 rfl rfl (by decide) (Nat.le_of_ble_eq_true rfl) rfl rfl (by decide) (by decide) (fun v3 T3 h3 Q3 X3 z3 => ?_)
  obtain ⟨hv3, H3⟩ := Q3
  subst hv3
  show OGo p e below _ T3 (mkF m 72 #[.val (.int i0), .val (.int i1), .val (.int i2), .val (.int i3), .val (.int i4), .val (.int i5), .val (.int lm), .val (.int a), .val (.int b), .val (.int c), .val (.int d), .val (.double r), .second, .val (.ref a1), .unset, .unset, .unset, .unset, .unset, .unset] [])
  refine OGo.aload (pc' := 74) C X3 at_72 rfl rfl rfl ?_
  refine OGo.iload (pc' := 76) C X3 at_74 rfl rfl ?_
  refine OGo.callV (pc' := 79) (cells' := 4) (slots' := 17) (argsL := [(.int a)]) (St := []) C X3 (wd27 hw) (wd28 hw) (wd30 hw) (wd29 hw) (by decide) H3.1 (wd31 hw) (wd4 hw) (ctL0 hw X3.2.1 a1 lm (fun _ => .int (0 : Int32)) (fun _ => .int (0 : Int32)) (0 : Int32) r a H3 ba.1 ba.2 (by simp []) (by decide) (by have h1 := ba; have h2 := bb; have h3 := bc; simp only [Int32.lt_iff_toInt_lt, Int32.reduceToInt, ← Int32.toInt_inj] at *; omega)) (lenOf pd0 rfl) rfl at_76 rfl rfl (by decide) (Nat.le_of_ble_eq_true rfl) rfl rfl (by decide) (by decide) (fun v4 T4 h4 Q4 X4 z4 => ?_)
  obtain ⟨hv4, H4⟩ := Q4
  subst hv4
  rw [show ((0 : Int32) + (1 : Int32)) = (1 : Int32) from by decide] at H4
  show OGo p e below _ T4 (mkF m 79 #[.val (.int i0), .val (.int i1), .val (.int i2), .val (.int i3), .val (.int i4), .val (.int i5), .val (.int lm), .val (.int a), .val (.int b), .val (.int c), .val (.int d), .val (.double r), .second, .val (.ref a1), .unset, .unset, .unset, .unset, .unset, .unset] [])
  by_cases e_ba : b = a
  · refine OGo.aload (pc' := 81) C X4 at_79 rfl rfl rfl ?_
    refine OGo.iload (pc' := 83) C X4 at_81 rfl rfl ?_
    refine OGo.callV (pc' := 86) (cells' := 4) (slots' := 17) (argsL := [(.int b)]) (St := []) C X4 (wd27 hw) (wd28 hw) (wd30 hw) (wd29 hw) (by decide) H4.1 (wd31 hw) (wd4 hw) (ctL1 hw X4.2.1 a1 lm (fun k => if k = a then .int 1 else (fun _ => .int (0 : Int32)) k) (fun k => if k = (0 : Int32) then .int a else (fun _ => .int (0 : Int32)) k) (1 : Int32) r b H4 bb.1 bb.2 (by simp [e_ba])) (lenOf pd0 rfl) rfl at_83 rfl rfl (by decide) (Nat.le_of_ble_eq_true rfl) rfl rfl (by decide) (by decide) (fun v5 T5 h5 Q5 X5 z5 => ?_)
    obtain ⟨hv5, hh5⟩ := Q5
    subst hv5; rw [hh5] at X5
    show OGo p e below _ T5 (mkF m 86 #[.val (.int i0), .val (.int i1), .val (.int i2), .val (.int i3), .val (.int i4), .val (.int i5), .val (.int lm), .val (.int a), .val (.int b), .val (.int c), .val (.int d), .val (.double r), .second, .val (.ref a1), .unset, .unset, .unset, .unset, .unset, .unset] [])
    by_cases e_ca : c = a
    · refine OGo.aload (pc' := 88) C X5 at_86 rfl rfl rfl ?_
      refine OGo.iload (pc' := 90) C X5 at_88 rfl rfl ?_
      refine OGo.callV (pc' := 93) (cells' := 4) (slots' := 17) (argsL := [(.int c)]) (St := []) C X5 (wd27 hw) (wd28 hw) (wd30 hw) (wd29 hw) (by decide) H4.1 (wd31 hw) (wd4 hw) (ctL1 hw X5.2.1 a1 lm (fun k => if k = a then .int 1 else (fun _ => .int (0 : Int32)) k) (fun k => if k = (0 : Int32) then .int a else (fun _ => .int (0 : Int32)) k) (1 : Int32) r c H4 bc.1 bc.2 (by simp [e_ba, e_ca])) (lenOf pd0 rfl) rfl at_90 rfl rfl (by decide) (Nat.le_of_ble_eq_true rfl) rfl rfl (by decide) (by decide) (fun v6 T6 h6 Q6 X6 z6 => ?_)
      obtain ⟨hv6, hh6⟩ := Q6
      subst hv6; rw [hh6] at X6
      show OGo p e below _ T6 (mkF m 93 #[.val (.int i0), .val (.int i1), .val (.int i2), .val (.int i3), .val (.int i4), .val (.int i5), .val (.int lm), .val (.int a), .val (.int b), .val (.int c), .val (.int d), .val (.double r), .second, .val (.ref a1), .unset, .unset, .unset, .unset, .unset, .unset] [])
      refine OGo.iload (pc' := 95) C X6 at_93 rfl rfl ?_
      refine OGo.istore (pc' := 97) C X6 at_95 rfl (l' := #[.val (.int i0), .val (.int i1), .val (.int i2), .val (.int i3), .val (.int i4), .val (.int i5), .val (.int lm), .val (.int a), .val (.int b), .val (.int c), .val (.int d), .val (.double r), .second, .val (.ref a1), .val (.int a), .unset, .unset, .unset, .unset, .unset]) rfl ?_
      refine OGo.iconst (pc' := 98) (z := (-1 : Int32)) C X6 at_97 rfl (by decide) ?_
      refine OGo.istore (pc' := 100) C X6 at_98 rfl (l' := #[.val (.int i0), .val (.int i1), .val (.int i2), .val (.int i3), .val (.int i4), .val (.int i5), .val (.int lm), .val (.int a), .val (.int b), .val (.int c), .val (.int d), .val (.double r), .second, .val (.ref a1), .val (.int a), .val (.int (-1 : Int32)), .unset, .unset, .unset, .unset]) rfl ?_
      refine OGo.iconst (pc' := 101) (z := (-1 : Int32)) C X6 at_100 rfl (by decide) ?_
      refine OGo.istore (pc' := 103) C X6 at_101 rfl (l' := #[.val (.int i0), .val (.int i1), .val (.int i2), .val (.int i3), .val (.int i4), .val (.int i5), .val (.int lm), .val (.int a), .val (.int b), .val (.int c), .val (.int d), .val (.double r), .second, .val (.ref a1), .val (.int a), .val (.int (-1 : Int32)), .val (.int (-1 : Int32)), .unset, .unset, .unset]) rfl ?_
      refine OGo.iconst (pc' := 104) (z := (1 : Int32)) C X6 at_103 rfl (by decide) ?_
      refine OGo.istore (pc' := 106) C X6 at_104 rfl (l' := #[.val (.int i0), .val (.int i1), .val (.int i2), .val (.int i3), .val (.int i4), .val (.int i5), .val (.int lm), .val (.int a), .val (.int b), .val (.int c), .val (.int d), .val (.double r), .second, .val (.ref a1), .val (.int a), .val (.int (-1 : Int32)), .val (.int (-1 : Int32)), .val (.int (1 : Int32)), .unset, .unset]) rfl ?_
      refine OGo.iload (pc' := 108) C X6 at_106 rfl rfl ?_
      refine OGo.iload (pc' := 110) C X6 at_108 rfl rfl ?_
      refine OGo.icmpYes (pc' := 120) C X6 at_110 (teq e_ba).1 (by decide) (by decide) ?_
      refine OGo.iload (pc' := 122) C X6 at_120 rfl rfl ?_
      refine OGo.iload (pc' := 124) C X6 at_122 rfl rfl ?_
      refine OGo.icmpYes (pc' := 157) C X6 at_124 (teq e_ca).1 (by decide) (by decide) ?_
      refine OGo.aload (pc' := 159) C X6 at_157 rfl rfl rfl ?_
      refine OGo.callV (pc' := 162) (cells' := 4) (slots' := 17) (argsL := []) (St := []) C X6 (wd34 hw) (wd35 hw) (wd37 hw) (wd36 hw) (by decide) H4.1 (wd38 hw) (wd4 hw) (ct5 hw X6.2.1 a1 lm (fun k => if k = a then .int 1 else (fun _ => .int (0 : Int32)) k) (fun k => if k = (0 : Int32) then .int a else (fun _ => .int (0 : Int32)) k) (1 : Int32) r H4) (lenOf pd2 rfl) rfl at_159 rfl rfl (by decide) (Nat.le_of_ble_eq_true rfl) rfl rfl (by decide) (by decide) (fun v7 T7 h7 Q7 X7 z7 => ?_)
      obtain ⟨hv7, hh7⟩ := Q7
      subst hv7; rw [hh7] at X7
      show OGo p e below _ T7 (mkF m 162 #[.val (.int i0), .val (.int i1), .val (.int i2), .val (.int i3), .val (.int i4), .val (.int i5), .val (.int lm), .val (.int a), .val (.int b), .val (.int c), .val (.int d), .val (.double r), .second, .val (.ref a1), .val (.int a), .val (.int (-1 : Int32)), .val (.int (-1 : Int32)), .val (.int (1 : Int32)), .unset, .unset] [(.int (1 : Int32))])
      refine OGo.iload (pc' := 164) C X7 at_162 rfl rfl ?_
      refine OGo.icmpYes (pc' := 169) C X7 at_164 (teq (by decide : (1 : Int32) = (1 : Int32))).1 (by decide) (by decide) ?_
      refine OGo.aload (pc' := 171) C X7 at_169 rfl rfl rfl ?_
      refine OGo.iconst (pc' := 172) (z := (0 : Int32)) C X7 at_171 rfl (by decide) ?_
      refine OGo.callV (pc' := 175) (cells' := 4) (slots' := 17) (argsL := [(.int (0 : Int32))]) (St := []) C X7 (wd39 hw) (wd40 hw) (wd42 hw) (wd41 hw) (by decide) H4.1 (wd43 hw) (wd4 hw) (ct6 hw X7.2.1 a1 lm (fun k => if k = a then .int 1 else (fun _ => .int (0 : Int32)) k) (fun k => if k = (0 : Int32) then .int a else (fun _ => .int (0 : Int32)) k) (1 : Int32) r (0 : Int32) a H4 (by decide) (by have h1 := ba; have h2 := bb; have h3 := bc; simp only [Int32.lt_iff_toInt_lt, Int32.reduceToInt, ← Int32.toInt_inj] at *; omega) (by simp)) (lenOf pd3 rfl) rfl at_172 rfl rfl (by decide) (Nat.le_of_ble_eq_true rfl) rfl rfl (by decide) (by decide) (fun v8 T8 h8 Q8 X8 z8 => ?_)
      obtain ⟨hv8, hh8⟩ := Q8
      subst hv8; rw [hh8] at X8
      show OGo p e below _ T8 (mkF m 175 #[.val (.int i0), .val (.int i1), .val (.int i2), .val (.int i3), .val (.int i4), .val (.int i5), .val (.int lm), .val (.int a), .val (.int b), .val (.int c), .val (.int d), .val (.double r), .second, .val (.ref a1), .val (.int a), .val (.int (-1 : Int32)), .val (.int (-1 : Int32)), .val (.int (1 : Int32)), .unset, .unset] [(.int a)])
      refine OGo.iload (pc' := 177) C X8 at_175 rfl rfl ?_
      refine OGo.icmpYes (pc' := 182) C X8 at_177 (teq rfl).1 (by decide) (by decide) ?_
      refine OGo.iload (pc' := 184) C X8 at_182 rfl rfl ?_
      refine OGo.iconst (pc' := 185) (z := (2 : Int32)) C X8 at_184 rfl (by decide) ?_
      refine OGo.icmpYes (pc' := 201) C X8 at_185 (tlt (by decide : (1 : Int32) < (2 : Int32))).1 (by decide) (by decide) ?_
      refine OGo.iload (pc' := 203) C X8 at_201 rfl rfl ?_
      refine OGo.iconst (pc' := 204) (z := (3 : Int32)) C X8 at_203 rfl (by decide) ?_
      refine OGo.icmpYes (pc' := 220) C X8 at_204 (tlt (by decide : (1 : Int32) < (3 : Int32))).1 (by decide) (by decide) ?_
      refine OGo.iload (pc' := 222) C X8 at_220 rfl rfl ?_
      refine OGo.iload (pc' := 224) C X8 at_222 rfl rfl ?_
      by_cases e_da : d = a
      · refine OGo.icmpYes (pc' := 241) C X8 at_224 (teq e_da).1 (by decide) (by decide) ?_
        refine OGo.dconst0 (pc' := 242) (v := (FP.dconst0)) C X8 at_241 rfl rfl ?_
        refine OGo.goto (pc' := 247) C X8 at_242 (by decide) (by decide) ?_
        refine OGo.dstore (pc' := 249) C X8 at_247 rfl (l' := #[.val (.int i0), .val (.int i1), .val (.int i2), .val (.int i3), .val (.int i4), .val (.int i5), .val (.int lm), .val (.int a), .val (.int b), .val (.int c), .val (.int d), .val (.double r), .second, .val (.ref a1), .val (.int a), .val (.int (-1 : Int32)), .val (.int (-1 : Int32)), .val (.int (1 : Int32)), .val (.double (FP.dconst0)), .second]) rfl ?_
        refine OGo.aload (pc' := 251) C X8 at_249 rfl rfl rfl ?_
        refine OGo.iload (pc' := 253) C X8 at_251 rfl rfl ?_
        refine OGo.callV (pc' := 256) (cells' := 4) (slots' := 17) (argsL := [(.int d)]) (St := []) C X8 (wd44 hw) (wd45 hw) (wd47 hw) (wd46 hw) (by decide) H4.1 (wd48 hw) (wd4 hw) (ctV1 hw X8.2.1 a1 lm (fun k => if k = a then .int 1 else (fun _ => .int (0 : Int32)) k) (fun k => if k = (0 : Int32) then .int a else (fun _ => .int (0 : Int32)) k) (1 : Int32) r d H4 bd.1 bd.2 (by simp [e_ba, e_ca, e_da])) (lenOf pd4 rfl) rfl at_253 rfl rfl (by decide) (Nat.le_of_ble_eq_true rfl) rfl rfl (by decide) (by decide) (fun v10 T10 h10 Q10 X10 z10 => ?_)
        obtain ⟨hv10, hh10⟩ := Q10
        subst hv10; rw [hh10] at X10
        show OGo p e below _ T10 (mkF m 256 #[.val (.int i0), .val (.int i1), .val (.int i2), .val (.int i3), .val (.int i4), .val (.int i5), .val (.int lm), .val (.int a), .val (.int b), .val (.int c), .val (.int d), .val (.double r), .second, .val (.ref a1), .val (.int a), .val (.int (-1 : Int32)), .val (.int (-1 : Int32)), .val (.int (1 : Int32)), .val (.double (FP.dconst0)), .second] [(.double (0 : UInt64))])
        refine OGo.dload (pc' := 258) C X10 at_256 rfl rfl ?_
        refine OGo.dcmp (pc' := 259) (v := (0 : Int32)) C X10 at_258 rfl (by decide +kernel) ?_
        refine OGo.ifYes (pc' := 264) C X10 at_259 (teq (by decide : (0 : Int32) = (0 : Int32))).1 (by decide) (by decide) ?_
        refine OGo.aload (pc' := 266) C X10 at_264 rfl rfl rfl ?_
        refine OGo.callV (pc' := 269) (cells' := 4) (slots' := 17) (argsL := []) (St := []) C X10 (wd49 hw) (wd50 hw) (wd52 hw) (wd51 hw) (by decide) H4.1 (wd53 hw) (wd4 hw) (ct8 hw X10.2.1 a1 lm (fun k => if k = a then .int 1 else (fun _ => .int (0 : Int32)) k) (fun k => if k = (0 : Int32) then .int a else (fun _ => .int (0 : Int32)) k) (1 : Int32) r H4) (lenOf pd5 rfl) rfl at_266 rfl rfl (by decide) (Nat.le_of_ble_eq_true rfl) rfl rfl (by decide) (by decide) (fun v11 T11 h11 Q11 X11 z11 => ?_)
        obtain ⟨hv11, hh11⟩ := Q11
        subst hv11; rw [hh11] at X11
        show OGo p e below _ T11 (mkF m 269 #[.val (.int i0), .val (.int i1), .val (.int i2), .val (.int i3), .val (.int i4), .val (.int i5), .val (.int lm), .val (.int a), .val (.int b), .val (.int c), .val (.int d), .val (.double r), .second, .val (.ref a1), .val (.int a), .val (.int (-1 : Int32)), .val (.int (-1 : Int32)), .val (.int (1 : Int32)), .val (.double (FP.dconst0)), .second] [(.double r)])
        refine OGo.dload (pc' := 271) C X11 at_269 rfl rfl ?_
        refine OGo.dcmp (pc' := 272) (v := (0 : Int32)) C X11 at_271 rfl (dcmpV_self (h_r ▸ (i2d_fin _).noNaN) .l) ?_
        refine OGo.ifNo (pc' := 275) C X11 at_272 rfl (teq (by decide : (0 : Int32) = (0 : Int32))).2 ?_
        refine OGo.iconst (pc' := 276) (z := (1 : Int32)) C X11 at_275 rfl (by decide) ?_
        refine OGo.goto (pc' := 280) C X11 at_276 (by decide) (by decide) ?_
        exact OGo.retN C X11 at_280 hret (by simp) (z' := (1 : Int32)) (by decide) hlk (rfl) (by decide) (by decide)
      · refine OGo.icmpNo (pc' := 227) C X8 at_224 rfl (feq e_da).1 ?_
        refine OGo.iload (pc' := 229) C X8 at_227 rfl rfl ?_
        refine OGo.iload (pc' := 231) C X8 at_229 rfl rfl ?_
        by_cases e_db : d = b
        · refine OGo.icmpYes (pc' := 241) C X8 at_231 (teq e_db).1 (by decide) (by decide) ?_
          refine OGo.dconst0 (pc' := 242) (v := (FP.dconst0)) C X8 at_241 rfl rfl ?_
          refine OGo.goto (pc' := 247) C X8 at_242 (by decide) (by decide) ?_
          refine OGo.dstore (pc' := 249) C X8 at_247 rfl (l' := #[.val (.int i0), .val (.int i1), .val (.int i2), .val (.int i3), .val (.int i4), .val (.int i5), .val (.int lm), .val (.int a), .val (.int b), .val (.int c), .val (.int d), .val (.double r), .second, .val (.ref a1), .val (.int a), .val (.int (-1 : Int32)), .val (.int (-1 : Int32)), .val (.int (1 : Int32)), .val (.double (FP.dconst0)), .second]) rfl ?_
          refine OGo.aload (pc' := 251) C X8 at_249 rfl rfl rfl ?_
          refine OGo.iload (pc' := 253) C X8 at_251 rfl rfl ?_
          refine OGo.callV (pc' := 256) (cells' := 4) (slots' := 17) (argsL := [(.int d)]) (St := []) C X8 (wd44 hw) (wd45 hw) (wd47 hw) (wd46 hw) (by decide) H4.1 (wd48 hw) (wd4 hw) (ctV1 hw X8.2.1 a1 lm (fun k => if k = a then .int 1 else (fun _ => .int (0 : Int32)) k) (fun k => if k = (0 : Int32) then .int a else (fun _ => .int (0 : Int32)) k) (1 : Int32) r d H4 bd.1 bd.2 (by simp [e_ba, e_ca, e_da, e_db])) (lenOf pd4 rfl) rfl at_253 rfl rfl (by decide) (Nat.le_of_ble_eq_true rfl) rfl rfl (by decide) (by decide) (fun v13 T13 h13 Q13 X13 z13 => ?_)
          obtain ⟨hv13, hh13⟩ := Q13
          subst hv13; rw [hh13] at X13
          show OGo p e below _ T13 (mkF m 256 #[.val (.int i0), .val (.int i1), .val (.int i2), .val (.int i3), .val (.int i4), .val (.int i5), .val (.int lm), .val (.int a), .val (.int b), .val (.int c), .val (.int d), .val (.double r), .second, .val (.ref a1), .val (.int a), .val (.int (-1 : Int32)), .val (.int (-1 : Int32)), .val (.int (1 : Int32)), .val (.double (FP.dconst0)), .second] [(.double (0 : UInt64))])
          refine OGo.dload (pc' := 258) C X13 at_256 rfl rfl ?_
          refine OGo.dcmp (pc' := 259) (v := (0 : Int32)) C X13 at_258 rfl (by decide +kernel) ?_
          refine OGo.ifYes (pc' := 264) C X13 at_259 (teq (by decide : (0 : Int32) = (0 : Int32))).1 (by decide) (by decide) ?_
          refine OGo.aload (pc' := 266) C X13 at_264 rfl rfl rfl ?_
          refine OGo.callV (pc' := 269) (cells' := 4) (slots' := 17) (argsL := []) (St := []) C X13 (wd49 hw) (wd50 hw) (wd52 hw) (wd51 hw) (by decide) H4.1 (wd53 hw) (wd4 hw) (ct8 hw X13.2.1 a1 lm (fun k => if k = a then .int 1 else (fun _ => .int (0 : Int32)) k) (fun k => if k = (0 : Int32) then .int a else (fun _ => .int (0 : Int32)) k) (1 : Int32) r H4) (lenOf pd5 rfl) rfl at_266 rfl rfl (by decide) (Nat.le_of_ble_eq_true rfl) rfl rfl (by decide) (by decide) (fun v14 T14 h14 Q14 X14 z14 => ?_)
          obtain ⟨hv14, hh14⟩ := Q14
          subst hv14; rw [hh14] at X14
          show OGo p e below _ T14 (mkF m 269 #[.val (.int i0), .val (.int i1), .val (.int i2), .val (.int i3), .val (.int i4), .val (.int i5), .val (.int lm), .val (.int a), .val (.int b), .val (.int c), .val (.int d), .val (.double r), .second, .val (.ref a1), .val (.int a), .val (.int (-1 : Int32)), .val (.int (-1 : Int32)), .val (.int (1 : Int32)), .val (.double (FP.dconst0)), .second] [(.double r)])
          refine OGo.dload (pc' := 271) C X14 at_269 rfl rfl ?_
          refine OGo.dcmp (pc' := 272) (v := (0 : Int32)) C X14 at_271 rfl (dcmpV_self (h_r ▸ (i2d_fin _).noNaN) .l) ?_
          refine OGo.ifNo (pc' := 275) C X14 at_272 rfl (teq (by decide : (0 : Int32) = (0 : Int32))).2 ?_
          refine OGo.iconst (pc' := 276) (z := (1 : Int32)) C X14 at_275 rfl (by decide) ?_
          refine OGo.goto (pc' := 280) C X14 at_276 (by decide) (by decide) ?_
          exact OGo.retN C X14 at_280 hret (by simp) (z' := (1 : Int32)) (by decide) hlk (rfl) (by decide) (by decide)
        · refine OGo.icmpNo (pc' := 234) C X8 at_231 rfl (feq e_db).1 ?_
          refine OGo.iload (pc' := 236) C X8 at_234 rfl rfl ?_
          refine OGo.iload (pc' := 238) C X8 at_236 rfl rfl ?_
          by_cases e_dc : d = c
          · refine OGo.icmpNo (pc' := 241) C X8 at_238 rfl (teq e_dc).2 ?_
            refine OGo.dconst0 (pc' := 242) (v := (FP.dconst0)) C X8 at_241 rfl rfl ?_
            refine OGo.goto (pc' := 247) C X8 at_242 (by decide) (by decide) ?_
            refine OGo.dstore (pc' := 249) C X8 at_247 rfl (l' := #[.val (.int i0), .val (.int i1), .val (.int i2), .val (.int i3), .val (.int i4), .val (.int i5), .val (.int lm), .val (.int a), .val (.int b), .val (.int c), .val (.int d), .val (.double r), .second, .val (.ref a1), .val (.int a), .val (.int (-1 : Int32)), .val (.int (-1 : Int32)), .val (.int (1 : Int32)), .val (.double (FP.dconst0)), .second]) rfl ?_
            refine OGo.aload (pc' := 251) C X8 at_249 rfl rfl rfl ?_
            refine OGo.iload (pc' := 253) C X8 at_251 rfl rfl ?_
            refine OGo.callV (pc' := 256) (cells' := 4) (slots' := 17) (argsL := [(.int d)]) (St := []) C X8 (wd44 hw) (wd45 hw) (wd47 hw) (wd46 hw) (by decide) H4.1 (wd48 hw) (wd4 hw) (ctV1 hw X8.2.1 a1 lm (fun k => if k = a then .int 1 else (fun _ => .int (0 : Int32)) k) (fun k => if k = (0 : Int32) then .int a else (fun _ => .int (0 : Int32)) k) (1 : Int32) r d H4 bd.1 bd.2 (by simp [e_ba, e_ca, e_da, e_db, e_dc])) (lenOf pd4 rfl) rfl at_253 rfl rfl (by decide) (Nat.le_of_ble_eq_true rfl) rfl rfl (by decide) (by decide) (fun v16 T16 h16 Q16 X16 z16 => ?_)
            obtain ⟨hv16, hh16⟩ := Q16
            subst hv16; rw [hh16] at X16
            show OGo p e below _ T16 (mkF m 256 #[.val (.int i0), .val (.int i1), .val (.int i2), .val (.int i3), .val (.int i4), .val (.int i5), .val (.int lm), .val (.int a), .val (.int b), .val (.int c), .val (.int d), .val (.double r), .second, .val (.ref a1), .val (.int a), .val (.int (-1 : Int32)), .val (.int (-1 : Int32)), .val (.int (1 : Int32)), .val (.double (FP.dconst0)), .second] [(.double (0 : UInt64))])
            refine OGo.dload (pc' := 258) C X16 at_256 rfl rfl ?_
            refine OGo.dcmp (pc' := 259) (v := (0 : Int32)) C X16 at_258 rfl (by decide +kernel) ?_
            refine OGo.ifYes (pc' := 264) C X16 at_259 (teq (by decide : (0 : Int32) = (0 : Int32))).1 (by decide) (by decide) ?_
            refine OGo.aload (pc' := 266) C X16 at_264 rfl rfl rfl ?_
            refine OGo.callV (pc' := 269) (cells' := 4) (slots' := 17) (argsL := []) (St := []) C X16 (wd49 hw) (wd50 hw) (wd52 hw) (wd51 hw) (by decide) H4.1 (wd53 hw) (wd4 hw) (ct8 hw X16.2.1 a1 lm (fun k => if k = a then .int 1 else (fun _ => .int (0 : Int32)) k) (fun k => if k = (0 : Int32) then .int a else (fun _ => .int (0 : Int32)) k) (1 : Int32) r H4) (lenOf pd5 rfl) rfl at_266 rfl rfl (by decide) (Nat.le_of_ble_eq_true rfl) rfl rfl (by decide) (by decide) (fun v17 T17 h17 Q17 X17 z17 => ?_)
            obtain ⟨hv17, hh17⟩ := Q17
            subst hv17; rw [hh17] at X17
            show OGo p e below _ T17 (mkF m 269 #[.val (.int i0), .val (.int i1), .val (.int i2), .val (.int i3), .val (.int i4), .val (.int i5), .val (.int lm), .val (.int a), .val (.int b), .val (.int c), .val (.int d), .val (.double r), .second, .val (.ref a1), .val (.int a), .val (.int (-1 : Int32)), .val (.int (-1 : Int32)), .val (.int (1 : Int32)), .val (.double (FP.dconst0)), .second] [(.double r)])
            refine OGo.dload (pc' := 271) C X17 at_269 rfl rfl ?_
            refine OGo.dcmp (pc' := 272) (v := (0 : Int32)) C X17 at_271 rfl (dcmpV_self (h_r ▸ (i2d_fin _).noNaN) .l) ?_
            refine OGo.ifNo (pc' := 275) C X17 at_272 rfl (teq (by decide : (0 : Int32) = (0 : Int32))).2 ?_
            refine OGo.iconst (pc' := 276) (z := (1 : Int32)) C X17 at_275 rfl (by decide) ?_
            refine OGo.goto (pc' := 280) C X17 at_276 (by decide) (by decide) ?_
            exact OGo.retN C X17 at_280 hret (by simp) (z' := (1 : Int32)) (by decide) hlk (rfl) (by decide) (by decide)
          · refine OGo.icmpYes (pc' := 245) C X8 at_238 (feq e_dc).2 (by decide) (by decide) ?_
            refine OGo.dload (pc' := 247) C X8 at_245 rfl rfl ?_
            refine OGo.dstore (pc' := 249) C X8 at_247 rfl (l' := #[.val (.int i0), .val (.int i1), .val (.int i2), .val (.int i3), .val (.int i4), .val (.int i5), .val (.int lm), .val (.int a), .val (.int b), .val (.int c), .val (.int d), .val (.double r), .second, .val (.ref a1), .val (.int a), .val (.int (-1 : Int32)), .val (.int (-1 : Int32)), .val (.int (1 : Int32)), .val (.double r), .second]) rfl ?_
            refine OGo.aload (pc' := 251) C X8 at_249 rfl rfl rfl ?_
            refine OGo.iload (pc' := 253) C X8 at_251 rfl rfl ?_
            refine OGo.callV (pc' := 256) (cells' := 4) (slots' := 17) (argsL := [(.int d)]) (St := []) C X8 (wd44 hw) (wd45 hw) (wd47 hw) (wd46 hw) (by decide) H4.1 (wd48 hw) (wd4 hw) (ctV0 hw X8.2.1 a1 lm (fun k => if k = a then .int 1 else (fun _ => .int (0 : Int32)) k) (fun k => if k = (0 : Int32) then .int a else (fun _ => .int (0 : Int32)) k) (1 : Int32) r d H4 bd.1 bd.2 (by simp [e_ba, e_ca, e_da, e_db, e_dc])) (lenOf pd4 rfl) rfl at_253 rfl rfl (by decide) (Nat.le_of_ble_eq_true rfl) rfl rfl (by decide) (by decide) (fun v18 T18 h18 Q18 X18 z18 => ?_)
            obtain ⟨hv18, hh18⟩ := Q18
            subst hv18; rw [hh18] at X18
            show OGo p e below _ T18 (mkF m 256 #[.val (.int i0), .val (.int i1), .val (.int i2), .val (.int i3), .val (.int i4), .val (.int i5), .val (.int lm), .val (.int a), .val (.int b), .val (.int c), .val (.int d), .val (.double r), .second, .val (.ref a1), .val (.int a), .val (.int (-1 : Int32)), .val (.int (-1 : Int32)), .val (.int (1 : Int32)), .val (.double r), .second] [(.double r)])
            refine OGo.dload (pc' := 258) C X18 at_256 rfl rfl ?_
            refine OGo.dcmp (pc' := 259) (v := (0 : Int32)) C X18 at_258 rfl (dcmpV_self (h_r ▸ (i2d_fin _).noNaN) .l) ?_
            refine OGo.ifYes (pc' := 264) C X18 at_259 (teq (by decide : (0 : Int32) = (0 : Int32))).1 (by decide) (by decide) ?_
            refine OGo.aload (pc' := 266) C X18 at_264 rfl rfl rfl ?_
            refine OGo.callV (pc' := 269) (cells' := 4) (slots' := 17) (argsL := []) (St := []) C X18 (wd49 hw) (wd50 hw) (wd52 hw) (wd51 hw) (by decide) H4.1 (wd53 hw) (wd4 hw) (ct8 hw X18.2.1 a1 lm (fun k => if k = a then .int 1 else (fun _ => .int (0 : Int32)) k) (fun k => if k = (0 : Int32) then .int a else (fun _ => .int (0 : Int32)) k) (1 : Int32) r H4) (lenOf pd5 rfl) rfl at_266 rfl rfl (by decide) (Nat.le_of_ble_eq_true rfl) rfl rfl (by decide) (by decide) (fun v19 T19 h19 Q19 X19 z19 => ?_)
            obtain ⟨hv19, hh19⟩ := Q19
            subst hv19; rw [hh19] at X19
            show OGo p e below _ T19 (mkF m 269 #[.val (.int i0), .val (.int i1), .val (.int i2), .val (.int i3), .val (.int i4), .val (.int i5), .val (.int lm), .val (.int a), .val (.int b), .val (.int c), .val (.int d), .val (.double r), .second, .val (.ref a1), .val (.int a), .val (.int (-1 : Int32)), .val (.int (-1 : Int32)), .val (.int (1 : Int32)), .val (.double r), .second] [(.double r)])
            refine OGo.dload (pc' := 271) C X19 at_269 rfl rfl ?_
            refine OGo.dcmp (pc' := 272) (v := (0 : Int32)) C X19 at_271 rfl (dcmpV_self (h_r ▸ (i2d_fin _).noNaN) .l) ?_
            refine OGo.ifNo (pc' := 275) C X19 at_272 rfl (teq (by decide : (0 : Int32) = (0 : Int32))).2 ?_
            refine OGo.iconst (pc' := 276) (z := (1 : Int32)) C X19 at_275 rfl (by decide) ?_
            refine OGo.goto (pc' := 280) C X19 at_276 (by decide) (by decide) ?_
            exact OGo.retN C X19 at_280 hret (by simp) (z' := (1 : Int32)) (by decide) hlk (rfl) (by decide) (by decide)
    · have e_cb : ¬ c = b := fun z => e_ca (z.trans e_ba)
      refine OGo.aload (pc' := 88) C X5 at_86 rfl rfl rfl ?_
      refine OGo.iload (pc' := 90) C X5 at_88 rfl rfl ?_
      refine OGo.callV (pc' := 93) (cells' := 4) (slots' := 17) (argsL := [(.int c)]) (St := []) C X5 (wd27 hw) (wd28 hw) (wd30 hw) (wd29 hw) (by decide) H4.1 (wd31 hw) (wd4 hw) (ctL0 hw X5.2.1 a1 lm (fun k => if k = a then .int 1 else (fun _ => .int (0 : Int32)) k) (fun k => if k = (0 : Int32) then .int a else (fun _ => .int (0 : Int32)) k) (1 : Int32) r c H4 bc.1 bc.2 (by simp [e_ba, e_ca, e_cb]) (by decide) (by have h1 := ba; have h2 := bb; have h3 := bc; simp only [Int32.lt_iff_toInt_lt, Int32.reduceToInt, ← Int32.toInt_inj] at *; omega)) (lenOf pd0 rfl) rfl at_90 rfl rfl (by decide) (Nat.le_of_ble_eq_true rfl) rfl rfl (by decide) (by decide) (fun v20 T20 h20 Q20 X20 z20 => ?_)
      obtain ⟨hv20, H20⟩ := Q20
      subst hv20
      rw [show ((1 : Int32) + (1 : Int32)) = (2 : Int32) from by decide] at H20
      show OGo p e below _ T20 (mkF m 93 #[.val (.int i0), .val (.int i1), .val (.int i2), .val (.int i3), .val (.int i4), .val (.int i5), .val (.int lm), .val (.int a), .val (.int b), .val (.int c), .val (.int d), .val (.double r), .second, .val (.ref a1), .unset, .unset, .unset, .unset, .unset, .unset] [])
      refine OGo.iload (pc' := 95) C X20 at_93 rfl rfl ?_
      refine OGo.istore (pc' := 97) C X20 at_95 rfl (l' := #[.val (.int i0), .val (.int i1), .val (.int i2), .val (.int i3), .val (.int i4), .val (.int i5), .val (.int lm), .val (.int a), .val (.int b), .val (.int c), .val (.int d), .val (.double r), .second, .val (.ref a1), .val (.int a), .unset, .unset, .unset, .unset, .unset]) rfl ?_
      refine OGo.iconst (pc' := 98) (z := (-1 : Int32)) C X20 at_97 rfl (by decide) ?_
      refine OGo.istore (pc' := 100) C X20 at_98 rfl (l' := #[.val (.int i0), .val (.int i1), .val (.int i2), .val (.int i3), .val (.int i4), .val (.int i5), .val (.int lm), .val (.int a), .val (.int b), .val (.int c), .val (.int d), .val (.double r), .second, .val (.ref a1), .val (.int a), .val (.int (-1 : Int32)), .unset, .unset, .unset, .unset]) rfl ?_
      refine OGo.iconst (pc' := 101) (z := (-1 : Int32)) C X20 at_100 rfl (by decide) ?_
      refine OGo.istore (pc' := 103) C X20 at_101 rfl (l' := #[.val (.int i0), .val (.int i1), .val (.int i2), .val (.int i3), .val (.int i4), .val (.int i5), .val (.int lm), .val (.int a), .val (.int b), .val (.int c), .val (.int d), .val (.double r), .second, .val (.ref a1), .val (.int a), .val (.int (-1 : Int32)), .val (.int (-1 : Int32)), .unset, .unset, .unset]) rfl ?_
      refine OGo.iconst (pc' := 104) (z := (1 : Int32)) C X20 at_103 rfl (by decide) ?_
      refine OGo.istore (pc' := 106) C X20 at_104 rfl (l' := #[.val (.int i0), .val (.int i1), .val (.int i2), .val (.int i3), .val (.int i4), .val (.int i5), .val (.int lm), .val (.int a), .val (.int b), .val (.int c), .val (.int d), .val (.double r), .second, .val (.ref a1), .val (.int a), .val (.int (-1 : Int32)), .val (.int (-1 : Int32)), .val (.int (1 : Int32)), .unset, .unset]) rfl ?_
      refine OGo.iload (pc' := 108) C X20 at_106 rfl rfl ?_
      refine OGo.iload (pc' := 110) C X20 at_108 rfl rfl ?_
      refine OGo.icmpYes (pc' := 120) C X20 at_110 (teq e_ba).1 (by decide) (by decide) ?_
      refine OGo.iload (pc' := 122) C X20 at_120 rfl rfl ?_
      refine OGo.iload (pc' := 124) C X20 at_122 rfl rfl ?_
      refine OGo.icmpNo (pc' := 127) C X20 at_124 rfl (feq e_ca).1 ?_
      refine OGo.iload (pc' := 129) C X20 at_127 rfl rfl ?_
      refine OGo.iload (pc' := 131) C X20 at_129 rfl rfl ?_
      refine OGo.icmpNo (pc' := 134) C X20 at_131 rfl (feq e_cb).1 ?_
      refine OGo.iload (pc' := 136) C X20 at_134 rfl rfl ?_
      refine OGo.iconst (pc' := 137) (z := (1 : Int32)) C X20 at_136 rfl (by decide) ?_
      refine OGo.icmpNo (pc' := 140) C X20 at_137 rfl (teq (by decide : (1 : Int32) = (1 : Int32))).2 ?_
      refine OGo.iload (pc' := 142) C X20 at_140 rfl rfl ?_
      refine OGo.istore (pc' := 144) C X20 at_142 rfl (l' := #[.val (.int i0), .val (.int i1), .val (.int i2), .val (.int i3), .val (.int i4), .val (.int i5), .val (.int lm), .val (.int a), .val (.int b), .val (.int c), .val (.int d), .val (.double r), .second, .val (.ref a1), .val (.int a), .val (.int c), .val (.int (-1 : Int32)), .val (.int (1 : Int32)), .unset, .unset]) rfl ?_
      refine OGo.goto (pc' := 151) C X20 at_144 (by decide) (by decide) ?_
      refine OGo.iload (pc' := 153) C X20 at_151 rfl rfl ?_
      refine OGo.iconst (pc' := 154) (z := (1 : Int32)) C X20 at_153 rfl (by decide) ?_
      refine OGo.iadd (pc' := 155) (z := (2 : Int32)) C X20 at_154 rfl (by decide) ?_
      refine OGo.istore (pc' := 157) C X20 at_155 rfl (l' := #[.val (.int i0), .val (.int i1), .val (.int i2), .val (.int i3), .val (.int i4), .val (.int i5), .val (.int lm), .val (.int a), .val (.int b), .val (.int c), .val (.int d), .val (.double r), .second, .val (.ref a1), .val (.int a), .val (.int c), .val (.int (-1 : Int32)), .val (.int (2 : Int32)), .unset, .unset]) rfl ?_
      refine OGo.aload (pc' := 159) C X20 at_157 rfl rfl rfl ?_
      refine OGo.callV (pc' := 162) (cells' := 4) (slots' := 17) (argsL := []) (St := []) C X20 (wd34 hw) (wd35 hw) (wd37 hw) (wd36 hw) (by decide) H20.1 (wd38 hw) (wd4 hw) (ct5 hw X20.2.1 a1 lm (fun k => if k = c then .int 1 else (fun k => if k = a then .int 1 else (fun _ => .int (0 : Int32)) k) k) (fun k => if k = (1 : Int32) then .int c else (fun k => if k = (0 : Int32) then .int a else (fun _ => .int (0 : Int32)) k) k) (2 : Int32) r H20) (lenOf pd2 rfl) rfl at_159 rfl rfl (by decide) (Nat.le_of_ble_eq_true rfl) rfl rfl (by decide) (by decide) (fun v21 T21 h21 Q21 X21 z21 => ?_)
      obtain ⟨hv21, hh21⟩ := Q21
      subst hv21; rw [hh21] at X21
      show OGo p e below _ T21 (mkF m 162 #[.val (.int i0), .val (.int i1), .val (.int i2), .val (.int i3), .val (.int i4), .val (.int i5), .val (.int lm), .val (.int a), .val (.int b), .val (.int c), .val (.int d), .val (.double r), .second, .val (.ref a1), .val (.int a), .val (.int c), .val (.int (-1 : Int32)), .val (.int (2 : Int32)), .unset, .unset] [(.int (2 : Int32))])
      refine OGo.iload (pc' := 164) C X21 at_162 rfl rfl ?_
      refine OGo.icmpYes (pc' := 169) C X21 at_164 (teq (by decide : (2 : Int32) = (2 : Int32))).1 (by decide) (by decide) ?_
      refine OGo.aload (pc' := 171) C X21 at_169 rfl rfl rfl ?_
      refine OGo.iconst (pc' := 172) (z := (0 : Int32)) C X21 at_171 rfl (by decide) ?_
      refine OGo.callV (pc' := 175) (cells' := 4) (slots' := 17) (argsL := [(.int (0 : Int32))]) (St := []) C X21 (wd39 hw) (wd40 hw) (wd42 hw) (wd41 hw) (by decide) H20.1 (wd43 hw) (wd4 hw) (ct6 hw X21.2.1 a1 lm (fun k => if k = c then .int 1 else (fun k => if k = a then .int 1 else (fun _ => .int (0 : Int32)) k) k) (fun k => if k = (1 : Int32) then .int c else (fun k => if k = (0 : Int32) then .int a else (fun _ => .int (0 : Int32)) k) k) (2 : Int32) r (0 : Int32) a H20 (by decide) (by have h1 := ba; have h2 := bb; have h3 := bc; simp only [Int32.lt_iff_toInt_lt, Int32.reduceToInt, ← Int32.toInt_inj] at *; omega) (by simp)) (lenOf pd3 rfl) rfl at_172 rfl rfl (by decide) (Nat.le_of_ble_eq_true rfl) rfl rfl (by decide) (by decide) (fun v22 T22 h22 Q22 X22 z22 => ?_)
      obtain ⟨hv22, hh22⟩ := Q22
      subst hv22; rw [hh22] at X22
      show OGo p e below _ T22 (mkF m 175 #[.val (.int i0), .val (.int i1), .val (.int i2), .val (.int i3), .val (.int i4), .val (.int i5), .val (.int lm), .val (.int a), .val (.int b), .val (.int c), .val (.int d), .val (.double r), .second, .val (.ref a1), .val (.int a), .val (.int c), .val (.int (-1 : Int32)), .val (.int (2 : Int32)), .unset, .unset] [(.int a)])
      refine OGo.iload (pc' := 177) C X22 at_175 rfl rfl ?_
      refine OGo.icmpYes (pc' := 182) C X22 at_177 (teq rfl).1 (by decide) (by decide) ?_
      refine OGo.iload (pc' := 184) C X22 at_182 rfl rfl ?_
      refine OGo.iconst (pc' := 185) (z := (2 : Int32)) C X22 at_184 rfl (by decide) ?_
      refine OGo.icmpNo (pc' := 188) C X22 at_185 rfl (flt (by decide : ¬ (2 : Int32) < (2 : Int32))).1 ?_
      refine OGo.aload (pc' := 190) C X22 at_188 rfl rfl rfl ?_
      refine OGo.iconst (pc' := 191) (z := (1 : Int32)) C X22 at_190 rfl (by decide) ?_
      refine OGo.callV (pc' := 194) (cells' := 4) (slots' := 17) (argsL := [(.int (1 : Int32))]) (St := []) C X22 (wd39 hw) (wd40 hw) (wd42 hw) (wd41 hw) (by decide) H20.1 (wd43 hw) (wd4 hw) (ct6 hw X22.2.1 a1 lm (fun k => if k = c then .int 1 else (fun k => if k = a then .int 1 else (fun _ => .int (0 : Int32)) k) k) (fun k => if k = (1 : Int32) then .int c else (fun k => if k = (0 : Int32) then .int a else (fun _ => .int (0 : Int32)) k) k) (2 : Int32) r (1 : Int32) c H20 (by decide) (by have h1 := ba; have h2 := bb; have h3 := bc; simp only [Int32.lt_iff_toInt_lt, Int32.reduceToInt, ← Int32.toInt_inj] at *; omega) (by simp)) (lenOf pd3 rfl) rfl at_191 rfl rfl (by decide) (Nat.le_of_ble_eq_true rfl) rfl rfl (by decide) (by decide) (fun v23 T23 h23 Q23 X23 z23 => ?_)
      obtain ⟨hv23, hh23⟩ := Q23
      subst hv23; rw [hh23] at X23
      show OGo p e below _ T23 (mkF m 194 #[.val (.int i0), .val (.int i1), .val (.int i2), .val (.int i3), .val (.int i4), .val (.int i5), .val (.int lm), .val (.int a), .val (.int b), .val (.int c), .val (.int d), .val (.double r), .second, .val (.ref a1), .val (.int a), .val (.int c), .val (.int (-1 : Int32)), .val (.int (2 : Int32)), .unset, .unset] [(.int c)])
      refine OGo.iload (pc' := 196) C X23 at_194 rfl rfl ?_
      refine OGo.icmpYes (pc' := 201) C X23 at_196 (teq rfl).1 (by decide) (by decide) ?_
      refine OGo.iload (pc' := 203) C X23 at_201 rfl rfl ?_
      refine OGo.iconst (pc' := 204) (z := (3 : Int32)) C X23 at_203 rfl (by decide) ?_
      refine OGo.icmpYes (pc' := 220) C X23 at_204 (tlt (by decide : (2 : Int32) < (3 : Int32))).1 (by decide) (by decide) ?_
      refine OGo.iload (pc' := 222) C X23 at_220 rfl rfl ?_
      refine OGo.iload (pc' := 224) C X23 at_222 rfl rfl ?_
      by_cases e_da : d = a
      · refine OGo.icmpYes (pc' := 241) C X23 at_224 (teq e_da).1 (by decide) (by decide) ?_
        refine OGo.dconst0 (pc' := 242) (v := (FP.dconst0)) C X23 at_241 rfl rfl ?_
        refine OGo.goto (pc' := 247) C X23 at_242 (by decide) (by decide) ?_
        refine OGo.dstore (pc' := 249) C X23 at_247 rfl (l' := #[.val (.int i0), .val (.int i1), .val (.int i2), .val (.int i3), .val (.int i4), .val (.int i5), .val (.int lm), .val (.int a), .val (.int b), .val (.int c), .val (.int d), .val (.double r), .second, .val (.ref a1), .val (.int a), .val (.int c), .val (.int (-1 : Int32)), .val (.int (2 : Int32)), .val (.double (FP.dconst0)), .second]) rfl ?_
        refine OGo.aload (pc' := 251) C X23 at_249 rfl rfl rfl ?_
        refine OGo.iload (pc' := 253) C X23 at_251 rfl rfl ?_
        refine OGo.callV (pc' := 256) (cells' := 4) (slots' := 17) (argsL := [(.int d)]) (St := []) C X23 (wd44 hw) (wd45 hw) (wd47 hw) (wd46 hw) (by decide) H20.1 (wd48 hw) (wd4 hw) (ctV1 hw X23.2.1 a1 lm (fun k => if k = c then .int 1 else (fun k => if k = a then .int 1 else (fun _ => .int (0 : Int32)) k) k) (fun k => if k = (1 : Int32) then .int c else (fun k => if k = (0 : Int32) then .int a else (fun _ => .int (0 : Int32)) k) k) (2 : Int32) r d H20 bd.1 bd.2 (by simp [e_ba, e_ca, e_cb, e_da])) (lenOf pd4 rfl) rfl at_253 rfl rfl (by decide) (Nat.le_of_ble_eq_true rfl) rfl rfl (by decide) (by decide) (fun v25 T25 h25 Q25 X25 z25 => ?_)
        obtain ⟨hv25, hh25⟩ := Q25
        subst hv25; rw [hh25] at X25
        show OGo p e below _ T25 (mkF m 256 #[.val (.int i0), .val (.int i1), .val (.int i2), .val (.int i3), .val (.int i4), .val (.int i5), .val (.int lm), .val (.int a), .val (.int b), .val (.int c), .val (.int d), .val (.double r), .second, .val (.ref a1), .val (.int a), .val (.int c), .val (.int (-1 : Int32)), .val (.int (2 : Int32)), .val (.double (FP.dconst0)), .second] [(.double (0 : UInt64))])
        refine OGo.dload (pc' := 258) C X25 at_256 rfl rfl ?_
        refine OGo.dcmp (pc' := 259) (v := (0 : Int32)) C X25 at_258 rfl (by decide +kernel) ?_
        refine OGo.ifYes (pc' := 264) C X25 at_259 (teq (by decide : (0 : Int32) = (0 : Int32))).1 (by decide) (by decide) ?_
        refine OGo.aload (pc' := 266) C X25 at_264 rfl rfl rfl ?_
        refine OGo.callV (pc' := 269) (cells' := 4) (slots' := 17) (argsL := []) (St := []) C X25 (wd49 hw) (wd50 hw) (wd52 hw) (wd51 hw) (by decide) H20.1 (wd53 hw) (wd4 hw) (ct8 hw X25.2.1 a1 lm (fun k => if k = c then .int 1 else (fun k => if k = a then .int 1 else (fun _ => .int (0 : Int32)) k) k) (fun k => if k = (1 : Int32) then .int c else (fun k => if k = (0 : Int32) then .int a else (fun _ => .int (0 : Int32)) k) k) (2 : Int32) r H20) (lenOf pd5 rfl) rfl at_266 rfl rfl (by decide) (Nat.le_of_ble_eq_true rfl) rfl rfl (by decide) (by decide) (fun v26 T26 h26 Q26 X26 z26 => ?_)
        obtain ⟨hv26, hh26⟩ := Q26
        subst hv26; rw [hh26] at X26
        show OGo p e below _ T26 (mkF m 269 #[.val (.int i0), .val (.int i1), .val (.int i2), .val (.int i3), .val (.int i4), .val (.int i5), .val (.int lm), .val (.int a), .val (.int b), .val (.int c), .val (.int d), .val (.double r), .second, .val (.ref a1), .val (.int a), .val (.int c), .val (.int (-1 : Int32)), .val (.int (2 : Int32)), .val (.double (FP.dconst0)), .second] [(.double r)])
        refine OGo.dload (pc' := 271) C X26 at_269 rfl rfl ?_
        refine OGo.dcmp (pc' := 272) (v := (0 : Int32)) C X26 at_271 rfl (dcmpV_self (h_r ▸ (i2d_fin _).noNaN) .l) ?_
        refine OGo.ifNo (pc' := 275) C X26 at_272 rfl (teq (by decide : (0 : Int32) = (0 : Int32))).2 ?_
        refine OGo.iconst (pc' := 276) (z := (1 : Int32)) C X26 at_275 rfl (by decide) ?_
        refine OGo.goto (pc' := 280) C X26 at_276 (by decide) (by decide) ?_
        exact OGo.retN C X26 at_280 hret (by simp) (z' := (1 : Int32)) (by decide) hlk (rfl) (by decide) (by decide)
      · refine OGo.icmpNo (pc' := 227) C X23 at_224 rfl (feq e_da).1 ?_
        refine OGo.iload (pc' := 229) C X23 at_227 rfl rfl ?_
        refine OGo.iload (pc' := 231) C X23 at_229 rfl rfl ?_
        by_cases e_db : d = b
        · refine OGo.icmpYes (pc' := 241) C X23 at_231 (teq e_db).1 (by decide) (by decide) ?_
          refine OGo.dconst0 (pc' := 242) (v := (FP.dconst0)) C X23 at_241 rfl rfl ?_
          refine OGo.goto (pc' := 247) C X23 at_242 (by decide) (by decide) ?_
          refine OGo.dstore (pc' := 249) C X23 at_247 rfl (l' := #[.val (.int i0), .val (.int i1), .val (.int i2), .val (.int i3), .val (.int i4), .val (.int i5), .val (.int lm), .val (.int a), .val (.int b), .val (.int c), .val (.int d), .val (.double r), .second, .val (.ref a1), .val (.int a), .val (.int c), .val (.int (-1 : Int32)), .val (.int (2 : Int32)), .val (.double (FP.dconst0)), .second]) rfl ?_
          refine OGo.aload (pc' := 251) C X23 at_249 rfl rfl rfl ?_
          refine OGo.iload (pc' := 253) C X23 at_251 rfl rfl ?_
          refine OGo.callV (pc' := 256) (cells' := 4) (slots' := 17) (argsL := [(.int d)]) (St := []) C X23 (wd44 hw) (wd45 hw) (wd47 hw) (wd46 hw) (by decide) H20.1 (wd48 hw) (wd4 hw) (ctV1 hw X23.2.1 a1 lm (fun k => if k = c then .int 1 else (fun k => if k = a then .int 1 else (fun _ => .int (0 : Int32)) k) k) (fun k => if k = (1 : Int32) then .int c else (fun k => if k = (0 : Int32) then .int a else (fun _ => .int (0 : Int32)) k) k) (2 : Int32) r d H20 bd.1 bd.2 (by simp [e_ba, e_ca, e_cb, e_da, e_db])) (lenOf pd4 rfl) rfl at_253 rfl rfl (by decide) (Nat.le_of_ble_eq_true rfl) rfl rfl (by decide) (by decide) (fun v28 T28 h28 Q28 X28 z28 => ?_)
          obtain ⟨hv28, hh28⟩ := Q28
          subst hv28; rw [hh28] at X28
          show OGo p e below _ T28 (mkF m 256 #[.val (.int i0), .val (.int i1), .val (.int i2), .val (.int i3), .val (.int i4), .val (.int i5), .val (.int lm), .val (.int a), .val (.int b), .val (.int c), .val (.int d), .val (.double r), .second, .val (.ref a1), .val (.int a), .val (.int c), .val (.int (-1 : Int32)), .val (.int (2 : Int32)), .val (.double (FP.dconst0)), .second] [(.double (0 : UInt64))])
          refine OGo.dload (pc' := 258) C X28 at_256 rfl rfl ?_
          refine OGo.dcmp (pc' := 259) (v := (0 : Int32)) C X28 at_258 rfl (by decide +kernel) ?_
          refine OGo.ifYes (pc' := 264) C X28 at_259 (teq (by decide : (0 : Int32) = (0 : Int32))).1 (by decide) (by decide) ?_
          refine OGo.aload (pc' := 266) C X28 at_264 rfl rfl rfl ?_
          refine OGo.callV (pc' := 269) (cells' := 4) (slots' := 17) (argsL := []) (St := []) C X28 (wd49 hw) (wd50 hw) (wd52 hw) (wd51 hw) (by decide) H20.1 (wd53 hw) (wd4 hw) (ct8 hw X28.2.1 a1 lm (fun k => if k = c then .int 1 else (fun k => if k = a then .int 1 else (fun _ => .int (0 : Int32)) k) k) (fun k => if k = (1 : Int32) then .int c else (fun k => if k = (0 : Int32) then .int a else (fun _ => .int (0 : Int32)) k) k) (2 : Int32) r H20) (lenOf pd5 rfl) rfl at_266 rfl rfl (by decide) (Nat.le_of_ble_eq_true rfl) rfl rfl (by decide) (by decide) (fun v29 T29 h29 Q29 X29 z29 => ?_)
          obtain ⟨hv29, hh29⟩ := Q29
          subst hv29; rw [hh29] at X29
          show OGo p e below _ T29 (mkF m 269 #[.val (.int i0), .val (.int i1), .val (.int i2), .val (.int i3), .val (.int i4), .val (.int i5), .val (.int lm), .val (.int a), .val (.int b), .val (.int c), .val (.int d), .val (.double r), .second, .val (.ref a1), .val (.int a), .val (.int c), .val (.int (-1 : Int32)), .val (.int (2 : Int32)), .val (.double (FP.dconst0)), .second] [(.double r)])
          refine OGo.dload (pc' := 271) C X29 at_269 rfl rfl ?_
          refine OGo.dcmp (pc' := 272) (v := (0 : Int32)) C X29 at_271 rfl (dcmpV_self (h_r ▸ (i2d_fin _).noNaN) .l) ?_
          refine OGo.ifNo (pc' := 275) C X29 at_272 rfl (teq (by decide : (0 : Int32) = (0 : Int32))).2 ?_
          refine OGo.iconst (pc' := 276) (z := (1 : Int32)) C X29 at_275 rfl (by decide) ?_
          refine OGo.goto (pc' := 280) C X29 at_276 (by decide) (by decide) ?_
          exact OGo.retN C X29 at_280 hret (by simp) (z' := (1 : Int32)) (by decide) hlk (rfl) (by decide) (by decide)
        · refine OGo.icmpNo (pc' := 234) C X23 at_231 rfl (feq e_db).1 ?_
          refine OGo.iload (pc' := 236) C X23 at_234 rfl rfl ?_
          refine OGo.iload (pc' := 238) C X23 at_236 rfl rfl ?_
          by_cases e_dc : d = c
          · refine OGo.icmpNo (pc' := 241) C X23 at_238 rfl (teq e_dc).2 ?_
            refine OGo.dconst0 (pc' := 242) (v := (FP.dconst0)) C X23 at_241 rfl rfl ?_
            refine OGo.goto (pc' := 247) C X23 at_242 (by decide) (by decide) ?_
            refine OGo.dstore (pc' := 249) C X23 at_247 rfl (l' := #[.val (.int i0), .val (.int i1), .val (.int i2), .val (.int i3), .val (.int i4), .val (.int i5), .val (.int lm), .val (.int a), .val (.int b), .val (.int c), .val (.int d), .val (.double r), .second, .val (.ref a1), .val (.int a), .val (.int c), .val (.int (-1 : Int32)), .val (.int (2 : Int32)), .val (.double (FP.dconst0)), .second]) rfl ?_
            refine OGo.aload (pc' := 251) C X23 at_249 rfl rfl rfl ?_
            refine OGo.iload (pc' := 253) C X23 at_251 rfl rfl ?_
            refine OGo.callV (pc' := 256) (cells' := 4) (slots' := 17) (argsL := [(.int d)]) (St := []) C X23 (wd44 hw) (wd45 hw) (wd47 hw) (wd46 hw) (by decide) H20.1 (wd48 hw) (wd4 hw) (ctV1 hw X23.2.1 a1 lm (fun k => if k = c then .int 1 else (fun k => if k = a then .int 1 else (fun _ => .int (0 : Int32)) k) k) (fun k => if k = (1 : Int32) then .int c else (fun k => if k = (0 : Int32) then .int a else (fun _ => .int (0 : Int32)) k) k) (2 : Int32) r d H20 bd.1 bd.2 (by simp [e_ba, e_ca, e_cb, e_da, e_db, e_dc])) (lenOf pd4 rfl) rfl at_253 rfl rfl (by decide) (Nat.le_of_ble_eq_true rfl) rfl rfl (by decide) (by decide) (fun v31 T31 h31 Q31 X31 z31 => ?_)
            obtain ⟨hv31, hh31⟩ := Q31
            subst hv31; rw [hh31] at X31
            show OGo p e below _ T31 (mkF m 256 #[.val (.int i0), .val (.int i1), .val (.int i2), .val (.int i3), .val (.int i4), .val (.int i5), .val (.int lm), .val (.int a), .val (.int b), .val (.int c), .val (.int d), .val (.double r), .second, .val (.ref a1), .val (.int a), .val (.int c), .val (.int (-1 : Int32)), .val (.int (2 : Int32)), .val (.double (FP.dconst0)), .second] [(.double (0 : UInt64))])
            refine OGo.dload (pc' := 258) C X31 at_256 rfl rfl ?_
            refine OGo.dcmp (pc' := 259) (v := (0 : Int32)) C X31 at_258 rfl (by decide +kernel) ?_
            refine OGo.ifYes (pc' := 264) C X31 at_259 (teq (by decide : (0 : Int32) = (0 : Int32))).1 (by decide) (by decide) ?_
            refine OGo.aload (pc' := 266) C X31 at_264 rfl rfl rfl ?_
            refine OGo.callV (pc' := 269) (cells' := 4) (slots' := 17) (argsL := []) (St := []) C X31 (wd49 hw) (wd50 hw) (wd52 hw) (wd51 hw) (by decide) H20.1 (wd53 hw) (wd4 hw) (ct8 hw X31.2.1 a1 lm (fun k => if k = c then .int 1 else (fun k => if k = a then .int 1 else (fun _ => .int (0 : Int32)) k) k) (fun k => if k = (1 : Int32) then .int c else (fun k => if k = (0 : Int32) then .int a else (fun _ => .int (0 : Int32)) k) k) (2 : Int32) r H20) (lenOf pd5 rfl) rfl at_266 rfl rfl (by decide) (Nat.le_of_ble_eq_true rfl) rfl rfl (by decide) (by decide) (fun v32 T32 h32 Q32 X32 z32 => ?_)
            obtain ⟨hv32, hh32⟩ := Q32
            subst hv32; rw [hh32] at X32
            show OGo p e below _ T32 (mkF m 269 #[.val (.int i0), .val (.int i1), .val (.int i2), .val (.int i3), .val (.int i4), .val (.int i5), .val (.int lm), .val (.int a), .val (.int b), .val (.int c), .val (.int d), .val (.double r), .second, .val (.ref a1), .val (.int a), .val (.int c), .val (.int (-1 : Int32)), .val (.int (2 : Int32)), .val (.double (FP.dconst0)), .second] [(.double r)])
            refine OGo.dload (pc' := 271) C X32 at_269 rfl rfl ?_
            refine OGo.dcmp (pc' := 272) (v := (0 : Int32)) C X32 at_271 rfl (dcmpV_self (h_r ▸ (i2d_fin _).noNaN) .l) ?_
            refine OGo.ifNo (pc' := 275) C X32 at_272 rfl (teq (by decide : (0 : Int32) = (0 : Int32))).2 ?_
            refine OGo.iconst (pc' := 276) (z := (1 : Int32)) C X32 at_275 rfl (by decide) ?_
            refine OGo.goto (pc' := 280) C X32 at_276 (by decide) (by decide) ?_
            exact OGo.retN C X32 at_280 hret (by simp) (z' := (1 : Int32)) (by decide) hlk (rfl) (by decide) (by decide)
          · refine OGo.icmpYes (pc' := 245) C X23 at_238 (feq e_dc).2 (by decide) (by decide) ?_
            refine OGo.dload (pc' := 247) C X23 at_245 rfl rfl ?_
            refine OGo.dstore (pc' := 249) C X23 at_247 rfl (l' := #[.val (.int i0), .val (.int i1), .val (.int i2), .val (.int i3), .val (.int i4), .val (.int i5), .val (.int lm), .val (.int a), .val (.int b), .val (.int c), .val (.int d), .val (.double r), .second, .val (.ref a1), .val (.int a), .val (.int c), .val (.int (-1 : Int32)), .val (.int (2 : Int32)), .val (.double r), .second]) rfl ?_
            refine OGo.aload (pc' := 251) C X23 at_249 rfl rfl rfl ?_
            refine OGo.iload (pc' := 253) C X23 at_251 rfl rfl ?_
            refine OGo.callV (pc' := 256) (cells' := 4) (slots' := 17) (argsL := [(.int d)]) (St := []) C X23 (wd44 hw) (wd45 hw) (wd47 hw) (wd46 hw) (by decide) H20.1 (wd48 hw) (wd4 hw) (ctV0 hw X23.2.1 a1 lm (fun k => if k = c then .int 1 else (fun k => if k = a then .int 1 else (fun _ => .int (0 : Int32)) k) k) (fun k => if k = (1 : Int32) then .int c else (fun k => if k = (0 : Int32) then .int a else (fun _ => .int (0 : Int32)) k) k) (2 : Int32) r d H20 bd.1 bd.2 (by simp [e_ba, e_ca, e_cb, e_da, e_db, e_dc])) (lenOf pd4 rfl) rfl at_253 rfl rfl (by decide) (Nat.le_of_ble_eq_true rfl) rfl rfl (by decide) (by decide) (fun v33 T33 h33 Q33 X33 z33 => ?_)
            obtain ⟨hv33, hh33⟩ := Q33
            subst hv33; rw [hh33] at X33
            show OGo p e below _ T33 (mkF m 256 #[.val (.int i0), .val (.int i1), .val (.int i2), .val (.int i3), .val (.int i4), .val (.int i5), .val (.int lm), .val (.int a), .val (.int b), .val (.int c), .val (.int d), .val (.double r), .second, .val (.ref a1), .val (.int a), .val (.int c), .val (.int (-1 : Int32)), .val (.int (2 : Int32)), .val (.double r), .second] [(.double r)])
            refine OGo.dload (pc' := 258) C X33 at_256 rfl rfl ?_
            refine OGo.dcmp (pc' := 259) (v := (0 : Int32)) C X33 at_258 rfl (dcmpV_self (h_r ▸ (i2d_fin _).noNaN) .l) ?_
            refine OGo.ifYes (pc' := 264) C X33 at_259 (teq (by decide : (0 : Int32) = (0 : Int32))).1 (by decide) (by decide) ?_
            refine OGo.aload (pc' := 266) C X33 at_264 rfl rfl rfl ?_
            refine OGo.callV (pc' := 269) (cells' := 4) (slots' := 17) (argsL := []) (St := []) C X33 (wd49 hw) (wd50 hw) (wd52 hw) (wd51 hw) (by decide) H20.1 (wd53 hw) (wd4 hw) (ct8 hw X33.2.1 a1 lm (fun k => if k = c then .int 1 else (fun k => if k = a then .int 1 else (fun _ => .int (0 : Int32)) k) k) (fun k => if k = (1 : Int32) then .int c else (fun k => if k = (0 : Int32) then .int a else (fun _ => .int (0 : Int32)) k) k) (2 : Int32) r H20) (lenOf pd5 rfl) rfl at_266 rfl rfl (by decide) (Nat.le_of_ble_eq_true rfl) rfl rfl (by decide) (by decide) (fun v34 T34 h34 Q34 X34 z34 => ?_)
            obtain ⟨hv34, hh34⟩ := Q34
            subst hv34; rw [hh34] at X34
            show OGo p e below _ T34 (mkF m 269 #[.val (.int i0), .val (.int i1), .val (.int i2), .val (.int i3), .val (.int i4), .val (.int i5), .val (.int lm), .val (.int a), .val (.int b), .val (.int c), .val (.int d), .val (.double r), .second, .val (.ref a1), .val (.int a), .val (.int c), .val (.int (-1 : Int32)), .val (.int (2 : Int32)), .val (.double r), .second] [(.double r)])
            refine OGo.dload (pc' := 271) C X34 at_269 rfl rfl ?_
            refine OGo.dcmp (pc' := 272) (v := (0 : Int32)) C X34 at_271 rfl (dcmpV_self (h_r ▸ (i2d_fin _).noNaN) .l) ?_
            refine OGo.ifNo (pc' := 275) C X34 at_272 rfl (teq (by decide : (0 : Int32) = (0 : Int32))).2 ?_
            refine OGo.iconst (pc' := 276) (z := (1 : Int32)) C X34 at_275 rfl (by decide) ?_
            refine OGo.goto (pc' := 280) C X34 at_276 (by decide) (by decide) ?_
            exact OGo.retN C X34 at_280 hret (by simp) (z' := (1 : Int32)) (by decide) hlk (rfl) (by decide) (by decide)
  · refine OGo.aload (pc' := 81) C X4 at_79 rfl rfl rfl ?_
    refine OGo.iload (pc' := 83) C X4 at_81 rfl rfl ?_
    refine OGo.callV (pc' := 86) (cells' := 4) (slots' := 17) (argsL := [(.int b)]) (St := []) C X4 (wd27 hw) (wd28 hw) (wd30 hw) (wd29 hw) (by decide) H4.1 (wd31 hw) (wd4 hw) (ctL0 hw X4.2.1 a1 lm (fun k => if k = a then .int 1 else (fun _ => .int (0 : Int32)) k) (fun k => if k = (0 : Int32) then .int a else (fun _ => .int (0 : Int32)) k) (1 : Int32) r b H4 bb.1 bb.2 (by simp [e_ba]) (by decide) (by have h1 := ba; have h2 := bb; have h3 := bc; simp only [Int32.lt_iff_toInt_lt, Int32.reduceToInt, ← Int32.toInt_inj] at *; omega)) (lenOf pd0 rfl) rfl at_83 rfl rfl (by decide) (Nat.le_of_ble_eq_true rfl) rfl rfl (by decide) (by decide) (fun v35 T35 h35 Q35 X35 z35 => ?_)
    obtain ⟨hv35, H35⟩ := Q35
    subst hv35
    rw [show ((1 : Int32) + (1 : Int32)) = (2 : Int32) from by decide] at H35
    show OGo p e below _ T35 (mkF m 86 #[.val (.int i0), .val (.int i1), .val (.int i2), .val (.int i3), .val (.int i4), .val (.int i5), .val (.int lm), .val (.int a), .val (.int b), .val (.int c), .val (.int d), .val (.double r), .second, .val (.ref a1), .unset, .unset, .unset, .unset, .unset, .unset] [])
    by_cases e_ca : c = a
    · refine OGo.aload (pc' := 88) C X35 at_86 rfl rfl rfl ?_
      refine OGo.iload (pc' := 90) C X35 at_88 rfl rfl ?_
      refine OGo.callV (pc' := 93) (cells' := 4) (slots' := 17) (argsL := [(.int c)]) (St := []) C X35 (wd27 hw) (wd28 hw) (wd30 hw) (wd29 hw) (by decide) H35.1 (wd31 hw) (wd4 hw) (ctL1 hw X35.2.1 a1 lm (fun k => if k = b then .int 1 else (fun k => if k = a then .int 1 else (fun _ => .int (0 : Int32)) k) k) (fun k => if k = (1 : Int32) then .int b else (fun k => if k = (0 : Int32) then .int a else (fun _ => .int (0 : Int32)) k) k) (2 : Int32) r c H35 bc.1 bc.2 (by simp [e_ba, e_ca])) (lenOf pd0 rfl) rfl at_90 rfl rfl (by decide) (Nat.le_of_ble_eq_true rfl) rfl rfl (by decide) (by decide) (fun v36 T36 h36 Q36 X36 z36 => ?_)
      obtain ⟨hv36, hh36⟩ := Q36
      subst hv36; rw [hh36] at X36
      show OGo p e below _ T36 (mkF m 93 #[.val (.int i0), .val (.int i1), .val (.int i2), .val (.int i3), .val (.int i4), .val (.int i5), .val (.int lm), .val (.int a), .val (.int b), .val (.int c), .val (.int d), .val (.double r), .second, .val (.ref a1), .unset, .unset, .unset, .unset, .unset, .unset] [])
      refine OGo.iload (pc' := 95) C X36 at_93 rfl rfl ?_
      refine OGo.istore (pc' := 97) C X36 at_95 rfl (l' := #[.val (.int i0), .val (.int i1), .val (.int i2), .val (.int i3), .val (.int i4), .val (.int i5), .val (.int lm), .val (.int a), .val (.int b), .val (.int c), .val (.int d), .val (.double r), .second, .val (.ref a1), .val (.int a), .unset, .unset, .unset, .unset, .unset]) rfl ?_
      refine OGo.iconst (pc' := 98) (z := (-1 : Int32)) C X36 at_97 rfl (by decide) ?_
      refine OGo.istore (pc' := 100) C X36 at_98 rfl (l' := #[.val (.int i0), .val (.int i1), .val (.int i2), .val (.int i3), .val (.int i4), .val (.int i5), .val (.int lm), .val (.int a), .val (.int b), .val (.int c), .val (.int d), .val (.double r), .second, .val (.ref a1), .val (.int a), .val (.int (-1 : Int32)), .unset, .unset, .unset, .unset]) rfl ?_
      refine OGo.iconst (pc' := 101) (z := (-1 : Int32)) C X36 at_100 rfl (by decide) ?_
      refine OGo.istore (pc' := 103) C X36 at_101 rfl (l' := #[.val (.int i0), .val (.int i1), .val (.int i2), .val (.int i3), .val (.int i4), .val (.int i5), .val (.int lm), .val (.int a), .val (.int b), .val (.int c), .val (.int d), .val (.double r), .second, .val (.ref a1), .val (.int a), .val (.int (-1 : Int32)), .val (.int (-1 : Int32)), .unset, .unset, .unset]) rfl ?_
      refine OGo.iconst (pc' := 104) (z := (1 : Int32)) C X36 at_103 rfl (by decide) ?_
      refine OGo.istore (pc' := 106) C X36 at_104 rfl (l' := #[.val (.int i0), .val (.int i1), .val (.int i2), .val (.int i3), .val (.int i4), .val (.int i5), .val (.int lm), .val (.int a), .val (.int b), .val (.int c), .val (.int d), .val (.double r), .second, .val (.ref a1), .val (.int a), .val (.int (-1 : Int32)), .val (.int (-1 : Int32)), .val (.int (1 : Int32)), .unset, .unset]) rfl ?_
      refine OGo.iload (pc' := 108) C X36 at_106 rfl rfl ?_
      refine OGo.iload (pc' := 110) C X36 at_108 rfl rfl ?_
      refine OGo.icmpNo (pc' := 113) C X36 at_110 rfl (feq e_ba).1 ?_
      refine OGo.iload (pc' := 115) C X36 at_113 rfl rfl ?_
      refine OGo.istore (pc' := 117) C X36 at_115 rfl (l' := #[.val (.int i0), .val (.int i1), .val (.int i2), .val (.int i3), .val (.int i4), .val (.int i5), .val (.int lm), .val (.int a), .val (.int b), .val (.int c), .val (.int d), .val (.double r), .second, .val (.ref a1), .val (.int a), .val (.int b), .val (.int (-1 : Int32)), .val (.int (1 : Int32)), .unset, .unset]) rfl ?_
      refine OGo.iconst (pc' := 118) (z := (2 : Int32)) C X36 at_117 rfl (by decide) ?_
      refine OGo.istore (pc' := 120) C X36 at_118 rfl (l' := #[.val (.int i0), .val (.int i1), .val (.int i2), .val (.int i3), .val (.int i4), .val (.int i5), .val (.int lm), .val (.int a), .val (.int b), .val (.int c), .val (.int d), .val (.double r), .second, .val (.ref a1), .val (.int a), .val (.int b), .val (.int (-1 : Int32)), .val (.int (2 : Int32)), .unset, .unset]) rfl ?_
      refine OGo.iload (pc' := 122) C X36 at_120 rfl rfl ?_
      refine OGo.iload (pc' := 124) C X36 at_122 rfl rfl ?_
      refine OGo.icmpYes (pc' := 157) C X36 at_124 (teq e_ca).1 (by decide) (by decide) ?_
      refine OGo.aload (pc' := 159) C X36 at_157 rfl rfl rfl ?_
      refine OGo.callV (pc' := 162) (cells' := 4) (slots' := 17) (argsL := []) (St := []) C X36 (wd34 hw) (wd35 hw) (wd37 hw) (wd36 hw) (by decide) H35.1 (wd38 hw) (wd4 hw) (ct5 hw X36.2.1 a1 lm (fun k => if k = b then .int 1 else (fun k => if k = a then .int 1 else (fun _ => .int (0 : Int32)) k) k) (fun k => if k = (1 : Int32) then .int b else (fun k => if k = (0 : Int32) then .int a else (fun _ => .int (0 : Int32)) k) k) (2 : Int32) r H35) (lenOf pd2 rfl) rfl at_159 rfl rfl (by decide) (Nat.le_of_ble_eq_true rfl) rfl rfl (by decide) (by decide) (fun v37 T37 h37 Q37 X37 z37 => ?_)
      obtain ⟨hv37, hh37⟩ := Q37
      subst hv37; rw [hh37] at X37
      show OGo p e below _ T37 (mkF m 162 #[.val (.int i0), .val (.int i1), .val (.int i2), .val (.int i3), .val (.int i4), .val (.int i5), .val (.int lm), .val (.int a), .val (.int b), .val (.int c), .val (.int d), .val (.double r), .second, .val (.ref a1), .val (.int a), .val (.int b), .val (.int (-1 : Int32)), .val (.int (2 : Int32)), .unset, .unset] [(.int (2 : Int32))])
      refine OGo.iload (pc' := 164) C X37 at_162 rfl rfl ?_
      refine OGo.icmpYes (pc' := 169) C X37 at_164 (teq (by decide : (2 : Int32) = (2 : Int32))).1 (by decide) (by decide) ?_
      refine OGo.aload (pc' := 171) C X37 at_169 rfl rfl rfl ?_
      refine OGo.iconst (pc' := 172) (z := (0 : Int32)) C X37 at_171 rfl (by decide) ?_
      refine OGo.callV (pc' := 175) (cells' := 4) (slots' := 17) (argsL := [(.int (0 : Int32))]) (St := []) C X37 (wd39 hw) (wd40 hw) (wd42 hw) (wd41 hw) (by decide) H35.1 (wd43 hw) (wd4 hw) (ct6 hw X37.2.1 a1 lm (fun k => if k = b then .int 1 else (fun k => if k = a then .int 1 else (fun _ => .int (0 : Int32)) k) k) (fun k => if k = (1 : Int32) then .int b else (fun k => if k = (0 : Int32) then .int a else (fun _ => .int (0 : Int32)) k) k) (2 : Int32) r (0 : Int32) a H35 (by decide) (by have h1 := ba; have h2 := bb; have h3 := bc; simp only [Int32.lt_iff_toInt_lt, Int32.reduceToInt, ← Int32.toInt_inj] at *; omega) (by simp)) (lenOf pd3 rfl) rfl at_172 rfl rfl (by decide) (Nat.le_of_ble_eq_true rfl) rfl rfl (by decide) (by decide) (fun v38 T38 h38 Q38 X38 z38 => ?_)
      obtain ⟨hv38, hh38⟩ := Q38
      subst hv38; rw [hh38] at X38
      show OGo p e below _ T38 (mkF m 175 #[.val (.int i0), .val (.int i1), .val (.int i2), .val (.int i3), .val (.int i4), .val (.int i5), .val (.int lm), .val (.int a), .val (.int b), .val (.int c), .val (.int d), .val (.double r), .second, .val (.ref a1), .val (.int a), .val (.int b), .val (.int (-1 : Int32)), .val (.int (2 : Int32)), .unset, .unset] [(.int a)])
      refine OGo.iload (pc' := 177) C X38 at_175 rfl rfl ?_
      refine OGo.icmpYes (pc' := 182) C X38 at_177 (teq rfl).1 (by decide) (by decide) ?_
      refine OGo.iload (pc' := 184) C X38 at_182 rfl rfl ?_
      refine OGo.iconst (pc' := 185) (z := (2 : Int32)) C X38 at_184 rfl (by decide) ?_
      refine OGo.icmpNo (pc' := 188) C X38 at_185 rfl (flt (by decide : ¬ (2 : Int32) < (2 : Int32))).1 ?_
      refine OGo.aload (pc' := 190) C X38 at_188 rfl rfl rfl ?_
      refine OGo.iconst (pc' := 191) (z := (1 : Int32)) C X38 at_190 rfl (by decide) ?_
      refine OGo.callV (pc' := 194) (cells' := 4) (slots' := 17) (argsL := [(.int (1 : Int32))]) (St := []) C X38 (wd39 hw) (wd40 hw) (wd42 hw) (wd41 hw) (by decide) H35.1 (wd43 hw) (wd4 hw) (ct6 hw X38.2.1 a1 lm (fun k => if k = b then .int 1 else (fun k => if k = a then .int 1 else (fun _ => .int (0 : Int32)) k) k) (fun k => if k = (1 : Int32) then .int b else (fun k => if k = (0 : Int32) then .int a else (fun _ => .int (0 : Int32)) k) k) (2 : Int32) r (1 : Int32) b H35 (by decide) (by have h1 := ba; have h2 := bb; have h3 := bc; simp only [Int32.lt_iff_toInt_lt, Int32.reduceToInt, ← Int32.toInt_inj] at *; omega) (by simp)) (lenOf pd3 rfl) rfl at_191 rfl rfl (by decide) (Nat.le_of_ble_eq_true rfl) rfl rfl (by decide) (by decide) (fun v39 T39 h39 Q39 X39 z39 => ?_)
      obtain ⟨hv39, hh39⟩ := Q39
      subst hv39; rw [hh39] at X39
      show OGo p e below _ T39 (mkF m 194 #[.val (.int i0), .val (.int i1), .val (.int i2), .val (.int i3), .val (.int i4), .val (.int i5), .val (.int lm), .val (.int a), .val (.int b), .val (.int c), .val (.int d), .val (.double r), .second, .val (.ref a1), .val (.int a), .val (.int b), .val (.int (-1 : Int32)), .val (.int (2 : Int32)), .unset, .unset] [(.int b)])
      refine OGo.iload (pc' := 196) C X39 at_194 rfl rfl ?_
      refine OGo.icmpYes (pc' := 201) C X39 at_196 (teq rfl).1 (by decide) (by decide) ?_
      refine OGo.iload (pc' := 203) C X39 at_201 rfl rfl ?_
      refine OGo.iconst (pc' := 204) (z := (3 : Int32)) C X39 at_203 rfl (by decide) ?_
      refine OGo.icmpYes (pc' := 220) C X39 at_204 (tlt (by decide : (2 : Int32) < (3 : Int32))).1 (by decide) (by decide) ?_
      refine OGo.iload (pc' := 222) C X39 at_220 rfl rfl ?_
      refine OGo.iload (pc' := 224) C X39 at_222 rfl rfl ?_
      by_cases e_da : d = a
      · refine OGo.icmpYes (pc' := 241) C X39 at_224 (teq e_da).1 (by decide) (by decide) ?_
        refine OGo.dconst0 (pc' := 242) (v := (FP.dconst0)) C X39 at_241 rfl rfl ?_
        refine OGo.goto (pc' := 247) C X39 at_242 (by decide) (by decide) ?_
        refine OGo.dstore (pc' := 249) C X39 at_247 rfl (l' := #[.val (.int i0), .val (.int i1), .val (.int i2), .val (.int i3), .val (.int i4), .val (.int i5), .val (.int lm), .val (.int a), .val (.int b), .val (.int c), .val (.int d), .val (.double r), .second, .val (.ref a1), .val (.int a), .val (.int b), .val (.int (-1 : Int32)), .val (.int (2 : Int32)), .val (.double (FP.dconst0)), .second]) rfl ?_
        refine OGo.aload (pc' := 251) C X39 at_249 rfl rfl rfl ?_
        refine OGo.iload (pc' := 253) C X39 at_251 rfl rfl ?_
        refine OGo.callV (pc' := 256) (cells' := 4) (slots' := 17) (argsL := [(.int d)]) (St := []) C X39 (wd44 hw) (wd45 hw) (wd47 hw) (wd46 hw) (by decide) H35.1 (wd48 hw) (wd4 hw) (ctV1 hw X39.2.1 a1 lm (fun k => if k = b then .int 1 else (fun k => if k = a then .int 1 else (fun _ => .int (0 : Int32)) k) k) (fun k => if k = (1 : Int32) then .int b else (fun k => if k = (0 : Int32) then .int a else (fun _ => .int (0 : Int32)) k) k) (2 : Int32) r d H35 bd.1 bd.2 (by simp [e_ba, e_ca, e_da])) (lenOf pd4 rfl) rfl at_253 rfl rfl (by decide) (Nat.le_of_ble_eq_true rfl) rfl rfl (by decide) (by decide) (fun v41 T41 h41 Q41 X41 z41 => ?_)
        obtain ⟨hv41, hh41⟩ := Q41
        subst hv41; rw [hh41] at X41
        show OGo p e below _ T41 (mkF m 256 #[.val (.int i0), .val (.int i1), .val (.int i2), .val (.int i3), .val (.int i4), .val (.int i5), .val (.int lm), .val (.int a), .val (.int b), .val (.int c), .val (.int d), .val (.double r), .second, .val (.ref a1), .val (.int a), .val (.int b), .val (.int (-1 : Int32)), .val (.int (2 : Int32)), .val (.double (FP.dconst0)), .second] [(.double (0 : UInt64))])
        refine OGo.dload (pc' := 258) C X41 at_256 rfl rfl ?_
        refine OGo.dcmp (pc' := 259) (v := (0 : Int32)) C X41 at_258 rfl (by decide +kernel) ?_
        refine OGo.ifYes (pc' := 264) C X41 at_259 (teq (by decide : (0 : Int32) = (0 : Int32))).1 (by decide) (by decide) ?_
        refine OGo.aload (pc' := 266) C X41 at_264 rfl rfl rfl ?_
        refine OGo.callV (pc' := 269) (cells' := 4) (slots' := 17) (argsL := []) (St := []) C X41 (wd49 hw) (wd50 hw) (wd52 hw) (wd51 hw) (by decide) H35.1 (wd53 hw) (wd4 hw) (ct8 hw X41.2.1 a1 lm (fun k => if k = b then .int 1 else (fun k => if k = a then .int 1 else (fun _ => .int (0 : Int32)) k) k) (fun k => if k = (1 : Int32) then .int b else (fun k => if k = (0 : Int32) then .int a else (fun _ => .int (0 : Int32)) k) k) (2 : Int32) r H35) (lenOf pd5 rfl) rfl at_266 rfl rfl (by decide) (Nat.le_of_ble_eq_true rfl) rfl rfl (by decide) (by decide) (fun v42 T42 h42 Q42 X42 z42 => ?_)
        obtain ⟨hv42, hh42⟩ := Q42
        subst hv42; rw [hh42] at X42
        show OGo p e below _ T42 (mkF m 269 #[.val (.int i0), .val (.int i1), .val (.int i2), .val (.int i3), .val (.int i4), .val (.int i5), .val (.int lm), .val (.int a), .val (.int b), .val (.int c), .val (.int d), .val (.double r), .second, .val (.ref a1), .val (.int a), .val (.int b), .val (.int (-1 : Int32)), .val (.int (2 : Int32)), .val (.double (FP.dconst0)), .second] [(.double r)])
        refine OGo.dload (pc' := 271) C X42 at_269 rfl rfl ?_
        refine OGo.dcmp (pc' := 272) (v := (0 : Int32)) C X42 at_271 rfl (dcmpV_self (h_r ▸ (i2d_fin _).noNaN) .l) ?_
        refine OGo.ifNo (pc' := 275) C X42 at_272 rfl (teq (by decide : (0 : Int32) = (0 : Int32))).2 ?_
        refine OGo.iconst (pc' := 276) (z := (1 : Int32)) C X42 at_275 rfl (by decide) ?_
        refine OGo.goto (pc' := 280) C X42 at_276 (by decide) (by decide) ?_
        exact OGo.retN C X42 at_280 hret (by simp) (z' := (1 : Int32)) (by decide) hlk (rfl) (by decide) (by decide)
      · refine OGo.icmpNo (pc' := 227) C X39 at_224 rfl (feq e_da).1 ?_
        refine OGo.iload (pc' := 229) C X39 at_227 rfl rfl ?_
        refine OGo.iload (pc' := 231) C X39 at_229 rfl rfl ?_
        by_cases e_db : d = b
        · refine OGo.icmpYes (pc' := 241) C X39 at_231 (teq e_db).1 (by decide) (by decide) ?_
          refine OGo.dconst0 (pc' := 242) (v := (FP.dconst0)) C X39 at_241 rfl rfl ?_
          refine OGo.goto (pc' := 247) C X39 at_242 (by decide) (by decide) ?_
          refine OGo.dstore (pc' := 249) C X39 at_247 rfl (l' := #[.val (.int i0), .val (.int i1), .val (.int i2), .val (.int i3), .val (.int i4), .val (.int i5), .val (.int lm), .val (.int a), .val (.int b), .val (.int c), .val (.int d), .val (.double r), .second, .val (.ref a1), .val (.int a), .val (.int b), .val (.int (-1 : Int32)), .val (.int (2 : Int32)), .val (.double (FP.dconst0)), .second]) rfl ?_
          refine OGo.aload (pc' := 251) C X39 at_249 rfl rfl rfl ?_
          refine OGo.iload (pc' := 253) C X39 at_251 rfl rfl ?_
          refine OGo.callV (pc' := 256) (cells' := 4) (slots' := 17) (argsL := [(.int d)]) (St := []) C X39 (wd44 hw) (wd45 hw) (wd47 hw) (wd46 hw) (by decide) H35.1 (wd48 hw) (wd4 hw) (ctV1 hw X39.2.1 a1 lm (fun k => if k = b then .int 1 else (fun k => if k = a then .int 1 else (fun _ => .int (0 : Int32)) k) k) (fun k => if k = (1 : Int32) then .int b else (fun k => if k = (0 : Int32) then .int a else (fun _ => .int (0 : Int32)) k) k) (2 : Int32) r d H35 bd.1 bd.2 (by simp [e_ba, e_ca, e_da, e_db])) (lenOf pd4 rfl) rfl at_253 rfl rfl (by decide) (Nat.le_of_ble_eq_true rfl) rfl rfl (by decide) (by decide) (fun v44 T44 h44 Q44 X44 z44 => ?_)
          obtain ⟨hv44, hh44⟩ := Q44
          subst hv44; rw [hh44] at X44
          show OGo p e below _ T44 (mkF m 256 #[.val (.int i0), .val (.int i1), .val (.int i2), .val (.int i3), .val (.int i4), .val (.int i5), .val (.int lm), .val (.int a), .val (.int b), .val (.int c), .val (.int d), .val (.double r), .second, .val (.ref a1), .val (.int a), .val (.int b), .val (.int (-1 : Int32)), .val (.int (2 : Int32)), .val (.double (FP.dconst0)), .second] [(.double (0 : UInt64))])
          refine OGo.dload (pc' := 258) C X44 at_256 rfl rfl ?_
          refine OGo.dcmp (pc' := 259) (v := (0 : Int32)) C X44 at_258 rfl (by decide +kernel) ?_
          refine OGo.ifYes (pc' := 264) C X44 at_259 (teq (by decide : (0 : Int32) = (0 : Int32))).1 (by decide) (by decide) ?_
          refine OGo.aload (pc' := 266) C X44 at_264 rfl rfl rfl ?_
          refine OGo.callV (pc' := 269) (cells' := 4) (slots' := 17) (argsL := []) (St := []) C X44 (wd49 hw) (wd50 hw) (wd52 hw) (wd51 hw) (by decide) H35.1 (wd53 hw) (wd4 hw) (ct8 hw X44.2.1 a1 lm (fun k => if k = b then .int 1 else (fun k => if k = a then .int 1 else (fun _ => .int (0 : Int32)) k) k) (fun k => if k = (1 : Int32) then .int b else (fun k => if k = (0 : Int32) then .int a else (fun _ => .int (0 : Int32)) k) k) (2 : Int32) r H35) (lenOf pd5 rfl) rfl at_266 rfl rfl (by decide) (Nat.le_of_ble_eq_true rfl) rfl rfl (by decide) (by decide) (fun v45 T45 h45 Q45 X45 z45 => ?_)
          obtain ⟨hv45, hh45⟩ := Q45
          subst hv45; rw [hh45] at X45
          show OGo p e below _ T45 (mkF m 269 #[.val (.int i0), .val (.int i1), .val (.int i2), .val (.int i3), .val (.int i4), .val (.int i5), .val (.int lm), .val (.int a), .val (.int b), .val (.int c), .val (.int d), .val (.double r), .second, .val (.ref a1), .val (.int a), .val (.int b), .val (.int (-1 : Int32)), .val (.int (2 : Int32)), .val (.double (FP.dconst0)), .second] [(.double r)])
          refine OGo.dload (pc' := 271) C X45 at_269 rfl rfl ?_
          refine OGo.dcmp (pc' := 272) (v := (0 : Int32)) C X45 at_271 rfl (dcmpV_self (h_r ▸ (i2d_fin _).noNaN) .l) ?_
          refine OGo.ifNo (pc' := 275) C X45 at_272 rfl (teq (by decide : (0 : Int32) = (0 : Int32))).2 ?_
          refine OGo.iconst (pc' := 276) (z := (1 : Int32)) C X45 at_275 rfl (by decide) ?_
          refine OGo.goto (pc' := 280) C X45 at_276 (by decide) (by decide) ?_
          exact OGo.retN C X45 at_280 hret (by simp) (z' := (1 : Int32)) (by decide) hlk (rfl) (by decide) (by decide)
        · refine OGo.icmpNo (pc' := 234) C X39 at_231 rfl (feq e_db).1 ?_
          refine OGo.iload (pc' := 236) C X39 at_234 rfl rfl ?_
          refine OGo.iload (pc' := 238) C X39 at_236 rfl rfl ?_
          by_cases e_dc : d = c
          · refine OGo.icmpNo (pc' := 241) C X39 at_238 rfl (teq e_dc).2 ?_
            refine OGo.dconst0 (pc' := 242) (v := (FP.dconst0)) C X39 at_241 rfl rfl ?_
            refine OGo.goto (pc' := 247) C X39 at_242 (by decide) (by decide) ?_
            refine OGo.dstore (pc' := 249) C X39 at_247 rfl (l' := #[.val (.int i0), .val (.int i1), .val (.int i2), .val (.int i3), .val (.int i4), .val (.int i5), .val (.int lm), .val (.int a), .val (.int b), .val (.int c), .val (.int d), .val (.double r), .second, .val (.ref a1), .val (.int a), .val (.int b), .val (.int (-1 : Int32)), .val (.int (2 : Int32)), .val (.double (FP.dconst0)), .second]) rfl ?_
            refine OGo.aload (pc' := 251) C X39 at_249 rfl rfl rfl ?_
            refine OGo.iload (pc' := 253) C X39 at_251 rfl rfl ?_
            refine OGo.callV (pc' := 256) (cells' := 4) (slots' := 17) (argsL := [(.int d)]) (St := []) C X39 (wd44 hw) (wd45 hw) (wd47 hw) (wd46 hw) (by decide) H35.1 (wd48 hw) (wd4 hw) (ctV1 hw X39.2.1 a1 lm (fun k => if k = b then .int 1 else (fun k => if k = a then .int 1 else (fun _ => .int (0 : Int32)) k) k) (fun k => if k = (1 : Int32) then .int b else (fun k => if k = (0 : Int32) then .int a else (fun _ => .int (0 : Int32)) k) k) (2 : Int32) r d H35 bd.1 bd.2 (by simp [e_ba, e_ca, e_da, e_db, e_dc])) (lenOf pd4 rfl) rfl at_253 rfl rfl (by decide) (Nat.le_of_ble_eq_true rfl) rfl rfl (by decide) (by decide) (fun v47 T47 h47 Q47 X47 z47 => ?_)
            obtain ⟨hv47, hh47⟩ := Q47
            subst hv47; rw [hh47] at X47
            show OGo p e below _ T47 (mkF m 256 #[.val (.int i0), .val (.int i1), .val (.int i2), .val (.int i3), .val (.int i4), .val (.int i5), .val (.int lm), .val (.int a), .val (.int b), .val (.int c), .val (.int d), .val (.double r), .second, .val (.ref a1), .val (.int a), .val (.int b), .val (.int (-1 : Int32)), .val (.int (2 : Int32)), .val (.double (FP.dconst0)), .second] [(.double (0 : UInt64))])
            refine OGo.dload (pc' := 258) C X47 at_256 rfl rfl ?_
            refine OGo.dcmp (pc' := 259) (v := (0 : Int32)) C X47 at_258 rfl (by decide +kernel) ?_
            refine OGo.ifYes (pc' := 264) C X47 at_259 (teq (by decide : (0 : Int32) = (0 : Int32))).1 (by decide) (by decide) ?_
            refine OGo.aload (pc' := 266) C X47 at_264 rfl rfl rfl ?_
            refine OGo.callV (pc' := 269) (cells' := 4) (slots' := 17) (argsL := []) (St := []) C X47 (wd49 hw) (wd50 hw) (wd52 hw) (wd51 hw) (by decide) H35.1 (wd53 hw) (wd4 hw) (ct8 hw X47.2.1 a1 lm (fun k => if k = b then .int 1 else (fun k => if k = a then .int 1 else (fun _ => .int (0 : Int32)) k) k) (fun k => if k = (1 : Int32) then .int b else (fun k => if k = (0 : Int32) then .int a else (fun _ => .int (0 : Int32)) k) k) (2 : Int32) r H35) (lenOf pd5 rfl) rfl at_266 rfl rfl (by decide) (Nat.le_of_ble_eq_true rfl) rfl rfl (by decide) (by decide) (fun v48 T48 h48 Q48 X48 z48 => ?_)
            obtain ⟨hv48, hh48⟩ := Q48
            subst hv48; rw [hh48] at X48
            show OGo p e below _ T48 (mkF m 269 #[.val (.int i0), .val (.int i1), .val (.int i2), .val (.int i3), .val (.int i4), .val (.int i5), .val (.int lm), .val (.int a), .val (.int b), .val (.int c), .val (.int d), .val (.double r), .second, .val (.ref a1), .val (.int a), .val (.int b), .val (.int (-1 : Int32)), .val (.int (2 : Int32)), .val (.double (FP.dconst0)), .second] [(.double r)])
            refine OGo.dload (pc' := 271) C X48 at_269 rfl rfl ?_
            refine OGo.dcmp (pc' := 272) (v := (0 : Int32)) C X48 at_271 rfl (dcmpV_self (h_r ▸ (i2d_fin _).noNaN) .l) ?_
            refine OGo.ifNo (pc' := 275) C X48 at_272 rfl (teq (by decide : (0 : Int32) = (0 : Int32))).2 ?_
            refine OGo.iconst (pc' := 276) (z := (1 : Int32)) C X48 at_275 rfl (by decide) ?_
            refine OGo.goto (pc' := 280) C X48 at_276 (by decide) (by decide) ?_
            exact OGo.retN C X48 at_280 hret (by simp) (z' := (1 : Int32)) (by decide) hlk (rfl) (by decide) (by decide)
          · refine OGo.icmpYes (pc' := 245) C X39 at_238 (feq e_dc).2 (by decide) (by decide) ?_
            refine OGo.dload (pc' := 247) C X39 at_245 rfl rfl ?_
            refine OGo.dstore (pc' := 249) C X39 at_247 rfl (l' := #[.val (.int i0), .val (.int i1), .val (.int i2), .val (.int i3), .val (.int i4), .val (.int i5), .val (.int lm), .val (.int a), .val (.int b), .val (.int c), .val (.int d), .val (.double r), .second, .val (.ref a1), .val (.int a), .val (.int b), .val (.int (-1 : Int32)), .val (.int (2 : Int32)), .val (.double r), .second]) rfl ?_
            refine OGo.aload (pc' := 251) C X39 at_249 rfl rfl rfl ?_
            refine OGo.iload (pc' := 253) C X39 at_251 rfl rfl ?_
            refine OGo.callV (pc' := 256) (cells' := 4) (slots' := 17) (argsL := [(.int d)]) (St := []) C X39 (wd44 hw) (wd45 hw) (wd47 hw) (wd46 hw) (by decide) H35.1 (wd48 hw) (wd4 hw) (ctV0 hw X39.2.1 a1 lm (fun k => if k = b then .int 1 else (fun k => if k = a then .int 1 else (fun _ => .int (0 : Int32)) k) k) (fun k => if k = (1 : Int32) then .int b else (fun k => if k = (0 : Int32) then .int a else (fun _ => .int (0 : Int32)) k) k) (2 : Int32) r d H35 bd.1 bd.2 (by simp [e_ba, e_ca, e_da, e_db, e_dc])) (lenOf pd4 rfl) rfl at_253 rfl rfl (by decide) (Nat.le_of_ble_eq_true rfl) rfl rfl (by decide) (by decide) (fun v49 T49 h49 Q49 X49 z49 => ?_)
            obtain ⟨hv49, hh49⟩ := Q49
            subst hv49; rw [hh49] at X49
            show OGo p e below _ T49 (mkF m 256 #[.val (.int i0), .val (.int i1), .val (.int i2), .val (.int i3), .val (.int i4), .val (.int i5), .val (.int lm), .val (.int a), .val (.int b), .val (.int c), .val (.int d), .val (.double r), .second, .val (.ref a1), .val (.int a), .val (.int b), .val (.int (-1 : Int32)), .val (.int (2 : Int32)), .val (.double r), .second] [(.double r)])
            refine OGo.dload (pc' := 258) C X49 at_256 rfl rfl ?_
            refine OGo.dcmp (pc' := 259) (v := (0 : Int32)) C X49 at_258 rfl (dcmpV_self (h_r ▸ (i2d_fin _).noNaN) .l) ?_
            refine OGo.ifYes (pc' := 264) C X49 at_259 (teq (by decide : (0 : Int32) = (0 : Int32))).1 (by decide) (by decide) ?_
            refine OGo.aload (pc' := 266) C X49 at_264 rfl rfl rfl ?_
            refine OGo.callV (pc' := 269) (cells' := 4) (slots' := 17) (argsL := []) (St := []) C X49 (wd49 hw) (wd50 hw) (wd52 hw) (wd51 hw) (by decide) H35.1 (wd53 hw) (wd4 hw) (ct8 hw X49.2.1 a1 lm (fun k => if k = b then .int 1 else (fun k => if k = a then .int 1 else (fun _ => .int (0 : Int32)) k) k) (fun k => if k = (1 : Int32) then .int b else (fun k => if k = (0 : Int32) then .int a else (fun _ => .int (0 : Int32)) k) k) (2 : Int32) r H35) (lenOf pd5 rfl) rfl at_266 rfl rfl (by decide) (Nat.le_of_ble_eq_true rfl) rfl rfl (by decide) (by decide) (fun v50 T50 h50 Q50 X50 z50 => ?_)
            obtain ⟨hv50, hh50⟩ := Q50
            subst hv50; rw [hh50] at X50
            show OGo p e below _ T50 (mkF m 269 #[.val (.int i0), .val (.int i1), .val (.int i2), .val (.int i3), .val (.int i4), .val (.int i5), .val (.int lm), .val (.int a), .val (.int b), .val (.int c), .val (.int d), .val (.double r), .second, .val (.ref a1), .val (.int a), .val (.int b), .val (.int (-1 : Int32)), .val (.int (2 : Int32)), .val (.double r), .second] [(.double r)])
            refine OGo.dload (pc' := 271) C X50 at_269 rfl rfl ?_
            refine OGo.dcmp (pc' := 272) (v := (0 : Int32)) C X50 at_271 rfl (dcmpV_self (h_r ▸ (i2d_fin _).noNaN) .l) ?_
            refine OGo.ifNo (pc' := 275) C X50 at_272 rfl (teq (by decide : (0 : Int32) = (0 : Int32))).2 ?_
            refine OGo.iconst (pc' := 276) (z := (1 : Int32)) C X50 at_275 rfl (by decide) ?_
            refine OGo.goto (pc' := 280) C X50 at_276 (by decide) (by decide) ?_
            exact OGo.retN C X50 at_280 hret (by simp) (z' := (1 : Int32)) (by decide) hlk (rfl) (by decide) (by decide)
    · by_cases e_cb : c = b
      · refine OGo.aload (pc' := 88) C X35 at_86 rfl rfl rfl ?_
        refine OGo.iload (pc' := 90) C X35 at_88 rfl rfl ?_
        refine OGo.callV (pc' := 93) (cells' := 4) (slots' := 17) (argsL := [(.int c)]) (St := []) C X35 (wd27 hw) (wd28 hw) (wd30 hw) (wd29 hw) (by decide) H35.1 (wd31 hw) (wd4 hw) (ctL1 hw X35.2.1 a1 lm (fun k => if k = b then .int 1 else (fun k => if k = a then .int 1 else (fun _ => .int (0 : Int32)) k) k) (fun k => if k = (1 : Int32) then .int b else (fun k => if k = (0 : Int32) then .int a else (fun _ => .int (0 : Int32)) k) k) (2 : Int32) r c H35 bc.1 bc.2 (by simp [e_ba, e_ca, e_cb])) (lenOf pd0 rfl) rfl at_90 rfl rfl (by decide) (Nat.le_of_ble_eq_true rfl) rfl rfl (by decide) (by decide) (fun v51 T51 h51 Q51 X51 z51 => ?_)
        obtain ⟨hv51, hh51⟩ := Q51
        subst hv51; rw [hh51] at X51
        show OGo p e below _ T51 (mkF m 93 #[.val (.int i0), .val (.int i1), .val (.int i2), .val (.int i3), .val (.int i4), .val (.int i5), .val (.int lm), .val (.int a), .val (.int b), .val (.int c), .val (.int d), .val (.double r), .second, .val (.ref a1), .unset, .unset, .unset, .unset, .unset, .unset] [])
        refine OGo.iload (pc' := 95) C X51 at_93 rfl rfl ?_
        refine OGo.istore (pc' := 97) C X51 at_95 rfl (l' := #[.val (.int i0), .val (.int i1), .val (.int i2), .val (.int i3), .val (.int i4), .val (.int i5), .val (.int lm), .val (.int a), .val (.int b), .val (.int c), .val (.int d), .val (.double r), .second, .val (.ref a1), .val (.int a), .unset, .unset, .unset, .unset, .unset]) rfl ?_
        refine OGo.iconst (pc' := 98) (z := (-1 : Int32)) C X51 at_97 rfl (by decide) ?_
        refine OGo.istore (pc' := 100) C X51 at_98 rfl (l' := #[.val (.int i0), .val (.int i1), .val (.int i2), .val (.int i3), .val (.int i4), .val (.int i5), .val (.int lm), .val (.int a), .val (.int b), .val (.int c), .val (.int d), .val (.double r), .second, .val (.ref a1), .val (.int a), .val (.int (-1 : Int32)), .unset, .unset, .unset, .unset]) rfl ?_
        refine OGo.iconst (pc' := 101) (z := (-1 : Int32)) C X51 at_100 rfl (by decide) ?_
        refine OGo.istore (pc' := 103) C X51 at_101 rfl (l' := #[.val (.int i0), .val (.int i1), .val (.int i2), .val (.int i3), .val (.int i4), .val (.int i5), .val (.int lm), .val (.int a), .val (.int b), .val (.int c), .val (.int d), .val (.double r), .second, .val (.ref a1), .val (.int a), .val (.int (-1 : Int32)), .val (.int (-1 : Int32)), .unset, .unset, .unset]) rfl ?_
        refine OGo.iconst (pc' := 104) (z := (1 : Int32)) C X51 at_103 rfl (by decide) ?_
        refine OGo.istore (pc' := 106) C X51 at_104 rfl (l' := #[.val (.int i0), .val (.int i1), .val (.int i2), .val (.int i3), .val (.int i4), .val (.int i5), .val (.int lm), .val (.int a), .val (.int b), .val (.int c), .val (.int d), .val (.double r), .second, .val (.ref a1), .val (.int a), .val (.int (-1 : Int32)), .val (.int (-1 : Int32)), .val (.int (1 : Int32)), .unset, .unset]) rfl ?_
        refine OGo.iload (pc' := 108) C X51 at_106 rfl rfl ?_
        refine OGo.iload (pc' := 110) C X51 at_108 rfl rfl ?_
        refine OGo.icmpNo (pc' := 113) C X51 at_110 rfl (feq e_ba).1 ?_
        refine OGo.iload (pc' := 115) C X51 at_113 rfl rfl ?_
        refine OGo.istore (pc' := 117) C X51 at_115 rfl (l' := #[.val (.int i0), .val (.int i1), .val (.int i2), .val (.int i3), .val (.int i4), .val (.int i5), .val (.int lm), .val (.int a), .val (.int b), .val (.int c), .val (.int d), .val (.double r), .second, .val (.ref a1), .val (.int a), .val (.int b), .val (.int (-1 : Int32)), .val (.int (1 : Int32)), .unset, .unset]) rfl ?_
        refine OGo.iconst (pc' := 118) (z := (2 : Int32)) C X51 at_117 rfl (by decide) ?_
        refine OGo.istore (pc' := 120) C X51 at_118 rfl (l' := #[.val (.int i0), .val (.int i1), .val (.int i2), .val (.int i3), .val (.int i4), .val (.int i5), .val (.int lm), .val (.int a), .val (.int b), .val (.int c), .val (.int d), .val (.double r), .second, .val (.ref a1), .val (.int a), .val (.int b), .val (.int (-1 : Int32)), .val (.int (2 : Int32)), .unset, .unset]) rfl ?_
        refine OGo.iload (pc' := 122) C X51 at_120 rfl rfl ?_
        refine OGo.iload (pc' := 124) C X51 at_122 rfl rfl ?_
        refine OGo.icmpNo (pc' := 127) C X51 at_124 rfl (feq e_ca).1 ?_
        refine OGo.iload (pc' := 129) C X51 at_127 rfl rfl ?_
        refine OGo.iload (pc' := 131) C X51 at_129 rfl rfl ?_
        refine OGo.icmpYes (pc' := 157) C X51 at_131 (teq e_cb).1 (by decide) (by decide) ?_
        refine OGo.aload (pc' := 159) C X51 at_157 rfl rfl rfl ?_
        refine OGo.callV (pc' := 162) (cells' := 4) (slots' := 17) (argsL := []) (St := []) C X51 (wd34 hw) (wd35 hw) (wd37 hw) (wd36 hw) (by decide) H35.1 (wd38 hw) (wd4 hw) (ct5 hw X51.2.1 a1 lm (fun k => if k = b then .int 1 else (fun k => if k = a then .int 1 else (fun _ => .int (0 : Int32)) k) k) (fun k => if k = (1 : Int32) then .int b else (fun k => if k = (0 : Int32) then .int a else (fun _ => .int (0 : Int32)) k) k) (2 : Int32) r H35) (lenOf pd2 rfl) rfl at_159 rfl rfl (by decide) (Nat.le_of_ble_eq_true rfl) rfl rfl (by decide) (by decide) (fun v52 T52 h52 Q52 X52 z52 => ?_)
        obtain ⟨hv52, hh52⟩ := Q52
        subst hv52; rw [hh52] at X52
        show OGo p e below _ T52 (mkF m 162 #[.val (.int i0), .val (.int i1), .val (.int i2), .val (.int i3), .val (.int i4), .val (.int i5), .val (.int lm), .val (.int a), .val (.int b), .val (.int c), .val (.int d), .val (.double r), .second, .val (.ref a1), .val (.int a), .val (.int b), .val (.int (-1 : Int32)), .val (.int (2 : Int32)), .unset, .unset] [(.int (2 : Int32))])
        refine OGo.iload (pc' := 164) C X52 at_162 rfl rfl ?_
        refine OGo.icmpYes (pc' := 169) C X52 at_164 (teq (by decide : (2 : Int32) = (2 : Int32))).1 (by decide) (by decide) ?_
        refine OGo.aload (pc' := 171) C X52 at_169 rfl rfl rfl ?_
        refine OGo.iconst (pc' := 172) (z := (0 : Int32)) C X52 at_171 rfl (by decide) ?_
        refine OGo.callV (pc' := 175) (cells' := 4) (slots' := 17) (argsL := [(.int (0 : Int32))]) (St := []) C X52 (wd39 hw) (wd40 hw) (wd42 hw) (wd41 hw) (by decide) H35.1 (wd43 hw) (wd4 hw) (ct6 hw X52.2.1 a1 lm (fun k => if k = b then .int 1 else (fun k => if k = a then .int 1 else (fun _ => .int (0 : Int32)) k) k) (fun k => if k = (1 : Int32) then .int b else (fun k => if k = (0 : Int32) then .int a else (fun _ => .int (0 : Int32)) k) k) (2 : Int32) r (0 : Int32) a H35 (by decide) (by have h1 := ba; have h2 := bb; have h3 := bc; simp only [Int32.lt_iff_toInt_lt, Int32.reduceToInt, ← Int32.toInt_inj] at *; omega) (by simp)) (lenOf pd3 rfl) rfl at_172 rfl rfl (by decide) (Nat.le_of_ble_eq_true rfl) rfl rfl (by decide) (by decide) (fun v53 T53 h53 Q53 X53 z53 => ?_)
        obtain ⟨hv53, hh53⟩ := Q53
        subst hv53; rw [hh53] at X53
        show OGo p e below _ T53 (mkF m 175 #[.val (.int i0), .val (.int i1), .val (.int i2), .val (.int i3), .val (.int i4), .val (.int i5), .val (.int lm), .val (.int a), .val (.int b), .val (.int c), .val (.int d), .val (.double r), .second, .val (.ref a1), .val (.int a), .val (.int b), .val (.int (-1 : Int32)), .val (.int (2 : Int32)), .unset, .unset] [(.int a)])
        refine OGo.iload (pc' := 177) C X53 at_175 rfl rfl ?_
        refine OGo.icmpYes (pc' := 182) C X53 at_177 (teq rfl).1 (by decide) (by decide) ?_
        refine OGo.iload (pc' := 184) C X53 at_182 rfl rfl ?_
        refine OGo.iconst (pc' := 185) (z := (2 : Int32)) C X53 at_184 rfl (by decide) ?_
        refine OGo.icmpNo (pc' := 188) C X53 at_185 rfl (flt (by decide : ¬ (2 : Int32) < (2 : Int32))).1 ?_
        refine OGo.aload (pc' := 190) C X53 at_188 rfl rfl rfl ?_
        refine OGo.iconst (pc' := 191) (z := (1 : Int32)) C X53 at_190 rfl (by decide) ?_
        refine OGo.callV (pc' := 194) (cells' := 4) (slots' := 17) (argsL := [(.int (1 : Int32))]) (St := []) C X53 (wd39 hw) (wd40 hw) (wd42 hw) (wd41 hw) (by decide) H35.1 (wd43 hw) (wd4 hw) (ct6 hw X53.2.1 a1 lm (fun k => if k = b then .int 1 else (fun k => if k = a then .int 1 else (fun _ => .int (0 : Int32)) k) k) (fun k => if k = (1 : Int32) then .int b else (fun k => if k = (0 : Int32) then .int a else (fun _ => .int (0 : Int32)) k) k) (2 : Int32) r (1 : Int32) b H35 (by decide) (by have h1 := ba; have h2 := bb; have h3 := bc; simp only [Int32.lt_iff_toInt_lt, Int32.reduceToInt, ← Int32.toInt_inj] at *; omega) (by simp)) (lenOf pd3 rfl) rfl at_191 rfl rfl (by decide) (Nat.le_of_ble_eq_true rfl) rfl rfl (by decide) (by decide) (fun v54 T54 h54 Q54 X54 z54 => ?_)
        obtain ⟨hv54, hh54⟩ := Q54
        subst hv54; rw [hh54] at X54
        show OGo p e below _ T54 (mkF m 194 #[.val (.int i0), .val (.int i1), .val (.int i2), .val (.int i3), .val (.int i4), .val (.int i5), .val (.int lm), .val (.int a), .val (.int b), .val (.int c), .val (.int d), .val (.double r), .second, .val (.ref a1), .val (.int a), .val (.int b), .val (.int (-1 : Int32)), .val (.int (2 : Int32)), .unset, .unset] [(.int b)])
        refine OGo.iload (pc' := 196) C X54 at_194 rfl rfl ?_
        refine OGo.icmpYes (pc' := 201) C X54 at_196 (teq rfl).1 (by decide) (by decide) ?_
        refine OGo.iload (pc' := 203) C X54 at_201 rfl rfl ?_
        refine OGo.iconst (pc' := 204) (z := (3 : Int32)) C X54 at_203 rfl (by decide) ?_
        refine OGo.icmpYes (pc' := 220) C X54 at_204 (tlt (by decide : (2 : Int32) < (3 : Int32))).1 (by decide) (by decide) ?_
        refine OGo.iload (pc' := 222) C X54 at_220 rfl rfl ?_
        refine OGo.iload (pc' := 224) C X54 at_222 rfl rfl ?_
        by_cases e_da : d = a
        · refine OGo.icmpYes (pc' := 241) C X54 at_224 (teq e_da).1 (by decide) (by decide) ?_
          refine OGo.dconst0 (pc' := 242) (v := (FP.dconst0)) C X54 at_241 rfl rfl ?_
          refine OGo.goto (pc' := 247) C X54 at_242 (by decide) (by decide) ?_
          refine OGo.dstore (pc' := 249) C X54 at_247 rfl (l' := #[.val (.int i0), .val (.int i1), .val (.int i2), .val (.int i3), .val (.int i4), .val (.int i5), .val (.int lm), .val (.int a), .val (.int b), .val (.int c), .val (.int d), .val (.double r), .second, .val (.ref a1), .val (.int a), .val (.int b), .val (.int (-1 : Int32)), .val (.int (2 : Int32)), .val (.double (FP.dconst0)), .second]) rfl ?_
          refine OGo.aload (pc' := 251) C X54 at_249 rfl rfl rfl ?_
          refine OGo.iload (pc' := 253) C X54 at_251 rfl rfl ?_
          refine OGo.callV (pc' := 256) (cells' := 4) (slots' := 17) (argsL := [(.int d)]) (St := []) C X54 (wd44 hw) (wd45 hw) (wd47 hw) (wd46 hw) (by decide) H35.1 (wd48 hw) (wd4 hw) (ctV1 hw X54.2.1 a1 lm (fun k => if k = b then .int 1 else (fun k => if k = a then .int 1 else (fun _ => .int (0 : Int32)) k) k) (fun k => if k = (1 : Int32) then .int b else (fun k => if k = (0 : Int32) then .int a else (fun _ => .int (0 : Int32)) k) k) (2 : Int32) r d H35 bd.1 bd.2 (by simp [e_ba, e_ca, e_cb, e_da])) (lenOf pd4 rfl) rfl at_253 rfl rfl (by decide) (Nat.le_of_ble_eq_true rfl) rfl rfl (by decide) (by decide) (fun v56 T56 h56 Q56 X56 z56 => ?_)
          obtain ⟨hv56, hh56⟩ := Q56
          subst hv56; rw [hh56] at X56
          show OGo p e below _ T56 (mkF m 256 #[.val (.int i0), .val (.int i1), .val (.int i2), .val (.int i3), .val (.int i4), .val (.int i5), .val (.int lm), .val (.int a), .val (.int b), .val (.int c), .val (.int d), .val (.double r), .second, .val (.ref a1), .val (.int a), .val (.int b), .val (.int (-1 : Int32)), .val (.int (2 : Int32)), .val (.double (FP.dconst0)), .second] [(.double (0 : UInt64))])
          refine OGo.dload (pc' := 258) C X56 at_256 rfl rfl ?_
          refine OGo.dcmp (pc' := 259) (v := (0 : Int32)) C X56 at_258 rfl (by decide +kernel) ?_
          refine OGo.ifYes (pc' := 264) C X56 at_259 (teq (by decide : (0 : Int32) = (0 : Int32))).1 (by decide) (by decide) ?_
          refine OGo.aload (pc' := 266) C X56 at_264 rfl rfl rfl ?_
          refine OGo.callV (pc' := 269) (cells' := 4) (slots' := 17) (argsL := []) (St := []) C X56 (wd49 hw) (wd50 hw) (wd52 hw) (wd51 hw) (by decide) H35.1 (wd53 hw) (wd4 hw) (ct8 hw X56.2.1 a1 lm (fun k => if k = b then .int 1 else (fun k => if k = a then .int 1 else (fun _ => .int (0 : Int32)) k) k) (fun k => if k = (1 : Int32) then .int b else (fun k => if k = (0 : Int32) then .int a else (fun _ => .int (0 : Int32)) k) k) (2 : Int32) r H35) (lenOf pd5 rfl) rfl at_266 rfl rfl (by decide) (Nat.le_of_ble_eq_true rfl) rfl rfl (by decide) (by decide) (fun v57 T57 h57 Q57 X57 z57 => ?_)
          obtain ⟨hv57, hh57⟩ := Q57
          subst hv57; rw [hh57] at X57
          show OGo p e below _ T57 (mkF m 269 #[.val (.int i0), .val (.int i1), .val (.int i2), .val (.int i3), .val (.int i4), .val (.int i5), .val (.int lm), .val (.int a), .val (.int b), .val (.int c), .val (.int d), .val (.double r), .second, .val (.ref a1), .val (.int a), .val (.int b), .val (.int (-1 : Int32)), .val (.int (2 : Int32)), .val (.double (FP.dconst0)), .second] [(.double r)])
          refine OGo.dload (pc' := 271) C X57 at_269 rfl rfl ?_
          refine OGo.dcmp (pc' := 272) (v := (0 : Int32)) C X57 at_271 rfl (dcmpV_self (h_r ▸ (i2d_fin _).noNaN) .l) ?_
          refine OGo.ifNo (pc' := 275) C X57 at_272 rfl (teq (by decide : (0 : Int32) = (0 : Int32))).2 ?_
          refine OGo.iconst (pc' := 276) (z := (1 : Int32)) C X57 at_275 rfl (by decide) ?_
          refine OGo.goto (pc' := 280) C X57 at_276 (by decide) (by decide) ?_
          exact OGo.retN C X57 at_280 hret (by simp) (z' := (1 : Int32)) (by decide) hlk (rfl) (by decide) (by decide)
        · refine OGo.icmpNo (pc' := 227) C X54 at_224 rfl (feq e_da).1 ?_
          refine OGo.iload (pc' := 229) C X54 at_227 rfl rfl ?_
          refine OGo.iload (pc' := 231) C X54 at_229 rfl rfl ?_
          by_cases e_db : d = b
          · refine OGo.icmpYes (pc' := 241) C X54 at_231 (teq e_db).1 (by decide) (by decide) ?_
            refine OGo.dconst0 (pc' := 242) (v := (FP.dconst0)) C X54 at_241 rfl rfl ?_
            refine OGo.goto (pc' := 247) C X54 at_242 (by decide) (by decide) ?_
            refine OGo.dstore (pc' := 249) C X54 at_247 rfl (l' := #[.val (.int i0), .val (.int i1), .val (.int i2), .val (.int i3), .val (.int i4), .val (.int i5), .val (.int lm), .val (.int a), .val (.int b), .val (.int c), .val (.int d), .val (.double r), .second, .val (.ref a1), .val (.int a), .val (.int b), .val (.int (-1 : Int32)), .val (.int (2 : Int32)), .val (.double (FP.dconst0)), .second]) rfl ?_
            refine OGo.aload (pc' := 251) C X54 at_249 rfl rfl rfl ?_
            refine OGo.iload (pc' := 253) C X54 at_251 rfl rfl ?_
            refine OGo.callV (pc' := 256) (cells' := 4) (slots' := 17) (argsL := [(.int d)]) (St := []) C X54 (wd44 hw) (wd45 hw) (wd47 hw) (wd46 hw) (by decide) H35.1 (wd48 hw) (wd4 hw) (ctV1 hw X54.2.1 a1 lm (fun k => if k = b then .int 1 else (fun k => if k = a then .int 1 else (fun _ => .int (0 : Int32)) k) k) (fun k => if k = (1 : Int32) then .int b else (fun k => if k = (0 : Int32) then .int a else (fun _ => .int (0 : Int32)) k) k) (2 : Int32) r d H35 bd.1 bd.2 (by simp [e_ba, e_ca, e_cb, e_da, e_db])) (lenOf pd4 rfl) rfl at_253 rfl rfl (by decide) (Nat.le_of_ble_eq_true rfl) rfl rfl (by decide) (by decide) (fun v59 T59 h59 Q59 X59 z59 => ?_)
            obtain ⟨hv59, hh59⟩ := Q59
            subst hv59; rw [hh59] at X59
            show OGo p e below _ T59 (mkF m 256 #[.val (.int i0), .val (.int i1), .val (.int i2), .val (.int i3), .val (.int i4), .val (.int i5), .val (.int lm), .val (.int a), .val (.int b), .val (.int c), .val (.int d), .val (.double r), .second, .val (.ref a1), .val (.int a), .val (.int b), .val (.int (-1 : Int32)), .val (.int (2 : Int32)), .val (.double (FP.dconst0)), .second] [(.double (0 : UInt64))])
            refine OGo.dload (pc' := 258) C X59 at_256 rfl rfl ?_
            refine OGo.dcmp (pc' := 259) (v := (0 : Int32)) C X59 at_258 rfl (by decide +kernel) ?_
            refine OGo.ifYes (pc' := 264) C X59 at_259 (teq (by decide : (0 : Int32) = (0 : Int32))).1 (by decide) (by decide) ?_
            refine OGo.aload (pc' := 266) C X59 at_264 rfl rfl rfl ?_
            refine OGo.callV (pc' := 269) (cells' := 4) (slots' := 17) (argsL := []) (St := []) C X59 (wd49 hw) (wd50 hw) (wd52 hw) (wd51 hw) (by decide) H35.1 (wd53 hw) (wd4 hw) (ct8 hw X59.2.1 a1 lm (fun k => if k = b then .int 1 else (fun k => if k = a then .int 1 else (fun _ => .int (0 : Int32)) k) k) (fun k => if k = (1 : Int32) then .int b else (fun k => if k = (0 : Int32) then .int a else (fun _ => .int (0 : Int32)) k) k) (2 : Int32) r H35) (lenOf pd5 rfl) rfl at_266 rfl rfl (by decide) (Nat.le_of_ble_eq_true rfl) rfl rfl (by decide) (by decide) (fun v60 T60 h60 Q60 X60 z60 => ?_)
            obtain ⟨hv60, hh60⟩ := Q60
            subst hv60; rw [hh60] at X60
            show OGo p e below _ T60 (mkF m 269 #[.val (.int i0), .val (.int i1), .val (.int i2), .val (.int i3), .val (.int i4), .val (.int i5), .val (.int lm), .val (.int a), .val (.int b), .val (.int c), .val (.int d), .val (.double r), .second, .val (.ref a1), .val (.int a), .val (.int b), .val (.int (-1 : Int32)), .val (.int (2 : Int32)), .val (.double (FP.dconst0)), .second] [(.double r)])
            refine OGo.dload (pc' := 271) C X60 at_269 rfl rfl ?_
            refine OGo.dcmp (pc' := 272) (v := (0 : Int32)) C X60 at_271 rfl (dcmpV_self (h_r ▸ (i2d_fin _).noNaN) .l) ?_
            refine OGo.ifNo (pc' := 275) C X60 at_272 rfl (teq (by decide : (0 : Int32) = (0 : Int32))).2 ?_
            refine OGo.iconst (pc' := 276) (z := (1 : Int32)) C X60 at_275 rfl (by decide) ?_
            refine OGo.goto (pc' := 280) C X60 at_276 (by decide) (by decide) ?_
            exact OGo.retN C X60 at_280 hret (by simp) (z' := (1 : Int32)) (by decide) hlk (rfl) (by decide) (by decide)
          · refine OGo.icmpNo (pc' := 234) C X54 at_231 rfl (feq e_db).1 ?_
            refine OGo.iload (pc' := 236) C X54 at_234 rfl rfl ?_
            refine OGo.iload (pc' := 238) C X54 at_236 rfl rfl ?_
            by_cases e_dc : d = c
            · refine OGo.icmpNo (pc' := 241) C X54 at_238 rfl (teq e_dc).2 ?_
              refine OGo.dconst0 (pc' := 242) (v := (FP.dconst0)) C X54 at_241 rfl rfl ?_
              refine OGo.goto (pc' := 247) C X54 at_242 (by decide) (by decide) ?_
              refine OGo.dstore (pc' := 249) C X54 at_247 rfl (l' := #[.val (.int i0), .val (.int i1), .val (.int i2), .val (.int i3), .val (.int i4), .val (.int i5), .val (.int lm), .val (.int a), .val (.int b), .val (.int c), .val (.int d), .val (.double r), .second, .val (.ref a1), .val (.int a), .val (.int b), .val (.int (-1 : Int32)), .val (.int (2 : Int32)), .val (.double (FP.dconst0)), .second]) rfl ?_
              refine OGo.aload (pc' := 251) C X54 at_249 rfl rfl rfl ?_
              refine OGo.iload (pc' := 253) C X54 at_251 rfl rfl ?_
              refine OGo.callV (pc' := 256) (cells' := 4) (slots' := 17) (argsL := [(.int d)]) (St := []) C X54 (wd44 hw) (wd45 hw) (wd47 hw) (wd46 hw) (by decide) H35.1 (wd48 hw) (wd4 hw) (ctV1 hw X54.2.1 a1 lm (fun k => if k = b then .int 1 else (fun k => if k = a then .int 1 else (fun _ => .int (0 : Int32)) k) k) (fun k => if k = (1 : Int32) then .int b else (fun k => if k = (0 : Int32) then .int a else (fun _ => .int (0 : Int32)) k) k) (2 : Int32) r d H35 bd.1 bd.2 (by simp [e_ba, e_ca, e_cb, e_da, e_db, e_dc])) (lenOf pd4 rfl) rfl at_253 rfl rfl (by decide) (Nat.le_of_ble_eq_true rfl) rfl rfl (by decide) (by decide) (fun v62 T62 h62 Q62 X62 z62 => ?_)
              obtain ⟨hv62, hh62⟩ := Q62
              subst hv62; rw [hh62] at X62
              show OGo p e below _ T62 (mkF m 256 #[.val (.int i0), .val (.int i1), .val (.int i2), .val (.int i3), .val (.int i4), .val (.int i5), .val (.int lm), .val (.int a), .val (.int b), .val (.int c), .val (.int d), .val (.double r), .second, .val (.ref a1), .val (.int a), .val (.int b), .val (.int (-1 : Int32)), .val (.int (2 : Int32)), .val (.double (FP.dconst0)), .second] [(.double (0 : UInt64))])
              refine OGo.dload (pc' := 258) C X62 at_256 rfl rfl ?_
              refine OGo.dcmp (pc' := 259) (v := (0 : Int32)) C X62 at_258 rfl (by decide +kernel) ?_
              refine OGo.ifYes (pc' := 264) C X62 at_259 (teq (by decide : (0 : Int32) = (0 : Int32))).1 (by decide) (by decide) ?_
              refine OGo.aload (pc' := 266) C X62 at_264 rfl rfl rfl ?_
              refine OGo.callV (pc' := 269) (cells' := 4) (slots' := 17) (argsL := []) (St := []) C X62 (wd49 hw) (wd50 hw) (wd52 hw) (wd51 hw) (by decide) H35.1 (wd53 hw) (wd4 hw) (ct8 hw X62.2.1 a1 lm (fun k => if k = b then .int 1 else (fun k => if k = a then .int 1 else (fun _ => .int (0 : Int32)) k) k) (fun k => if k = (1 : Int32) then .int b else (fun k => if k = (0 : Int32) then .int a else (fun _ => .int (0 : Int32)) k) k) (2 : Int32) r H35) (lenOf pd5 rfl) rfl at_266 rfl rfl (by decide) (Nat.le_of_ble_eq_true rfl) rfl rfl (by decide) (by decide) (fun v63 T63 h63 Q63 X63 z63 => ?_)
              obtain ⟨hv63, hh63⟩ := Q63
              subst hv63; rw [hh63] at X63
              show OGo p e below _ T63 (mkF m 269 #[.val (.int i0), .val (.int i1), .val (.int i2), .val (.int i3), .val (.int i4), .val (.int i5), .val (.int lm), .val (.int a), .val (.int b), .val (.int c), .val (.int d), .val (.double r), .second, .val (.ref a1), .val (.int a), .val (.int b), .val (.int (-1 : Int32)), .val (.int (2 : Int32)), .val (.double (FP.dconst0)), .second] [(.double r)])
              refine OGo.dload (pc' := 271) C X63 at_269 rfl rfl ?_
              refine OGo.dcmp (pc' := 272) (v := (0 : Int32)) C X63 at_271 rfl (dcmpV_self (h_r ▸ (i2d_fin _).noNaN) .l) ?_
              refine OGo.ifNo (pc' := 275) C X63 at_272 rfl (teq (by decide : (0 : Int32) = (0 : Int32))).2 ?_
              refine OGo.iconst (pc' := 276) (z := (1 : Int32)) C X63 at_275 rfl (by decide) ?_
              refine OGo.goto (pc' := 280) C X63 at_276 (by decide) (by decide) ?_
              exact OGo.retN C X63 at_280 hret (by simp) (z' := (1 : Int32)) (by decide) hlk (rfl) (by decide) (by decide)
            · refine OGo.icmpYes (pc' := 245) C X54 at_238 (feq e_dc).2 (by decide) (by decide) ?_
              refine OGo.dload (pc' := 247) C X54 at_245 rfl rfl ?_
              refine OGo.dstore (pc' := 249) C X54 at_247 rfl (l' := #[.val (.int i0), .val (.int i1), .val (.int i2), .val (.int i3), .val (.int i4), .val (.int i5), .val (.int lm), .val (.int a), .val (.int b), .val (.int c), .val (.int d), .val (.double r), .second, .val (.ref a1), .val (.int a), .val (.int b), .val (.int (-1 : Int32)), .val (.int (2 : Int32)), .val (.double r), .second]) rfl ?_
              refine OGo.aload (pc' := 251) C X54 at_249 rfl rfl rfl ?_
              refine OGo.iload (pc' := 253) C X54 at_251 rfl rfl ?_
              refine OGo.callV (pc' := 256) (cells' := 4) (slots' := 17) (argsL := [(.int d)]) (St := []) C X54 (wd44 hw) (wd45 hw) (wd47 hw) (wd46 hw) (by decide) H35.1 (wd48 hw) (wd4 hw) (ctV0 hw X54.2.1 a1 lm (fun k => if k = b then .int 1 else (fun k => if k = a then .int 1 else (fun _ => .int (0 : Int32)) k) k) (fun k => if k = (1 : Int32) then .int b else (fun k => if k = (0 : Int32) then .int a else (fun _ => .int (0 : Int32)) k) k) (2 : Int32) r d H35 bd.1 bd.2 (by simp [e_ba, e_ca, e_cb, e_da, e_db, e_dc])) (lenOf pd4 rfl) rfl at_253 rfl rfl (by decide) (Nat.le_of_ble_eq_true rfl) rfl rfl (by decide) (by decide) (fun v64 T64 h64 Q64 X64 z64 => ?_)
              obtain ⟨hv64, hh64⟩ := Q64
              subst hv64; rw [hh64] at X64
              show OGo p e below _ T64 (mkF m 256 #[.val (.int i0), .val (.int i1), .val (.int i2), .val (.int i3), .val (.int i4), .val (.int i5), .val (.int lm), .val (.int a), .val (.int b), .val (.int c), .val (.int d), .val (.double r), .second, .val (.ref a1), .val (.int a), .val (.int b), .val (.int (-1 : Int32)), .val (.int (2 : Int32)), .val (.double r), .second] [(.double r)])
              refine OGo.dload (pc' := 258) C X64 at_256 rfl rfl ?_
              refine OGo.dcmp (pc' := 259) (v := (0 : Int32)) C X64 at_258 rfl (dcmpV_self (h_r ▸ (i2d_fin _).noNaN) .l) ?_
              refine OGo.ifYes (pc' := 264) C X64 at_259 (teq (by decide : (0 : Int32) = (0 : Int32))).1 (by decide) (by decide) ?_
              refine OGo.aload (pc' := 266) C X64 at_264 rfl rfl rfl ?_
              refine OGo.callV (pc' := 269) (cells' := 4) (slots' := 17) (argsL := []) (St := []) C X64 (wd49 hw) (wd50 hw) (wd52 hw) (wd51 hw) (by decide) H35.1 (wd53 hw) (wd4 hw) (ct8 hw X64.2.1 a1 lm (fun k => if k = b then .int 1 else (fun k => if k = a then .int 1 else (fun _ => .int (0 : Int32)) k) k) (fun k => if k = (1 : Int32) then .int b else (fun k => if k = (0 : Int32) then .int a else (fun _ => .int (0 : Int32)) k) k) (2 : Int32) r H35) (lenOf pd5 rfl) rfl at_266 rfl rfl (by decide) (Nat.le_of_ble_eq_true rfl) rfl rfl (by decide) (by decide) (fun v65 T65 h65 Q65 X65 z65 => ?_)
              obtain ⟨hv65, hh65⟩ := Q65
              subst hv65; rw [hh65] at X65
              show OGo p e below _ T65 (mkF m 269 #[.val (.int i0), .val (.int i1), .val (.int i2), .val (.int i3), .val (.int i4), .val (.int i5), .val (.int lm), .val (.int a), .val (.int b), .val (.int c), .val (.int d), .val (.double r), .second, .val (.ref a1), .val (.int a), .val (.int b), .val (.int (-1 : Int32)), .val (.int (2 : Int32)), .val (.double r), .second] [(.double r)])
              refine OGo.dload (pc' := 271) C X65 at_269 rfl rfl ?_
              refine OGo.dcmp (pc' := 272) (v := (0 : Int32)) C X65 at_271 rfl (dcmpV_self (h_r ▸ (i2d_fin _).noNaN) .l) ?_
              refine OGo.ifNo (pc' := 275) C X65 at_272 rfl (teq (by decide : (0 : Int32) = (0 : Int32))).2 ?_
              refine OGo.iconst (pc' := 276) (z := (1 : Int32)) C X65 at_275 rfl (by decide) ?_
              refine OGo.goto (pc' := 280) C X65 at_276 (by decide) (by decide) ?_
              exact OGo.retN C X65 at_280 hret (by simp) (z' := (1 : Int32)) (by decide) hlk (rfl) (by decide) (by decide)
      · refine OGo.aload (pc' := 88) C X35 at_86 rfl rfl rfl ?_
        refine OGo.iload (pc' := 90) C X35 at_88 rfl rfl ?_
        refine OGo.callV (pc' := 93) (cells' := 4) (slots' := 17) (argsL := [(.int c)]) (St := []) C X35 (wd27 hw) (wd28 hw) (wd30 hw) (wd29 hw) (by decide) H35.1 (wd31 hw) (wd4 hw) (ctL0 hw X35.2.1 a1 lm (fun k => if k = b then .int 1 else (fun k => if k = a then .int 1 else (fun _ => .int (0 : Int32)) k) k) (fun k => if k = (1 : Int32) then .int b else (fun k => if k = (0 : Int32) then .int a else (fun _ => .int (0 : Int32)) k) k) (2 : Int32) r c H35 bc.1 bc.2 (by simp [e_ba, e_ca, e_cb]) (by decide) (by have h1 := ba; have h2 := bb; have h3 := bc; simp only [Int32.lt_iff_toInt_lt, Int32.reduceToInt, ← Int32.toInt_inj] at *; omega)) (lenOf pd0 rfl) rfl at_90 rfl rfl (by decide) (Nat.le_of_ble_eq_true rfl) rfl rfl (by decide) (by decide) (fun v66 T66 h66 Q66 X66 z66 => ?_)
        obtain ⟨hv66, H66⟩ := Q66
        subst hv66
        rw [show ((2 : Int32) + (1 : Int32)) = (3 : Int32) from by decide] at H66
        show OGo p e below _ T66 (mkF m 93 #[.val (.int i0), .val (.int i1), .val (.int i2), .val (.int i3), .val (.int i4), .val (.int i5), .val (.int lm), .val (.int a), .val (.int b), .val (.int c), .val (.int d), .val (.double r), .second, .val (.ref a1), .unset, .unset, .unset, .unset, .unset, .unset] [])
        refine OGo.iload (pc' := 95) C X66 at_93 rfl rfl ?_
        refine OGo.istore (pc' := 97) C X66 at_95 rfl (l' := #[.val (.int i0), .val (.int i1), .val (.int i2), .val (.int i3), .val (.int i4), .val (.int i5), .val (.int lm), .val (.int a), .val (.int b), .val (.int c), .val (.int d), .val (.double r), .second, .val (.ref a1), .val (.int a), .unset, .unset, .unset, .unset, .unset]) rfl ?_
        refine OGo.iconst (pc' := 98) (z := (-1 : Int32)) C X66 at_97 rfl (by decide) ?_
        refine OGo.istore (pc' := 100) C X66 at_98 rfl (l' := #[.val (.int i0), .val (.int i1), .val (.int i2), .val (.int i3), .val (.int i4), .val (.int i5), .val (.int lm), .val (.int a), .val (.int b), .val (.int c), .val (.int d), .val (.double r), .second, .val (.ref a1), .val (.int a), .val (.int (-1 : Int32)), .unset, .unset, .unset, .unset]) rfl ?_
        refine OGo.iconst (pc' := 101) (z := (-1 : Int32)) C X66 at_100 rfl (by decide) ?_
        refine OGo.istore (pc' := 103) C X66 at_101 rfl (l' := #[.val (.int i0), .val (.int i1), .val (.int i2), .val (.int i3), .val (.int i4), .val (.int i5), .val (.int lm), .val (.int a), .val (.int b), .val (.int c), .val (.int d), .val (.double r), .second, .val (.ref a1), .val (.int a), .val (.int (-1 : Int32)), .val (.int (-1 : Int32)), .unset, .unset, .unset]) rfl ?_
        refine OGo.iconst (pc' := 104) (z := (1 : Int32)) C X66 at_103 rfl (by decide) ?_
        refine OGo.istore (pc' := 106) C X66 at_104 rfl (l' := #[.val (.int i0), .val (.int i1), .val (.int i2), .val (.int i3), .val (.int i4), .val (.int i5), .val (.int lm), .val (.int a), .val (.int b), .val (.int c), .val (.int d), .val (.double r), .second, .val (.ref a1), .val (.int a), .val (.int (-1 : Int32)), .val (.int (-1 : Int32)), .val (.int (1 : Int32)), .unset, .unset]) rfl ?_
        refine OGo.iload (pc' := 108) C X66 at_106 rfl rfl ?_
        refine OGo.iload (pc' := 110) C X66 at_108 rfl rfl ?_
        refine OGo.icmpNo (pc' := 113) C X66 at_110 rfl (feq e_ba).1 ?_
        refine OGo.iload (pc' := 115) C X66 at_113 rfl rfl ?_
        refine OGo.istore (pc' := 117) C X66 at_115 rfl (l' := #[.val (.int i0), .val (.int i1), .val (.int i2), .val (.int i3), .val (.int i4), .val (.int i5), .val (.int lm), .val (.int a), .val (.int b), .val (.int c), .val (.int d), .val (.double r), .second, .val (.ref a1), .val (.int a), .val (.int b), .val (.int (-1 : Int32)), .val (.int (1 : Int32)), .unset, .unset]) rfl ?_
        refine OGo.iconst (pc' := 118) (z := (2 : Int32)) C X66 at_117 rfl (by decide) ?_
        refine OGo.istore (pc' := 120) C X66 at_118 rfl (l' := #[.val (.int i0), .val (.int i1), .val (.int i2), .val (.int i3), .val (.int i4), .val (.int i5), .val (.int lm), .val (.int a), .val (.int b), .val (.int c), .val (.int d), .val (.double r), .second, .val (.ref a1), .val (.int a), .val (.int b), .val (.int (-1 : Int32)), .val (.int (2 : Int32)), .unset, .unset]) rfl ?_
        refine OGo.iload (pc' := 122) C X66 at_120 rfl rfl ?_
        refine OGo.iload (pc' := 124) C X66 at_122 rfl rfl ?_
        refine OGo.icmpNo (pc' := 127) C X66 at_124 rfl (feq e_ca).1 ?_
        refine OGo.iload (pc' := 129) C X66 at_127 rfl rfl ?_
        refine OGo.iload (pc' := 131) C X66 at_129 rfl rfl ?_
        refine OGo.icmpNo (pc' := 134) C X66 at_131 rfl (feq e_cb).1 ?_
        refine OGo.iload (pc' := 136) C X66 at_134 rfl rfl ?_
        refine OGo.iconst (pc' := 137) (z := (1 : Int32)) C X66 at_136 rfl (by decide) ?_
        refine OGo.icmpYes (pc' := 147) C X66 at_137 (feq (by decide : ¬ (2 : Int32) = (1 : Int32))).2 (by decide) (by decide) ?_
        refine OGo.iload (pc' := 149) C X66 at_147 rfl rfl ?_
        refine OGo.istore (pc' := 151) C X66 at_149 rfl (l' := #[.val (.int i0), .val (.int i1), .val (.int i2), .val (.int i3), .val (.int i4), .val (.int i5), .val (.int lm), .val (.int a), .val (.int b), .val (.int c), .val (.int d), .val (.double r), .second, .val (.ref a1), .val (.int a), .val (.int b), .val (.int c), .val (.int (2 : Int32)), .unset, .unset]) rfl ?_
        refine OGo.iload (pc' := 153) C X66 at_151 rfl rfl ?_
        refine OGo.iconst (pc' := 154) (z := (1 : Int32)) C X66 at_153 rfl (by decide) ?_
        refine OGo.iadd (pc' := 155) (z := (3 : Int32)) C X66 at_154 rfl (by decide) ?_
        refine OGo.istore (pc' := 157) C X66 at_155 rfl (l' := #[.val (.int i0), .val (.int i1), .val (.int i2), .val (.int i3), .val (.int i4), .val (.int i5), .val (.int lm), .val (.int a), .val (.int b), .val (.int c), .val (.int d), .val (.double r), .second, .val (.ref a1), .val (.int a), .val (.int b), .val (.int c), .val (.int (3 : Int32)), .unset, .unset]) rfl ?_
        refine OGo.aload (pc' := 159) C X66 at_157 rfl rfl rfl ?_
        refine OGo.callV (pc' := 162) (cells' := 4) (slots' := 17) (argsL := []) (St := []) C X66 (wd34 hw) (wd35 hw) (wd37 hw) (wd36 hw) (by decide) H66.1 (wd38 hw) (wd4 hw) (ct5 hw X66.2.1 a1 lm (fun k => if k = c then .int 1 else (fun k => if k = b then .int 1 else (fun k => if k = a then .int 1 else (fun _ => .int (0 : Int32)) k) k) k) (fun k => if k = (2 : Int32) then .int c else (fun k => if k = (1 : Int32) then .int b else (fun k => if k = (0 : Int32) then .int a else (fun _ => .int (0 : Int32)) k) k) k) (3 : Int32) r H66) (lenOf pd2 rfl) rfl at_159 rfl rfl (by decide) (Nat.le_of_ble_eq_true rfl) rfl rfl (by decide) (by decide) (fun v67 T67 h67 Q67 X67 z67 => ?_)
        obtain ⟨hv67, hh67⟩ := Q67
        subst hv67; rw [hh67] at X67
        show OGo p e below _ T67 (mkF m 162 #[.val (.int i0), .val (.int i1), .val (.int i2), .val (.int i3), .val (.int i4), .val (.int i5), .val (.int lm), .val (.int a), .val (.int b), .val (.int c), .val (.int d), .val (.double r), .second, .val (.ref a1), .val (.int a), .val (.int b), .val (.int c), .val (.int (3 : Int32)), .unset, .unset] [(.int (3 : Int32))])
        refine OGo.iload (pc' := 164) C X67 at_162 rfl rfl ?_
        refine OGo.icmpYes (pc' := 169) C X67 at_164 (teq (by decide : (3 : Int32) = (3 : Int32))).1 (by decide) (by decide) ?_
        refine OGo.aload (pc' := 171) C X67 at_169 rfl rfl rfl ?_
        refine OGo.iconst (pc' := 172) (z := (0 : Int32)) C X67 at_171 rfl (by decide) ?_
        refine OGo.callV (pc' := 175) (cells' := 4) (slots' := 17) (argsL := [(.int (0 : Int32))]) (St := []) C X67 (wd39 hw) (wd40 hw) (wd42 hw) (wd41 hw) (by decide) H66.1 (wd43 hw) (wd4 hw) (ct6 hw X67.2.1 a1 lm (fun k => if k = c then .int 1 else (fun k => if k = b then .int 1 else (fun k => if k = a then .int 1 else (fun _ => .int (0 : Int32)) k) k) k) (fun k => if k = (2 : Int32) then .int c else (fun k => if k = (1 : Int32) then .int b else (fun k => if k = (0 : Int32) then .int a else (fun _ => .int (0 : Int32)) k) k) k) (3 : Int32) r (0 : Int32) a H66 (by decide) (by have h1 := ba; have h2 := bb; have h3 := bc; simp only [Int32.lt_iff_toInt_lt, Int32.reduceToInt, ← Int32.toInt_inj] at *; omega) (by simp)) (lenOf pd3 rfl) rfl at_172 rfl rfl (by decide) (Nat.le_of_ble_eq_true rfl) rfl rfl (by decide) (by decide) (fun v68 T68 h68 Q68 X68 z68 => ?_)
        obtain ⟨hv68, hh68⟩ := Q68
        subst hv68; rw [hh68] at X68
        show OGo p e below _ T68 (mkF m 175 #[.val (.int i0), .val (.int i1), .val (.int i2), .val (.int i3), .val (.int i4), .val (.int i5), .val (.int lm), .val (.int a), .val (.int b), .val (.int c), .val (.int d), .val (.double r), .second, .val (.ref a1), .val (.int a), .val (.int b), .val (.int c), .val (.int (3 : Int32)), .unset, .unset] [(.int a)])
        refine OGo.iload (pc' := 177) C X68 at_175 rfl rfl ?_
        refine OGo.icmpYes (pc' := 182) C X68 at_177 (teq rfl).1 (by decide) (by decide) ?_
        refine OGo.iload (pc' := 184) C X68 at_182 rfl rfl ?_
        refine OGo.iconst (pc' := 185) (z := (2 : Int32)) C X68 at_184 rfl (by decide) ?_
        refine OGo.icmpNo (pc' := 188) C X68 at_185 rfl (flt (by decide : ¬ (3 : Int32) < (2 : Int32))).1 ?_
        refine OGo.aload (pc' := 190) C X68 at_188 rfl rfl rfl ?_
        refine OGo.iconst (pc' := 191) (z := (1 : Int32)) C X68 at_190 rfl (by decide) ?_
        refine OGo.callV (pc' := 194) (cells' := 4) (slots' := 17) (argsL := [(.int (1 : Int32))]) (St := []) C X68 (wd39 hw) (wd40 hw) (wd42 hw) (wd41 hw) (by decide) H66.1 (wd43 hw) (wd4 hw) (ct6 hw X68.2.1 a1 lm (fun k => if k = c then .int 1 else (fun k => if k = b then .int 1 else (fun k => if k = a then .int 1 else (fun _ => .int (0 : Int32)) k) k) k) (fun k => if k = (2 : Int32) then .int c else (fun k => if k = (1 : Int32) then .int b else (fun k => if k = (0 : Int32) then .int a else (fun _ => .int (0 : Int32)) k) k) k) (3 : Int32) r (1 : Int32) b H66 (by decide) (by have h1 := ba; have h2 := bb; have h3 := bc; simp only [Int32.lt_iff_toInt_lt, Int32.reduceToInt, ← Int32.toInt_inj] at *; omega) (by simp)) (lenOf pd3 rfl) rfl at_191 rfl rfl (by decide) (Nat.le_of_ble_eq_true rfl) rfl rfl (by decide) (by decide) (fun v69 T69 h69 Q69 X69 z69 => ?_)
        obtain ⟨hv69, hh69⟩ := Q69
        subst hv69; rw [hh69] at X69
        show OGo p e below _ T69 (mkF m 194 #[.val (.int i0), .val (.int i1), .val (.int i2), .val (.int i3), .val (.int i4), .val (.int i5), .val (.int lm), .val (.int a), .val (.int b), .val (.int c), .val (.int d), .val (.double r), .second, .val (.ref a1), .val (.int a), .val (.int b), .val (.int c), .val (.int (3 : Int32)), .unset, .unset] [(.int b)])
        refine OGo.iload (pc' := 196) C X69 at_194 rfl rfl ?_
        refine OGo.icmpYes (pc' := 201) C X69 at_196 (teq rfl).1 (by decide) (by decide) ?_
        refine OGo.iload (pc' := 203) C X69 at_201 rfl rfl ?_
        refine OGo.iconst (pc' := 204) (z := (3 : Int32)) C X69 at_203 rfl (by decide) ?_
        refine OGo.icmpNo (pc' := 207) C X69 at_204 rfl (flt (by decide : ¬ (3 : Int32) < (3 : Int32))).1 ?_
        refine OGo.aload (pc' := 209) C X69 at_207 rfl rfl rfl ?_
        refine OGo.iconst (pc' := 210) (z := (2 : Int32)) C X69 at_209 rfl (by decide) ?_
        refine OGo.callV (pc' := 213) (cells' := 4) (slots' := 17) (argsL := [(.int (2 : Int32))]) (St := []) C X69 (wd39 hw) (wd40 hw) (wd42 hw) (wd41 hw) (by decide) H66.1 (wd43 hw) (wd4 hw) (ct6 hw X69.2.1 a1 lm (fun k => if k = c then .int 1 else (fun k => if k = b then .int 1 else (fun k => if k = a then .int 1 else (fun _ => .int (0 : Int32)) k) k) k) (fun k => if k = (2 : Int32) then .int c else (fun k => if k = (1 : Int32) then .int b else (fun k => if k = (0 : Int32) then .int a else (fun _ => .int (0 : Int32)) k) k) k) (3 : Int32) r (2 : Int32) c H66 (by decide) (by have h1 := ba; have h2 := bb; have h3 := bc; simp only [Int32.lt_iff_toInt_lt, Int32.reduceToInt, ← Int32.toInt_inj] at *; omega) (by simp)) (lenOf pd3 rfl) rfl at_210 rfl rfl (by decide) (Nat.le_of_ble_eq_true rfl) rfl rfl (by decide) (by decide) (fun v70 T70 h70 Q70 X70 z70 => ?_)
        obtain ⟨hv70, hh70⟩ := Q70
        subst hv70; rw [hh70] at X70
        show OGo p e below _ T70 (mkF m 213 #[.val (.int i0), .val (.int i1), .val (.int i2), .val (.int i3), .val (.int i4), .val (.int i5), .val (.int lm), .val (.int a), .val (.int b), .val (.int c), .val (.int d), .val (.double r), .second, .val (.ref a1), .val (.int a), .val (.int b), .val (.int c), .val (.int (3 : Int32)), .unset, .unset] [(.int c)])
        refine OGo.iload (pc' := 215) C X70 at_213 rfl rfl ?_
        refine OGo.icmpYes (pc' := 220) C X70 at_215 (teq rfl).1 (by decide) (by decide) ?_
        refine OGo.iload (pc' := 222) C X70 at_220 rfl rfl ?_
        refine OGo.iload (pc' := 224) C X70 at_222 rfl rfl ?_
        by_cases e_da : d = a
        · refine OGo.icmpYes (pc' := 241) C X70 at_224 (teq e_da).1 (by decide) (by decide) ?_
          refine OGo.dconst0 (pc' := 242) (v := (FP.dconst0)) C X70 at_241 rfl rfl ?_
          refine OGo.goto (pc' := 247) C X70 at_242 (by decide) (by decide) ?_
          refine OGo.dstore (pc' := 249) C X70 at_247 rfl (l' := #[.val (.int i0), .val (.int i1), .val (.int i2), .val (.int i3), .val (.int i4), .val (.int i5), .val (.int lm), .val (.int a), .val (.int b), .val (.int c), .val (.int d), .val (.double r), .second, .val (.ref a1), .val (.int a), .val (.int b), .val (.int c), .val (.int (3 : Int32)), .val (.double (FP.dconst0)), .second]) rfl ?_
          refine OGo.aload (pc' := 251) C X70 at_249 rfl rfl rfl ?_
          refine OGo.iload (pc' := 253) C X70 at_251 rfl rfl ?_
          refine OGo.callV (pc' := 256) (cells' := 4) (slots' := 17) (argsL := [(.int d)]) (St := []) C X70 (wd44 hw) (wd45 hw) (wd47 hw) (wd46 hw) (by decide) H66.1 (wd48 hw) (wd4 hw) (ctV1 hw X70.2.1 a1 lm (fun k => if k = c then .int 1 else (fun k => if k = b then .int 1 else (fun k => if k = a then .int 1 else (fun _ => .int (0 : Int32)) k) k) k) (fun k => if k = (2 : Int32) then .int c else (fun k => if k = (1 : Int32) then .int b else (fun k => if k = (0 : Int32) then .int a else (fun _ => .int (0 : Int32)) k) k) k) (3 : Int32) r d H66 bd.1 bd.2 (by simp [e_ba, e_ca, e_cb, e_da])) (lenOf pd4 rfl) rfl at_253 rfl rfl (by decide) (Nat.le_of_ble_eq_true rfl) rfl rfl (by decide) (by decide) (fun v72 T72 h72 Q72 X72 z72 => ?_)
          obtain ⟨hv72, hh72⟩ := Q72
          subst hv72; rw [hh72] at X72
          show OGo p e below _ T72 (mkF m 256 #[.val (.int i0), .val (.int i1), .val (.int i2), .val (.int i3), .val (.int i4), .val (.int i5), .val (.int lm), .val (.int a), .val (.int b), .val (.int c), .val (.int d), .val (.double r), .second, .val (.ref a1), .val (.int a), .val (.int b), .val (.int c), .val (.int (3 : Int32)), .val (.double (FP.dconst0)), .second] [(.double (0 : UInt64))])
          refine OGo.dload (pc' := 258) C X72 at_256 rfl rfl ?_
          refine OGo.dcmp (pc' := 259) (v := (0 : Int32)) C X72 at_258 rfl (by decide +kernel) ?_
          refine OGo.ifYes (pc' := 264) C X72 at_259 (teq (by decide : (0 : Int32) = (0 : Int32))).1 (by decide) (by decide) ?_
          refine OGo.aload (pc' := 266) C X72 at_264 rfl rfl rfl ?_
          refine OGo.callV (pc' := 269) (cells' := 4) (slots' := 17) (argsL := []) (St := []) C X72 (wd49 hw) (wd50 hw) (wd52 hw) (wd51 hw) (by decide) H66.1 (wd53 hw) (wd4 hw) (ct8 hw X72.2.1 a1 lm (fun k => if k = c then .int 1 else (fun k => if k = b then .int 1 else (fun k => if k = a then .int 1 else (fun _ => .int (0 : Int32)) k) k) k) (fun k => if k = (2 : Int32) then .int c else (fun k => if k = (1 : Int32) then .int b else (fun k => if k = (0 : Int32) then .int a else (fun _ => .int (0 : Int32)) k) k) k) (3 : Int32) r H66) (lenOf pd5 rfl) rfl at_266 rfl rfl (by decide) (Nat.le_of_ble_eq_true rfl) rfl rfl (by decide) (by decide) (fun v73 T73 h73 Q73 X73 z73 => ?_)
          obtain ⟨hv73, hh73⟩ := Q73
          subst hv73; rw [hh73] at X73
          show OGo p e below _ T73 (mkF m 269 #[.val (.int i0), .val (.int i1), .val (.int i2), .val (.int i3), .val (.int i4), .val (.int i5), .val (.int lm), .val (.int a), .val (.int b), .val (.int c), .val (.int d), .val (.double r), .second, .val (.ref a1), .val (.int a), .val (.int b), .val (.int c), .val (.int (3 : Int32)), .val (.double (FP.dconst0)), .second] [(.double r)])
          refine OGo.dload (pc' := 271) C X73 at_269 rfl rfl ?_
          refine OGo.dcmp (pc' := 272) (v := (0 : Int32)) C X73 at_271 rfl (dcmpV_self (h_r ▸ (i2d_fin _).noNaN) .l) ?_
          refine OGo.ifNo (pc' := 275) C X73 at_272 rfl (teq (by decide : (0 : Int32) = (0 : Int32))).2 ?_
          refine OGo.iconst (pc' := 276) (z := (1 : Int32)) C X73 at_275 rfl (by decide) ?_
          refine OGo.goto (pc' := 280) C X73 at_276 (by decide) (by decide) ?_
          exact OGo.retN C X73 at_280 hret (by simp) (z' := (1 : Int32)) (by decide) hlk (rfl) (by decide) (by decide)
        · refine OGo.icmpNo (pc' := 227) C X70 at_224 rfl (feq e_da).1 ?_
          refine OGo.iload (pc' := 229) C X70 at_227 rfl rfl ?_
          refine OGo.iload (pc' := 231) C X70 at_229 rfl rfl ?_
          by_cases e_db : d = b
          · refine OGo.icmpYes (pc' := 241) C X70 at_231 (teq e_db).1 (by decide) (by decide) ?_
            refine OGo.dconst0 (pc' := 242) (v := (FP.dconst0)) C X70 at_241 rfl rfl ?_
            refine OGo.goto (pc' := 247) C X70 at_242 (by decide) (by decide) ?_
            refine OGo.dstore (pc' := 249) C X70 at_247 rfl (l' := #[.val (.int i0), .val (.int i1), .val (.int i2), .val (.int i3), .val (.int i4), .val (.int i5), .val (.int lm), .val (.int a), .val (.int b), .val (.int c), .val (.int d), .val (.double r), .second, .val (.ref a1), .val (.int a), .val (.int b), .val (.int c), .val (.int (3 : Int32)), .val (.double (FP.dconst0)), .second]) rfl ?_
            refine OGo.aload (pc' := 251) C X70 at_249 rfl rfl rfl ?_
            refine OGo.iload (pc' := 253) C X70 at_251 rfl rfl ?_
            refine OGo.callV (pc' := 256) (cells' := 4) (slots' := 17) (argsL := [(.int d)]) (St := []) C X70 (wd44 hw) (wd45 hw) (wd47 hw) (wd46 hw) (by decide) H66.1 (wd48 hw) (wd4 hw) (ctV1 hw X70.2.1 a1 lm (fun k => if k = c then .int 1 else (fun k => if k = b then .int 1 else (fun k => if k = a then .int 1 else (fun _ => .int (0 : Int32)) k) k) k) (fun k => if k = (2 : Int32) then .int c else (fun k => if k = (1 : Int32) then .int b else (fun k => if k = (0 : Int32) then .int a else (fun _ => .int (0 : Int32)) k) k) k) (3 : Int32) r d H66 bd.1 bd.2 (by simp [e_ba, e_ca, e_cb, e_da, e_db])) (lenOf pd4 rfl) rfl at_253 rfl rfl (by decide) (Nat.le_of_ble_eq_true rfl) rfl rfl (by decide) (by decide) (fun v75 T75 h75 Q75 X75 z75 => ?_)
            obtain ⟨hv75, hh75⟩ := Q75
            subst hv75; rw [hh75] at X75
            show OGo p e below _ T75 (mkF m 256 #[.val (.int i0), .val (.int i1), .val (.int i2), .val (.int i3), .val (.int i4), .val (.int i5), .val (.int lm), .val (.int a), .val (.int b), .val (.int c), .val (.int d), .val (.double r), .second, .val (.ref a1), .val (.int a), .val (.int b), .val (.int c), .val (.int (3 : Int32)), .val (.double (FP.dconst0)), .second] [(.double (0 : UInt64))])
            refine OGo.dload (pc' := 258) C X75 at_256 rfl rfl ?_
            refine OGo.dcmp (pc' := 259) (v := (0 : Int32)) C X75 at_258 rfl (by decide +kernel) ?_
            refine OGo.ifYes (pc' := 264) C X75 at_259 (teq (by decide : (0 : Int32) = (0 : Int32))).1 (by decide) (by decide) ?_
            refine OGo.aload (pc' := 266) C X75 at_264 rfl rfl rfl ?_
            refine OGo.callV (pc' := 269) (cells' := 4) (slots' := 17) (argsL := []) (St := []) C X75 (wd49 hw) (wd50 hw) (wd52 hw) (wd51 hw) (by decide) H66.1 (wd53 hw) (wd4 hw) (ct8 hw X75.2.1 a1 lm (fun k => if k = c then .int 1 else (fun k => if k = b then .int 1 else (fun k => if k = a then .int 1 else (fun _ => .int (0 : Int32)) k) k) k) (fun k => if k = (2 : Int32) then .int c else (fun k => if k = (1 : Int32) then .int b else (fun k => if k = (0 : Int32) then .int a else (fun _ => .int (0 : Int32)) k) k) k) (3 : Int32) r H66) (lenOf pd5 rfl) rfl at_266 rfl rfl (by decide) (Nat.le_of_ble_eq_true rfl) rfl rfl (by decide) (by decide) (fun v76 T76 h76 Q76 X76 z76 => ?_)
            obtain ⟨hv76, hh76⟩ := Q76
            subst hv76; rw [hh76] at X76
            show OGo p e below _ T76 (mkF m 269 #[.val (.int i0), .val (.int i1), .val (.int i2), .val (.int i3), .val (.int i4), .val (.int i5), .val (.int lm), .val (.int a), .val (.int b), .val (.int c), .val (.int d), .val (.double r), .second, .val (.ref a1), .val (.int a), .val (.int b), .val (.int c), .val (.int (3 : Int32)), .val (.double (FP.dconst0)), .second] [(.double r)])
            refine OGo.dload (pc' := 271) C X76 at_269 rfl rfl ?_
            refine OGo.dcmp (pc' := 272) (v := (0 : Int32)) C X76 at_271 rfl (dcmpV_self (h_r ▸ (i2d_fin _).noNaN) .l) ?_
            refine OGo.ifNo (pc' := 275) C X76 at_272 rfl (teq (by decide : (0 : Int32) = (0 : Int32))).2 ?_
            refine OGo.iconst (pc' := 276) (z := (1 : Int32)) C X76 at_275 rfl (by decide) ?_
            refine OGo.goto (pc' := 280) C X76 at_276 (by decide) (by decide) ?_
            exact OGo.retN C X76 at_280 hret (by simp) (z' := (1 : Int32)) (by decide) hlk (rfl) (by decide) (by decide)
          · refine OGo.icmpNo (pc' := 234) C X70 at_231 rfl (feq e_db).1 ?_
            refine OGo.iload (pc' := 236) C X70 at_234 rfl rfl ?_
            refine OGo.iload (pc' := 238) C X70 at_236 rfl rfl ?_
            by_cases e_dc : d = c
            · refine OGo.icmpNo (pc' := 241) C X70 at_238 rfl (teq e_dc).2 ?_
              refine OGo.dconst0 (pc' := 242) (v := (FP.dconst0)) C X70 at_241 rfl rfl ?_
              refine OGo.goto (pc' := 247) C X70 at_242 (by decide) (by decide) ?_
              refine OGo.dstore (pc' := 249) C X70 at_247 rfl (l' := #[.val (.int i0), .val (.int i1), .val (.int i2), .val (.int i3), .val (.int i4), .val (.int i5), .val (.int lm), .val (.int a), .val (.int b), .val (.int c), .val (.int d), .val (.double r), .second, .val (.ref a1), .val (.int a), .val (.int b), .val (.int c), .val (.int (3 : Int32)), .val (.double (FP.dconst0)), .second]) rfl ?_
              refine OGo.aload (pc' := 251) C X70 at_249 rfl rfl rfl ?_
              refine OGo.iload (pc' := 253) C X70 at_251 rfl rfl ?_
              refine OGo.callV (pc' := 256) (cells' := 4) (slots' := 17) (argsL := [(.int d)]) (St := []) C X70 (wd44 hw) (wd45 hw) (wd47 hw) (wd46 hw) (by decide) H66.1 (wd48 hw) (wd4 hw) (ctV1 hw X70.2.1 a1 lm (fun k => if k = c then .int 1 else (fun k => if k = b then .int 1 else (fun k => if k = a then .int 1 else (fun _ => .int (0 : Int32)) k) k) k) (fun k => if k = (2 : Int32) then .int c else (fun k => if k = (1 : Int32) then .int b else (fun k => if k = (0 : Int32) then .int a else (fun _ => .int (0 : Int32)) k) k) k) (3 : Int32) r d H66 bd.1 bd.2 (by simp [e_ba, e_ca, e_cb, e_da, e_db, e_dc])) (lenOf pd4 rfl) rfl at_253 rfl rfl (by decide) (Nat.le_of_ble_eq_true rfl) rfl rfl (by decide) (by decide) (fun v78 T78 h78 Q78 X78 z78 => ?_)
              obtain ⟨hv78, hh78⟩ := Q78
              subst hv78; rw [hh78] at X78
              show OGo p e below _ T78 (mkF m 256 #[.val (.int i0), .val (.int i1), .val (.int i2), .val (.int i3), .val (.int i4), .val (.int i5), .val (.int lm), .val (.int a), .val (.int b), .val (.int c), .val (.int d), .val (.double r), .second, .val (.ref a1), .val (.int a), .val (.int b), .val (.int c), .val (.int (3 : Int32)), .val (.double (FP.dconst0)), .second] [(.double (0 : UInt64))])
              refine OGo.dload (pc' := 258) C X78 at_256 rfl rfl ?_
              refine OGo.dcmp (pc' := 259) (v := (0 : Int32)) C X78 at_258 rfl (by decide +kernel) ?_
              refine OGo.ifYes (pc' := 264) C X78 at_259 (teq (by decide : (0 : Int32) = (0 : Int32))).1 (by decide) (by decide) ?_
              refine OGo.aload (pc' := 266) C X78 at_264 rfl rfl rfl ?_
              refine OGo.callV (pc' := 269) (cells' := 4) (slots' := 17) (argsL := []) (St := []) C X78 (wd49 hw) (wd50 hw) (wd52 hw) (wd51 hw) (by decide) H66.1 (wd53 hw) (wd4 hw) (ct8 hw X78.2.1 a1 lm (fun k => if k = c then .int 1 else (fun k => if k = b then .int 1 else (fun k => if k = a then .int 1 else (fun _ => .int (0 : Int32)) k) k) k) (fun k => if k = (2 : Int32) then .int c else (fun k => if k = (1 : Int32) then .int b else (fun k => if k = (0 : Int32) then .int a else (fun _ => .int (0 : Int32)) k) k) k) (3 : Int32) r H66) (lenOf pd5 rfl) rfl at_266 rfl rfl (by decide) (Nat.le_of_ble_eq_true rfl) rfl rfl (by decide) (by decide) (fun v79 T79 h79 Q79 X79 z79 => ?_)
              obtain ⟨hv79, hh79⟩ := Q79
              subst hv79; rw [hh79] at X79
              show OGo p e below _ T79 (mkF m 269 #[.val (.int i0), .val (.int i1), .val (.int i2), .val (.int i3), .val (.int i4), .val (.int i5), .val (.int lm), .val (.int a), .val (.int b), .val (.int c), .val (.int d), .val (.double r), .second, .val (.ref a1), .val (.int a), .val (.int b), .val (.int c), .val (.int (3 : Int32)), .val (.double (FP.dconst0)), .second] [(.double r)])
              refine OGo.dload (pc' := 271) C X79 at_269 rfl rfl ?_
              refine OGo.dcmp (pc' := 272) (v := (0 : Int32)) C X79 at_271 rfl (dcmpV_self (h_r ▸ (i2d_fin _).noNaN) .l) ?_
              refine OGo.ifNo (pc' := 275) C X79 at_272 rfl (teq (by decide : (0 : Int32) = (0 : Int32))).2 ?_
              refine OGo.iconst (pc' := 276) (z := (1 : Int32)) C X79 at_275 rfl (by decide) ?_
              refine OGo.goto (pc' := 280) C X79 at_276 (by decide) (by decide) ?_
              exact OGo.retN C X79 at_280 hret (by simp) (z' := (1 : Int32)) (by decide) hlk (rfl) (by decide) (by decide)
            · refine OGo.icmpYes (pc' := 245) C X70 at_238 (feq e_dc).2 (by decide) (by decide) ?_
              refine OGo.dload (pc' := 247) C X70 at_245 rfl rfl ?_
              refine OGo.dstore (pc' := 249) C X70 at_247 rfl (l' := #[.val (.int i0), .val (.int i1), .val (.int i2), .val (.int i3), .val (.int i4), .val (.int i5), .val (.int lm), .val (.int a), .val (.int b), .val (.int c), .val (.int d), .val (.double r), .second, .val (.ref a1), .val (.int a), .val (.int b), .val (.int c), .val (.int (3 : Int32)), .val (.double r), .second]) rfl ?_
              refine OGo.aload (pc' := 251) C X70 at_249 rfl rfl rfl ?_
              refine OGo.iload (pc' := 253) C X70 at_251 rfl rfl ?_
              refine OGo.callV (pc' := 256) (cells' := 4) (slots' := 17) (argsL := [(.int d)]) (St := []) C X70 (wd44 hw) (wd45 hw) (wd47 hw) (wd46 hw) (by decide) H66.1 (wd48 hw) (wd4 hw) (ctV0 hw X70.2.1 a1 lm (fun k => if k = c then .int 1 else (fun k => if k = b then .int 1 else (fun k => if k = a then .int 1 else (fun _ => .int (0 : Int32)) k) k) k) (fun k => if k = (2 : Int32) then .int c else (fun k => if k = (1 : Int32) then .int b else (fun k => if k = (0 : Int32) then .int a else (fun _ => .int (0 : Int32)) k) k) k) (3 : Int32) r d H66 bd.1 bd.2 (by simp [e_ba, e_ca, e_cb, e_da, e_db, e_dc])) (lenOf pd4 rfl) rfl at_253 rfl rfl (by decide) (Nat.le_of_ble_eq_true rfl) rfl rfl (by decide) (by decide) (fun v80 T80 h80 Q80 X80 z80 => ?_)
              obtain ⟨hv80, hh80⟩ := Q80
              subst hv80; rw [hh80] at X80
              show OGo p e below _ T80 (mkF m 256 #[.val (.int i0), .val (.int i1), .val (.int i2), .val (.int i3), .val (.int i4), .val (.int i5), .val (.int lm), .val (.int a), .val (.int b), .val (.int c), .val (.int d), .val (.double r), .second, .val (.ref a1), .val (.int a), .val (.int b), .val (.int c), .val (.int (3 : Int32)), .val (.double r), .second] [(.double r)])
              refine OGo.dload (pc' := 258) C X80 at_256 rfl rfl ?_
              refine OGo.dcmp (pc' := 259) (v := (0 : Int32)) C X80 at_258 rfl (dcmpV_self (h_r ▸ (i2d_fin _).noNaN) .l) ?_
              refine OGo.ifYes (pc' := 264) C X80 at_259 (teq (by decide : (0 : Int32) = (0 : Int32))).1 (by decide) (by decide) ?_
              refine OGo.aload (pc' := 266) C X80 at_264 rfl rfl rfl ?_
              refine OGo.callV (pc' := 269) (cells' := 4) (slots' := 17) (argsL := []) (St := []) C X80 (wd49 hw) (wd50 hw) (wd52 hw) (wd51 hw) (by decide) H66.1 (wd53 hw) (wd4 hw) (ct8 hw X80.2.1 a1 lm (fun k => if k = c then .int 1 else (fun k => if k = b then .int 1 else (fun k => if k = a then .int 1 else (fun _ => .int (0 : Int32)) k) k) k) (fun k => if k = (2 : Int32) then .int c else (fun k => if k = (1 : Int32) then .int b else (fun k => if k = (0 : Int32) then .int a else (fun _ => .int (0 : Int32)) k) k) k) (3 : Int32) r H66) (lenOf pd5 rfl) rfl at_266 rfl rfl (by decide) (Nat.le_of_ble_eq_true rfl) rfl rfl (by decide) (by decide) (fun v81 T81 h81 Q81 X81 z81 => ?_)
              obtain ⟨hv81, hh81⟩ := Q81
              subst hv81; rw [hh81] at X81
              show OGo p e below _ T81 (mkF m 269 #[.val (.int i0), .val (.int i1), .val (.int i2), .val (.int i3), .val (.int i4), .val (.int i5), .val (.int lm), .val (.int a), .val (.int b), .val (.int c), .val (.int d), .val (.double r), .second, .val (.ref a1), .val (.int a), .val (.int b), .val (.int c), .val (.int (3 : Int32)), .val (.double r), .second] [(.double r)])
              refine OGo.dload (pc' := 271) C X81 at_269 rfl rfl ?_
              refine OGo.dcmp (pc' := 272) (v := (0 : Int32)) C X81 at_271 rfl (dcmpV_self (h_r ▸ (i2d_fin _).noNaN) .l) ?_
              refine OGo.ifNo (pc' := 275) C X81 at_272 rfl (teq (by decide : (0 : Int32) = (0 : Int32))).2 ?_
              refine OGo.iconst (pc' := 276) (z := (1 : Int32)) C X81 at_275 rfl (by decide) ?_
              refine OGo.goto (pc' := 280) C X81 at_276 (by decide) (by decide) ?_
              exact OGo.retN C X81 at_280 hret (by simp) (z' := (1 : Int32)) (by decide) hlk (rfl) (by decide) (by decide)
set_option maxRecDepth 65536 in
set_option maxHeartbeats 40000000 in
theorem comes_1 {Post : Tables → Env → Array Value → State → Outcome → State → Prop} (hpost : ∀ tb e args s v u, (limb_1_1.after args s (.returned v) u = true ∧ limb_1_2.after args s (.returned v) u = true ∧ True) → FrameEnd s (.returned v) u (Jvm.fieldLocs frame_1_writes args s ++ Jvm.arrayLocs frame_1_arrays args s ++ Jvm.staticLocs frame_1_statics s) 16 128 → Post tb e args s (.returned v) u) :
    ArmFor flags0 classFile x code maxLocals ret World_1 tables_1 room_1 Calls_1 rest_1 Pre_1 Post := by
  intro l hfl _ _ p e ha hc hk s m args below hf hA hF happ hP
  obtain ⟨hcalls, hrest, hpre⟩ := hP
  obtain ⟨-, -, -, hnamed, -, -, -, hat⟩ := (Spec.applies_iff hf).mp happ
  obtain ⟨hg, hn⟩ := and_e (Cond.before_iff.mp (show (Jvm.Cond.and given_1 narrow_1).before args s = true from hpre))
  obtain ⟨g1, g2⟩ := and_e hg
  obtain ⟨g3, g4⟩ := and_e g2
  obtain ⟨g5, g6⟩ := and_e g4
  obtain ⟨g7, g8⟩ := and_e g6
  obtain ⟨g9, g10⟩ := and_e g8
  obtain ⟨g11, g12⟩ := and_e g10
  obtain ⟨w0, w1, w2, w3, w4, w5, rfl⟩ : ∃ w0 w1 w2 w3 w4 w5 : Value, args = #[w0, w1, w2, w3, w4, w5] := by
    have hs : args.size = 6 := by simpa [Cond.value, given_1] using g1
    obtain ⟨L⟩ := args
    match L, hs with
    | [w0, w1, w2, w3, w4, w5], _ => exact ⟨w0, w1, w2, w3, w4, w5, rfl⟩
  have hw := fun d (hd : d ∈ tables_1) => atoms_spec (ws := Jvm.Cond.code x code maxLocals ret :: tables_1) hat d (List.mem_cons_of_mem _ hd)
  have hfit : Fit s := fun {y c} hc i hi => by
    obtain ⟨ha, rfl⟩ := Array.getElem?_eq_some_iff.mp hc
    have q := List.all_eq_true.mp ((Array.all_eq_true_iff_forall_mem.mp hF) _ (Array.getElem_mem ha)) i (List.mem_range.mpr hi)
    simpa [Array.getElem?_eq_getElem hi] using q
  obtain ⟨i0, ei0⟩ := is_v g3
  obtain rfl : w0 = (.int i0) := Option.some.inj ei0
  obtain ⟨i1, ei1⟩ := is_v g5
  obtain rfl : w1 = (.int i1) := Option.some.inj ei1
  obtain ⟨i2, ei2⟩ := is_v g7
  obtain rfl : w2 = (.int i2) := Option.some.inj ei2
  obtain ⟨i3, ei3⟩ := is_v g9
  obtain rfl : w3 = (.int i3) := Option.some.inj ei3
  obtain ⟨i4, ei4⟩ := is_v g11
  obtain rfl : w4 = (.int i4) := Option.some.inj ei4
  obtain ⟨i5, ei5⟩ := is_v g12
  obtain rfl : w5 = (.int i5) := Option.some.inj ei5
  obtain ⟨n, o, h1, h2, h3, _, L, rfl, ⟨⟨rfl, -⟩, N⟩, hq⟩ := ct0 (l := l) (Z := s) hw (n0 := s.heap.size) (h0 := s.heap) (Nat.le_refl _) i0 i1 i2 i3 i4 i5  tables_1 p e ha hc hk s m _ below hf ((Spec.applies_iff_loose hf).mp happ).1 ⟨rfl, State.Warmed39.refl s, rfl⟩ trivial
  refine ⟨n, _, h1, h2, h3, hpost _ _ _ _ _ _ ⟨Cond.after_iff.mpr rfl, Cond.after_iff.mpr (eq_i res_at (Term.int_eval (1)) rfl), trivial⟩ ⟨hq.1, hq.2.1, (hq.2.2.sift fun y hy => Or.inr (N y hy)).mono (by decide) (by decide)⟩⟩
theorem main_1_1 : Claimed_1_1 := comes_1 fun _ _ _ _ _ _ h hF => ⟨h.1, hF⟩
theorem main_1_2 : Claimed_1_2 := comes_1 fun _ _ _ _ _ _ h hF => ⟨h.2.1, hF⟩
end Jvm.Pilot.@@N@@
namespace Jvm.Pilot.@@N@@
open Jvm Jvm.ClassFile Sem Op Lib Jvm.Free Jvm.Stand Jvm.Pilot.@@N@@.Jvm.D
/-! MADE BY PROGRAM (witnessworld.py) out of the Statement's table words and the real class files: 13 classes; the members and pool entries that the words name. The judged class is class 1, her method 1. -/
namespace start1
open Jvm.ClassFile
def u (s : String) : CpInfo := .utf8 (stringToUtf16 s)
/-- a pool by its gaps: so many unusable entries, then the entry; so many at the end -/
def gap : Nat → List CpInfo → List CpInfo
  | 0, r => r
  | n + 1, r => .unusable :: gap n r
def poolList (es : List (Nat × CpInfo)) (last : Nat) : List CpInfo := es.foldr (fun e r => gap e.1 (e.2 :: r)) (gap last [])
def pool (es : List (Nat × CpInfo)) (last : Nat) : Array CpInfo := ⟨poolList es last⟩
def fileOf (pool : Array CpInfo) (this : Nat) (attrs : Array Attribute := #[]) (ms : Array MethodInfo := #[]) (fl : Nat := 33) (sup : Nat := 0) (ifs : Array Nat := #[]) (fds : Array FieldInfo := #[]) : ClassFile where
  minorVersion := 0
  majorVersion := 65
  constantPool := pool
  accessFlags := fl
  thisClass := this
  superClass := sup
  interfaces := ifs
  fields := fds
  methods := ms
  attributes := attrs
def plain (name : String) (sup : Option ClassId) : Class where
  name := name
  kind := .ordinary
  loader := none
  accessFlags := 33
  super := sup
  interfaces := #[]
  cf := none
  fields := #[]
  methods := #[]
  instanceTypes := #[]
  staticTypes := #[]
  resolved := #[]
  callSites := []
  init := .initialized
  statics := none
  mirror := none

def pool0 : Array CpInfo := pool [(5, u "<init>"), (0, u "()V"), (1, .class_ 10), (1, u "java/lang/Object")] 113

def k0c0 : Code := { maxStack := 0, maxLocals := 1, code := object_method_1_code, exceptionTable := #[], attributes := #[] }
def k0m0 : Method := { name := "<init>", desc := "()V", sig := { parameters := [], returnType := none }, accessFlags := 1, code := some k0c0 }
/-- java/lang/Object -/
def k0 : Class := { plain "java/lang/Object" none with
  accessFlags := 33
  interfaces := #[]
  cf := some (fileOf pool0 8 #[] #[{ accessFlags := 1, nameIndex := 5, descriptorIndex := 6, attributes := #[] }] 33 0 #[] #[])
  fields := #[]
  methods := #[k0m0]
  instanceTypes := #[]
  staticTypes := #[]
  resolved := Array.replicate 124 none
  statics := none }

def pool1 : Array CpInfo := pool [(2, .class_ 4), (1, u "java/lang/Object"), (0, u "<init>"), (0, u "()V"), (0, .integer 2147483647), (0, .integer 65535), (0, .class_ 10), (0, u "com/example/graphtend/graphtend/method/LabelValues"), (0, .methodref 9 12), (0, .nameAndType 5 13), (0, u "(I)V"), (0, .methodref 9 15), (0, .nameAndType 16 17), (0, u "setRest"), (0, u "(D)V"), (0, .methodref 9 19), (0, .nameAndType 20 13), (0, u "list"), (0, .methodref 9 22), (0, .nameAndType 23 24), (0, u "count"), (0, u "()I"), (0, .methodref 9 26), (0, .nameAndType 27 28), (0, u "label"), (0, u "(I)I"), (0, .methodref 9 30), (0, .nameAndType 31 32), (0, u "value"), (0, u "(I)D"), (0, .methodref 9 34), (0, .nameAndType 35 36), (0, u "rest"), (0, u "()D"), (0, .class_ 38), (0, u "com/example/graphtend/graphtend/method/LabelValuesListPinLaw"), (2, u "law"), (0, u "(IIIIII)Z")] 3

def k1m0 : Method := { name := "<init>", desc := "()V", sig := { parameters := [], returnType := none }, accessFlags := 1, code := none }
def k1c1 : Code := { maxStack := 4, maxLocals := 20, code := code, exceptionTable := #[], attributes := #[] }
def k1m1 : Method := { name := "law", desc := "(IIIIII)Z", sig := { parameters := [.int, .int, .int, .int, .int, .int], returnType := some .boolean }, accessFlags := 9, code := some k1c1 }
/-- com/example/graphtend/graphtend/method/LabelValuesListPinLaw -/
def k1 : Class := { plain "com/example/graphtend/graphtend/method/LabelValuesListPinLaw" (some 0) with
  accessFlags := 49
  interfaces := #[]
  cf := some (fileOf pool1 37 #[] #[{ accessFlags := 1, nameIndex := 5, descriptorIndex := 6, attributes := #[] }, { accessFlags := 9, nameIndex := 41, descriptorIndex := 42, attributes := #[] }] 49 2 #[] #[])
  fields := #[]
  methods := #[k1m0, k1m1]
  instanceTypes := #[]
  staticTypes := #[]
  resolved := Array.replicate 46 none
  statics := none }

def pool2 : Array CpInfo := pool [(1, .methodref 2 3), (0, .class_ 4), (0, .nameAndType 5 6), (0, u "java/lang/Object"), (0, u "<init>"), (0, u "()V"), (0, .fieldref 8 9), (0, .class_ 10), (0, .nameAndType 11 12), (0, u "com/example/graphtend/graphtend/method/LabelValues"), (0, u "values"), (0, u "[D"), (0, .fieldref 8 14), (0, .nameAndType 15 16), (0, u "listed"), (0, u "[Z"), (0, .fieldref 8 18), (0, .nameAndType 19 20), (0, u "labels"), (0, u "[I"), (0, .fieldref 8 22), (0, .nameAndType 23 24), (0, u "count"), (0, u "I"), (9, .fieldref 8 35), (0, .nameAndType 36 37), (0, u "rest"), (0, u "D"), (2, u "list"), (0, u "(I)V"), (8, u "value"), (0, u "(I)D"), (27, u "()D"), (0, u "setRest"), (0, u "(D)V"), (0, u "()I"), (0, u "label"), (0, u "(I)I")] 8

def k2c0 : Code := { maxStack := 2, maxLocals := 2, code := prog_39_method_1_code, exceptionTable := #[], attributes := #[] }
def k2m0 : Method := { name := "<init>", desc := "(I)V", sig := { parameters := [.int], returnType := none }, accessFlags := 0, code := some k2c0 }
def k2c1 : Code := { maxStack := 5, maxLocals := 2, code := prog_39_method_3_code, exceptionTable := #[], attributes := #[] }
def k2m1 : Method := { name := "list", desc := "(I)V", sig := { parameters := [.int], returnType := none }, accessFlags := 0, code := some k2c1 }
def k2c2 : Code := { maxStack := 2, maxLocals := 1, code := prog_39_method_7_code, exceptionTable := #[], attributes := #[] }
def k2m2 : Method := { name := "rest", desc := "()D", sig := { parameters := [], returnType := some .double }, accessFlags := 0, code := some k2c2 }
def k2c3 : Code := { maxStack := 3, maxLocals := 3, code := prog_39_method_8_code, exceptionTable := #[], attributes := #[] }
def k2m3 : Method := { name := "setRest", desc := "(D)V", sig := { parameters := [.double], returnType := none }, accessFlags := 0, code := some k2c3 }
def k2c4 : Code := { maxStack := 1, maxLocals := 1, code := prog_39_method_9_code, exceptionTable := #[], attributes := #[] }
def k2m4 : Method := { name := "count", desc := "()I", sig := { parameters := [], returnType := some .int }, accessFlags := 0, code := some k2c4 }
def k2c5 : Code := { maxStack := 2, maxLocals := 2, code := prog_39_method_10_code, exceptionTable := #[], attributes := #[] }
def k2m5 : Method := { name := "label", desc := "(I)I", sig := { parameters := [.int], returnType := some .int }, accessFlags := 0, code := some k2c5 }
def k2c6 : Code := { maxStack := 2, maxLocals := 2, code := prog_39_method_13_code, exceptionTable := #[], attributes := #[] }
def k2m6 : Method := { name := "value", desc := "(I)D", sig := { parameters := [.int], returnType := some .double }, accessFlags := 0, code := some k2c6 }
/-- com/example/graphtend/graphtend/method/LabelValues -/
def k2 : Class := { plain "com/example/graphtend/graphtend/method/LabelValues" (some 0) with
  accessFlags := 32
  interfaces := #[]
  cf := some (fileOf pool2 8 #[] #[{ accessFlags := 0, nameIndex := 5, descriptorIndex := 41, attributes := #[] }, { accessFlags := 0, nameIndex := 40, descriptorIndex := 41, attributes := #[] }, { accessFlags := 0, nameIndex := 36, descriptorIndex := 79, attributes := #[] }, { accessFlags := 0, nameIndex := 80, descriptorIndex := 81, attributes := #[] }, { accessFlags := 0, nameIndex := 23, descriptorIndex := 82, attributes := #[] }, { accessFlags := 0, nameIndex := 83, descriptorIndex := 84, attributes := #[] }, { accessFlags := 0, nameIndex := 50, descriptorIndex := 51, attributes := #[] }] 32 2 #[] #[{ accessFlags := 18, nameIndex := 11, descriptorIndex := 12, attributes := #[] }, { accessFlags := 18, nameIndex := 15, descriptorIndex := 16, attributes := #[] }, { accessFlags := 18, nameIndex := 19, descriptorIndex := 20, attributes := #[] }, { accessFlags := 2, nameIndex := 23, descriptorIndex := 24, attributes := #[] }, { accessFlags := 2, nameIndex := 36, descriptorIndex := 37, attributes := #[] }])
  fields := #[{ name := "values", type := (.array .double), accessFlags := 18, slot := 0, constantValue := 0 }, { name := "listed", type := (.array .boolean), accessFlags := 18, slot := 1, constantValue := 0 }, { name := "labels", type := (.array .int), accessFlags := 18, slot := 2, constantValue := 0 }, { name := "count", type := .int, accessFlags := 2, slot := 3, constantValue := 0 }, { name := "rest", type := .double, accessFlags := 2, slot := 4, constantValue := 0 }]
  methods := #[k2m0, k2m1, k2m2, k2m3, k2m4, k2m5, k2m6]
  instanceTypes := #[(.array .double), (.array .boolean), (.array .int), .int, .double]
  staticTypes := #[]
  resolved := Array.replicate 93 none
  statics := none }

def pool3 : Array CpInfo := pool [(1, u "java/lang/Cloneable"), (0, .class_ 1), (0, u "java/lang/Object"), (0, .class_ 3)] 3

/-- java/lang/Cloneable -/
def k3 : Class := { plain "java/lang/Cloneable" (some 0) with
  accessFlags := 1537
  interfaces := #[]
  cf := some (fileOf pool3 2 #[] #[] 1537 4 #[] #[])
  fields := #[]
  methods := #[]
  instanceTypes := #[]
  staticTypes := #[]
  resolved := Array.replicate 8 none
  statics := none }

def pool4 : Array CpInfo := pool [(1, u "java/io/Serializable"), (0, .class_ 1), (0, u "java/lang/Object"), (0, .class_ 3)] 3

/-- java/io/Serializable -/
def k4 : Class := { plain "java/io/Serializable" (some 0) with
  accessFlags := 1537
  interfaces := #[]
  cf := some (fileOf pool4 2 #[] #[] 1537 4 #[] #[])
  fields := #[]
  methods := #[]
  instanceTypes := #[]
  staticTypes := #[]
  resolved := Array.replicate 8 none
  statics := none }

/-- the primitive boolean -/
def k5 : Class := { plain "boolean" none with kind := .primitive 'Z', accessFlags := 0x411 }
/-- [Z -/
def k6 : Class := { plain "[Z" (some 0) with kind := .array 5 .boolean, interfaces := #[3, 4], accessFlags := 1041 }

/-- the primitive byte -/
def k7 : Class := { plain "byte" none with kind := .primitive 'B', accessFlags := 0x411 }
/-- [B -/
def k8 : Class := { plain "[B" (some 0) with kind := .array 7 .byte, interfaces := #[3, 4], accessFlags := 1041 }

/-- the primitive double -/
def k9 : Class := { plain "double" none with kind := .primitive 'D', accessFlags := 0x411 }
/-- [D -/
def k10 : Class := { plain "[D" (some 0) with kind := .array 9 .double, interfaces := #[3, 4], accessFlags := 1041 }

/-- the primitive int -/
def k11 : Class := { plain "int" none with kind := .primitive 'I', accessFlags := 0x411 }
/-- [I -/
def k12 : Class := { plain "[I" (some 0) with kind := .array 11 .int, interfaces := #[3, 4], accessFlags := 1041 }

def heap : Heap := #[]
def classes : Array Class := #[k0, k1, k2, k3, k4, k5, k6, k7, k8, k9, k10, k11, k12]
def interned : List (Array UInt16 × Addr) := []
def slotsUsed : Nat := 0
def theMethod : MethodId := ⟨1, 1⟩
def args0 : Array Value := #[.int 3, .int 1, .int 2, .int 3, .int 4, .int 5]
def aboutOver (below : List Frame) : State where
  vm := { classes := classes, interned := interned.toArray }
  heap := heap
  slotsUsed := slotsUsed
  threads := #[{ frames := .invoking theMethod args0 :: below }]
def below0 : List Frame := [.native { method := ⟨0, 0⟩, args := #[] }]
def about1 : State := aboutOver below0
def p0 : Program := .bare "" "" ""
def e0 : Env := launch0.env 0 0 0
theorem w_frames : about1.frames = Frame.invoking theMethod args0 :: below0 := rfl
set_option maxRecDepth 65536 in
theorem w_args : argsFit about1.vm theMethod args0 = true := by decide +kernel
set_option maxRecDepth 65536 in
theorem w_heap : heapFits about1 = true := by decide +kernel
set_option maxRecDepth 65536 in
theorem w_runnable : about1.curStatus? = some .runnable := by decide +kernel
set_option maxRecDepth 65536 in
theorem w_alone : about1.alone = true := by decide +kernel
set_option maxRecDepth 65536 in
theorem w_named : about1.methodNamed? x = some theMethod := by decide +kernel
set_option maxRecDepth 65536 in
theorem w_hears : about1.hears theMethod below0 = true := by decide +kernel
set_option maxRecDepth 65536 in
theorem w_ripe : about1.ripe theMethod args0 below0 = true := by decide +kernel
theorem w_running : about1.status = .running := rfl
set_option maxRecDepth 65536 in
theorem w_room : about1.hasRoom e0.platform room_1 = true :=
  launch0.hasRoom_least _ room_1 (by decide +kernel) (by decide +kernel) (by decide +kernel) (by decide +kernel) (by decide +kernel) (by decide +kernel)
theorem allAtoms_all (ts : List Jvm.Cond) (a : Array Jvm.Value) (st : Jvm.State) : (allAtoms ts).before a st = ts.all (fun c => c.before a st) := by
  induction ts with
  | nil => rfl
  | cons c t ih =>
    show (Jvm.Cond.and c (allAtoms t)).before a st = _
    rw [Jvm.Cond.before_and, ih, List.all_cons]
def words1 : List Jvm.Cond := Jvm.Cond.code x code maxLocals ret :: tables_1
/-- a 'code' word, met by the world's own term for the bytes: nothing is compared byte by byte -/
theorem code_word {y : MethodName} {bytes : ByteArray} {mx : Nat} {rt : Option FieldType} {a : Array Value} {s : State} {m : MethodId} {meth : Method} {c : Code} (h1 : s.methodNamed? y = some m) (h2 : s.vm.method? m = some meth) (h3 : meth.code = some c) (h4 : c.code = bytes)
    (h5 : (c.maxLocals == mx && c.exceptionTable.isEmpty && decide (c.maxStack ≤ mostOperands) && decide (meth.sig.returnType = rt) && !meth.locks && decide (parseMethodDescriptor y.desc = some meth.sig)) = true) : (Jvm.Cond.code y bytes mx rt).before a s = true := by
  simp only [Bool.and_eq_true, beq_iff_eq, Bool.not_eq_true', decide_eq_true_eq] at h5
  obtain ⟨⟨⟨⟨⟨g1, g2⟩, g3⟩, g4⟩, g5⟩, g6⟩ := h5
  simp [Cond.before, Cond.holds, Cond.value, h1, h2, h3, h4, g1, g2, g3, g4, g5, g6]
def isCode : Jvm.Cond → Bool
  | .code _ _ _ _ => true
  | _ => false
theorem all_split {L : List Jvm.Cond} {P : Jvm.Cond → Bool} (h1 : L.all (fun c => isCode c || P c) = true) (h2 : ∀ c ∈ L.filter isCode, P c = true) : L.all P = true := by
  refine List.all_eq_true.mpr fun c hc => ?_
  have h := List.all_eq_true.mp h1 c hc
  rcases Bool.eq_false_or_eq_true (isCode c) with hi | hi
  · exact h2 c (List.mem_filter.mpr ⟨hc, hi⟩)
  · simpa [hi] using h
set_option maxRecDepth 65536 in
theorem w_c0 : (Jvm.Cond.code x code maxLocals ret).before args0 about1 = true := code_word (m := ⟨1, 1⟩) (meth := k1m1) (c := k1c1) (by decide +kernel) rfl rfl rfl (by decide +kernel)
set_option maxRecDepth 65536 in
theorem w_c1 : (Jvm.Cond.code ({ cls := "com/example/graphtend/graphtend/method/LabelValues", name := "<init>", desc := "(I)V" } : Jvm.MethodName) prog_39_method_1_code (2 : Nat) (Option.none : Option Jvm.ClassFile.FieldType)).before args0 about1 = true := code_word (m := ⟨2, 0⟩) (meth := k2m0) (c := k2c0) (by decide +kernel) rfl rfl rfl (by decide +kernel)
set_option maxRecDepth 65536 in
theorem w_c2 : (Jvm.Cond.code ({ cls := "java/lang/Object", name := "<init>", desc := "()V" } : Jvm.MethodName) object_method_1_code (1 : Nat) (Option.none : Option Jvm.ClassFile.FieldType)).before args0 about1 = true := code_word (m := ⟨0, 0⟩) (meth := k0m0) (c := k0c0) (by decide +kernel) rfl rfl rfl (by decide +kernel)
set_option maxRecDepth 65536 in
theorem w_c3 : (Jvm.Cond.code ({ cls := "com/example/graphtend/graphtend/method/LabelValues", name := "setRest", desc := "(D)V" } : Jvm.MethodName) prog_39_method_8_code (3 : Nat) (Option.none : Option Jvm.ClassFile.FieldType)).before args0 about1 = true := code_word (m := ⟨2, 3⟩) (meth := k2m3) (c := k2c3) (by decide +kernel) rfl rfl rfl (by decide +kernel)
set_option maxRecDepth 65536 in
theorem w_c4 : (Jvm.Cond.code ({ cls := "com/example/graphtend/graphtend/method/LabelValues", name := "list", desc := "(I)V" } : Jvm.MethodName) prog_39_method_3_code (2 : Nat) (Option.none : Option Jvm.ClassFile.FieldType)).before args0 about1 = true := code_word (m := ⟨2, 1⟩) (meth := k2m1) (c := k2c1) (by decide +kernel) rfl rfl rfl (by decide +kernel)
set_option maxRecDepth 65536 in
theorem w_c5 : (Jvm.Cond.code ({ cls := "com/example/graphtend/graphtend/method/LabelValues", name := "count", desc := "()I" } : Jvm.MethodName) prog_39_method_9_code (1 : Nat) (Option.some Jvm.ClassFile.FieldType.int)).before args0 about1 = true := code_word (m := ⟨2, 4⟩) (meth := k2m4) (c := k2c4) (by decide +kernel) rfl rfl rfl (by decide +kernel)
set_option maxRecDepth 65536 in
theorem w_c6 : (Jvm.Cond.code ({ cls := "com/example/graphtend/graphtend/method/LabelValues", name := "label", desc := "(I)I" } : Jvm.MethodName) prog_39_method_10_code (2 : Nat) (Option.some Jvm.ClassFile.FieldType.int)).before args0 about1 = true := code_word (m := ⟨2, 5⟩) (meth := k2m5) (c := k2c5) (by decide +kernel) rfl rfl rfl (by decide +kernel)
set_option maxRecDepth 65536 in
theorem w_c7 : (Jvm.Cond.code ({ cls := "com/example/graphtend/graphtend/method/LabelValues", name := "value", desc := "(I)D" } : Jvm.MethodName) prog_39_method_13_code (2 : Nat) (Option.some Jvm.ClassFile.FieldType.double)).before args0 about1 = true := code_word (m := ⟨2, 6⟩) (meth := k2m6) (c := k2c6) (by decide +kernel) rfl rfl rfl (by decide +kernel)
set_option maxRecDepth 65536 in
theorem w_c8 : (Jvm.Cond.code ({ cls := "com/example/graphtend/graphtend/method/LabelValues", name := "rest", desc := "()D" } : Jvm.MethodName) prog_39_method_7_code (1 : Nat) (Option.some Jvm.ClassFile.FieldType.double)).before args0 about1 = true := code_word (m := ⟨2, 2⟩) (meth := k2m2) (c := k2c2) (by decide +kernel) rfl rfl rfl (by decide +kernel)
def codes1 : List Jvm.Cond := [Jvm.Cond.code x code maxLocals ret, Jvm.Cond.code ({ cls := "com/example/graphtend/graphtend/method/LabelValues", name := "<init>", desc := "(I)V" } : Jvm.MethodName) prog_39_method_1_code (2 : Nat) (Option.none : Option Jvm.ClassFile.FieldType), Jvm.Cond.code ({ cls := "java/lang/Object", name := "<init>", desc := "()V" } : Jvm.MethodName) object_method_1_code (1 : Nat) (Option.none : Option Jvm.ClassFile.FieldType), Jvm.Cond.code ({ cls := "com/example/graphtend/graphtend/method/LabelValues", name := "setRest", desc := "(D)V" } : Jvm.MethodName) prog_39_method_8_code (3 : Nat) (Option.none : Option Jvm.ClassFile.FieldType), Jvm.Cond.code ({ cls := "com/example/graphtend/graphtend/method/LabelValues", name := "list", desc := "(I)V" } : Jvm.MethodName) prog_39_method_3_code (2 : Nat) (Option.none : Option Jvm.ClassFile.FieldType), Jvm.Cond.code ({ cls := "com/example/graphtend/graphtend/method/LabelValues", name := "count", desc := "()I" } : Jvm.MethodName) prog_39_method_9_code (1 : Nat) (Option.some Jvm.ClassFile.FieldType.int), Jvm.Cond.code ({ cls := "com/example/graphtend/graphtend/method/LabelValues", name := "label", desc := "(I)I" } : Jvm.MethodName) prog_39_method_10_code (2 : Nat) (Option.some Jvm.ClassFile.FieldType.int), Jvm.Cond.code ({ cls := "com/example/graphtend/graphtend/method/LabelValues", name := "value", desc := "(I)D" } : Jvm.MethodName) prog_39_method_13_code (2 : Nat) (Option.some Jvm.ClassFile.FieldType.double), Jvm.Cond.code ({ cls := "com/example/graphtend/graphtend/method/LabelValues", name := "rest", desc := "()D" } : Jvm.MethodName) prog_39_method_7_code (1 : Nat) (Option.some Jvm.ClassFile.FieldType.double)]
set_option maxRecDepth 65536 in
theorem codes_eq : words1.filter isCode = codes1 := rfl
theorem w_codes : ∀ c ∈ words1.filter isCode, c.before args0 about1 = true := by
  rw [codes_eq]
  intro c hc
  simp only [codes1, List.mem_cons, List.not_mem_nil, or_false] at hc
  rcases hc with rfl | rfl | rfl | rfl | rfl | rfl | rfl | rfl | rfl
  · exact w_c0
  · exact w_c1
  · exact w_c2
  · exact w_c3
  · exact w_c4
  · exact w_c5
  · exact w_c6
  · exact w_c7
  · exact w_c8
set_option maxRecDepth 65536 in
theorem w_t1 : (words1.take 24).all (fun c => isCode c || c.before args0 about1) = true := by decide +kernel
set_option maxRecDepth 65536 in
theorem w_t2 : ((words1.drop 24).take 24).all (fun c => isCode c || c.before args0 about1) = true := by decide +kernel
set_option maxRecDepth 65536 in
theorem w_t3 : ((words1.drop 24).drop 24).all (fun c => isCode c || c.before args0 about1) = true := by decide +kernel
theorem w_tables : (allAtoms (Jvm.Cond.code x code maxLocals ret :: tables_1)).before args0 about1 = true := by
  rw [allAtoms_all]
  show words1.all (fun c => c.before args0 about1) = true
  refine all_split ?_ w_codes
  rw [← List.take_append_drop 24 words1, List.all_append, w_t1, ← List.take_append_drop 24 (words1.drop 24), List.all_append, w_t2, w_t3]
  rfl
set_option maxRecDepth 65536 in
theorem w_case : (Jvm.Cond.and given_1 narrow_1).before args0 about1 = true := by decide +kernel
theorem w_applies : (headSpec (Jvm.Cond.code x code maxLocals ret :: tables_1) room_1).applies x e0.platform about1 = true :=
  (Spec.applies_iff w_frames).mpr ⟨w_running, w_runnable, w_alone, w_named, w_hears, w_ripe, w_room, w_tables⟩
theorem atStart : AtStart classFile x code maxLocals ret World_1 tables_1 room_1 Calls_1 rest_1 Pre_1 launch0 p0 e0 about1 theMethod args0 below0 :=
  ⟨lists_1, trivial, launch0.admits_env _ _ _, launch0.least_env, fairChoices_fair.cas, fairChoices_fair.clock, w_frames, w_args, w_heap, w_applies, trivial, trivial, w_case⟩
end start1
theorem witness_1 : WitnessClaimed_1 := ⟨start1.p0, start1.e0, start1.about1, start1.theMethod, start1.args0, start1.below0, start1.atStart⟩
end Jvm.Pilot.@@N@@
