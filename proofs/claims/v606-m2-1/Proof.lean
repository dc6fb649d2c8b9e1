import JvmDerived
import JvmDerived.Pilot.@@N@@Statement
import JvmDerived.Pilot.@@N@@Code
set_option linter.unusedVariables false
set_option linter.unusedSimpArgs false
namespace Jvm.Pilot.@@N@@
open Jvm Jvm.ClassFile Sem Op Lib Jvm.Free Jvm.Stand Jvm.LawKit Jvm.RoadKit Bundle Jvm.Pilot.@@N@@.Jvm.D
section OwnGo
variable {p : Program} {l : Launch} {e : Env} {R : Room} {s : State} {m : MethodId} {args : Array Value} {below : List Frame} {meth : Method} {c : Code} {T : State} {n0 cells slots cells' slots' : Nat} {Z : State} {a0 : Array Value} {h : Heap} {K : State → Outcome → Prop} {pc pc' : Nat} {Ls : Array Slot} {St : List Value} {own : String} {by0 : ByteArray} {ml : Nat}
/-- from state T with the frame g on top the run comes to an end of which K holds -/
def OGo (p : Program) (e : Env) (below : List Frame) (K : State → Outcome → Prop) (T : State) (g : JFrame) : Prop := ∃ t o, Steps p.tables e below (T.setTop g) t ∧ K t o
/-- what does not change during one body's walk -/
def Cx (p : Program) (s : State) (m : MethodId) (c : Code) (Z : State) (own : String) (by0 : ByteArray) (ml : Nat) : Prop := p.tables.exec = Jvm.exec ∧ Z.Warmed39 s.vm ∧ s.vm.findClass own = some m.cls ∧ c.code = by0 ∧ c.maxLocals = ml
/-- where the walk stands: heap h, only cells from n0 on written -/
def Sd (p : Program) (l : Launch) (e : Env) (R : Room) (s : State) (m : MethodId) (args : Array Value) (below : List Frame) (meth : Method) (c : Code) (n0 : Nat) (T : State) (h : Heap) (cells slots : Nat) : Prop := T.heap = h ∧ n0 ≤ h.size ∧ ∃ locs, Stand p l e R s m args below meth c T locs cells slots ∧ Fr n0 locs
/-- what a body owes at its end -/
def Kk (s : State) (below : List Frame) (n0 : Nat) (Q : Option Value → Heap → Prop) (nc ns : Nat) : State → Outcome → Prop := fun t o => t.status = .running ∧ Ended t below o ∧ ∃ v L, o = .returned v ∧ (Q v t.heap ∧ Fr n0 L) ∧ FrameEnd s o t L nc ns
/-- a body's contract -/
def Ctr (l : Launch) (Z : State) (y : MethodName) (by0 : ByteArray) (ml : Nat) (ret : Option FieldType) (rm : Room) (n0 : Nat) (as' : Array Value) (h : Heap) (Q : Option Value → Heap → Prop) : Prop :=
  ∀ ws, MetFree l y (head1 (Jvm.Cond.code y by0 ml ret :: ws) rm) (fun a U => a = as' ∧ Z.Warmed39 U.vm ∧ U.heap = h) (fun _ _ _ _ _ => True) (fun _ U o U' => ∃ v L, o = .returned v ∧ ((Q v U'.heap ∧ h.size ≤ U'.heap.size) ∧ Fr n0 L) ∧ FrameEnd U o U' L rm.cells rm.slots)
theorem OGo.st {T T' : State} {g g' : JFrame} (st : ∀ target, Steps p.tables e below (T'.setTop g') target → Steps p.tables e below (T.setTop g) target) (hr : OGo p e below K T' g') : OGo p e below K T g := by
  obtain ⟨t, o, h1, h2⟩ := hr
  exact ⟨t, o, st t h1, h2⟩
theorem OGo.tr {T T' : State} {g g' : JFrame} (st : Steps p.tables e below (T.setTop g) (T'.setTop g')) (hr : OGo p e below K T' g') : OGo p e below K T g := by
  obtain ⟨t, o, h1, h2⟩ := hr
  exact ⟨t, o, st.trans h1, h2⟩
theorem Ctr.of {y : MethodName} {ret : Option FieldType} {rm : Room} {as' : Array Value} {Q : Option Value → Heap → Prop} (hpl : plainFor y = true) (hn : n0 ≤ h.size)
    (body : ∀ p e s m below meth c T, Cx p s m c Z y.cls by0 ml → meth.name = y.name → meth.sig.returnType = ret → meth.locks = false → Sd p l e rm s m as' below meth c n0 T h 0 0 → OGo p e below (Kk s below n0 Q rm.cells rm.slots) T (entryFrame m as' ml)) :
    Ctr l Z y by0 ml ret rm n0 as' h Q := by
  intro ws
  refine MetFree.of_bodySF hpl hisR ?_
  intro p e s m args below meth c s₁ Bd hml0 hP hK
  obtain ⟨rfl, hZ, hh⟩ := hP
  have hown : s.vm.findClass y.cls = some m.cls := findClass_of_methodNamed Bd.named
  have hnm := (name_of_methodNamed Bd.named Bd.method).1
  have X0 := Stand.of_body Bd
  have e0 : s₁.heap = h := by rw [← hh, Bd.state]; rfl
  obtain ⟨t, o, h1, h2, h3, v, L, h4, ⟨h5, h6⟩, h7⟩ := body p e s m below meth c s₁ ⟨Bd.exec, hZ, hown, Bd.bytes, hml0⟩ hnm Bd.returns (BodyLoose.notSynchronized Bd) ⟨e0, hn, [], X0, Fr.nil n0⟩
  exact ⟨t, o, h1, h2, h3, v, L, h4, ⟨⟨h5, by rw [← hh]; exact h7.2.2.2.1⟩, h6⟩, h7⟩
theorem Ctr.mono {y : MethodName} {ret : Option FieldType} {rm : Room} {as' : Array Value} {Q Q' : Option Value → Heap → Prop} (hM : Ctr l Z y by0 ml ret rm n0 as' h Q) (hq : ∀ v h', Q v h' → Q' v h') : Ctr l Z y by0 ml ret rm n0 as' h Q' := by
  intro ws p e ha hc hk s m args below hf happ hP hK
  obtain ⟨n, o, h1, h2, h3, v, L, h4, ⟨⟨h5, h8⟩, h6⟩, h7⟩ := hM ws p e ha hc hk s m args below hf happ hP hK
  exact ⟨n, o, h1, h2, h3, v, L, h4, ⟨⟨hq _ _ h5, h8⟩, h6⟩, h7⟩
theorem Sd.up (X : Sd p l e R s m args below meth c n0 T h cells slots) (hc : cells ≤ cells') (hs : slots ≤ slots') : Sd p l e R s m args below meth c n0 T h cells' slots' := by
  obtain ⟨h1, h2, locs, Y, N⟩ := X
  exact ⟨h1, h2, locs, { Y with same := Y.same.mono hc hs }, N⟩
theorem OGo.iload (C : Cx p s m c Z own by0 ml) (X : Sd p l e R s m args below meth c n0 T h cells slots) {k : Nat} {v : Int32} (hd : decode by0 pc = .ok (.iload k, 2)) (hp : pc + 2 = pc') (hl : Ls[k]? = some (.val (.int v))) (hr : OGo p e below K T (mkF m pc' Ls (.int v :: St))) : OGo p e below K T (mkF m pc Ls (St)) := by
  subst hp
  obtain ⟨-, -, locs, Y, -⟩ := X
  exact OGo.st (fun t k => XS.iload Y.here C.1 rfl (hb C.2.2.2.1 hd) hl k) hr
theorem OGo.iloadN (C : Cx p s m c Z own by0 ml) (X : Sd p l e R s m args below meth c n0 T h cells slots) {k : Fin 4} {v : Int32} (hd : decode by0 pc = .ok (.iload_n k, 1)) (hp : pc + 1 = pc') (hl : Ls[k.val]? = some (.val (.int v))) (hr : OGo p e below K T (mkF m pc' Ls (.int v :: St))) : OGo p e below K T (mkF m pc Ls (St)) := by
  subst hp
  obtain ⟨-, -, locs, Y, -⟩ := X
  exact OGo.st (fun t k => XS.iloadN Y.here C.1 rfl (hb C.2.2.2.1 hd) hl k) hr
theorem OGo.lload (C : Cx p s m c Z own by0 ml) (X : Sd p l e R s m args below meth c n0 T h cells slots) {k : Nat} {v : Int64} (hd : decode by0 pc = .ok (.lload k, 2)) (hp : pc + 2 = pc') (hl : Ls[k]? = some (.val (.long v))) (hr : OGo p e below K T (mkF m pc' Ls (.long v :: St))) : OGo p e below K T (mkF m pc Ls (St)) := by
  subst hp
  obtain ⟨-, -, locs, Y, -⟩ := X
  exact OGo.st (fun t k => XS.lload Y.here C.1 rfl (hb C.2.2.2.1 hd) hl k) hr
theorem OGo.lloadN (C : Cx p s m c Z own by0 ml) (X : Sd p l e R s m args below meth c n0 T h cells slots) {k : Fin 4} {v : Int64} (hd : decode by0 pc = .ok (.lload_n k, 1)) (hp : pc + 1 = pc') (hl : Ls[k.val]? = some (.val (.long v))) (hr : OGo p e below K T (mkF m pc' Ls (.long v :: St))) : OGo p e below K T (mkF m pc Ls (St)) := by
  subst hp
  obtain ⟨-, -, locs, Y, -⟩ := X
  exact OGo.st (fun t k => XS.lloadN Y.here C.1 rfl (hb C.2.2.2.1 hd) hl k) hr
theorem OGo.dload (C : Cx p s m c Z own by0 ml) (X : Sd p l e R s m args below meth c n0 T h cells slots) {k : Nat} {v : UInt64} (hd : decode by0 pc = .ok (.dload k, 2)) (hp : pc + 2 = pc') (hl : Ls[k]? = some (.val (.double v))) (hr : OGo p e below K T (mkF m pc' Ls (.double v :: St))) : OGo p e below K T (mkF m pc Ls (St)) := by
  subst hp
  obtain ⟨-, -, locs, Y, -⟩ := X
  exact OGo.st (fun t k => XS.dload Y.here C.1 rfl (hb C.2.2.2.1 hd) hl k) hr
theorem OGo.dloadN (C : Cx p s m c Z own by0 ml) (X : Sd p l e R s m args below meth c n0 T h cells slots) {k : Fin 4} {v : UInt64} (hd : decode by0 pc = .ok (.dload_n k, 1)) (hp : pc + 1 = pc') (hl : Ls[k.val]? = some (.val (.double v))) (hr : OGo p e below K T (mkF m pc' Ls (.double v :: St))) : OGo p e below K T (mkF m pc Ls (St)) := by
  subst hp
  obtain ⟨-, -, locs, Y, -⟩ := X
  exact OGo.st (fun t k => XS.dloadN Y.here C.1 rfl (hb C.2.2.2.1 hd) hl k) hr
theorem OGo.aload (C : Cx p s m c Z own by0 ml) (X : Sd p l e R s m args below meth c n0 T h cells slots) {k : Nat} {v : Value} (hd : decode by0 pc = .ok (.aload k, 2)) (hp : pc + 2 = pc') (hl : Ls[k]? = some (.val v)) (hv : v.isRef = true) (hr : OGo p e below K T (mkF m pc' Ls (v :: St))) : OGo p e below K T (mkF m pc Ls (St)) := by
  subst hp
  obtain ⟨-, -, locs, Y, -⟩ := X
  exact OGo.st (fun t k => XS.aload Y.here C.1 rfl (hb C.2.2.2.1 hd) hl hv k) hr
theorem OGo.aloadN (C : Cx p s m c Z own by0 ml) (X : Sd p l e R s m args below meth c n0 T h cells slots) {k : Fin 4} {v : Value} (hd : decode by0 pc = .ok (.aload_n k, 1)) (hp : pc + 1 = pc') (hl : Ls[k.val]? = some (.val v)) (hv : v.isRef = true) (hr : OGo p e below K T (mkF m pc' Ls (v :: St))) : OGo p e below K T (mkF m pc Ls (St)) := by
  subst hp
  obtain ⟨-, -, locs, Y, -⟩ := X
  exact OGo.st (fun t k => XS.aloadN Y.here C.1 rfl (hb C.2.2.2.1 hd) hl hv k) hr
theorem OGo.istore (C : Cx p s m c Z own by0 ml) (X : Sd p l e R s m args below meth c n0 T h cells slots) {k : Nat} {x : Int32} {l' : Array Slot} (hd : decode by0 pc = .ok (.istore k, 2)) (hp : pc + 2 = pc') (hl : storeLocals Ls k (.int x) = some l') (hr : OGo p e below K T (mkF m pc' l' (St))) : OGo p e below K T (mkF m pc Ls (.int x :: St)) := by
  subst hp
  obtain ⟨-, -, locs, Y, -⟩ := X
  exact OGo.st (fun t k => XS.istore Y.here C.1 rfl (hb C.2.2.2.1 hd) rfl hl k) hr
theorem OGo.istoreN (C : Cx p s m c Z own by0 ml) (X : Sd p l e R s m args below meth c n0 T h cells slots) {k : Fin 4} {x : Int32} {l' : Array Slot} (hd : decode by0 pc = .ok (.istore_n k, 1)) (hp : pc + 1 = pc') (hl : storeLocals Ls k.val (.int x) = some l') (hr : OGo p e below K T (mkF m pc' l' (St))) : OGo p e below K T (mkF m pc Ls (.int x :: St)) := by
  subst hp
  obtain ⟨-, -, locs, Y, -⟩ := X
  exact OGo.st (fun t k => XS.istoreN Y.here C.1 rfl (hb C.2.2.2.1 hd) rfl hl k) hr
theorem OGo.lstore (C : Cx p s m c Z own by0 ml) (X : Sd p l e R s m args below meth c n0 T h cells slots) {k : Nat} {x : Int64} {l' : Array Slot} (hd : decode by0 pc = .ok (.lstore k, 2)) (hp : pc + 2 = pc') (hl : storeLocals Ls k (.long x) = some l') (hr : OGo p e below K T (mkF m pc' l' (St))) : OGo p e below K T (mkF m pc Ls (.long x :: St)) := by
  subst hp
  obtain ⟨-, -, locs, Y, -⟩ := X
  exact OGo.st (fun t k => XS.lstore Y.here C.1 rfl (hb C.2.2.2.1 hd) rfl hl k) hr
theorem OGo.lstoreN (C : Cx p s m c Z own by0 ml) (X : Sd p l e R s m args below meth c n0 T h cells slots) {k : Fin 4} {x : Int64} {l' : Array Slot} (hd : decode by0 pc = .ok (.lstore_n k, 1)) (hp : pc + 1 = pc') (hl : storeLocals Ls k.val (.long x) = some l') (hr : OGo p e below K T (mkF m pc' l' (St))) : OGo p e below K T (mkF m pc Ls (.long x :: St)) := by
  subst hp
  obtain ⟨-, -, locs, Y, -⟩ := X
  exact OGo.st (fun t k => XS.lstoreN Y.here C.1 rfl (hb C.2.2.2.1 hd) rfl hl k) hr
theorem OGo.dstore (C : Cx p s m c Z own by0 ml) (X : Sd p l e R s m args below meth c n0 T h cells slots) {k : Nat} {x : UInt64} {l' : Array Slot} (hd : decode by0 pc = .ok (.dstore k, 2)) (hp : pc + 2 = pc') (hl : storeLocals Ls k (.double x) = some l') (hr : OGo p e below K T (mkF m pc' l' (St))) : OGo p e below K T (mkF m pc Ls (.double x :: St)) := by
  subst hp
  obtain ⟨-, -, locs, Y, -⟩ := X
  exact OGo.st (fun t k => XS.dstore Y.here C.1 rfl (hb C.2.2.2.1 hd) rfl hl k) hr
theorem OGo.dstoreN (C : Cx p s m c Z own by0 ml) (X : Sd p l e R s m args below meth c n0 T h cells slots) {k : Fin 4} {x : UInt64} {l' : Array Slot} (hd : decode by0 pc = .ok (.dstore_n k, 1)) (hp : pc + 1 = pc') (hl : storeLocals Ls k.val (.double x) = some l') (hr : OGo p e below K T (mkF m pc' l' (St))) : OGo p e below K T (mkF m pc Ls (.double x :: St)) := by
  subst hp
  obtain ⟨-, -, locs, Y, -⟩ := X
  exact OGo.st (fun t k => XS.dstoreN Y.here C.1 rfl (hb C.2.2.2.1 hd) rfl hl k) hr
theorem OGo.astore (C : Cx p s m c Z own by0 ml) (X : Sd p l e R s m args below meth c n0 T h cells slots) {k : Nat} {x : Value} {l' : Array Slot} (hd : decode by0 pc = .ok (.astore k, 2)) (hp : pc + 2 = pc') (hv : x.isRef = true) (hl : storeLocals Ls k x = some l') (hr : OGo p e below K T (mkF m pc' l' (St))) : OGo p e below K T (mkF m pc Ls (x :: St)) := by
  subst hp
  obtain ⟨-, -, locs, Y, -⟩ := X
  exact OGo.st (fun t k => XS.astore Y.here C.1 rfl (hb C.2.2.2.1 hd) rfl hv hl k) hr
theorem OGo.astoreN (C : Cx p s m c Z own by0 ml) (X : Sd p l e R s m args below meth c n0 T h cells slots) {k : Fin 4} {x : Value} {l' : Array Slot} (hd : decode by0 pc = .ok (.astore_n k, 1)) (hp : pc + 1 = pc') (hv : x.isRef = true) (hl : storeLocals Ls k.val x = some l') (hr : OGo p e below K T (mkF m pc' l' (St))) : OGo p e below K T (mkF m pc Ls (x :: St)) := by
  subst hp
  obtain ⟨-, -, locs, Y, -⟩ := X
  exact OGo.st (fun t k => XS.astoreN Y.here C.1 rfl (hb C.2.2.2.1 hd) rfl hv hl k) hr
theorem OGo.iconst (C : Cx p s m c Z own by0 ml) (X : Sd p l e R s m args below meth c n0 T h cells slots) {i : Int} {z : Int32} (hd : decode by0 pc = .ok (.iconst i, 1)) (hp : pc + 1 = pc') (hz : Int32.ofInt i = z) (hr : OGo p e below K T (mkF m pc' Ls (.int z :: St))) : OGo p e below K T (mkF m pc Ls (St)) := by
  subst hp
  subst hz
  obtain ⟨-, -, locs, Y, -⟩ := X
  exact OGo.st (fun t k => XS.iconst Y.here C.1 rfl (hb C.2.2.2.1 hd)  k) hr
theorem OGo.bipush (C : Cx p s m c Z own by0 ml) (X : Sd p l e R s m args below meth c n0 T h cells slots) {i : Int} {z : Int32} (hd : decode by0 pc = .ok (.bipush i, 2)) (hp : pc + 2 = pc') (hz : (Int8.ofInt i).toInt32 = z) (hr : OGo p e below K T (mkF m pc' Ls (.int z :: St))) : OGo p e below K T (mkF m pc Ls (St)) := by
  subst hp
  subst hz
  obtain ⟨-, -, locs, Y, -⟩ := X
  exact OGo.st (fun t k => XS.bipush Y.here C.1 rfl (hb C.2.2.2.1 hd)  k) hr
theorem OGo.sipush (C : Cx p s m c Z own by0 ml) (X : Sd p l e R s m args below meth c n0 T h cells slots) {i : Int} {z : Int32} (hd : decode by0 pc = .ok (.sipush i, 3)) (hp : pc + 3 = pc') (hz : (Int16.ofInt i).toInt32 = z) (hr : OGo p e below K T (mkF m pc' Ls (.int z :: St))) : OGo p e below K T (mkF m pc Ls (St)) := by
  subst hp
  subst hz
  obtain ⟨-, -, locs, Y, -⟩ := X
  exact OGo.st (fun t k => XS.sipush Y.here C.1 rfl (hb C.2.2.2.1 hd)  k) hr
theorem OGo.lconst (C : Cx p s m c Z own by0 ml) (X : Sd p l e R s m args below meth c n0 T h cells slots) {k : Fin 2} {z : Int64} (hd : decode by0 pc = .ok (.lconst k, 1)) (hp : pc + 1 = pc') (hz : Int64.ofNat k = z) (hr : OGo p e below K T (mkF m pc' Ls (.long z :: St))) : OGo p e below K T (mkF m pc Ls (St)) := by
  subst hp
  subst hz
  obtain ⟨-, -, locs, Y, -⟩ := X
  exact OGo.st (fun t k => XS.lconst Y.here C.1 rfl (hb C.2.2.2.1 hd)  k) hr
theorem OGo.dconst0 (C : Cx p s m c Z own by0 ml) (X : Sd p l e R s m args below meth c n0 T h cells slots) {v : UInt64} (hd : decode by0 pc = .ok (.dconst 0, 1)) (hp : pc + 1 = pc') (hz : FP.dconst0 = v) (hr : OGo p e below K T (mkF m pc' Ls (.double v :: St))) : OGo p e below K T (mkF m pc Ls (St)) := by
  subst hp
  obtain ⟨-, -, locs, Y, -⟩ := X
  exact OGo.st (fun t k => XS.dconst0 Y.here C.1 rfl (hb C.2.2.2.1 hd) hz k) hr
theorem OGo.dconst1 (C : Cx p s m c Z own by0 ml) (X : Sd p l e R s m args below meth c n0 T h cells slots) {v : UInt64} (hd : decode by0 pc = .ok (.dconst 1, 1)) (hp : pc + 1 = pc') (hz : FP.dconst1 = v) (hr : OGo p e below K T (mkF m pc' Ls (.double v :: St))) : OGo p e below K T (mkF m pc Ls (St)) := by
  subst hp
  obtain ⟨-, -, locs, Y, -⟩ := X
  exact OGo.st (fun t k => XS.dconst1 Y.here C.1 rfl (hb C.2.2.2.1 hd) hz k) hr
theorem OGo.aconst_null (C : Cx p s m c Z own by0 ml) (X : Sd p l e R s m args below meth c n0 T h cells slots)  (hd : decode by0 pc = .ok (.aconst_null, 1)) (hp : pc + 1 = pc')  (hr : OGo p e below K T (mkF m pc' Ls (.null :: St))) : OGo p e below K T (mkF m pc Ls (St)) := by
  subst hp
  obtain ⟨-, -, locs, Y, -⟩ := X
  exact OGo.st (fun t k => XS.aconstNull Y.here C.1 rfl (hb C.2.2.2.1 hd)  k) hr
theorem OGo.iadd (C : Cx p s m c Z own by0 ml) (X : Sd p l e R s m args below meth c n0 T h cells slots) {x y z : Int32} (hd : decode by0 pc = .ok (.iadd, 1)) (hp : pc + 1 = pc') (hz : x + y = z) (hr : OGo p e below K T (mkF m pc' Ls (.int z :: St))) : OGo p e below K T (mkF m pc Ls (.int y :: .int x :: St)) := by
  subst hp
  subst hz
  obtain ⟨-, -, locs, Y, -⟩ := X
  exact OGo.st (fun t k => XS.iadd Y.here C.1 rfl (hb C.2.2.2.1 hd) rfl k) hr
theorem OGo.isub (C : Cx p s m c Z own by0 ml) (X : Sd p l e R s m args below meth c n0 T h cells slots) {x y z : Int32} (hd : decode by0 pc = .ok (.isub, 1)) (hp : pc + 1 = pc') (hz : x - y = z) (hr : OGo p e below K T (mkF m pc' Ls (.int z :: St))) : OGo p e below K T (mkF m pc Ls (.int y :: .int x :: St)) := by
  subst hp
  subst hz
  obtain ⟨-, -, locs, Y, -⟩ := X
  exact OGo.st (fun t k => XS.isub Y.here C.1 rfl (hb C.2.2.2.1 hd) rfl k) hr
theorem OGo.imul (C : Cx p s m c Z own by0 ml) (X : Sd p l e R s m args below meth c n0 T h cells slots) {x y z : Int32} (hd : decode by0 pc = .ok (.imul, 1)) (hp : pc + 1 = pc') (hz : x * y = z) (hr : OGo p e below K T (mkF m pc' Ls (.int z :: St))) : OGo p e below K T (mkF m pc Ls (.int y :: .int x :: St)) := by
  subst hp
  subst hz
  obtain ⟨-, -, locs, Y, -⟩ := X
  exact OGo.st (fun t k => XS.imul Y.here C.1 rfl (hb C.2.2.2.1 hd) rfl k) hr
theorem OGo.iand (C : Cx p s m c Z own by0 ml) (X : Sd p l e R s m args below meth c n0 T h cells slots) {x y z : Int32} (hd : decode by0 pc = .ok (.iand, 1)) (hp : pc + 1 = pc') (hz : x &&& y = z) (hr : OGo p e below K T (mkF m pc' Ls (.int z :: St))) : OGo p e below K T (mkF m pc Ls (.int y :: .int x :: St)) := by
  subst hp
  subst hz
  obtain ⟨-, -, locs, Y, -⟩ := X
  exact OGo.st (fun t k => XS.iand Y.here C.1 rfl (hb C.2.2.2.1 hd) rfl k) hr
theorem OGo.ior (C : Cx p s m c Z own by0 ml) (X : Sd p l e R s m args below meth c n0 T h cells slots) {x y z : Int32} (hd : decode by0 pc = .ok (.ior, 1)) (hp : pc + 1 = pc') (hz : x ||| y = z) (hr : OGo p e below K T (mkF m pc' Ls (.int z :: St))) : OGo p e below K T (mkF m pc Ls (.int y :: .int x :: St)) := by
  subst hp
  subst hz
  obtain ⟨-, -, locs, Y, -⟩ := X
  exact OGo.st (fun t k => XS.ior Y.here C.1 rfl (hb C.2.2.2.1 hd) rfl k) hr
theorem OGo.ixor (C : Cx p s m c Z own by0 ml) (X : Sd p l e R s m args below meth c n0 T h cells slots) {x y z : Int32} (hd : decode by0 pc = .ok (.ixor, 1)) (hp : pc + 1 = pc') (hz : x ^^^ y = z) (hr : OGo p e below K T (mkF m pc' Ls (.int z :: St))) : OGo p e below K T (mkF m pc Ls (.int y :: .int x :: St)) := by
  subst hp
  subst hz
  obtain ⟨-, -, locs, Y, -⟩ := X
  exact OGo.st (fun t k => XS.ixor Y.here C.1 rfl (hb C.2.2.2.1 hd) rfl k) hr
theorem OGo.ishl (C : Cx p s m c Z own by0 ml) (X : Sd p l e R s m args below meth c n0 T h cells slots) {x y z : Int32} (hd : decode by0 pc = .ok (.ishl, 1)) (hp : pc + 1 = pc') (hz : x <<< (y &&& 31) = z) (hr : OGo p e below K T (mkF m pc' Ls (.int z :: St))) : OGo p e below K T (mkF m pc Ls (.int y :: .int x :: St)) := by
  subst hp
  subst hz
  obtain ⟨-, -, locs, Y, -⟩ := X
  exact OGo.st (fun t k => XS.ishl Y.here C.1 rfl (hb C.2.2.2.1 hd) rfl k) hr
theorem OGo.ishr (C : Cx p s m c Z own by0 ml) (X : Sd p l e R s m args below meth c n0 T h cells slots) {x y z : Int32} (hd : decode by0 pc = .ok (.ishr, 1)) (hp : pc + 1 = pc') (hz : x >>> (y &&& 31) = z) (hr : OGo p e below K T (mkF m pc' Ls (.int z :: St))) : OGo p e below K T (mkF m pc Ls (.int y :: .int x :: St)) := by
  subst hp
  subst hz
  obtain ⟨-, -, locs, Y, -⟩ := X
  exact OGo.st (fun t k => XS.ishr Y.here C.1 rfl (hb C.2.2.2.1 hd) rfl k) hr
theorem OGo.iushr (C : Cx p s m c Z own by0 ml) (X : Sd p l e R s m args below meth c n0 T h cells slots) {x y z : Int32} (hd : decode by0 pc = .ok (.iushr, 1)) (hp : pc + 1 = pc') (hz : (x.toUInt32 >>> (y &&& 31).toUInt32).toInt32 = z) (hr : OGo p e below K T (mkF m pc' Ls (.int z :: St))) : OGo p e below K T (mkF m pc Ls (.int y :: .int x :: St)) := by
  subst hp
  subst hz
  obtain ⟨-, -, locs, Y, -⟩ := X
  exact OGo.st (fun t k => XS.iushr Y.here C.1 rfl (hb C.2.2.2.1 hd) rfl k) hr
theorem OGo.idiv (C : Cx p s m c Z own by0 ml) (X : Sd p l e R s m args below meth c n0 T h cells slots) {x y z : Int32} (hd : decode by0 pc = .ok (.idiv, 1)) (hp : pc + 1 = pc') (hy : y ≠ 0) (hz : x / y = z) (hr : OGo p e below K T (mkF m pc' Ls (.int z :: St))) : OGo p e below K T (mkF m pc Ls (.int y :: .int x :: St)) := by
  subst hp
  subst hz
  obtain ⟨-, -, locs, Y, -⟩ := X
  exact OGo.st (fun t k => XS.idiv Y.here C.1 rfl (hb C.2.2.2.1 hd) rfl hy k) hr
theorem OGo.irem (C : Cx p s m c Z own by0 ml) (X : Sd p l e R s m args below meth c n0 T h cells slots) {x y z : Int32} (hd : decode by0 pc = .ok (.irem, 1)) (hp : pc + 1 = pc') (hy : y ≠ 0) (hz : x % y = z) (hr : OGo p e below K T (mkF m pc' Ls (.int z :: St))) : OGo p e below K T (mkF m pc Ls (.int y :: .int x :: St)) := by
  subst hp
  subst hz
  obtain ⟨-, -, locs, Y, -⟩ := X
  exact OGo.st (fun t k => iremM Y C.1 rfl (hb C.2.2.2.1 hd) rfl hy k) hr
theorem OGo.ineg (C : Cx p s m c Z own by0 ml) (X : Sd p l e R s m args below meth c n0 T h cells slots) {x z : Int32} (hd : decode by0 pc = .ok (.ineg, 1)) (hp : pc + 1 = pc') (hz : -x = z) (hr : OGo p e below K T (mkF m pc' Ls (.int z :: St))) : OGo p e below K T (mkF m pc Ls (.int x :: St)) := by
  subst hp
  subst hz
  obtain ⟨-, -, locs, Y, -⟩ := X
  exact OGo.st (fun t k => XS.ineg Y.here C.1 rfl (hb C.2.2.2.1 hd) rfl k) hr
theorem OGo.iinc (C : Cx p s m c Z own by0 ml) (X : Sd p l e R s m args below meth c n0 T h cells slots) {k : Nat} {cst : Int} {x z : Int32} {l' : Array Slot} (hd : decode by0 pc = .ok (.iinc k cst, 3)) (hp : pc + 3 = pc') (hl : Ls[k]? = some (.val (.int x))) (hz : x + Int32.ofInt cst = z) (hl' : storeLocals Ls k (.int z) = some l') (hr : OGo p e below K T (mkF m pc' l' (St))) : OGo p e below K T (mkF m pc Ls (St)) := by
  subst hp
  subst hz
  obtain ⟨-, -, locs, Y, -⟩ := X
  exact OGo.st (fun t k => XS.iinc Y.here C.1 rfl (hb C.2.2.2.1 hd) hl hl' k) hr
theorem OGo.ladd (C : Cx p s m c Z own by0 ml) (X : Sd p l e R s m args below meth c n0 T h cells slots) {x y z : Int64} (hd : decode by0 pc = .ok (.ladd, 1)) (hp : pc + 1 = pc') (hz : x + y = z) (hr : OGo p e below K T (mkF m pc' Ls (.long z :: St))) : OGo p e below K T (mkF m pc Ls (.long y :: .long x :: St)) := by
  subst hp
  subst hz
  obtain ⟨-, -, locs, Y, -⟩ := X
  exact OGo.st (fun t k => XS.ladd Y.here C.1 rfl (hb C.2.2.2.1 hd) rfl k) hr
theorem OGo.lsub (C : Cx p s m c Z own by0 ml) (X : Sd p l e R s m args below meth c n0 T h cells slots) {x y z : Int64} (hd : decode by0 pc = .ok (.lsub, 1)) (hp : pc + 1 = pc') (hz : x - y = z) (hr : OGo p e below K T (mkF m pc' Ls (.long z :: St))) : OGo p e below K T (mkF m pc Ls (.long y :: .long x :: St)) := by
  subst hp
  subst hz
  obtain ⟨-, -, locs, Y, -⟩ := X
  exact OGo.st (fun t k => XS.lsub Y.here C.1 rfl (hb C.2.2.2.1 hd) rfl k) hr
theorem OGo.lmul (C : Cx p s m c Z own by0 ml) (X : Sd p l e R s m args below meth c n0 T h cells slots) {x y z : Int64} (hd : decode by0 pc = .ok (.lmul, 1)) (hp : pc + 1 = pc') (hz : x * y = z) (hr : OGo p e below K T (mkF m pc' Ls (.long z :: St))) : OGo p e below K T (mkF m pc Ls (.long y :: .long x :: St)) := by
  subst hp
  subst hz
  obtain ⟨-, -, locs, Y, -⟩ := X
  exact OGo.st (fun t k => XS.lmul Y.here C.1 rfl (hb C.2.2.2.1 hd) rfl k) hr
theorem OGo.land (C : Cx p s m c Z own by0 ml) (X : Sd p l e R s m args below meth c n0 T h cells slots) {x y z : Int64} (hd : decode by0 pc = .ok (.land, 1)) (hp : pc + 1 = pc') (hz : x &&& y = z) (hr : OGo p e below K T (mkF m pc' Ls (.long z :: St))) : OGo p e below K T (mkF m pc Ls (.long y :: .long x :: St)) := by
  subst hp
  subst hz
  obtain ⟨-, -, locs, Y, -⟩ := X
  exact OGo.st (fun t k => XS.land Y.here C.1 rfl (hb C.2.2.2.1 hd) rfl k) hr
theorem OGo.lor (C : Cx p s m c Z own by0 ml) (X : Sd p l e R s m args below meth c n0 T h cells slots) {x y z : Int64} (hd : decode by0 pc = .ok (.lor, 1)) (hp : pc + 1 = pc') (hz : x ||| y = z) (hr : OGo p e below K T (mkF m pc' Ls (.long z :: St))) : OGo p e below K T (mkF m pc Ls (.long y :: .long x :: St)) := by
  subst hp
  subst hz
  obtain ⟨-, -, locs, Y, -⟩ := X
  exact OGo.st (fun t k => XS.lor Y.here C.1 rfl (hb C.2.2.2.1 hd) rfl k) hr
theorem OGo.lxor (C : Cx p s m c Z own by0 ml) (X : Sd p l e R s m args below meth c n0 T h cells slots) {x y z : Int64} (hd : decode by0 pc = .ok (.lxor, 1)) (hp : pc + 1 = pc') (hz : x ^^^ y = z) (hr : OGo p e below K T (mkF m pc' Ls (.long z :: St))) : OGo p e below K T (mkF m pc Ls (.long y :: .long x :: St)) := by
  subst hp
  subst hz
  obtain ⟨-, -, locs, Y, -⟩ := X
  exact OGo.st (fun t k => XS.lxor Y.here C.1 rfl (hb C.2.2.2.1 hd) rfl k) hr
theorem OGo.lshl (C : Cx p s m c Z own by0 ml) (X : Sd p l e R s m args below meth c n0 T h cells slots) {x z : Int64} {y : Int32} (hd : decode by0 pc = .ok (.lshl, 1)) (hp : pc + 1 = pc') (hz : x <<< (y &&& 0x3f).toInt64 = z) (hr : OGo p e below K T (mkF m pc' Ls (.long z :: St))) : OGo p e below K T (mkF m pc Ls (.int y :: .long x :: St)) := by
  subst hp
  subst hz
  obtain ⟨-, -, locs, Y, -⟩ := X
  exact OGo.st (fun t k => XS.lshl Y.here C.1 rfl (hb C.2.2.2.1 hd) rfl k) hr
theorem OGo.lshr (C : Cx p s m c Z own by0 ml) (X : Sd p l e R s m args below meth c n0 T h cells slots) {x z : Int64} {y : Int32} (hd : decode by0 pc = .ok (.lshr, 1)) (hp : pc + 1 = pc') (hz : x >>> (y &&& 0x3f).toInt64 = z) (hr : OGo p e below K T (mkF m pc' Ls (.long z :: St))) : OGo p e below K T (mkF m pc Ls (.int y :: .long x :: St)) := by
  subst hp
  subst hz
  obtain ⟨-, -, locs, Y, -⟩ := X
  exact OGo.st (fun t k => XS.lshr Y.here C.1 rfl (hb C.2.2.2.1 hd) rfl k) hr
theorem OGo.lushr (C : Cx p s m c Z own by0 ml) (X : Sd p l e R s m args below meth c n0 T h cells slots) {x z : Int64} {y : Int32} (hd : decode by0 pc = .ok (.lushr, 1)) (hp : pc + 1 = pc') (hz : (x.toUInt64 >>> (y &&& 0x3f).toInt64.toUInt64).toInt64 = z) (hr : OGo p e below K T (mkF m pc' Ls (.long z :: St))) : OGo p e below K T (mkF m pc Ls (.int y :: .long x :: St)) := by
  subst hp
  subst hz
  obtain ⟨-, -, locs, Y, -⟩ := X
  exact OGo.st (fun t k => XS.lushr Y.here C.1 rfl (hb C.2.2.2.1 hd) rfl k) hr
theorem OGo.ldiv (C : Cx p s m c Z own by0 ml) (X : Sd p l e R s m args below meth c n0 T h cells slots) {x y z : Int64} (hd : decode by0 pc = .ok (.ldiv, 1)) (hp : pc + 1 = pc') (hy : y ≠ 0) (hz : x / y = z) (hr : OGo p e below K T (mkF m pc' Ls (.long z :: St))) : OGo p e below K T (mkF m pc Ls (.long y :: .long x :: St)) := by
  subst hp
  subst hz
  obtain ⟨-, -, locs, Y, -⟩ := X
  exact OGo.st (fun t k => XS.ldiv Y.here C.1 rfl (hb C.2.2.2.1 hd) rfl hy k) hr
theorem OGo.lrem (C : Cx p s m c Z own by0 ml) (X : Sd p l e R s m args below meth c n0 T h cells slots) {x y z : Int64} (hd : decode by0 pc = .ok (.lrem, 1)) (hp : pc + 1 = pc') (hy : y ≠ 0) (hz : x - (x / y) * y = z) (hr : OGo p e below K T (mkF m pc' Ls (.long z :: St))) : OGo p e below K T (mkF m pc Ls (.long y :: .long x :: St)) := by
  subst hp
  subst hz
  obtain ⟨-, -, locs, Y, -⟩ := X
  exact OGo.st (fun t k => XS.lrem Y.here C.1 rfl (hb C.2.2.2.1 hd) rfl hy k) hr
theorem OGo.lneg (C : Cx p s m c Z own by0 ml) (X : Sd p l e R s m args below meth c n0 T h cells slots) {x z : Int64} (hd : decode by0 pc = .ok (.lneg, 1)) (hp : pc + 1 = pc') (hz : -x = z) (hr : OGo p e below K T (mkF m pc' Ls (.long z :: St))) : OGo p e below K T (mkF m pc Ls (.long x :: St)) := by
  subst hp
  subst hz
  obtain ⟨-, -, locs, Y, -⟩ := X
  exact OGo.st (fun t k => XS.lneg Y.here C.1 rfl (hb C.2.2.2.1 hd) rfl k) hr
theorem OGo.i2l (C : Cx p s m c Z own by0 ml) (X : Sd p l e R s m args below meth c n0 T h cells slots) {x : Int32} {z : Int64} (hd : decode by0 pc = .ok (.i2l, 1)) (hp : pc + 1 = pc') (hz : x.toInt64 = z) (hr : OGo p e below K T (mkF m pc' Ls (.long z :: St))) : OGo p e below K T (mkF m pc Ls (.int x :: St)) := by
  subst hp
  subst hz
  obtain ⟨-, -, locs, Y, -⟩ := X
  exact OGo.st (fun t k => XS.i2l Y.here C.1 rfl (hb C.2.2.2.1 hd) rfl k) hr
theorem OGo.l2i (C : Cx p s m c Z own by0 ml) (X : Sd p l e R s m args below meth c n0 T h cells slots) {x : Int64} {z : Int32} (hd : decode by0 pc = .ok (.l2i, 1)) (hp : pc + 1 = pc') (hz : x.toInt32 = z) (hr : OGo p e below K T (mkF m pc' Ls (.int z :: St))) : OGo p e below K T (mkF m pc Ls (.long x :: St)) := by
  subst hp
  subst hz
  obtain ⟨-, -, locs, Y, -⟩ := X
  exact OGo.st (fun t k => XS.l2i Y.here C.1 rfl (hb C.2.2.2.1 hd) rfl k) hr
theorem OGo.i2b (C : Cx p s m c Z own by0 ml) (X : Sd p l e R s m args below meth c n0 T h cells slots) {x : Int32} {z : Int32} (hd : decode by0 pc = .ok (.i2b, 1)) (hp : pc + 1 = pc') (hz : x.toInt8.toInt32 = z) (hr : OGo p e below K T (mkF m pc' Ls (.int z :: St))) : OGo p e below K T (mkF m pc Ls (.int x :: St)) := by
  subst hp
  subst hz
  obtain ⟨-, -, locs, Y, -⟩ := X
  exact OGo.st (fun t k => XS.i2b Y.here C.1 rfl (hb C.2.2.2.1 hd) rfl k) hr
theorem OGo.i2c (C : Cx p s m c Z own by0 ml) (X : Sd p l e R s m args below meth c n0 T h cells slots) {x : Int32} {z : Int32} (hd : decode by0 pc = .ok (.i2c, 1)) (hp : pc + 1 = pc') (hz : x.toUInt32.toUInt16.toUInt32.toInt32 = z) (hr : OGo p e below K T (mkF m pc' Ls (.int z :: St))) : OGo p e below K T (mkF m pc Ls (.int x :: St)) := by
  subst hp
  subst hz
  obtain ⟨-, -, locs, Y, -⟩ := X
  exact OGo.st (fun t k => XS.i2c Y.here C.1 rfl (hb C.2.2.2.1 hd) rfl k) hr
theorem OGo.i2s (C : Cx p s m c Z own by0 ml) (X : Sd p l e R s m args below meth c n0 T h cells slots) {x : Int32} {z : Int32} (hd : decode by0 pc = .ok (.i2s, 1)) (hp : pc + 1 = pc') (hz : x.toInt16.toInt32 = z) (hr : OGo p e below K T (mkF m pc' Ls (.int z :: St))) : OGo p e below K T (mkF m pc Ls (.int x :: St)) := by
  subst hp
  subst hz
  obtain ⟨-, -, locs, Y, -⟩ := X
  exact OGo.st (fun t k => XS.i2s Y.here C.1 rfl (hb C.2.2.2.1 hd) rfl k) hr
theorem OGo.lcmp (C : Cx p s m c Z own by0 ml) (X : Sd p l e R s m args below meth c n0 T h cells slots) {x y : Int64} {z : Int32} (hd : decode by0 pc = .ok (.lcmp, 1)) (hp : pc + 1 = pc') (hz : lcmpW x y = z) (hr : OGo p e below K T (mkF m pc' Ls (.int z :: St))) : OGo p e below K T (mkF m pc Ls (.long y :: .long x :: St)) := by
  subst hp
  subst hz
  obtain ⟨-, -, locs, Y, -⟩ := X
  exact OGo.st (fun t k => XS.lcmp Y.here C.1 rfl (hb C.2.2.2.1 hd) rfl k) hr
theorem OGo.i2d (C : Cx p s m c Z own by0 ml) (X : Sd p l e R s m args below meth c n0 T h cells slots) {x : Int32} {v : UInt64} (hd : decode by0 pc = .ok (.i2d, 1)) (hp : pc + 1 = pc') (hz : FP.i2d x = v) (hr : OGo p e below K T (mkF m pc' Ls (.double v :: St))) : OGo p e below K T (mkF m pc Ls (.int x :: St)) := by
  subst hp
  obtain ⟨-, -, locs, Y, -⟩ := X
  exact OGo.st (fun t k => XS.i2dS Y.here C.1 rfl (hb C.2.2.2.1 hd) rfl hz k) hr
theorem OGo.l2d (C : Cx p s m c Z own by0 ml) (X : Sd p l e R s m args below meth c n0 T h cells slots) {x : Int64} {v : UInt64} (hd : decode by0 pc = .ok (.l2d, 1)) (hp : pc + 1 = pc') (hz : FP.l2d x = v) (hr : OGo p e below K T (mkF m pc' Ls (.double v :: St))) : OGo p e below K T (mkF m pc Ls (.long x :: St)) := by
  subst hp
  obtain ⟨-, -, locs, Y, -⟩ := X
  exact OGo.st (fun t k => XS.l2dS Y.here C.1 rfl (hb C.2.2.2.1 hd) rfl hz k) hr
theorem OGo.d2i (C : Cx p s m c Z own by0 ml) (X : Sd p l e R s m args below meth c n0 T h cells slots) {x : UInt64} {v : Int32} (hd : decode by0 pc = .ok (.d2i, 1)) (hp : pc + 1 = pc') (hz : FP.d2i x = v) (hr : OGo p e below K T (mkF m pc' Ls (.int v :: St))) : OGo p e below K T (mkF m pc Ls (.double x :: St)) := by
  subst hp
  obtain ⟨-, -, locs, Y, -⟩ := X
  exact OGo.st (fun t k => XS.d2iS Y.here C.1 rfl (hb C.2.2.2.1 hd) rfl hz k) hr
theorem OGo.d2l (C : Cx p s m c Z own by0 ml) (X : Sd p l e R s m args below meth c n0 T h cells slots) {x : UInt64} {v : Int64} (hd : decode by0 pc = .ok (.d2l, 1)) (hp : pc + 1 = pc') (hz : FP.d2l x = v) (hr : OGo p e below K T (mkF m pc' Ls (.long v :: St))) : OGo p e below K T (mkF m pc Ls (.double x :: St)) := by
  subst hp
  obtain ⟨-, -, locs, Y, -⟩ := X
  exact OGo.st (fun t k => XS.d2lS Y.here C.1 rfl (hb C.2.2.2.1 hd) rfl hz k) hr
theorem OGo.dneg (C : Cx p s m c Z own by0 ml) (X : Sd p l e R s m args below meth c n0 T h cells slots) {x : UInt64} {v : UInt64} (hd : decode by0 pc = .ok (.dneg, 1)) (hp : pc + 1 = pc') (hz : FP.dneg x = v) (hr : OGo p e below K T (mkF m pc' Ls (.double v :: St))) : OGo p e below K T (mkF m pc Ls (.double x :: St)) := by
  subst hp
  obtain ⟨-, -, locs, Y, -⟩ := X
  exact OGo.st (fun t k => XS.dnegS Y.here C.1 rfl (hb C.2.2.2.1 hd) rfl hz k) hr
theorem OGo.dcmp (C : Cx p s m c Z own by0 ml) (X : Sd p l e R s m args below meth c n0 T h cells slots) {o : CmpOp} {x y : UInt64} {v : Int32} (hd : decode by0 pc = .ok (.dcmp o, 1)) (hp : pc + 1 = pc') (hz : cmpValue (FP.dcmp x y) o = v) (hr : OGo p e below K T (mkF m pc' Ls (.int v :: St))) : OGo p e below K T (mkF m pc Ls (.double y :: .double x :: St)) := by
  subst hp
  obtain ⟨-, -, locs, Y, -⟩ := X
  exact OGo.st (fun t k => XS.dcmpS Y.here C.1 rfl (hb C.2.2.2.1 hd) rfl hz k) hr
theorem OGo.dadd (C : Cx p s m c Z own by0 ml) (X : Sd p l e R s m args below meth c n0 T h cells slots) {x y v : UInt64} (hd : decode by0 pc = .ok (.dadd, 1)) (hp : pc + 1 = pc') (hn : Jvm.Free.Fl.NoNaN64 (FP.dadd x y)) (hz : FP.dadd x y = v) (hr : OGo p e below K T (mkF m pc' Ls (.double v :: St))) : OGo p e below K T (mkF m pc Ls (.double y :: .double x :: St)) := by
  subst hp
  obtain ⟨-, -, locs, Y, -⟩ := X
  exact OGo.st (fun t k => XS.daddS Y.here C.1 rfl (hb C.2.2.2.1 hd) rfl hn hz k) hr
theorem OGo.dsub (C : Cx p s m c Z own by0 ml) (X : Sd p l e R s m args below meth c n0 T h cells slots) {x y v : UInt64} (hd : decode by0 pc = .ok (.dsub, 1)) (hp : pc + 1 = pc') (hn : Jvm.Free.Fl.NoNaN64 (FP.dsub x y)) (hz : FP.dsub x y = v) (hr : OGo p e below K T (mkF m pc' Ls (.double v :: St))) : OGo p e below K T (mkF m pc Ls (.double y :: .double x :: St)) := by
  subst hp
  obtain ⟨-, -, locs, Y, -⟩ := X
  exact OGo.st (fun t k => XS.dsubS Y.here C.1 rfl (hb C.2.2.2.1 hd) rfl hn hz k) hr
theorem OGo.dmul (C : Cx p s m c Z own by0 ml) (X : Sd p l e R s m args below meth c n0 T h cells slots) {x y v : UInt64} (hd : decode by0 pc = .ok (.dmul, 1)) (hp : pc + 1 = pc') (hn : Jvm.Free.Fl.NoNaN64 (FP.dmul x y)) (hz : FP.dmul x y = v) (hr : OGo p e below K T (mkF m pc' Ls (.double v :: St))) : OGo p e below K T (mkF m pc Ls (.double y :: .double x :: St)) := by
  subst hp
  obtain ⟨-, -, locs, Y, -⟩ := X
  exact OGo.st (fun t k => XS.dmulS Y.here C.1 rfl (hb C.2.2.2.1 hd) rfl hn hz k) hr
theorem OGo.ddiv (C : Cx p s m c Z own by0 ml) (X : Sd p l e R s m args below meth c n0 T h cells slots) {x y v : UInt64} (hd : decode by0 pc = .ok (.ddiv, 1)) (hp : pc + 1 = pc') (hn : Jvm.Free.Fl.NoNaN64 (FP.ddiv x y)) (hz : FP.ddiv x y = v) (hr : OGo p e below K T (mkF m pc' Ls (.double v :: St))) : OGo p e below K T (mkF m pc Ls (.double y :: .double x :: St)) := by
  subst hp
  obtain ⟨-, -, locs, Y, -⟩ := X
  exact OGo.st (fun t k => XS.ddivS Y.here C.1 rfl (hb C.2.2.2.1 hd) rfl hn hz k) hr
theorem OGo.dup (C : Cx p s m c Z own by0 ml) (X : Sd p l e R s m args below meth c n0 T h cells slots) {x : Value} (hd : decode by0 pc = .ok (.dup, 1)) (hp : pc + 1 = pc') (hc : x.category = 1) (hr : OGo p e below K T (mkF m pc' Ls (x :: x :: St))) : OGo p e below K T (mkF m pc Ls (x :: St)) := by
  subst hp
  obtain ⟨-, -, locs, Y, -⟩ := X
  exact OGo.st (fun t k => XS.dup Y.here C.1 rfl (hb C.2.2.2.1 hd) rfl hc k) hr
theorem OGo.pop (C : Cx p s m c Z own by0 ml) (X : Sd p l e R s m args below meth c n0 T h cells slots) {x : Value} (hd : decode by0 pc = .ok (.pop, 1)) (hp : pc + 1 = pc') (hc : x.category = 1) (hr : OGo p e below K T (mkF m pc' Ls (St))) : OGo p e below K T (mkF m pc Ls (x :: St)) := by
  subst hp
  obtain ⟨-, -, locs, Y, -⟩ := X
  exact OGo.st (fun t k => XS.pop Y.here C.1 rfl (hb C.2.2.2.1 hd) rfl hc k) hr
theorem OGo.dup_x1 (C : Cx p s m c Z own by0 ml) (X : Sd p l e R s m args below meth c n0 T h cells slots) {x y : Value} (hd : decode by0 pc = .ok (.dup_x1, 1)) (hp : pc + 1 = pc') (hc : x.category = 1) (hc' : y.category = 1) (hr : OGo p e below K T (mkF m pc' Ls (x :: y :: x :: St))) : OGo p e below K T (mkF m pc Ls (x :: y :: St)) := by
  subst hp
  obtain ⟨-, -, locs, Y, -⟩ := X
  exact OGo.st (fun t k => XS.dupX1 Y.here C.1 rfl (hb C.2.2.2.1 hd) rfl hc hc' k) hr
theorem OGo.dup2 (C : Cx p s m c Z own by0 ml) (X : Sd p l e R s m args below meth c n0 T h cells slots) {x y : Value} (hd : decode by0 pc = .ok (.dup2, 1)) (hp : pc + 1 = pc') (hc : x.category = 1) (hc' : y.category = 1) (hr : OGo p e below K T (mkF m pc' Ls (x :: y :: x :: y :: St))) : OGo p e below K T (mkF m pc Ls (x :: y :: St)) := by
  subst hp
  obtain ⟨-, -, locs, Y, -⟩ := X
  exact OGo.st (fun t k => XT.dup2 Y.here C.1 rfl (hb C.2.2.2.1 hd) rfl hc hc' k) hr
theorem OGo.goto (C : Cx p s m c Z own by0 ml) (X : Sd p l e R s m args below meth c n0 T h cells slots)  {o : Int} (hd : decode by0 pc = .ok (.goto o, 3))  (ho : 0 ≤ (pc : Int) + o) (hp : ((pc : Int) + o).toNat = pc') (hr : OGo p e below K T (mkF m pc' Ls (St))) : OGo p e below K T (mkF m pc Ls (St)) := by
  obtain ⟨-, -, locs, Y, -⟩ := X
  exact OGo.st (fun t k => XS.goto Y.here C.1 rfl (pc0 := pc) rfl (hb C.2.2.2.1 hd)  ho hp k) hr
theorem OGo.ifYes (C : Cx p s m c Z own by0 ml) (X : Sd p l e R s m args below meth c n0 T h cells slots) {cd : ClassFile.Cond} {x : Int32} {o : Int} (hd : decode by0 pc = .ok (.ifCond cd o, 3)) (hc : if_icmp.holds cd x 0 = true) (ho : 0 ≤ (pc : Int) + o) (hp : ((pc : Int) + o).toNat = pc') (hr : OGo p e below K T (mkF m pc' Ls (St))) : OGo p e below K T (mkF m pc Ls (.int x :: St)) := by
  obtain ⟨-, -, locs, Y, -⟩ := X
  exact OGo.st (fun t k => XS.ifYes Y.here C.1 rfl (pc0 := pc) rfl (hb C.2.2.2.1 hd) rfl ((if0 _ _).trans hc) ho hp k) hr
theorem OGo.ifNo (C : Cx p s m c Z own by0 ml) (X : Sd p l e R s m args below meth c n0 T h cells slots) {cd : ClassFile.Cond} {x : Int32} {o : Int} (hd : decode by0 pc = .ok (.ifCond cd o, 3)) (hp : pc + 3 = pc') (hc : if_icmp.holds cd x 0 = false) (hr : OGo p e below K T (mkF m pc' Ls (St))) : OGo p e below K T (mkF m pc Ls (.int x :: St)) := by
  subst hp
  obtain ⟨-, -, locs, Y, -⟩ := X
  exact OGo.st (fun t k => XS.ifNo Y.here C.1 rfl (hb C.2.2.2.1 hd) rfl ((if0 _ _).trans hc) k) hr
theorem OGo.icmpYes (C : Cx p s m c Z own by0 ml) (X : Sd p l e R s m args below meth c n0 T h cells slots) {cd : ClassFile.Cond} {x y : Int32} {o : Int} (hd : decode by0 pc = .ok (.if_icmp cd o, 3)) (hc : if_icmp.holds cd x y = true) (ho : 0 ≤ (pc : Int) + o) (hp : ((pc : Int) + o).toNat = pc') (hr : OGo p e below K T (mkF m pc' Ls (St))) : OGo p e below K T (mkF m pc Ls (.int y :: .int x :: St)) := by
  obtain ⟨-, -, locs, Y, -⟩ := X
  exact OGo.st (fun t k => XS.icmpYes Y.here C.1 rfl (pc0 := pc) rfl (hb C.2.2.2.1 hd) rfl hc ho hp k) hr
theorem OGo.icmpNo (C : Cx p s m c Z own by0 ml) (X : Sd p l e R s m args below meth c n0 T h cells slots) {cd : ClassFile.Cond} {x y : Int32} {o : Int} (hd : decode by0 pc = .ok (.if_icmp cd o, 3)) (hp : pc + 3 = pc') (hc : if_icmp.holds cd x y = false) (hr : OGo p e below K T (mkF m pc' Ls (St))) : OGo p e below K T (mkF m pc Ls (.int y :: .int x :: St)) := by
  subst hp
  obtain ⟨-, -, locs, Y, -⟩ := X
  exact OGo.st (fun t k => XS.icmpNo Y.here C.1 rfl (hb C.2.2.2.1 hd) rfl hc k) hr
theorem OGo.ifnullYes (C : Cx p s m c Z own by0 ml) (X : Sd p l e R s m args below meth c n0 T h cells slots)  {o : Int} (hd : decode by0 pc = .ok (.ifnull o, 3))  (ho : 0 ≤ (pc : Int) + o) (hp : ((pc : Int) + o).toNat = pc') (hr : OGo p e below K T (mkF m pc' Ls (St))) : OGo p e below K T (mkF m pc Ls (.null :: St)) := by
  obtain ⟨-, -, locs, Y, -⟩ := X
  exact OGo.st (fun t k => XS.ifnullYes Y.here C.1 rfl (pc0 := pc) rfl (hb C.2.2.2.1 hd) rfl ho hp k) hr
theorem OGo.ifnullNo (C : Cx p s m c Z own by0 ml) (X : Sd p l e R s m args below meth c n0 T h cells slots) {b : Addr} {o : Int} (hd : decode by0 pc = .ok (.ifnull o, 3)) (hp : pc + 3 = pc')  (hr : OGo p e below K T (mkF m pc' Ls (St))) : OGo p e below K T (mkF m pc Ls (.ref b :: St)) := by
  subst hp
  obtain ⟨-, -, locs, Y, -⟩ := X
  exact OGo.st (fun t k => XS.ifnullNo Y.here C.1 rfl (hb C.2.2.2.1 hd) rfl k) hr
theorem OGo.ifnonnullYes (C : Cx p s m c Z own by0 ml) (X : Sd p l e R s m args below meth c n0 T h cells slots) {b : Addr} {o : Int} (hd : decode by0 pc = .ok (.ifnonnull o, 3))  (ho : 0 ≤ (pc : Int) + o) (hp : ((pc : Int) + o).toNat = pc') (hr : OGo p e below K T (mkF m pc' Ls (St))) : OGo p e below K T (mkF m pc Ls (.ref b :: St)) := by
  obtain ⟨-, -, locs, Y, -⟩ := X
  exact OGo.st (fun t k => XS.ifnonnullYes Y.here C.1 rfl (pc0 := pc) rfl (hb C.2.2.2.1 hd) rfl ho hp k) hr
theorem OGo.ifnonnullNo (C : Cx p s m c Z own by0 ml) (X : Sd p l e R s m args below meth c n0 T h cells slots)  {o : Int} (hd : decode by0 pc = .ok (.ifnonnull o, 3)) (hp : pc + 3 = pc')  (hr : OGo p e below K T (mkF m pc' Ls (St))) : OGo p e below K T (mkF m pc Ls (.null :: St)) := by
  subst hp
  obtain ⟨-, -, locs, Y, -⟩ := X
  exact OGo.st (fun t k => XS.ifnonnullNo Y.here C.1 rfl (hb C.2.2.2.1 hd) rfl k) hr
theorem OGo.acmp (C : Cx p s m c Z own by0 ml) (X : Sd p l e R s m args below meth c n0 T h cells slots) {cd : ACond} {x y : Value} (h1 : x.isRef = true) (h2 : y.isRef = true) {o : Int} {same : Bool} (hd : decode by0 pc = .ok (.if_acmp cd o, 3)) (hq : decide (x = y) = same) (ho : 0 ≤ (pc : Int) + o) (hp : pc' = if acV cd same = true then ((pc : Int) + o).toNat else pc + 3) (hr : OGo p e below K T (mkF m pc' Ls (St))) : OGo p e below K T (mkF m pc Ls (y :: x :: St)) := by
  obtain ⟨-, -, locs, Y, -⟩ := X
  exact OGo.st (fun t k => RoadKit.acmp Y C.1 rfl h1 h2 (pc0 := pc) rfl (hb C.2.2.2.1 hd) rfl hq ho hp k) hr
theorem OGo.ldcInt (C : Cx p s m c Z own by0 ml) (X : Sd p l e R s m args below meth c n0 T h cells slots) {idx : Nat} {v : Int32} (w : (Jvm.Cond.constant own idx v).before a0 Z = true) (hd : decode by0 pc = .ok (.ldc idx, 2)) (hp : pc + 2 = pc') (hr : OGo p e below K T (mkF m pc' Ls (.int v :: St))) : OGo p e below K T (mkF m pc Ls (St)) := by
  subst hp
  obtain ⟨-, -, locs, Y, -⟩ := X
  exact OGo.st (fun t k => Y.ldcInt C.1 C.2.2.1 (mvT C.2.1 w) (g := mkF m pc Ls St) rfl (hb C.2.2.2.1 hd) t k) hr
theorem OGo.ldc2Long (C : Cx p s m c Z own by0 ml) (X : Sd p l e R s m args below meth c n0 T h cells slots) {idx : Nat} {v : Int64} (w : (Jvm.Cond.constantLong own idx v).before a0 Z = true) (hd : decode by0 pc = .ok (.ldc2_w idx, 3)) (hp : pc + 3 = pc') (hr : OGo p e below K T (mkF m pc' Ls (.long v :: St))) : OGo p e below K T (mkF m pc Ls (St)) := by
  subst hp
  obtain ⟨-, -, locs, Y, -⟩ := X
  exact OGo.st (fun t k => Y.ldc2Long C.1 C.2.2.1 (mvT C.2.1 w) (g := mkF m pc Ls St) rfl (hb C.2.2.2.1 hd) t k) hr
theorem OGo.ldc2Double (C : Cx p s m c Z own by0 ml) (X : Sd p l e R s m args below meth c n0 T h cells slots) {idx : Nat} {v : UInt64} (w : (Jvm.Cond.constantDouble own idx v).before a0 Z = true) (hd : decode by0 pc = .ok (.ldc2_w idx, 3)) (hp : pc + 3 = pc') (hr : OGo p e below K T (mkF m pc' Ls (.double v :: St))) : OGo p e below K T (mkF m pc Ls (St)) := by
  subst hp
  obtain ⟨-, -, locs, Y, -⟩ := X
  exact OGo.st (fun t k => Y.ldc2DoubleC C.1 C.2.2.1 (mvT C.2.1 w) (g := mkF m pc Ls St) rfl (hb C.2.2.2.1 hd) t k) hr
theorem OGo.ldcStr (C : Cx p s m c Z own by0 ml) (X : Sd p l e R s m args below meth c n0 T h cells slots) {idx : Nat} {text : String} {a : Addr} (w : (Jvm.Cond.stringRef own idx text).before a0 Z = true) (L : RoadKit.Lit Z own idx a) (hd : decode by0 pc = .ok (.ldc idx, 2)) (hp : pc + 2 = pc') (hr : OGo p e below K T (mkF m pc' Ls (.ref a :: St))) : OGo p e below K T (mkF m pc Ls (St)) := by
  subst hp
  obtain ⟨-, -, locs, Y, -⟩ := X
  exact OGo.st (fun t k => ldcR Y C.1 C.2.1 C.2.2.1 w L (g := mkF m pc Ls St) rfl (hb C.2.2.2.1 hd) t k) hr
theorem OGo.arraylength (C : Cx p s m c Z own by0 ml) (X : Sd p l e R s m args below meth c n0 T h cells slots) {a : Addr} {k : ClassId} {ty : FieldType} {z : Int32} {vs : List Value} {dv : Value} (V : Arv Z h a k ty z vs dv) (hd : decode by0 pc = .ok (.arraylength, 1)) (hp : pc + 1 = pc') (hr : OGo p e below K T (mkF m pc' Ls (.int z :: St))) : OGo p e below K T (mkF m pc Ls (.ref a :: St)) := by
  subst hp
  obtain ⟨eT, -, locs, Y, -⟩ := X
  obtain ⟨cl, A, -, S, q, -⟩ := V
  refine OGo.st (fun t k => Y.arraylength C.1 (by rw [eT]; exact A.1) (State.isArrayOf_alike C.2.1.alike A.2.1) (g := mkF m pc Ls (.ref a :: St)) rfl rfl (hb C.2.2.2.1 hd) t ?_) hr
  rw [len_of S q]; exact k
theorem OGo.iaload (C : Cx p s m c Z own by0 ml) (X : Sd p l e R s m args below meth c n0 T h cells slots) {a : Addr} {k : ClassId} {z : Int32} {vs : List Value} {dv : Value} (V : Arv Z h a k .int z vs dv) {j : Int32} {v : Int32} (hd : decode by0 pc = .ok (.iaload, 1)) (hp : pc + 1 = pc') (hj : ¬ j < 0 ∧ j < z) (hv : vs.getD j.toNatClampNeg dv = .int v) (hr : OGo p e below K T (mkF m pc' Ls (.int v :: St))) : OGo p e below K T (mkF m pc Ls (.int j :: .ref a :: St)) := by
  subst hp
  obtain ⟨eT, -, locs, Y, -⟩ := X
  obtain ⟨cl, A, -, S, q, H, -⟩ := V
  exact OGo.st (fun t k => Y.iaload C.1 (by rw [eT]; exact A.1) (State.isArrayOf_alike C.2.1.alike A.2.1) A.2.2 (inb_of S hj) (Has.at H (inb_of S hj) hv) (g := mkF m pc Ls (.int j :: .ref a :: St)) rfl rfl (hb C.2.2.2.1 hd) t k) hr
theorem OGo.laload (C : Cx p s m c Z own by0 ml) (X : Sd p l e R s m args below meth c n0 T h cells slots) {a : Addr} {k : ClassId} {z : Int32} {vs : List Value} {dv : Value} (V : Arv Z h a k .long z vs dv) {j : Int32} {v : Int64} (hd : decode by0 pc = .ok (.laload, 1)) (hp : pc + 1 = pc') (hj : ¬ j < 0 ∧ j < z) (hv : vs.getD j.toNatClampNeg dv = .long v) (hr : OGo p e below K T (mkF m pc' Ls (.long v :: St))) : OGo p e below K T (mkF m pc Ls (.int j :: .ref a :: St)) := by
  subst hp
  obtain ⟨eT, -, locs, Y, -⟩ := X
  obtain ⟨cl, A, -, S, q, H, -⟩ := V
  exact OGo.st (fun t k => Y.laload C.1 (by rw [eT]; exact A.1) (State.isArrayOf_alike C.2.1.alike A.2.1) A.2.2 (inb_of S hj) (Has.at H (inb_of S hj) hv) (g := mkF m pc Ls (.int j :: .ref a :: St)) rfl rfl (hb C.2.2.2.1 hd) t k) hr
theorem OGo.daload (C : Cx p s m c Z own by0 ml) (X : Sd p l e R s m args below meth c n0 T h cells slots) {a : Addr} {k : ClassId} {z : Int32} {vs : List Value} {dv : Value} (V : Arv Z h a k .double z vs dv) {j : Int32} {v : UInt64} (hd : decode by0 pc = .ok (.daload, 1)) (hp : pc + 1 = pc') (hj : ¬ j < 0 ∧ j < z) (hv : vs.getD j.toNatClampNeg dv = .double v) (hr : OGo p e below K T (mkF m pc' Ls (.double v :: St))) : OGo p e below K T (mkF m pc Ls (.int j :: .ref a :: St)) := by
  subst hp
  obtain ⟨eT, -, locs, Y, -⟩ := X
  obtain ⟨cl, A, -, S, q, H, -⟩ := V
  exact OGo.st (fun t k => Y.daload C.1 (by rw [eT]; exact A.1) (State.isArrayOf_alike C.2.1.alike A.2.1) A.2.2 (inb_of S hj) (Has.at H (inb_of S hj) hv) (g := mkF m pc Ls (.int j :: .ref a :: St)) rfl rfl (hb C.2.2.2.1 hd) t k) hr
theorem OGo.caload (C : Cx p s m c Z own by0 ml) (X : Sd p l e R s m args below meth c n0 T h cells slots) {a : Addr} {k : ClassId} {z : Int32} {vs : List Value} {dv : Value} (V : Arv Z h a k .char z vs dv) {j : Int32} {v : Int32} (hd : decode by0 pc = .ok (.caload, 1)) (hp : pc + 1 = pc') (hj : ¬ j < 0 ∧ j < z) (hv : vs.getD j.toNatClampNeg dv = .int v) (hr : OGo p e below K T (mkF m pc' Ls (.int v :: St))) : OGo p e below K T (mkF m pc Ls (.int j :: .ref a :: St)) := by
  subst hp
  obtain ⟨eT, -, locs, Y, -⟩ := X
  obtain ⟨cl, A, -, S, q, H, -⟩ := V
  exact OGo.st (fun t k => Y.caload C.1 (by rw [eT]; exact A.1) (State.isArrayOf_alike C.2.1.alike A.2.1) A.2.2 (inb_of S hj) (Has.at H (inb_of S hj) hv) (g := mkF m pc Ls (.int j :: .ref a :: St)) rfl rfl (hb C.2.2.2.1 hd) t k) hr
theorem OGo.baloadB (C : Cx p s m c Z own by0 ml) (X : Sd p l e R s m args below meth c n0 T h cells slots) {a : Addr} {k : ClassId} {z : Int32} {vs : List Value} {dv : Value} (V : Arv Z h a k .byte z vs dv) {j : Int32} {v : Int32} (hd : decode by0 pc = .ok (.baload, 1)) (hp : pc + 1 = pc') (hj : ¬ j < 0 ∧ j < z) (hv : vs.getD j.toNatClampNeg dv = .int v) (hr : OGo p e below K T (mkF m pc' Ls (.int v :: St))) : OGo p e below K T (mkF m pc Ls (.int j :: .ref a :: St)) := by
  subst hp
  obtain ⟨eT, -, locs, Y, -⟩ := X
  obtain ⟨cl, A, -, S, q, H, -⟩ := V
  exact OGo.st (fun t k => Y.baloadBytes C.1 (by rw [eT]; exact A.1) (State.isArrayOf_alike C.2.1.alike A.2.1) A.2.2 (inb_of S hj) (Has.at H (inb_of S hj) hv) (g := mkF m pc Ls (.int j :: .ref a :: St)) rfl rfl (hb C.2.2.2.1 hd) t k) hr
theorem OGo.baloadZ (C : Cx p s m c Z own by0 ml) (X : Sd p l e R s m args below meth c n0 T h cells slots) {a : Addr} {k : ClassId} {z : Int32} {vs : List Value} {dv : Value} (V : Arv Z h a k .boolean z vs dv) {j : Int32} {v : Int32} (hd : decode by0 pc = .ok (.baload, 1)) (hp : pc + 1 = pc') (hj : ¬ j < 0 ∧ j < z) (hv : vs.getD j.toNatClampNeg dv = .int v) (hr : OGo p e below K T (mkF m pc' Ls (.int v :: St))) : OGo p e below K T (mkF m pc Ls (.int j :: .ref a :: St)) := by
  subst hp
  obtain ⟨eT, -, locs, Y, -⟩ := X
  obtain ⟨cl, A, -, S, q, H, -⟩ := V
  exact OGo.st (fun t k => Y.baloadBooleans C.1 (by rw [eT]; exact A.1) (State.isArrayOf_alike C.2.1.alike A.2.1) A.2.2 (inb_of S hj) (Has.at H (inb_of S hj) hv) (g := mkF m pc Ls (.int j :: .ref a :: St)) rfl rfl (hb C.2.2.2.1 hd) t k) hr
theorem OGo.iastore (C : Cx p s m c Z own by0 ml) (X : Sd p l e R s m args below meth c n0 T h cells slots) {a : Addr} {k : ClassId} {z : Int32} {vs : List Value} {dv : Value} (V : Arv Z h a k .int z vs dv) (ga : n0 ≤ a) {j : Int32} {x : Int32} {i : Nat} (hd : decode by0 pc = .ok (.iastore, 1)) (hp : pc + 1 = pc') (hj : ¬ j < 0 ∧ j < z) (hi : j.toNatClampNeg = i) (hl : i < vs.length)
    (hr : ∀ T' h', Sd p l e R s m args below meth c n0 T' h' cells slots → Wr h h' a i (.int x) → Arv Z h' a k .int z (vs.set i (.int x)) dv → OGo p e below K T' (mkF m pc' Ls St)) : OGo p e below K T (mkF m pc Ls (.int x :: .int j :: .ref a :: St)) := by
  subst hp hi
  obtain ⟨eT, hn, locs, Y, N⟩ := X
  obtain ⟨cl, A, q1, S, q, H, Gt⟩ := V
  obtain ⟨T', h', Y', e', W, st⟩ := stI Y C.1 C.2.1 eT A (inb_of S hj) (g := mkF m pc Ls (.int x :: .int j :: .ref a :: St)) rfl rfl (hb C.2.2.2.1 hd)
  exact OGo.st st (hr T' h' ⟨e', by rw [W.size]; exact hn, _, Y', Fr.snoc Y' N ga⟩ W (Arv.set A q1 S q H Gt rfl W _ rfl hl))
theorem OGo.lastore (C : Cx p s m c Z own by0 ml) (X : Sd p l e R s m args below meth c n0 T h cells slots) {a : Addr} {k : ClassId} {z : Int32} {vs : List Value} {dv : Value} (V : Arv Z h a k .long z vs dv) (ga : n0 ≤ a) {j : Int32} {x : Int64} {i : Nat} (hd : decode by0 pc = .ok (.lastore, 1)) (hp : pc + 1 = pc') (hj : ¬ j < 0 ∧ j < z) (hi : j.toNatClampNeg = i) (hl : i < vs.length)
    (hr : ∀ T' h', Sd p l e R s m args below meth c n0 T' h' cells slots → Wr h h' a i (.long x) → Arv Z h' a k .long z (vs.set i (.long x)) dv → OGo p e below K T' (mkF m pc' Ls St)) : OGo p e below K T (mkF m pc Ls (.long x :: .int j :: .ref a :: St)) := by
  subst hp hi
  obtain ⟨eT, hn, locs, Y, N⟩ := X
  obtain ⟨cl, A, q1, S, q, H, Gt⟩ := V
  obtain ⟨T', h', Y', e', W, st⟩ := stJ Y C.1 C.2.1 eT A (inb_of S hj) (g := mkF m pc Ls (.long x :: .int j :: .ref a :: St)) rfl rfl (hb C.2.2.2.1 hd)
  exact OGo.st st (hr T' h' ⟨e', by rw [W.size]; exact hn, _, Y', Fr.snoc Y' N ga⟩ W (Arv.set A q1 S q H Gt rfl W _ rfl hl))
theorem OGo.dastore (C : Cx p s m c Z own by0 ml) (X : Sd p l e R s m args below meth c n0 T h cells slots) {a : Addr} {k : ClassId} {z : Int32} {vs : List Value} {dv : Value} (V : Arv Z h a k .double z vs dv) (ga : n0 ≤ a) {j : Int32} {x : UInt64} {i : Nat} (hd : decode by0 pc = .ok (.dastore, 1)) (hp : pc + 1 = pc') (hj : ¬ j < 0 ∧ j < z) (hi : j.toNatClampNeg = i) (hl : i < vs.length)
    (hr : ∀ T' h', Sd p l e R s m args below meth c n0 T' h' cells slots → Wr h h' a i (.double x) → Arv Z h' a k .double z (vs.set i (.double x)) dv → OGo p e below K T' (mkF m pc' Ls St)) : OGo p e below K T (mkF m pc Ls (.double x :: .int j :: .ref a :: St)) := by
  subst hp hi
  obtain ⟨eT, hn, locs, Y, N⟩ := X
  obtain ⟨cl, A, q1, S, q, H, Gt⟩ := V
  obtain ⟨T', h', Y', e', W, st⟩ := stD Y C.1 C.2.1 eT A (inb_of S hj) (g := mkF m pc Ls (.double x :: .int j :: .ref a :: St)) rfl rfl (hb C.2.2.2.1 hd)
  exact OGo.st st (hr T' h' ⟨e', by rw [W.size]; exact hn, _, Y', Fr.snoc Y' N ga⟩ W (Arv.set A q1 S q H Gt rfl W _ rfl hl))
theorem OGo.castore (C : Cx p s m c Z own by0 ml) (X : Sd p l e R s m args below meth c n0 T h cells slots) {a : Addr} {k : ClassId} {z : Int32} {vs : List Value} {dv : Value} (V : Arv Z h a k .char z vs dv) (ga : n0 ≤ a) {j : Int32} {x : Int32} {i : Nat} (hd : decode by0 pc = .ok (.castore, 1)) (hp : pc + 1 = pc') (hj : ¬ j < 0 ∧ j < z) (hi : j.toNatClampNeg = i) (hl : i < vs.length)
    (hr : ∀ T' h', Sd p l e R s m args below meth c n0 T' h' cells slots → Wr h h' a i (.int (nar .char x)) → Arv Z h' a k .char z (vs.set i (.int (nar .char x))) dv → OGo p e below K T' (mkF m pc' Ls St)) : OGo p e below K T (mkF m pc Ls (.int x :: .int j :: .ref a :: St)) := by
  subst hp hi
  obtain ⟨eT, hn, locs, Y, N⟩ := X
  obtain ⟨cl, A, q1, S, q, H, Gt⟩ := V
  obtain ⟨T', h', Y', e', W, st⟩ := stC Y C.1 C.2.1 eT A (inb_of S hj) (g := mkF m pc Ls (.int x :: .int j :: .ref a :: St)) rfl rfl (hb C.2.2.2.1 hd)
  exact OGo.st st (hr T' h' ⟨e', by rw [W.size]; exact hn, _, Y', Fr.snoc Y' N ga⟩ W (Arv.set A q1 S q H Gt (fits_nar_char x) W _ rfl hl))
theorem OGo.bastoreB (C : Cx p s m c Z own by0 ml) (X : Sd p l e R s m args below meth c n0 T h cells slots) {a : Addr} {k : ClassId} {z : Int32} {vs : List Value} {dv : Value} (V : Arv Z h a k .byte z vs dv) (ga : n0 ≤ a) {j : Int32} {x : Int32} {i : Nat} (hd : decode by0 pc = .ok (.bastore, 1)) (hp : pc + 1 = pc') (hj : ¬ j < 0 ∧ j < z) (hi : j.toNatClampNeg = i) (hl : i < vs.length)
    (hr : ∀ T' h', Sd p l e R s m args below meth c n0 T' h' cells slots → Wr h h' a i (.int (nar .byte x)) → Arv Z h' a k .byte z (vs.set i (.int (nar .byte x))) dv → OGo p e below K T' (mkF m pc' Ls St)) : OGo p e below K T (mkF m pc Ls (.int x :: .int j :: .ref a :: St)) := by
  subst hp hi
  obtain ⟨eT, hn, locs, Y, N⟩ := X
  obtain ⟨cl, A, q1, S, q, H, Gt⟩ := V
  obtain ⟨T', h', Y', e', W, st⟩ := stB Y C.1 C.2.1 eT A (inb_of S hj) (g := mkF m pc Ls (.int x :: .int j :: .ref a :: St)) rfl rfl (hb C.2.2.2.1 hd)
  exact OGo.st st (hr T' h' ⟨e', by rw [W.size]; exact hn, _, Y', Fr.snoc Y' N ga⟩ W (Arv.set A q1 S q H Gt (fits_nar_byte x) W _ rfl hl))
theorem OGo.bastoreZ (C : Cx p s m c Z own by0 ml) (X : Sd p l e R s m args below meth c n0 T h cells slots) {a : Addr} {k : ClassId} {z : Int32} {vs : List Value} {dv : Value} (V : Arv Z h a k .boolean z vs dv) (ga : n0 ≤ a) {j : Int32} {x : Int32} {i : Nat} (hd : decode by0 pc = .ok (.bastore, 1)) (hp : pc + 1 = pc') (hj : ¬ j < 0 ∧ j < z) (hi : j.toNatClampNeg = i) (hl : i < vs.length)
    (hr : ∀ T' h', Sd p l e R s m args below meth c n0 T' h' cells slots → Wr h h' a i (.int (nar .boolean x)) → Arv Z h' a k .boolean z (vs.set i (.int (nar .boolean x))) dv → OGo p e below K T' (mkF m pc' Ls St)) : OGo p e below K T (mkF m pc Ls (.int x :: .int j :: .ref a :: St)) := by
  subst hp hi
  obtain ⟨eT, hn, locs, Y, N⟩ := X
  obtain ⟨cl, A, q1, S, q, H, Gt⟩ := V
  obtain ⟨T', h', Y', e', W, st⟩ := stZ Y C.1 C.2.1 eT A (inb_of S hj) (g := mkF m pc Ls (.int x :: .int j :: .ref a :: St)) rfl rfl (hb C.2.2.2.1 hd)
  exact OGo.st st (hr T' h' ⟨e', by rw [W.size]; exact hn, _, Y', Fr.snoc Y' N ga⟩ W (Arv.set A q1 S q H Gt (fits_nar_bool x) W _ rfl hl))
theorem OGo.newarray (C : Cx p s m c Z own by0 ml) (X : Sd p l e R s m args below meth c n0 T h cells slots) {aty : ArrayType} {ty : FieldType} {n : Int32} {cap : Nat} {d0 : Value} (w : (Jvm.Cond.arrayClass ty).before a0 Z = true) (hty : newarray.typeOf aty = ty) (hd : decode by0 pc = .ok (.newarray aty, 2)) (hp : pc + 2 = pc') (hn : ¬ n < 0) (hcap : n.toNatClampNeg ≤ cap) (hb8 : cap * 8 ≤ 536870912) (hdv : defaultValue ty = d0) (hc' : cells + 1 = cells') (hs' : slots + cap = slots') (hc : cells' ≤ R.cells) (hl : slots' ≤ R.slots)
    (hr : ∀ T' h' a k, Sd p l e R s m args below meth c n0 T' h' cells' slots' → a = h.size → n0 ≤ a → Ext h h' → Arv Z h' a k ty n [] d0 → OGo p e below K T' (mkF m pc' Ls (.ref a :: St))) : OGo p e below K T (mkF m pc Ls (.int n :: St)) := by
  subst hp hc' hs' hty hdv
  obtain ⟨eT, hn0, locs, Y, N⟩ := X
  obtain ⟨T', h', cA, Y', e', E, A, st⟩ := newP Y C.1 C.2.1 w eT (g := mkF m pc Ls (.int n :: St)) rfl (hb C.2.2.2.1 hd) rfl hn hcap hb8 hc hl
  exact OGo.st st (hr T' h' _ cA ⟨e', Nat.le_trans hn0 E.1, _, Y', N⟩ rfl hn0 E (Arv.new A hn))
theorem OGo.newarrayE (C : Cx p s m c Z own by0 ml) (X : Sd p l e R s m args below meth c n0 T h cells slots) {aty : ArrayType} {ty : FieldType} {n : Int32} {cap : Nat} {d0 : Value} {ad : String} (w : (Jvm.Cond.arrayClass ty).before a0 Z = true) (hty : newarray.typeOf aty = ty) (had : "[" ++ ty.toString = ad) (hd : decode by0 pc = .ok (.newarray aty, 2)) (hp : pc + 2 = pc') (hn : ¬ n < 0) (hcap : n.toNatClampNeg ≤ cap) (hb8 : cap * 8 ≤ 536870912) (hdv : defaultValue ty = d0) (hc' : cells + 1 = cells') (hs' : slots + cap = slots') (hc : cells' ≤ R.cells) (hl : slots' ≤ R.slots)
    (hr : ∀ T' h' a k, Sd p l e R s m args below meth c n0 T' h' cells' slots' → a = h.size → n0 ≤ a → Ext h h' → Arv Z h' a k ty n [] d0 → Exa Z h' a ad → OGo p e below K T' (mkF m pc' Ls (.ref a :: St))) : OGo p e below K T (mkF m pc Ls (.int n :: St)) := by
  subst hp hc' hs' hty hdv
  obtain ⟨eT, hn0, locs, Y, N⟩ := X
  obtain ⟨T', h', cA, Y', e', E, A, EE, st⟩ := newPE Y C.1 C.2.1 w eT (g := mkF m pc Ls (.int n :: St)) rfl (hb C.2.2.2.1 hd) rfl hn hcap hb8 hc hl had
  exact OGo.st st (hr T' h' _ cA ⟨e', Nat.le_trans hn0 E.1, _, Y', N⟩ rfl hn0 E (Arv.new A hn) EE)
theorem OGo.new (C : Cx p s m c Z own by0 ml) (X : Sd p l e R s m args below meth c n0 T h cells slots) {Cn : String} {idx n : Nat} (w : (Jvm.Cond.classLink own idx Cn).before a0 Z = true) (wi : (Jvm.Cond.instantiable Cn n).before a0 Z = true) (wz : (Jvm.Cond.initialized Cn).before a0 Z = true) (hd : decode by0 pc = .ok (.new idx, 3)) (hp : pc + 3 = pc') (hc' : cells + 1 = cells') (hs' : slots + n = slots') (hc : cells' ≤ R.cells) (hl : slots' ≤ R.slots)
    (hr : ∀ T' h' a, Sd p l e R s m args below meth c n0 T' h' cells' slots' → a = h.size → n0 ≤ a → Ext h h' → Exa Z h' a Cn → (∀ {O nm d : String} {ty : FieldType}, Laid Z a0 Cn O nm d → parseFieldDescriptor d = some ty → Fld Z h' a O nm d (defaultValue ty)) → Unt h' a → OGo p e below K T' (mkF m pc' Ls (.ref a :: St))) : OGo p e below K T (mkF m pc Ls (St)) := by
  subst hp hc' hs'
  obtain ⟨eT, hn0, locs, Y, N⟩ := X
  obtain ⟨T', h', Y', e', E, A, D, U, st⟩ := newO Y C.1 C.2.1 C.2.2.1 w wi wz eT (g := mkF m pc Ls St) rfl (hb C.2.2.2.1 hd) hc hl
  exact OGo.st st (hr T' h' _ ⟨e', Nat.le_trans hn0 E.1, _, Y', N⟩ rfl hn0 E A D U)
theorem OGo.getfield (C : Cx p s m c Z own by0 ml) (X : Sd p l e R s m args below meth c n0 T h cells slots) {R0 O n d host : String} {idx : Nat} {a : Addr} {v : Value} (w : (Jvm.Cond.fieldLink own idx R0 n d).before a0 Z = true ∨ (Jvm.Cond.fieldLinkNest own idx R0 n d host).before a0 Z = true) (via : Via Z R0 O n d) (F : Fld Z h a O n d v) (hd : decode by0 pc = .ok (.getfield idx, 3)) (hp : pc + 3 = pc')
    (hr : ∀ T', Sd p l e R s m args below meth c n0 T' h cells slots → OGo p e below K T' (mkF m pc' Ls (v :: St))) : OGo p e below K T (mkF m pc Ls (.ref a :: St)) := by
  subst hp
  obtain ⟨eT, hn0, locs, Y, N⟩ := X
  obtain ⟨T', Y', e', st⟩ := getF Y C.1 C.2.1 C.2.2.1 w via eT F (g := mkF m pc Ls (.ref a :: St)) rfl rfl (hb C.2.2.2.1 hd)
  exact OGo.st st (hr T' ⟨e', hn0, _, Y', N⟩)
theorem OGo.putfield (C : Cx p s m c Z own by0 ml) (X : Sd p l e R s m args below meth c n0 T h cells slots) {R0 O n d host Cn : String} {idx kk : Nat} {ty : FieldType} {a : Addr} {v old : Value} (w : (Jvm.Cond.fieldLink own idx R0 n d).before a0 Z = true ∨ (Jvm.Cond.fieldLinkNest own idx R0 n d host).before a0 Z = true) (via : Via Z R0 O n d) (F : Fld Z h a O n d old) (E : Exa Z h a Cn) (ga : n0 ≤ a)
    (L : (Jvm.Cond.lays Cn O n d).before a0 Z = true ∨ ((Jvm.Cond.laysFinal Cn O n d).before a0 Z = true ∧ own = O ∧ meth.name = "<init>")) (wi : (Jvm.Cond.instantiable Cn kk).before a0 Z = true) (hty : parseFieldDescriptor d = some ty) (hnn : narrow ty v = v) (hf : fits ty v = true) (hd : decode by0 pc = .ok (.putfield idx, 3)) (hp : pc + 3 = pc')
    (hr : ∀ T' h', Sd p l e R s m args below meth c n0 T' h' cells slots → Wr h h' a (RoadKit.slotOf Z O n d) v → Fld Z h' a O n d v → OGo p e below K T' (mkF m pc' Ls St)) : OGo p e below K T (mkF m pc Ls (v :: .ref a :: St)) := by
  subst hp
  obtain ⟨eT, hn0, locs, Y, N⟩ := X
  obtain ⟨T', h', Y', e', W, st⟩ := putF Y C.1 C.2.1 C.2.2.1 w via eT F E L wi hty hnn hf (g := mkF m pc Ls (v :: .ref a :: St)) rfl rfl (hb C.2.2.2.1 hd)
  exact OGo.st st (hr T' h' ⟨e', by rw [W.size]; exact hn0, _, Y', Fr.snoc Y' N ga⟩ W (F.same W))
theorem OGo.putfieldN (C : Cx p s m c Z own by0 ml) (X : Sd p l e R s m args below meth c n0 T h cells slots) {R0 O n d Cn : String} {idx kk : Nat} {ty : FieldType} {a : Addr} {v v' old : Value} (w : (Jvm.Cond.fieldLink own idx R0 n d).before a0 Z = true) (via : Via Z R0 O n d) (F : Fld Z h a O n d old) (E : Exa Z h a Cn) (ga : n0 ≤ a)
    (L : (Jvm.Cond.lays Cn O n d).before a0 Z = true ∨ ((Jvm.Cond.laysFinal Cn O n d).before a0 Z = true ∧ own = O ∧ meth.name = "<init>")) (wi : (Jvm.Cond.instantiable Cn kk).before a0 Z = true) (hty : parseFieldDescriptor d = some ty) (hnn : narrow ty v = v') (hf : fits ty v' = true) (hd : decode by0 pc = .ok (.putfield idx, 3)) (hp : pc + 3 = pc')
    (hr : ∀ T' h', Sd p l e R s m args below meth c n0 T' h' cells slots → Wr h h' a (RoadKit.slotOf Z O n d) v' → Fld Z h' a O n d v' → OGo p e below K T' (mkF m pc' Ls St)) : OGo p e below K T (mkF m pc Ls (v :: .ref a :: St)) := by
  subst hp
  obtain ⟨eT, hn0, locs, Y, N⟩ := X
  obtain ⟨T', h', Y', e', W, st⟩ := putFN Y C.1 C.2.1 C.2.2.1 w via eT F E L wi hty hnn hf (g := mkF m pc Ls (v :: .ref a :: St)) rfl rfl (hb C.2.2.2.1 hd)
  exact OGo.st st (hr T' h' ⟨e', by rw [W.size]; exact hn0, _, Y', Fr.snoc Y' N ga⟩ W (F.same W))
theorem OGo.getstatic (C : Cx p s m c Z own by0 ml) (X : Sd p l e R s m args below meth c n0 T h cells slots) {R0 O n d host : String} {idx : Nat} {v : Value} (w : (Jvm.Cond.fieldLink own idx R0 n d).before a0 Z = true ∨ (Jvm.Cond.fieldLinkNest own idx R0 n d host).before a0 Z = true) (via : Via Z R0 O n d) (F : Sta Z h O n d v) (hd : decode by0 pc = .ok (.getstatic idx, 3)) (hp : pc + 3 = pc')
    (hr : ∀ T', Sd p l e R s m args below meth c n0 T' h cells slots → OGo p e below K T' (mkF m pc' Ls (v :: St))) : OGo p e below K T (mkF m pc Ls (St)) := by
  subst hp
  obtain ⟨eT, hn0, locs, Y, N⟩ := X
  obtain ⟨T', Y', e', st⟩ := getS2 Y C.1 C.2.1 C.2.2.1 w via eT F (g := mkF m pc Ls St) rfl (hb C.2.2.2.1 hd)
  exact OGo.st st (hr T' ⟨e', hn0, _, Y', N⟩)
theorem OGo.checkcast (C : Cx p s m c Z own by0 ml) (X : Sd p l e R s m args below meth c n0 T h cells slots) {Kn : String} {idx : Nat} {a : Addr} (w : (Jvm.Cond.classLink own idx Kn).before a0 Z = true) (F : Ins Z h a Kn true) (hd : decode by0 pc = .ok (.checkcast idx, 3)) (hp : pc + 3 = pc')
    (hr : ∀ T', Sd p l e R s m args below meth c n0 T' h cells slots → OGo p e below K T' (mkF m pc' Ls (.ref a :: St))) : OGo p e below K T (mkF m pc Ls (.ref a :: St)) := by
  subst hp
  obtain ⟨eT, hn0, locs, Y, N⟩ := X
  obtain ⟨T', Y', e', st⟩ := castY Y C.1 C.2.1 C.2.2.1 w eT F (g := mkF m pc Ls (.ref a :: St)) rfl rfl (hb C.2.2.2.1 hd)
  exact OGo.st st (hr T' ⟨e', hn0, _, Y', N⟩)
theorem OGo.instYes (C : Cx p s m c Z own by0 ml) (X : Sd p l e R s m args below meth c n0 T h cells slots) {Kn : String} {idx : Nat} {a : Addr} (w : (Jvm.Cond.classLink own idx Kn).before a0 Z = true) (F : Ins Z h a Kn true) (hd : decode by0 pc = .ok (.instanceof idx, 3)) (hp : pc + 3 = pc')
    (hr : ∀ T', Sd p l e R s m args below meth c n0 T' h cells slots → OGo p e below K T' (mkF m pc' Ls (.int 1 :: St))) : OGo p e below K T (mkF m pc Ls (.ref a :: St)) := by
  subst hp
  obtain ⟨eT, hn0, locs, Y, N⟩ := X
  obtain ⟨T', Y', e', st⟩ := instY Y C.1 C.2.1 C.2.2.1 w eT F (g := mkF m pc Ls (.ref a :: St)) rfl rfl (hb C.2.2.2.1 hd)
  exact OGo.st st (hr T' ⟨e', hn0, _, Y', N⟩)
theorem OGo.instNo (C : Cx p s m c Z own by0 ml) (X : Sd p l e R s m args below meth c n0 T h cells slots) {Kn Cn : String} {idx : Nat} {a : Addr} (w : (Jvm.Cond.classLink own idx Kn).before a0 Z = true) (E : Exa Z h a Cn) (F : ∃ c t, Z.vm.findClass Cn = some c ∧ Z.vm.findClass Kn = some t ∧ Z.vm.assignable c t = false) (hd : decode by0 pc = .ok (.instanceof idx, 3)) (hp : pc + 3 = pc')
    (hr : ∀ T', Sd p l e R s m args below meth c n0 T' h cells slots → OGo p e below K T' (mkF m pc' Ls (.int 0 :: St))) : OGo p e below K T (mkF m pc Ls (.ref a :: St)) := by
  subst hp
  obtain ⟨eT, hn0, locs, Y, N⟩ := X
  obtain ⟨T', Y', e', st⟩ := RoadKit.instNo Y C.1 C.2.1 C.2.2.1 w eT E F (g := mkF m pc Ls (.ref a :: St)) rfl rfl (hb C.2.2.2.1 hd)
  exact OGo.st st (hr T' ⟨e', hn0, _, Y', N⟩)
theorem OGo.initObj (C : Cx p s m c Z own by0 ml) (X : Sd p l e R s m args below meth c n0 T h cells slots) {idx : Nat} {a : Addr} (w1 : (Jvm.Cond.methodLink own idx Lib.objectInit).before a0 Z = true) (w2 : (Jvm.Cond.instanceMethod Lib.objectInit).before a0 Z = true) (w3 : (Jvm.Cond.code Lib.objectInit ⟨#[0xb1]⟩ 1 none).before a0 Z = true) (hd : decode by0 pc = .ok (.invokespecial idx, 3)) (hp : pc + 3 = pc') (hsz : Ls.size = ml) (hf : 1 ≤ R.frames) (hl : (St.map fun v => v.category).sum + 12 ≤ R.locals)
    (hr : ∀ T', Sd p l e R s m args below meth c n0 T' h cells slots → OGo p e below K T' (mkF m pc' Ls St)) : OGo p e below K T (mkF m pc Ls (.ref a :: St)) := by
  subst hp
  obtain ⟨eT, hn0, locs, Y, N⟩ := X
  obtain ⟨T', Y', e', st⟩ := initO Y C.1 C.2.1 C.2.2.1 w1 w2 w3 eT (g := mkF m pc Ls (.ref a :: St)) rfl (by rw [C.2.2.2.2]; exact hsz) rfl (hb C.2.2.2.1 hd) hf (W := (St.map fun v => v.category).sum) (by show 2 * 0 + _ ≤ _; omega) hl
  exact OGo.st st (hr T' ⟨e', hn0, _, Y', N⟩)
theorem OGo.ret (C : Cx p s m c Z own by0 ml) (X : Sd p l e R s m args below meth c n0 T h cells slots)  {Q : Option Value → Heap → Prop} {nc ns : Nat} (hd : decode by0 pc = .ok (.return_, 1)) (hret : meth.sig.returnType = none) (hlk : meth.locks = false) (hQ : Q (none) h) (hc : cells ≤ nc) (hs : slots ≤ ns) : OGo p e below (Kk s below n0 Q nc ns) T (mkF m pc Ls ([])) := by
  obtain ⟨eT, hn0, locs, Y, N⟩ := X
  obtain ⟨fs, hr, hrun, hended, hW, hsame⟩ := Y.leave (v := none) (fun hh => by rfl) hlk
  exact ⟨_, _, Y.returnOut C.1 hret (hb C.2.2.2.1 hd) hr, hrun, hended, _, locs, rfl, ⟨by show Q _ T.heap; rw [eT]; exact hQ, N⟩, ⟨_, rfl⟩, hW, hsame.mono hc hs⟩
theorem OGo.retInt (C : Cx p s m c Z own by0 ml) (X : Sd p l e R s m args below meth c n0 T h cells slots) {z : Int32} {rest : List Value} {Q : Option Value → Heap → Prop} {nc ns : Nat} (hd : decode by0 pc = .ok (.ireturn, 1)) (hret : meth.sig.returnType = some .int) (hlk : meth.locks = false) (hQ : Q (some (.int z)) h) (hc : cells ≤ nc) (hs : slots ≤ ns) : OGo p e below (Kk s below n0 Q nc ns) T (mkF m pc Ls (.int z :: rest)) := by
  obtain ⟨eT, hn0, locs, Y, N⟩ := X
  obtain ⟨fs, hr, hrun, hended, hW, hsame⟩ := Y.leave (v := some (.int z)) (fun hh => by rw [hret] at hh; cases hh) hlk
  exact ⟨_, _, retOut Y C.1 (i := .ireturn) hret rfl (Or.inl ⟨rfl, Or.inl rfl, _, rfl⟩) (hb C.2.2.2.1 hd) hr, hrun, hended, _, locs, rfl, ⟨by show Q _ T.heap; rw [eT]; exact hQ, N⟩, ⟨_, rfl⟩, hW, hsame.mono hc hs⟩
theorem OGo.retN (C : Cx p s m c Z own by0 ml) (X : Sd p l e R s m args below meth c n0 T h cells slots) {z z' : Int32} {rest : List Value} {t : FieldType} {Q : Option Value → Heap → Prop} {nc ns : Nat} (hd : decode by0 pc = .ok (.ireturn, 1)) (hret : meth.sig.returnType = some t) (ht : t = .boolean ∨ t = .byte ∨ t = .char ∨ t = .short) (hz : nar t z = z') (hlk : meth.locks = false) (hQ : Q (some (.int z')) h) (hc : cells ≤ nc) (hs : slots ≤ ns) : OGo p e below (Kk s below n0 Q nc ns) T (mkF m pc Ls (.int z :: rest)) := by
  subst hz
  obtain ⟨eT, hn0, locs, Y, N⟩ := X
  obtain ⟨fs, hr, hrun, hended, hW, hsame⟩ := Y.leave (v := some (.int (nar t z))) (fun hh => by rw [hret] at hh; cases hh) hlk
  exact ⟨_, _, RoadKit.retN Y C.1 hret ht (hb C.2.2.2.1 hd) hr, hrun, hended, _, locs, rfl, ⟨by show Q _ T.heap; rw [eT]; exact hQ, N⟩, ⟨_, rfl⟩, hW, hsame.mono hc hs⟩
theorem OGo.retD (C : Cx p s m c Z own by0 ml) (X : Sd p l e R s m args below meth c n0 T h cells slots) {z : UInt64} {rest : List Value} {Q : Option Value → Heap → Prop} {nc ns : Nat} (hd : decode by0 pc = .ok (.dreturn, 1)) (hret : meth.sig.returnType = some .double) (hlk : meth.locks = false) (hQ : Q (some (.double z)) h) (hc : cells ≤ nc) (hs : slots ≤ ns) : OGo p e below (Kk s below n0 Q nc ns) T (mkF m pc Ls (.double z :: rest)) := by
  obtain ⟨eT, hn0, locs, Y, N⟩ := X
  obtain ⟨fs, hr, hrun, hended, hW, hsame⟩ := Y.leave (v := some (.double z)) (fun hh => by rw [hret] at hh; cases hh) hlk
  exact ⟨_, _, retOut Y C.1 (i := .dreturn) hret rfl (Or.inr (Or.inr (Or.inl ⟨rfl, rfl, _, rfl⟩))) (hb C.2.2.2.1 hd) hr, hrun, hended, _, locs, rfl, ⟨by show Q _ T.heap; rw [eT]; exact hQ, N⟩, ⟨_, rfl⟩, hW, hsame.mono hc hs⟩
theorem OGo.retL (C : Cx p s m c Z own by0 ml) (X : Sd p l e R s m args below meth c n0 T h cells slots) {z : Int64} {rest : List Value} {Q : Option Value → Heap → Prop} {nc ns : Nat} (hd : decode by0 pc = .ok (.lreturn, 1)) (hret : meth.sig.returnType = some .long) (hlk : meth.locks = false) (hQ : Q (some (.long z)) h) (hc : cells ≤ nc) (hs : slots ≤ ns) : OGo p e below (Kk s below n0 Q nc ns) T (mkF m pc Ls (.long z :: rest)) := by
  obtain ⟨eT, hn0, locs, Y, N⟩ := X
  obtain ⟨fs, hr, hrun, hended, hW, hsame⟩ := Y.leave (v := some (.long z)) (fun hh => by rw [hret] at hh; cases hh) hlk
  exact ⟨_, _, retOut Y C.1 (i := .lreturn) hret rfl (Or.inr (Or.inl ⟨rfl, rfl, _, rfl⟩)) (hb C.2.2.2.1 hd) hr, hrun, hended, _, locs, rfl, ⟨by show Q _ T.heap; rw [eT]; exact hQ, N⟩, ⟨_, rfl⟩, hW, hsame.mono hc hs⟩
theorem OGo.retA (C : Cx p s m c Z own by0 ml) (X : Sd p l e R s m args below meth c n0 T h cells slots) {z : Value} {rest : List Value} {t : FieldType} {Q : Option Value → Heap → Prop} {nc ns : Nat} (hd : decode by0 pc = .ok (.areturn, 1)) (hret : meth.sig.returnType = some t) (ht : t.isReference = true) (hz : z.isRef = true) (hlk : meth.locks = false) (hQ : Q (some z) h) (hc : cells ≤ nc) (hs : slots ≤ ns) : OGo p e below (Kk s below n0 Q nc ns) T (mkF m pc Ls (z :: rest)) := by
  obtain ⟨eT, hn0, locs, Y, N⟩ := X
  obtain ⟨fs, hr, hrun, hended, hW, hsame⟩ := Y.leave (v := some z) (fun hh => by rw [hret] at hh; cases hh) hlk
  exact ⟨_, _, retOut Y C.1 (i := .areturn) hret (by rcases ref_cases hz with rfl | ⟨b, rfl⟩ <;> cases t <;> first | rfl | cases ht) (Or.inr (Or.inr (Or.inr (Or.inr ⟨rfl, ht, hz⟩)))) (hb C.2.2.2.1 hd) hr, hrun, hended, _, locs, rfl, ⟨by show Q _ T.heap; rw [eT]; exact hQ, N⟩, ⟨_, rfl⟩, hW, hsame.mono hc hs⟩
theorem backC {y : MethodName} {cb : ByteArray} {cml : Nat} {ret : Option FieldType} {rm : Room} {as' : Array Value} {Q : Option Value → Heap → Prop} {len W : Nat} (hM : Ctr l Z y cb cml ret rm n0 as' h Q) (hZ : Z.Warmed39 s.vm) (wc : (Jvm.Cond.code y cb cml ret).before a0 Z = true) (wz : (Jvm.Cond.initialized y.cls).before a0 Z = true) (hf : rm.frames + 1 ≤ R.frames) (hl : W + (cml + 11) + rm.locals ≤ R.locals) :
    Back l R p e below s args y len W (fun A a => a = as' ∧ A.U.heap = h ∧ A.cells + rm.cells ≤ R.cells ∧ A.slots + rm.slots ≤ R.slots) (fun A _ v B => ∃ L, ((Q v B.U.heap ∧ h.size ≤ B.U.heap.size) ∧ Fr n0 L) ∧ B.locs = A.locs ++ L ∧ B.cells = A.cells + rm.cells ∧ B.slots = A.slots + rm.slots) :=
  backOf (Q := fun v h' L => (Q v h' ∧ h.size ≤ h'.size) ∧ Fr n0 L) (hM []) hZ wc wz hf hl
theorem OGo.callS (C : Cx p s m c Z own by0 ml) (X : Sd p l e R s m args below meth c n0 T h cells slots) {y : MethodName} {cb : ByteArray} {cml : Nat} {ret : Option FieldType} {rm : Room} {as' : Array Value} {Q : Option Value → Heap → Prop} {idx : Nat}  (w1 : (Jvm.Cond.methodLink own idx y).before a0 Z = true) (w2 : (Jvm.Cond.static y).before a0 Z = true) (hy : y.cls ≠ "java/lang/invoke/MethodHandle" ∧ y.cls ≠ "java/lang/invoke/VarHandle") (w4 : (Jvm.Cond.code y cb cml ret).before a0 Z = true) (w5 : (Jvm.Cond.initialized y.cls).before a0 Z = true) (hM : Ctr l Z y cb cml ret rm n0 as' h Q) {argsL : List Value} (hlen : ∀ sig, parseMethodDescriptor y.desc = some sig → argsL.length = sig.parameters.length) (has : argsL.toArray = as') (hd : decode by0 pc = .ok (.invokestatic idx, 3)) (hp : pc + 3 = pc') (hsz : Ls.size = ml) (hf : rm.frames + 1 ≤ R.frames) (hl : (St.map fun v => v.category).sum + (cml + 11) + rm.locals ≤ R.locals) (hc' : cells + rm.cells = cells') (hs' : slots + rm.slots = slots') (hc : cells' ≤ R.cells) (hs : slots' ≤ R.slots)
    (hr : ∀ v T' h', Q v h' → Sd p l e R s m args below meth c n0 T' h' cells' slots' → h.size ≤ h'.size → OGo p e below K T' (mkF m pc' Ls (v.toList ++ St))) : OGo p e below K T (mkF m pc Ls (argsL.reverse ++ St)) := by
  subst hp hc' hs' has
  obtain ⟨eT, hn0, locs, Y, N⟩ := X
  have hK := backC (args := args) (p := p) (e := e) (below := below) (R := R) (len := 3) (W := (St.map fun v => v.category).sum) hM C.2.1 w4 w5 hf hl
  obtain ⟨v, _, ⟨B, L2, k2, n2⟩, -, Y', ⟨L, hQ, l1, y1, z1⟩, st⟩ := Jvm.LawKit.callS Y C.1 (y := y) C.2.2.1 (mvT C.2.1 w1) (mvT C.2.1 w2) (mvT C.2.1 w5) (mvT C.2.1 w4) hy hK (g := mkF m pc Ls (argsL.reverse ++ St)) rfl (by rw [C.2.2.2.2]; exact hsz) (argsL := argsL) (rest := St) hlen rfl (by show 2 * 0 + _ ≤ _; omega) (hb C.2.2.2.1 hd) (fun _ _ => ⟨rfl, eT, hc, hs⟩)
  dsimp only [Pt.U, Pt.locs, Pt.cells, Pt.slots] at Y' l1 y1 z1 st hQ
  subst l1 y1 z1
  obtain ⟨⟨hQ, hge⟩, hF⟩ := hQ
  exact OGo.st st (hr v B B.heap hQ ⟨rfl, Nat.le_trans hn0 hge, _, Y', N.app hF⟩ hge)
theorem OGo.callInit (C : Cx p s m c Z own by0 ml) (X : Sd p l e R s m args below meth c n0 T h cells slots) {y : MethodName} {cb : ByteArray} {cml : Nat} {ret : Option FieldType} {rm : Room} {as' : Array Value} {Q : Option Value → Heap → Prop} {idx : Nat} {a : Addr} (hy1 : y.name = "<init>") (hrn : ret = none) (w1 : (Jvm.Cond.methodLink own idx y).before a0 Z = true) (w2 : (Jvm.Cond.instanceMethod y).before a0 Z = true) (hy : y.cls ≠ "java/lang/invoke/MethodHandle" ∧ y.cls ≠ "java/lang/invoke/VarHandle") (w4 : (Jvm.Cond.code y cb cml ret).before a0 Z = true) (w5 : (Jvm.Cond.initialized y.cls).before a0 Z = true) (hM : Ctr l Z y cb cml ret rm n0 as' h Q) {argsL : List Value} (hlen : ∀ sig, parseMethodDescriptor y.desc = some sig → argsL.length = sig.parameters.length) (has : (Value.ref a :: argsL).toArray = as') (hd : decode by0 pc = .ok (.invokespecial idx, 3)) (hp : pc + 3 = pc') (hsz : Ls.size = ml) (hf : rm.frames + 1 ≤ R.frames) (hl : (St.map fun v => v.category).sum + (cml + 11) + rm.locals ≤ R.locals) (hc' : cells + rm.cells = cells') (hs' : slots + rm.slots = slots') (hc : cells' ≤ R.cells) (hs : slots' ≤ R.slots)
    (hr : ∀ v T' h', Q v h' → Sd p l e R s m args below meth c n0 T' h' cells' slots' → h.size ≤ h'.size → OGo p e below K T' (mkF m pc' Ls (v.toList ++ St))) : OGo p e below K T (mkF m pc Ls (argsL.reverse ++ Value.ref a :: St)) := by
  subst hp hc' hs' has
  obtain ⟨eT, hn0, locs, Y, N⟩ := X
  have hK := backC (args := args) (p := p) (e := e) (below := below) (R := R) (len := 3) (W := (St.map fun v => v.category).sum) hM C.2.1 w4 w5 hf hl
  obtain ⟨v, _, ⟨B, L2, k2, n2⟩, -, Y', ⟨L, hQ, l1, y1, z1⟩, st⟩ := Y.specialBack C.1 (y := y) hy1 C.2.2.1 (mvT C.2.1 w1) (mvT C.2.1 w2) (mvT C.2.1 (hrn ▸ w4)) hy hK (g := mkF m pc Ls (argsL.reverse ++ Value.ref a :: St)) rfl (by rw [C.2.2.2.2]; exact hsz) (Steps.refl _) (a := a) (argsL := argsL) (rest := St) hlen rfl (by show 2 * 0 + _ ≤ _; omega) (hb C.2.2.2.1 hd) (fun _ _ => ⟨rfl, eT, hc, hs⟩)
  dsimp only [Pt.U, Pt.locs, Pt.cells, Pt.slots] at Y' l1 y1 z1 st hQ
  subst l1 y1 z1
  obtain ⟨⟨hQ, hge⟩, hF⟩ := hQ
  exact OGo.tr st (hr v B B.heap hQ ⟨rfl, Nat.le_trans hn0 hge, _, Y', N.app hF⟩ hge)
theorem OGo.callV (C : Cx p s m c Z own by0 ml) (X : Sd p l e R s m args below meth c n0 T h cells slots) {y : MethodName} {cb : ByteArray} {cml : Nat} {ret : Option FieldType} {rm : Room} {as' : Array Value} {Q : Option Value → Heap → Prop} {idx : Nat} {a : Addr} {Cn : String} (w1 : (Jvm.Cond.methodLink own idx y).before a0 Z = true) (w2 : (Jvm.Cond.declares y).before a0 Z = true) (w3 : (Jvm.Cond.selects Cn y y).before a0 Z = true) (w6 : (Jvm.Cond.instanceMethod y).before a0 Z = true) (hy : y.cls ≠ "java/lang/invoke/MethodHandle" ∧ y.cls ≠ "java/lang/invoke/VarHandle") (E : Exa Z h a Cn) (w4 : (Jvm.Cond.code y cb cml ret).before a0 Z = true) (w5 : (Jvm.Cond.initialized y.cls).before a0 Z = true) (hM : Ctr l Z y cb cml ret rm n0 as' h Q) {argsL : List Value} (hlen : ∀ sig, parseMethodDescriptor y.desc = some sig → argsL.length = sig.parameters.length) (has : (Value.ref a :: argsL).toArray = as') (hd : decode by0 pc = .ok (.invokevirtual idx, 3)) (hp : pc + 3 = pc') (hsz : Ls.size = ml) (hf : rm.frames + 1 ≤ R.frames) (hl : (St.map fun v => v.category).sum + (cml + 11) + rm.locals ≤ R.locals) (hc' : cells + rm.cells = cells') (hs' : slots + rm.slots = slots') (hc : cells' ≤ R.cells) (hs : slots' ≤ R.slots)
    (hr : ∀ v T' h', Q v h' → Sd p l e R s m args below meth c n0 T' h' cells' slots' → h.size ≤ h'.size → OGo p e below K T' (mkF m pc' Ls (v.toList ++ St))) : OGo p e below K T (mkF m pc Ls (argsL.reverse ++ Value.ref a :: St)) := by
  subst hp hc' hs' has
  obtain ⟨eT, hn0, locs, Y, N⟩ := X
  have hK := backC (args := args) (p := p) (e := e) (below := below) (R := R) (len := 3) (W := (St.map fun v => v.category).sum) hM C.2.1 w4 w5 hf hl
  obtain ⟨v, _, ⟨B, L2, k2, n2⟩, -, Y', ⟨L, hQ, l1, y1, z1⟩, st⟩ := (let ⟨_, _, q1, _, q3⟩ := isOf C.2.1 eT E; Y.virtualBack C.1 (y := y) (z := y) C.2.2.1 (mvT C.2.1 w1) (mvT C.2.1 w2) (notFace_of_selects (args := #[]) (mvT C.2.1 w3)) (mvT C.2.1 w3) (mvT C.2.1 w6) hy hK q1 q3 (g := mkF m pc Ls (argsL.reverse ++ Value.ref a :: St)) rfl (by rw [C.2.2.2.2]; exact hsz) (Steps.refl _) (argsL := argsL) (rest := St) hlen rfl (by show 2 * 0 + _ ≤ _; omega) (hb C.2.2.2.1 hd) (fun _ _ => ⟨rfl, eT, hc, hs⟩))
  dsimp only [Pt.U, Pt.locs, Pt.cells, Pt.slots] at Y' l1 y1 z1 st hQ
  subst l1 y1 z1
  obtain ⟨⟨hQ, hge⟩, hF⟩ := hQ
  exact OGo.tr st (hr v B B.heap hQ ⟨rfl, Nat.le_trans hn0 hge, _, Y', N.app hF⟩ hge)
theorem OGo.callV2 (C : Cx p s m c Z own by0 ml) (X : Sd p l e R s m args below meth c n0 T h cells slots) {y : MethodName} {cb : ByteArray} {cml : Nat} {ret : Option FieldType} {rm : Room} {as' : Array Value} {Q : Option Value → Heap → Prop} {idx : Nat} {yr : MethodName} {a : Addr} {Cn : String} (w1 : (Jvm.Cond.methodLink own idx yr).before a0 Z = true) (w2 : (Jvm.Cond.declares yr).before a0 Z = true) (hnf : NotFace s yr) (w3 : (Jvm.Cond.selects Cn yr y).before a0 Z = true) (w6 : (Jvm.Cond.instanceMethod y).before a0 Z = true) (hy : yr.cls ≠ "java/lang/invoke/MethodHandle" ∧ yr.cls ≠ "java/lang/invoke/VarHandle") (hds : yr.desc = y.desc) (E : Exa Z h a Cn) (w4 : (Jvm.Cond.code y cb cml ret).before a0 Z = true) (w5 : (Jvm.Cond.initialized y.cls).before a0 Z = true) (hM : Ctr l Z y cb cml ret rm n0 as' h Q) {argsL : List Value} (hlen : ∀ sig, parseMethodDescriptor y.desc = some sig → argsL.length = sig.parameters.length) (has : (Value.ref a :: argsL).toArray = as') (hd : decode by0 pc = .ok (.invokevirtual idx, 3)) (hp : pc + 3 = pc') (hsz : Ls.size = ml) (hf : rm.frames + 1 ≤ R.frames) (hl : (St.map fun v => v.category).sum + (cml + 11) + rm.locals ≤ R.locals) (hc' : cells + rm.cells = cells') (hs' : slots + rm.slots = slots') (hc : cells' ≤ R.cells) (hs : slots' ≤ R.slots)
    (hr : ∀ v T' h', Q v h' → Sd p l e R s m args below meth c n0 T' h' cells' slots' → h.size ≤ h'.size → OGo p e below K T' (mkF m pc' Ls (v.toList ++ St))) : OGo p e below K T (mkF m pc Ls (argsL.reverse ++ Value.ref a :: St)) := by
  subst hp hc' hs' has
  obtain ⟨eT, hn0, locs, Y, N⟩ := X
  have hK := backC (args := args) (p := p) (e := e) (below := below) (R := R) (len := 3) (W := (St.map fun v => v.category).sum) hM C.2.1 w4 w5 hf hl
  obtain ⟨v, _, ⟨B, L2, k2, n2⟩, -, Y', ⟨L, hQ, l1, y1, z1⟩, st⟩ := (let ⟨_, _, q1, _, q3⟩ := isOf C.2.1 eT E; Y.virtualBack C.1 (y := yr) (z := y) C.2.2.1 (mvT C.2.1 w1) (mvT C.2.1 w2) hnf (mvT C.2.1 w3) (mvT C.2.1 w6) hy hK q1 q3 (g := mkF m pc Ls (argsL.reverse ++ Value.ref a :: St)) rfl (by rw [C.2.2.2.2]; exact hsz) (Steps.refl _) (argsL := argsL) (rest := St) (hds ▸ hlen) rfl (by show 2 * 0 + _ ≤ _; omega) (hb C.2.2.2.1 hd) (fun _ _ => ⟨rfl, eT, hc, hs⟩))
  dsimp only [Pt.U, Pt.locs, Pt.cells, Pt.slots] at Y' l1 y1 z1 st hQ
  subst l1 y1 z1
  obtain ⟨⟨hQ, hge⟩, hF⟩ := hQ
  exact OGo.tr st (hr v B B.heap hQ ⟨rfl, Nat.le_trans hn0 hge, _, Y', N.app hF⟩ hge)
theorem OGo.clone (C : Cx p s m c Z own by0 ml) (X : Sd p l e R s m args below meth c n0 T h cells slots) {ad : String} {idx : Nat} {a : Addr} {k : ClassId} {ty : FieldType} {z : Int32} {vs : List Value} {dv : Value} {cap : Nat} (w1 : (Jvm.Cond.methodLink own idx ⟨ad, "clone", "()Ljava/lang/Object;"⟩).before a0 Z = true) (w2 : (Jvm.Cond.sameMethod ad "java/lang/Object" "clone" "()Ljava/lang/Object;").before a0 Z = true) (w3 : (Jvm.Cond.native ⟨"java/lang/Object", "clone", "()Ljava/lang/Object;"⟩).before a0 Z = true)
    (w4 : (Jvm.Cond.instanceMethod ⟨"java/lang/Object", "clone", "()Ljava/lang/Object;"⟩).before a0 Z = true) (w5 : (Jvm.Cond.selects ad ⟨ad, "clone", "()Ljava/lang/Object;"⟩ ⟨"java/lang/Object", "clone", "()Ljava/lang/Object;"⟩).before a0 Z = true) (w6 : (Jvm.Cond.castable ad "java/lang/Cloneable").before a0 Z = true) (V : Arv Z h a k ty z vs dv) (E : Exa Z h a ad)
    (hd : decode by0 pc = .ok (.invokevirtual idx, 3)) (hp : pc + 3 = pc') (hsz : Ls.size = ml) (hf : 1 ≤ R.frames) (hl : (St.map fun v => v.category).sum + 14 ≤ R.locals) (hcap : z.toNatClampNeg ≤ cap) (hc' : cells + 1 = cells') (hs' : slots + cap = slots') (hc : cells' ≤ R.cells) (hs : slots' ≤ R.slots)
    (hr : ∀ T' h' b, Sd p l e R s m args below meth c n0 T' h' cells' slots' → b = h.size → n0 ≤ b → Ext h h' → Arv Z h' b k ty z vs dv → Exa Z h' b ad → OGo p e below K T' (mkF m pc' Ls (.ref b :: St))) : OGo p e below K T (mkF m pc Ls (.ref a :: St)) := by
  subst hp hc' hs'
  obtain ⟨eT, hn0, locs, Y, N⟩ := X
  obtain ⟨T', h', Y', e', Ex, A, EE, st⟩ := cloneH Y C.1 C.2.1 C.2.2.1 w1 w2 w3 w4 w5 w6 eT (Arv.arh V) E (g := mkF m pc Ls (.ref a :: St)) rfl (by rw [C.2.2.2.2]; exact hsz) rfl (hb C.2.2.2.1 hd) hf (W := (St.map fun v => v.category).sum) (by show 2 * 0 + _ ≤ _; omega) hl hcap hc hs
  exact OGo.st st (hr T' h' _ ⟨e', Nat.le_trans hn0 Ex.1, _, Y', N⟩ rfl hn0 Ex A EE)
theorem priv_selects {y : MethodName} {k : Nat} (hZ : Z.Warmed39 s.vm) (w2 : (Jvm.Cond.instanceMethod y).before a0 Z = true) (w3 : (Jvm.Cond.privateMethod y).before a0 Z = true) (wi : (Jvm.Cond.instantiable y.cls k).before a0 Z = true) (hy : y.cls ≠ "java/lang/invoke/MethodHandle" ∧ y.cls ≠ "java/lang/invoke/VarHandle") : (Jvm.Cond.selects y.cls y y).before args s = true := by
  obtain ⟨c, k, h1, h2, -, h4, -⟩ := Cond.instantiable_spec (show (Jvm.Cond.instantiable y.cls k).before args s = true from mvT hZ wi)
  have h5 : k.isInterface = false := by
    cases hq : k.isInterface
    · rfl
    · rw [hq] at h4; cases h4
  exact selects_self_of_private h1 h2 h5 (Cond.privateMethod_at (mvP hZ w3 (args := #[]))) (mvT hZ w2) hy
theorem OGo.callPriv (C : Cx p s m c Z own by0 ml) (X : Sd p l e R s m args below meth c n0 T h cells slots) {y : MethodName} {cb : ByteArray} {cml : Nat} {ret : Option FieldType} {rm : Room} {as' : Array Value} {Q : Option Value → Heap → Prop} {idx : Nat} {a : Addr} {Cn : String} {kk : Nat} (w1 : (Jvm.Cond.methodLink own idx y).before a0 Z = true) (w2 : (Jvm.Cond.instanceMethod y).before a0 Z = true) (w3 : (Jvm.Cond.privateMethod y).before a0 Z = true) (wi : (Jvm.Cond.instantiable y.cls kk).before a0 Z = true) (hy : y.cls ≠ "java/lang/invoke/MethodHandle" ∧ y.cls ≠ "java/lang/invoke/VarHandle") (E : Exa Z h a Cn) (w4 : (Jvm.Cond.code y cb cml ret).before a0 Z = true) (w5 : (Jvm.Cond.initialized y.cls).before a0 Z = true) (hM : Ctr l Z y cb cml ret rm n0 as' h Q) {argsL : List Value} (hlen : ∀ sig, parseMethodDescriptor y.desc = some sig → argsL.length = sig.parameters.length) (has : (Value.ref a :: argsL).toArray = as') (hd : decode by0 pc = .ok (.invokevirtual idx, 3)) (hp : pc + 3 = pc') (hsz : Ls.size = ml) (hf : rm.frames + 1 ≤ R.frames) (hl : (St.map fun v => v.category).sum + (cml + 11) + rm.locals ≤ R.locals) (hc' : cells + rm.cells = cells') (hs' : slots + rm.slots = slots') (hc : cells' ≤ R.cells) (hs : slots' ≤ R.slots)
    (hr : ∀ v T' h', Q v h' → Sd p l e R s m args below meth c n0 T' h' cells' slots' → h.size ≤ h'.size → OGo p e below K T' (mkF m pc' Ls (v.toList ++ St))) : OGo p e below K T (mkF m pc Ls (argsL.reverse ++ Value.ref a :: St)) := by
  subst hp hc' hs' has
  obtain ⟨eT, hn0, locs, Y, N⟩ := X
  have hK := backC (args := args) (p := p) (e := e) (below := below) (R := R) (len := 3) (W := (St.map fun v => v.category).sum) hM C.2.1 w4 w5 hf hl
  obtain ⟨v, _, ⟨B, L2, k2, n2⟩, -, Y', ⟨L, hQ, l1, y1, z1⟩, st⟩ := (let ⟨_, q1, q2⟩ := E.cell; Y.privateBack C.1 (y := y) C.2.2.1 (mvT C.2.1 w1) (mvT C.2.1 w2) (priv_selects C.2.1 w2 w3 wi hy) (Cond.privateMethod_at (mvP C.2.1 w3 (args := #[]))) (mvT C.2.1 w4) hy hK (g := mkF m pc Ls (argsL.reverse ++ Value.ref a :: St)) rfl (by rw [C.2.2.2.2]; exact hsz) (Steps.refl _) (a := a) (by rw [eT]; exact q1) q2 (argsL := argsL) (rest := St) hlen rfl (by show 2 * 0 + _ ≤ _; omega) (hb C.2.2.2.1 hd) (fun _ _ => ⟨rfl, eT, hc, hs⟩))
  dsimp only [Pt.U, Pt.locs, Pt.cells, Pt.slots] at Y' l1 y1 z1 st hQ
  subst l1 y1 z1
  obtain ⟨⟨hQ, hge⟩, hF⟩ := hQ
  exact OGo.tr st (hr v B B.heap hQ ⟨rfl, Nat.le_trans hn0 hge, _, Y', N.app hF⟩ hge)
theorem OGo.natS (C : Cx p s m c Z own by0 ml) (X : Sd p l e R s m args below meth c n0 T h cells slots) {y : MethodName} {cb : ByteArray} {cml : Nat} {rt : Option FieldType} {idx : Nat} {val : Value} {F : Array Value → Prop} (w1 : (Jvm.Cond.methodLink own idx y).before a0 Z = true) (w2 : (Jvm.Cond.static y).before a0 Z = true) (w3 : (Jvm.Cond.initialized y.cls).before a0 Z = true) (w4 : (Jvm.Cond.code y cb cml rt).before a0 Z = true) (hy : y.cls ≠ "java/lang/invoke/MethodHandle" ∧ y.cls ≠ "java/lang/invoke/VarHandle")
    {argsL : List Value} (hlen : ∀ sig, parseMethodDescriptor y.desc = some sig → argsL.length = sig.parameters.length) (hd : decode by0 pc = .ok (.invokestatic idx, 3)) (hp : pc + 3 = pc') (hsz : Ls.size = ml) (hc : cells ≤ R.cells) (hs : slots ≤ R.slots)
    (hK : (Jvm.Cond.code y cb cml rt).before args s = true → Back l R p e below s args y 3 ((St.map fun v => v.category).sum) (fun A a' => A.cells ≤ R.cells ∧ A.slots ≤ R.slots ∧ F a') (fun A _ v B => v = some val ∧ B = A)) (hF : F argsL.toArray)
    (hr : ∀ T', Sd p l e R s m args below meth c n0 T' h cells slots → OGo p e below K T' (mkF m pc' Ls (val :: St))) : OGo p e below K T (mkF m pc Ls (argsL.reverse ++ St)) := by
  subst hp
  obtain ⟨eT, hn0, locs, Y, N⟩ := X
  obtain ⟨T', Y', e', st⟩ := RoadKit.natS Y C.1 C.2.1 C.2.2.1 w1 w2 w3 w4 hy eT hK (g := mkF m pc Ls (argsL.reverse ++ St)) rfl (by rw [C.2.2.2.2]; exact hsz) hlen rfl (by show 2 * 0 + _ ≤ _; omega) (hb C.2.2.2.1 hd) hc hs hF rfl
  exact OGo.st st (hr T' ⟨e', hn0, _, Y', N⟩)
theorem OGo.instNull (C : Cx p s m c Z own by0 ml) (X : Sd p l e R s m args below meth c n0 T h cells slots) {idx : Nat} (hd : decode by0 pc = .ok (.instanceof idx, 3)) (hp : pc + 3 = pc') (hr : OGo p e below K T (mkF m pc' Ls (.int 0 :: St))) : OGo p e below K T (mkF m pc Ls (.null :: St)) := by
  subst hp
  obtain ⟨eT, hn0, locs, Y, N⟩ := X
  exact OGo.st (Y.instanceofNull C.1 (g := mkF m pc Ls (.null :: St)) rfl rfl (hb C.2.2.2.1 hd)) hr
theorem OGo.checkNull (C : Cx p s m c Z own by0 ml) (X : Sd p l e R s m args below meth c n0 T h cells slots) {idx : Nat} (hd : decode by0 pc = .ok (.checkcast idx, 3)) (hp : pc + 3 = pc') (hr : OGo p e below K T (mkF m pc' Ls (.null :: St))) : OGo p e below K T (mkF m pc Ls (.null :: St)) := by
  subst hp
  obtain ⟨eT, hn0, locs, Y, N⟩ := X
  exact OGo.st (Y.checkcastNull C.1 (g := mkF m pc Ls (.null :: St)) rfl rfl (hb C.2.2.2.1 hd)) hr
theorem OGo.aaload (C : Cx p s m c Z own by0 ml) (X : Sd p l e R s m args below meth c n0 T h cells slots) {a : Addr} {cl : Cell} {ty : FieldType} (A : Arr Z h a cl ty) (hty : ty.isReference = true) {j : Int32} {v : Value} (hin : ¬ (j < 0 ∨ cl.slots.size ≤ j.toNatClampNeg)) (hv : cl.slots[j.toNatClampNeg]? = some v) (hd : decode by0 pc = .ok (.aaload, 1)) (hp : pc + 1 = pc') (hr : OGo p e below K T (mkF m pc' Ls (v :: St))) : OGo p e below K T (mkF m pc Ls (.int j :: .ref a :: St)) := by
  subst hp
  obtain ⟨eT, hn0, locs, Y, N⟩ := X
  exact OGo.st (fun t k => Y.aaload C.1 (by rw [eT]; exact A.1) (State.isArrayOf_alike C.2.1.alike A.2.1) hty A.2.2 hin hv (g := mkF m pc Ls (.int j :: .ref a :: St)) rfl rfl (hb C.2.2.2.1 hd) t k) hr
theorem OGo.rawBits (C : Cx p s m c Z own by0 ml) (X : Sd p l e R s m args below meth c n0 T h cells slots) {idx : Nat} {b : UInt64} (w1 : (Jvm.Cond.methodLink own idx doubleToRawLongBitsName).before a0 Z = true) (w2 : (Jvm.Cond.native doubleToRawLongBitsName).before a0 Z = true) (w3 : (Jvm.Cond.static doubleToRawLongBitsName).before a0 Z = true) (w4 : (Jvm.Cond.initialized "java/lang/Double").before a0 Z = true) (hd : decode by0 pc = .ok (.invokestatic idx, 3)) (hp : pc + 3 = pc') (hsz : Ls.size = ml) (hf : 1 ≤ R.frames) (hl : (St.map fun v => v.category).sum + 15 ≤ R.locals)
    (hr : ∀ T', Sd p l e R s m args below meth c n0 T' h cells slots → OGo p e below K T' (mkF m pc' Ls (.long b.toInt64 :: St))) : OGo p e below K T (mkF m pc Ls (.double b :: St)) := by
  subst hp
  obtain ⟨eT, hn0, locs, Y, N⟩ := X
  obtain ⟨vm', Y', st⟩ := Y.doubleToRawLongBits C.1 C.2.2.1 (mvT C.2.1 w1) (mvT C.2.1 w2) (mvT C.2.1 w3) (mvT C.2.1 w4) (g := mkF m pc Ls (.double b :: St)) rfl (by rw [C.2.2.2.2]; exact hsz) rfl (hb C.2.2.2.1 hd) hf (by show 2 * 0 + _ + (4 + 11) ≤ _; omega)
  exact OGo.st st (hr _ ⟨eT, hn0, _, Y', N⟩)
end OwnGo
end Jvm.Pilot.@@N@@
namespace Jvm.Pilot.@@N@@
open Jvm Jvm.ClassFile Sem Op Lib Jvm.Free Jvm.Stand Jvm.LawKit Jvm.RoadKit Jvm.Free.Fl Jvm.FP Bundle Jvm.Pilot.@@N@@.Jvm.D
abbrev HW (a0 : Array Value) (Z : State) : Prop := ∀ d ∈ tables_1, d.before a0 Z = true
theorem wd0 {a0 : Array Value} {Z : State} (hw : HW a0 Z) : ((Jvm.Cond.constant "com/example/first_from_joins/firstfromjoins/engine/ScorePriorEqualsPinLaw" (7 : Nat) (2147483647 : Int32))).before a0 Z = true := hw _ (List.mem_of_getElem? (i := 0) rfl)
theorem wd1 {a0 : Array Value} {Z : State} (hw : HW a0 Z) : ((Jvm.Cond.classLink "com/example/first_from_joins/firstfromjoins/engine/ScorePriorEqualsPinLaw" (8 : Nat) "com/example/first_from_joins/firstfromjoins/engine/ScorePrior")).before a0 Z = true := hw _ (List.mem_of_getElem? (i := 1) rfl)
theorem wd2 {a0 : Array Value} {Z : State} (hw : HW a0 Z) : ((Jvm.Cond.instantiable "com/example/first_from_joins/firstfromjoins/engine/ScorePrior" (2 : Nat))).before a0 Z = true := hw _ (List.mem_of_getElem? (i := 2) rfl)
theorem wd3 {a0 : Array Value} {Z : State} (hw : HW a0 Z) : ((Jvm.Cond.initialized "com/example/first_from_joins/firstfromjoins/engine/ScorePrior")).before a0 Z = true := hw _ (List.mem_of_getElem? (i := 3) rfl)
theorem wd4 {a0 : Array Value} {Z : State} (hw : HW a0 Z) : ((Jvm.Cond.methodLink "com/example/first_from_joins/firstfromjoins/engine/ScorePriorEqualsPinLaw" (10 : Nat) ({ cls := "com/example/first_from_joins/firstfromjoins/engine/ScorePrior", name := "<init>", desc := "(DD)V" } : Jvm.MethodName))).before a0 Z = true := hw _ (List.mem_of_getElem? (i := 4) rfl)
theorem wd5 {a0 : Array Value} {Z : State} (hw : HW a0 Z) : ((Jvm.Cond.instanceMethod ({ cls := "com/example/first_from_joins/firstfromjoins/engine/ScorePrior", name := "<init>", desc := "(DD)V" } : Jvm.MethodName))).before a0 Z = true := hw _ (List.mem_of_getElem? (i := 5) rfl)
theorem wd6 {a0 : Array Value} {Z : State} (hw : HW a0 Z) : ((Jvm.Cond.code ({ cls := "com/example/first_from_joins/firstfromjoins/engine/ScorePrior", name := "<init>", desc := "(DD)V" } : Jvm.MethodName) prog_18_method_1_code (5 : Nat) (Option.none : Option Jvm.ClassFile.FieldType))).before a0 Z = true := hw _ (List.mem_of_getElem? (i := 6) rfl)
theorem wd7 {a0 : Array Value} {Z : State} (hw : HW a0 Z) : ((Jvm.Cond.methodLink "com/example/first_from_joins/firstfromjoins/engine/ScorePrior" (1 : Nat) ({ cls := "java/lang/Object", name := "<init>", desc := "()V" } : Jvm.MethodName))).before a0 Z = true := hw _ (List.mem_of_getElem? (i := 7) rfl)
theorem wd8 {a0 : Array Value} {Z : State} (hw : HW a0 Z) : ((Jvm.Cond.instanceMethod ({ cls := "java/lang/Object", name := "<init>", desc := "()V" } : Jvm.MethodName))).before a0 Z = true := hw _ (List.mem_of_getElem? (i := 8) rfl)
theorem wd9 {a0 : Array Value} {Z : State} (hw : HW a0 Z) : ((Jvm.Cond.code ({ cls := "java/lang/Object", name := "<init>", desc := "()V" } : Jvm.MethodName) object_method_1_code (1 : Nat) (Option.none : Option Jvm.ClassFile.FieldType))).before a0 Z = true := hw _ (List.mem_of_getElem? (i := 9) rfl)
theorem wd10 {a0 : Array Value} {Z : State} (hw : HW a0 Z) : ((Jvm.Cond.methodLink "com/example/first_from_joins/firstfromjoins/engine/ScorePrior" (7 : Nat) ({ cls := "java/lang/Double", name := "isFinite", desc := "(D)Z" } : Jvm.MethodName))).before a0 Z = true := hw _ (List.mem_of_getElem? (i := 10) rfl)
theorem wd11 {a0 : Array Value} {Z : State} (hw : HW a0 Z) : ((Jvm.Cond.static ({ cls := "java/lang/Double", name := "isFinite", desc := "(D)Z" } : Jvm.MethodName))).before a0 Z = true := hw _ (List.mem_of_getElem? (i := 11) rfl)
theorem wd12 {a0 : Array Value} {Z : State} (hw : HW a0 Z) : ((Jvm.Cond.initialized "java/lang/Double")).before a0 Z = true := hw _ (List.mem_of_getElem? (i := 12) rfl)
theorem wd13 {a0 : Array Value} {Z : State} (hw : HW a0 Z) : ((Jvm.Cond.code ({ cls := "java/lang/Double", name := "isFinite", desc := "(D)Z" } : Jvm.MethodName) jdk_117_method_8_code (2 : Nat) (Option.some Jvm.ClassFile.FieldType.boolean))).before a0 Z = true := hw _ (List.mem_of_getElem? (i := 13) rfl)
theorem wd14 {a0 : Array Value} {Z : State} (hw : HW a0 Z) : ((Jvm.Cond.methodLink "java/lang/Double" (38 : Nat) ({ cls := "java/lang/Math", name := "abs", desc := "(D)D" } : Jvm.MethodName))).before a0 Z = true := hw _ (List.mem_of_getElem? (i := 14) rfl)
theorem wd15 {a0 : Array Value} {Z : State} (hw : HW a0 Z) : ((Jvm.Cond.static ({ cls := "java/lang/Math", name := "abs", desc := "(D)D" } : Jvm.MethodName))).before a0 Z = true := hw _ (List.mem_of_getElem? (i := 15) rfl)
theorem wd16 {a0 : Array Value} {Z : State} (hw : HW a0 Z) : ((Jvm.Cond.initialized "java/lang/Math")).before a0 Z = true := hw _ (List.mem_of_getElem? (i := 16) rfl)
theorem wd17 {a0 : Array Value} {Z : State} (hw : HW a0 Z) : ((Jvm.Cond.code ({ cls := "java/lang/Math", name := "abs", desc := "(D)D" } : Jvm.MethodName) jdk_29_method_64_code (2 : Nat) (Option.some Jvm.ClassFile.FieldType.double))).before a0 Z = true := hw _ (List.mem_of_getElem? (i := 17) rfl)
theorem wd18 {a0 : Array Value} {Z : State} (hw : HW a0 Z) : ((Jvm.Cond.constantDouble "java/lang/Double" (111 : Nat) (9218868437227405311 : UInt64))).before a0 Z = true := hw _ (List.mem_of_getElem? (i := 18) rfl)
theorem wd19 {a0 : Array Value} {Z : State} (hw : HW a0 Z) : ((Jvm.Cond.constantDouble "com/example/first_from_joins/firstfromjoins/engine/ScorePrior" (22 : Nat) (9218868437227405312 : UInt64))).before a0 Z = true := hw _ (List.mem_of_getElem? (i := 19) rfl)
theorem wd20 {a0 : Array Value} {Z : State} (hw : HW a0 Z) : ((Jvm.Cond.fieldLink "com/example/first_from_joins/firstfromjoins/engine/ScorePrior" (25 : Nat) "com/example/first_from_joins/firstfromjoins/engine/ScorePrior" "mean" "D")).before a0 Z = true := hw _ (List.mem_of_getElem? (i := 20) rfl)
theorem wd21 {a0 : Array Value} {Z : State} (hw : HW a0 Z) : ((Jvm.Cond.laysFinal "com/example/first_from_joins/firstfromjoins/engine/ScorePrior" "com/example/first_from_joins/firstfromjoins/engine/ScorePrior" "mean" "D")).before a0 Z = true := hw _ (List.mem_of_getElem? (i := 21) rfl)
theorem wd22 {a0 : Array Value} {Z : State} (hw : HW a0 Z) : ((Jvm.Cond.fieldLink "com/example/first_from_joins/firstfromjoins/engine/ScorePrior" (31 : Nat) "com/example/first_from_joins/firstfromjoins/engine/ScorePrior" "variance" "D")).before a0 Z = true := hw _ (List.mem_of_getElem? (i := 22) rfl)
theorem wd23 {a0 : Array Value} {Z : State} (hw : HW a0 Z) : ((Jvm.Cond.laysFinal "com/example/first_from_joins/firstfromjoins/engine/ScorePrior" "com/example/first_from_joins/firstfromjoins/engine/ScorePrior" "variance" "D")).before a0 Z = true := hw _ (List.mem_of_getElem? (i := 23) rfl)
theorem wd24 {a0 : Array Value} {Z : State} (hw : HW a0 Z) : ((Jvm.Cond.methodLink "com/example/first_from_joins/firstfromjoins/engine/ScorePriorEqualsPinLaw" (13 : Nat) ({ cls := "com/example/first_from_joins/firstfromjoins/engine/ScorePrior", name := "equals", desc := "(Ljava/lang/Object;)Z" } : Jvm.MethodName))).before a0 Z = true := hw _ (List.mem_of_getElem? (i := 24) rfl)
theorem wd25 {a0 : Array Value} {Z : State} (hw : HW a0 Z) : ((Jvm.Cond.declares ({ cls := "com/example/first_from_joins/firstfromjoins/engine/ScorePrior", name := "equals", desc := "(Ljava/lang/Object;)Z" } : Jvm.MethodName))).before a0 Z = true := hw _ (List.mem_of_getElem? (i := 25) rfl)
theorem wd26 {a0 : Array Value} {Z : State} (hw : HW a0 Z) : ((Jvm.Cond.instanceMethod ({ cls := "com/example/first_from_joins/firstfromjoins/engine/ScorePrior", name := "equals", desc := "(Ljava/lang/Object;)Z" } : Jvm.MethodName))).before a0 Z = true := hw _ (List.mem_of_getElem? (i := 26) rfl)
theorem wd27 {a0 : Array Value} {Z : State} (hw : HW a0 Z) : ((Jvm.Cond.selects "com/example/first_from_joins/firstfromjoins/engine/ScorePrior" ({ cls := "com/example/first_from_joins/firstfromjoins/engine/ScorePrior", name := "equals", desc := "(Ljava/lang/Object;)Z" } : Jvm.MethodName) ({ cls := "com/example/first_from_joins/firstfromjoins/engine/ScorePrior", name := "equals", desc := "(Ljava/lang/Object;)Z" } : Jvm.MethodName))).before a0 Z = true := hw _ (List.mem_of_getElem? (i := 27) rfl)
theorem wd28 {a0 : Array Value} {Z : State} (hw : HW a0 Z) : ((Jvm.Cond.code ({ cls := "com/example/first_from_joins/firstfromjoins/engine/ScorePrior", name := "equals", desc := "(Ljava/lang/Object;)Z" } : Jvm.MethodName) prog_18_method_6_code (3 : Nat) (Option.some Jvm.ClassFile.FieldType.boolean))).before a0 Z = true := hw _ (List.mem_of_getElem? (i := 28) rfl)
theorem wd29 {a0 : Array Value} {Z : State} (hw : HW a0 Z) : ((Jvm.Cond.classLink "com/example/first_from_joins/firstfromjoins/engine/ScorePrior" (26 : Nat) "com/example/first_from_joins/firstfromjoins/engine/ScorePrior")).before a0 Z = true := hw _ (List.mem_of_getElem? (i := 29) rfl)
theorem wd31 {a0 : Array Value} {Z : State} (hw : HW a0 Z) : ((Jvm.Cond.methodLink "com/example/first_from_joins/firstfromjoins/engine/ScorePrior" (44 : Nat) ({ cls := "java/lang/Double", name := "compare", desc := "(DD)I" } : Jvm.MethodName))).before a0 Z = true := hw _ (List.mem_of_getElem? (i := 31) rfl)
theorem wd32 {a0 : Array Value} {Z : State} (hw : HW a0 Z) : ((Jvm.Cond.static ({ cls := "java/lang/Double", name := "compare", desc := "(DD)I" } : Jvm.MethodName))).before a0 Z = true := hw _ (List.mem_of_getElem? (i := 32) rfl)
theorem wd33 {a0 : Array Value} {Z : State} (hw : HW a0 Z) : ((Jvm.Cond.code ({ cls := "java/lang/Double", name := "compare", desc := "(DD)I" } : Jvm.MethodName) jdk_117_method_27_code (8 : Nat) (Option.some Jvm.ClassFile.FieldType.int))).before a0 Z = true := hw _ (List.mem_of_getElem? (i := 33) rfl)
theorem wd34 {a0 : Array Value} {Z : State} (hw : HW a0 Z) : ((Jvm.Cond.methodLink "java/lang/Double" (46 : Nat) ({ cls := "java/lang/Double", name := "doubleToLongBits", desc := "(D)J" } : Jvm.MethodName))).before a0 Z = true := hw _ (List.mem_of_getElem? (i := 34) rfl)
theorem wd35 {a0 : Array Value} {Z : State} (hw : HW a0 Z) : ((Jvm.Cond.static ({ cls := "java/lang/Double", name := "doubleToLongBits", desc := "(D)J" } : Jvm.MethodName))).before a0 Z = true := hw _ (List.mem_of_getElem? (i := 35) rfl)
theorem wd36 {a0 : Array Value} {Z : State} (hw : HW a0 Z) : ((Jvm.Cond.code ({ cls := "java/lang/Double", name := "doubleToLongBits", desc := "(D)J" } : Jvm.MethodName) jdk_117_method_23_code (2 : Nat) (Option.some Jvm.ClassFile.FieldType.long))).before a0 Z = true := hw _ (List.mem_of_getElem? (i := 36) rfl)
theorem wd37 {a0 : Array Value} {Z : State} (hw : HW a0 Z) : ((Jvm.Cond.methodLink "java/lang/Double" (122 : Nat) ({ cls := "java/lang/Double", name := "isNaN", desc := "(D)Z" } : Jvm.MethodName))).before a0 Z = true := hw _ (List.mem_of_getElem? (i := 37) rfl)
theorem wd38 {a0 : Array Value} {Z : State} (hw : HW a0 Z) : ((Jvm.Cond.static ({ cls := "java/lang/Double", name := "isNaN", desc := "(D)Z" } : Jvm.MethodName))).before a0 Z = true := hw _ (List.mem_of_getElem? (i := 38) rfl)
theorem wd39 {a0 : Array Value} {Z : State} (hw : HW a0 Z) : ((Jvm.Cond.code ({ cls := "java/lang/Double", name := "isNaN", desc := "(D)Z" } : Jvm.MethodName) jdk_117_method_6_code (2 : Nat) (Option.some Jvm.ClassFile.FieldType.boolean))).before a0 Z = true := hw _ (List.mem_of_getElem? (i := 39) rfl)
theorem wd40 {a0 : Array Value} {Z : State} (hw : HW a0 Z) : ((Jvm.Cond.methodLink "java/lang/Double" (134 : Nat) ({ cls := "java/lang/Double", name := "doubleToRawLongBits", desc := "(D)J" } : Jvm.MethodName))).before a0 Z = true := hw _ (List.mem_of_getElem? (i := 40) rfl)
theorem wd41 {a0 : Array Value} {Z : State} (hw : HW a0 Z) : ((Jvm.Cond.static ({ cls := "java/lang/Double", name := "doubleToRawLongBits", desc := "(D)J" } : Jvm.MethodName))).before a0 Z = true := hw _ (List.mem_of_getElem? (i := 41) rfl)
theorem wd42 {a0 : Array Value} {Z : State} (hw : HW a0 Z) : ((Jvm.Cond.native ({ cls := "java/lang/Double", name := "doubleToRawLongBits", desc := "(D)J" } : Jvm.MethodName))).before a0 Z = true := hw _ (List.mem_of_getElem? (i := 42) rfl)
theorem wd43 {a0 : Array Value} {Z : State} (hw : HW a0 Z) : ((Jvm.Cond.methodLink "com/example/first_from_joins/firstfromjoins/engine/ScorePriorEqualsPinLaw" (17 : Nat) ({ cls := "java/lang/Integer", name := "valueOf", desc := "(I)Ljava/lang/Integer;" } : Jvm.MethodName))).before a0 Z = true := hw _ (List.mem_of_getElem? (i := 43) rfl)
theorem wd44 {a0 : Array Value} {Z : State} (hw : HW a0 Z) : ((Jvm.Cond.static ({ cls := "java/lang/Integer", name := "valueOf", desc := "(I)Ljava/lang/Integer;" } : Jvm.MethodName))).before a0 Z = true := hw _ (List.mem_of_getElem? (i := 44) rfl)
theorem wd45 {a0 : Array Value} {Z : State} (hw : HW a0 Z) : ((Jvm.Cond.initialized "java/lang/Integer")).before a0 Z = true := hw _ (List.mem_of_getElem? (i := 45) rfl)
theorem wd46 {a0 : Array Value} {Z : State} (hw : HW a0 Z) : ((Jvm.Cond.code ({ cls := "java/lang/Integer", name := "valueOf", desc := "(I)Ljava/lang/Integer;" } : Jvm.MethodName) jdk_33_method_22_code (1 : Nat) (Option.some (Jvm.ClassFile.FieldType.object "java/lang/Integer")))).before a0 Z = true := hw _ (List.mem_of_getElem? (i := 46) rfl)
theorem wd47 {a0 : Array Value} {Z : State} (hw : HW a0 Z) : ((Jvm.Cond.classLink "java/lang/Integer" (1 : Nat) "java/lang/Integer")).before a0 Z = true := hw _ (List.mem_of_getElem? (i := 47) rfl)
theorem wd48 {a0 : Array Value} {Z : State} (hw : HW a0 Z) : ((Jvm.Cond.instantiable "java/lang/Integer" (1 : Nat))).before a0 Z = true := hw _ (List.mem_of_getElem? (i := 48) rfl)
theorem wd49 {a0 : Array Value} {Z : State} (hw : HW a0 Z) : ((Jvm.Cond.methodLink "java/lang/Integer" (199 : Nat) ({ cls := "java/lang/Integer", name := "<init>", desc := "(I)V" } : Jvm.MethodName))).before a0 Z = true := hw _ (List.mem_of_getElem? (i := 49) rfl)
theorem wd50 {a0 : Array Value} {Z : State} (hw : HW a0 Z) : ((Jvm.Cond.instanceMethod ({ cls := "java/lang/Integer", name := "<init>", desc := "(I)V" } : Jvm.MethodName))).before a0 Z = true := hw _ (List.mem_of_getElem? (i := 50) rfl)
theorem wd52 {a0 : Array Value} {Z : State} (hw : HW a0 Z) : ((Jvm.Cond.code ({ cls := "java/lang/Integer", name := "<init>", desc := "(I)V" } : Jvm.MethodName) jdk_33_method_23_code (2 : Nat) (Option.none : Option Jvm.ClassFile.FieldType))).before a0 Z = true := hw _ (List.mem_of_getElem? (i := 52) rfl)
theorem wd53 {a0 : Array Value} {Z : State} (hw : HW a0 Z) : ((Jvm.Cond.methodLink "java/lang/Integer" (202 : Nat) ({ cls := "java/lang/Number", name := "<init>", desc := "()V" } : Jvm.MethodName))).before a0 Z = true := hw _ (List.mem_of_getElem? (i := 53) rfl)
theorem wd54 {a0 : Array Value} {Z : State} (hw : HW a0 Z) : ((Jvm.Cond.instanceMethod ({ cls := "java/lang/Number", name := "<init>", desc := "()V" } : Jvm.MethodName))).before a0 Z = true := hw _ (List.mem_of_getElem? (i := 54) rfl)
theorem wd57 {a0 : Array Value} {Z : State} (hw : HW a0 Z) : ((Jvm.Cond.initialized "java/lang/Number")).before a0 Z = true := hw _ (List.mem_of_getElem? (i := 57) rfl)
theorem wd58 {a0 : Array Value} {Z : State} (hw : HW a0 Z) : ((Jvm.Cond.code ({ cls := "java/lang/Number", name := "<init>", desc := "()V" } : Jvm.MethodName) jdk_18_method_1_code (1 : Nat) (Option.none : Option Jvm.ClassFile.FieldType))).before a0 Z = true := hw _ (List.mem_of_getElem? (i := 58) rfl)
theorem wd59 {a0 : Array Value} {Z : State} (hw : HW a0 Z) : ((Jvm.Cond.methodLink "java/lang/Number" (1 : Nat) ({ cls := "java/lang/Object", name := "<init>", desc := "()V" } : Jvm.MethodName))).before a0 Z = true := hw _ (List.mem_of_getElem? (i := 59) rfl)
theorem wd60 {a0 : Array Value} {Z : State} (hw : HW a0 Z) : ((Jvm.Cond.fieldLink "java/lang/Integer" (205 : Nat) "java/lang/Integer" "value" "I")).before a0 Z = true := hw _ (List.mem_of_getElem? (i := 60) rfl)
theorem wd61 {a0 : Array Value} {Z : State} (hw : HW a0 Z) : ((Jvm.Cond.laysFinal "java/lang/Integer" "java/lang/Integer" "value" "I")).before a0 Z = true := hw _ (List.mem_of_getElem? (i := 61) rfl)
theorem wd62 {a0 : Array Value} {Z : State} (hw : HW a0 Z) : ((Jvm.Cond.superclass "java/lang/Integer" "java/lang/Number")).before a0 Z = true := hw _ (List.mem_of_getElem? (i := 62) rfl)
theorem wd63 {a0 : Array Value} {Z : State} (hw : HW a0 Z) : ((Jvm.Cond.superclass "java/lang/Number" "java/lang/Object")).before a0 Z = true := hw _ (List.mem_of_getElem? (i := 63) rfl)
theorem wd64 {a0 : Array Value} {Z : State} (hw : HW a0 Z) : ((Jvm.Cond.noSuperclass "java/lang/Object")).before a0 Z = true := hw _ (List.mem_of_getElem? (i := 64) rfl)
theorem wd65 {a0 : Array Value} {Z : State} (hw : HW a0 Z) : ((Jvm.Cond.fieldLink "java/lang/Integer" (191 : Nat) "java/lang/Integer$IntegerCache" "high" "I")).before a0 Z = true := hw _ (List.mem_of_getElem? (i := 65) rfl)
theorem wd66 {a0 : Array Value} {Z : State} (hw : HW a0 Z) : ((Jvm.Cond.initialized "java/lang/Integer$IntegerCache")).before a0 Z = true := hw _ (List.mem_of_getElem? (i := 66) rfl)
theorem wd67 {a0 : Array Value} {Z : State} (hw : HW a0 Z) : ((Jvm.Cond.fieldLink "java/lang/Integer" (195 : Nat) "java/lang/Integer$IntegerCache" "cache" "[Ljava/lang/Integer;")).before a0 Z = true := hw _ (List.mem_of_getElem? (i := 67) rfl)
theorem d1_0 : decode prog_18_method_1_code 0 = .ok (.aload_n 0, 1) := by decide +kernel
theorem d1_1 : decode prog_18_method_1_code 1 = .ok (.invokespecial 1, 3) := by decide +kernel
theorem d1_4 : decode prog_18_method_1_code 4 = .ok (.dload_n 1, 1) := by decide +kernel
theorem d1_5 : decode prog_18_method_1_code 5 = .ok (.invokestatic 7, 3) := by decide +kernel
theorem d1_8 : decode prog_18_method_1_code 8 = .ok (.ifCond .ne 17, 3) := by decide +kernel
theorem d1_25 : decode prog_18_method_1_code 25 = .ok (.dload_n 3, 1) := by decide +kernel
theorem d1_26 : decode prog_18_method_1_code 26 = .ok (.dconst 0, 1) := by decide +kernel
theorem d1_27 : decode prog_18_method_1_code 27 = .ok (.dcmp .l, 1) := by decide +kernel
theorem d1_28 : decode prog_18_method_1_code 28 = .ok (.ifCond .lt 11, 3) := by decide +kernel
theorem d1_31 : decode prog_18_method_1_code 31 = .ok (.dload_n 3, 1) := by decide +kernel
theorem d1_32 : decode prog_18_method_1_code 32 = .ok (.ldc2_w 22, 3) := by decide +kernel
theorem d1_35 : decode prog_18_method_1_code 35 = .ok (.dcmp .l, 1) := by decide +kernel
theorem d1_36 : decode prog_18_method_1_code 36 = .ok (.ifCond .ne 17, 3) := by decide +kernel
theorem d1_53 : decode prog_18_method_1_code 53 = .ok (.aload_n 0, 1) := by decide +kernel
theorem d1_54 : decode prog_18_method_1_code 54 = .ok (.dload_n 1, 1) := by decide +kernel
theorem d1_55 : decode prog_18_method_1_code 55 = .ok (.putfield 25, 3) := by decide +kernel
theorem d1_58 : decode prog_18_method_1_code 58 = .ok (.aload_n 0, 1) := by decide +kernel
theorem d1_59 : decode prog_18_method_1_code 59 = .ok (.dload_n 3, 1) := by decide +kernel
theorem d1_60 : decode prog_18_method_1_code 60 = .ok (.putfield 31, 3) := by decide +kernel
theorem d1_63 : decode prog_18_method_1_code 63 = .ok (.return_, 1) := by decide +kernel
theorem d3_0 : decode jdk_117_method_8_code 0 = .ok (.dload_n 0, 1) := by decide +kernel
theorem d3_1 : decode jdk_117_method_8_code 1 = .ok (.invokestatic 38, 3) := by decide +kernel
theorem d3_4 : decode jdk_117_method_8_code 4 = .ok (.ldc2_w 111, 3) := by decide +kernel
theorem d3_7 : decode jdk_117_method_8_code 7 = .ok (.dcmp .g, 1) := by decide +kernel
theorem d3_8 : decode jdk_117_method_8_code 8 = .ok (.ifCond .gt 7, 3) := by decide +kernel
theorem d3_11 : decode jdk_117_method_8_code 11 = .ok (.iconst 1, 1) := by decide +kernel
theorem d3_12 : decode jdk_117_method_8_code 12 = .ok (.goto 4, 3) := by decide +kernel
theorem d3_16 : decode jdk_117_method_8_code 16 = .ok (.ireturn, 1) := by decide +kernel
theorem d5_0 : decode prog_18_method_6_code 0 = .ok (.aload_n 1, 1) := by decide +kernel
theorem d5_1 : decode prog_18_method_6_code 1 = .ok (.instanceof 26, 3) := by decide +kernel
theorem d5_4 : decode prog_18_method_6_code 4 = .ok (.ifCond .eq 40, 3) := by decide +kernel
theorem d5_7 : decode prog_18_method_6_code 7 = .ok (.aload_n 1, 1) := by decide +kernel
theorem d5_8 : decode prog_18_method_6_code 8 = .ok (.checkcast 26, 3) := by decide +kernel
theorem d5_11 : decode prog_18_method_6_code 11 = .ok (.astore_n 2, 1) := by decide +kernel
theorem d5_12 : decode prog_18_method_6_code 12 = .ok (.aload_n 0, 1) := by decide +kernel
theorem d5_13 : decode prog_18_method_6_code 13 = .ok (.getfield 25, 3) := by decide +kernel
theorem d5_16 : decode prog_18_method_6_code 16 = .ok (.aload_n 2, 1) := by decide +kernel
theorem d5_17 : decode prog_18_method_6_code 17 = .ok (.getfield 25, 3) := by decide +kernel
theorem d5_20 : decode prog_18_method_6_code 20 = .ok (.invokestatic 44, 3) := by decide +kernel
theorem d5_23 : decode prog_18_method_6_code 23 = .ok (.ifCond .ne 21, 3) := by decide +kernel
theorem d5_26 : decode prog_18_method_6_code 26 = .ok (.aload_n 0, 1) := by decide +kernel
theorem d5_27 : decode prog_18_method_6_code 27 = .ok (.getfield 31, 3) := by decide +kernel
theorem d5_30 : decode prog_18_method_6_code 30 = .ok (.aload_n 2, 1) := by decide +kernel
theorem d5_31 : decode prog_18_method_6_code 31 = .ok (.getfield 31, 3) := by decide +kernel
theorem d5_34 : decode prog_18_method_6_code 34 = .ok (.invokestatic 44, 3) := by decide +kernel
theorem d5_37 : decode prog_18_method_6_code 37 = .ok (.ifCond .ne 7, 3) := by decide +kernel
theorem d5_40 : decode prog_18_method_6_code 40 = .ok (.iconst 1, 1) := by decide +kernel
theorem d5_41 : decode prog_18_method_6_code 41 = .ok (.goto 4, 3) := by decide +kernel
theorem d5_44 : decode prog_18_method_6_code 44 = .ok (.iconst 0, 1) := by decide +kernel
theorem d5_45 : decode prog_18_method_6_code 45 = .ok (.ireturn, 1) := by decide +kernel
theorem d6_0 : decode jdk_117_method_27_code 0 = .ok (.dload_n 0, 1) := by decide +kernel
theorem d6_1 : decode jdk_117_method_27_code 1 = .ok (.dload_n 2, 1) := by decide +kernel
theorem d6_2 : decode jdk_117_method_27_code 2 = .ok (.dcmp .g, 1) := by decide +kernel
theorem d6_3 : decode jdk_117_method_27_code 3 = .ok (.ifCond .ge 5, 3) := by decide +kernel
theorem d6_6 : decode jdk_117_method_27_code 6 = .ok (.iconst (-1), 1) := by decide +kernel
theorem d6_7 : decode jdk_117_method_27_code 7 = .ok (.ireturn, 1) := by decide +kernel
theorem d6_8 : decode jdk_117_method_27_code 8 = .ok (.dload_n 0, 1) := by decide +kernel
theorem d6_9 : decode jdk_117_method_27_code 9 = .ok (.dload_n 2, 1) := by decide +kernel
theorem d6_10 : decode jdk_117_method_27_code 10 = .ok (.dcmp .l, 1) := by decide +kernel
theorem d6_11 : decode jdk_117_method_27_code 11 = .ok (.ifCond .le 5, 3) := by decide +kernel
theorem d6_14 : decode jdk_117_method_27_code 14 = .ok (.iconst 1, 1) := by decide +kernel
theorem d6_15 : decode jdk_117_method_27_code 15 = .ok (.ireturn, 1) := by decide +kernel
theorem d6_16 : decode jdk_117_method_27_code 16 = .ok (.dload_n 0, 1) := by decide +kernel
theorem d6_17 : decode jdk_117_method_27_code 17 = .ok (.invokestatic 46, 3) := by decide +kernel
theorem d6_20 : decode jdk_117_method_27_code 20 = .ok (.lstore 4, 2) := by decide +kernel
theorem d6_22 : decode jdk_117_method_27_code 22 = .ok (.dload_n 2, 1) := by decide +kernel
theorem d6_23 : decode jdk_117_method_27_code 23 = .ok (.invokestatic 46, 3) := by decide +kernel
theorem d6_26 : decode jdk_117_method_27_code 26 = .ok (.lstore 6, 2) := by decide +kernel
theorem d6_28 : decode jdk_117_method_27_code 28 = .ok (.lload 4, 2) := by decide +kernel
theorem d6_30 : decode jdk_117_method_27_code 30 = .ok (.lload 6, 2) := by decide +kernel
theorem d6_32 : decode jdk_117_method_27_code 32 = .ok (.lcmp, 1) := by decide +kernel
theorem d6_33 : decode jdk_117_method_27_code 33 = .ok (.ifCond .ne 7, 3) := by decide +kernel
theorem d6_36 : decode jdk_117_method_27_code 36 = .ok (.iconst 0, 1) := by decide +kernel
theorem d6_37 : decode jdk_117_method_27_code 37 = .ok (.goto 16, 3) := by decide +kernel
theorem d6_40 : decode jdk_117_method_27_code 40 = .ok (.lload 4, 2) := by decide +kernel
theorem d6_42 : decode jdk_117_method_27_code 42 = .ok (.lload 6, 2) := by decide +kernel
theorem d6_44 : decode jdk_117_method_27_code 44 = .ok (.lcmp, 1) := by decide +kernel
theorem d6_45 : decode jdk_117_method_27_code 45 = .ok (.ifCond .ge 7, 3) := by decide +kernel
theorem d6_48 : decode jdk_117_method_27_code 48 = .ok (.iconst (-1), 1) := by decide +kernel
theorem d6_49 : decode jdk_117_method_27_code 49 = .ok (.goto 4, 3) := by decide +kernel
theorem d6_52 : decode jdk_117_method_27_code 52 = .ok (.iconst 1, 1) := by decide +kernel
theorem d6_53 : decode jdk_117_method_27_code 53 = .ok (.ireturn, 1) := by decide +kernel
theorem d7_0 : decode jdk_117_method_23_code 0 = .ok (.dload_n 0, 1) := by decide +kernel
theorem d7_1 : decode jdk_117_method_23_code 1 = .ok (.invokestatic 122, 3) := by decide +kernel
theorem d7_4 : decode jdk_117_method_23_code 4 = .ok (.ifCond .ne 8, 3) := by decide +kernel
theorem d7_7 : decode jdk_117_method_23_code 7 = .ok (.dload_n 0, 1) := by decide +kernel
theorem d7_8 : decode jdk_117_method_23_code 8 = .ok (.invokestatic 134, 3) := by decide +kernel
theorem d7_11 : decode jdk_117_method_23_code 11 = .ok (.lreturn, 1) := by decide +kernel
theorem d8_0 : decode jdk_117_method_6_code 0 = .ok (.dload_n 0, 1) := by decide +kernel
theorem d8_1 : decode jdk_117_method_6_code 1 = .ok (.dload_n 0, 1) := by decide +kernel
theorem d8_2 : decode jdk_117_method_6_code 2 = .ok (.dcmp .l, 1) := by decide +kernel
theorem d8_3 : decode jdk_117_method_6_code 3 = .ok (.ifCond .eq 7, 3) := by decide +kernel
theorem d8_10 : decode jdk_117_method_6_code 10 = .ok (.iconst 0, 1) := by decide +kernel
theorem d8_11 : decode jdk_117_method_6_code 11 = .ok (.ireturn, 1) := by decide +kernel
theorem d9_0 : decode jdk_33_method_22_code 0 = .ok (.iload_n 0, 1) := by decide +kernel
theorem d9_1 : decode jdk_33_method_22_code 1 = .ok (.bipush (-128), 2) := by decide +kernel
theorem d9_3 : decode jdk_33_method_22_code 3 = .ok (.if_icmp .lt 20, 3) := by decide +kernel
theorem d9_6 : decode jdk_33_method_22_code 6 = .ok (.iload_n 0, 1) := by decide +kernel
theorem d9_7 : decode jdk_33_method_22_code 7 = .ok (.getstatic 191, 3) := by decide +kernel
theorem d9_10 : decode jdk_33_method_22_code 10 = .ok (.if_icmp .gt 13, 3) := by decide +kernel
theorem d9_13 : decode jdk_33_method_22_code 13 = .ok (.getstatic 195, 3) := by decide +kernel
theorem d9_16 : decode jdk_33_method_22_code 16 = .ok (.iload_n 0, 1) := by decide +kernel
theorem d9_17 : decode jdk_33_method_22_code 17 = .ok (.sipush 128, 3) := by decide +kernel
theorem d9_20 : decode jdk_33_method_22_code 20 = .ok (.iadd, 1) := by decide +kernel
theorem d9_21 : decode jdk_33_method_22_code 21 = .ok (.aaload, 1) := by decide +kernel
theorem d9_22 : decode jdk_33_method_22_code 22 = .ok (.areturn, 1) := by decide +kernel
theorem d9_23 : decode jdk_33_method_22_code 23 = .ok (.new 1, 3) := by decide +kernel
theorem d9_26 : decode jdk_33_method_22_code 26 = .ok (.dup, 1) := by decide +kernel
theorem d9_27 : decode jdk_33_method_22_code 27 = .ok (.iload_n 0, 1) := by decide +kernel
theorem d9_28 : decode jdk_33_method_22_code 28 = .ok (.invokespecial 199, 3) := by decide +kernel
theorem d9_31 : decode jdk_33_method_22_code 31 = .ok (.areturn, 1) := by decide +kernel
theorem d10_0 : decode jdk_33_method_23_code 0 = .ok (.aload_n 0, 1) := by decide +kernel
theorem d10_1 : decode jdk_33_method_23_code 1 = .ok (.invokespecial 202, 3) := by decide +kernel
theorem d10_4 : decode jdk_33_method_23_code 4 = .ok (.aload_n 0, 1) := by decide +kernel
theorem d10_5 : decode jdk_33_method_23_code 5 = .ok (.iload_n 1, 1) := by decide +kernel
theorem d10_6 : decode jdk_33_method_23_code 6 = .ok (.putfield 205, 3) := by decide +kernel
theorem d10_9 : decode jdk_33_method_23_code 9 = .ok (.return_, 1) := by decide +kernel
theorem d11_0 : decode jdk_18_method_1_code 0 = .ok (.aload_n 0, 1) := by decide +kernel
theorem d11_1 : decode jdk_18_method_1_code 1 = .ok (.invokespecial 1, 3) := by decide +kernel
theorem d11_4 : decode jdk_18_method_1_code 4 = .ok (.return_, 1) := by decide +kernel
theorem pd0 : parseMethodDescriptor "(D)Z" = some ⟨[.double], some .boolean⟩ := by decide +kernel
theorem pd1 : parseMethodDescriptor "(D)J" = some ⟨[.double], some .long⟩ := by decide +kernel
theorem pd2 : parseMethodDescriptor "(D)D" = some ⟨[.double], some .double⟩ := by decide +kernel
theorem pd3 : parseMethodDescriptor "(DD)I" = some ⟨[.double, .double], some .int⟩ := by decide +kernel
theorem pd4 : parseMethodDescriptor "()V" = some ⟨[], none⟩ := by decide +kernel
theorem pd5 : parseMethodDescriptor "(I)V" = some ⟨[.int], none⟩ := by decide +kernel
theorem pd6 : parseMethodDescriptor "(DD)V" = some ⟨[.double, .double], none⟩ := by decide +kernel
theorem pd7 : parseMethodDescriptor "(Ljava/lang/Object;)Z" = some ⟨[(.object "java/lang/Object")], some .boolean⟩ := by decide +kernel
theorem pd8 : parseMethodDescriptor "(I)Ljava/lang/Integer;" = some ⟨[.int], some (.object "java/lang/Integer")⟩ := by decide +kernel
theorem pn0 : plainName "java/lang/Double" = true := by first | (simp [plainName, overriddenIn]; done) | decide +kernel
theorem pn1 : plainName "com/example/first_from_joins/firstfromjoins/engine/ScorePrior" = true := by first | (simp [plainName, overriddenIn]; done) | decide +kernel
theorem pn2 : plainName "java/lang/Number" = true := by first | (simp [plainName, overriddenIn]; done) | decide +kernel
theorem pn3 : plainName "java/lang/Integer" = true := by first | (simp [plainName, overriddenIn]; done) | decide +kernel
theorem pn4 : plainName "com/example/first_from_joins/firstfromjoins/engine/ScorePriorEqualsPinLaw" = true := by first | (simp [plainName, overriddenIn]; done) | decide +kernel
section OwnPrior
open Jvm.FP Jvm.FP.Core Jvm.Free.Fl
/-! whole numbers with a sign of their own at zero -/
def own_x (i n : Int32) : UInt64 := if n = 0 then FP.i2d i else FP.dneg (FP.i2d i)
theorem own_x0 {i n : Int32} (h : n = 0) : FP.i2d i = own_x i n := by simp [own_x, h]
theorem own_x1 {i n : Int32} (h : ¬ n = 0) : FP.dneg (FP.i2d i) = own_x i n := by simp [own_x, h]
def own_sg (i n : Int32) : Prop := n = 0 ∨ (n = 1 ∧ i = 0)
theorem own_x_int {i n : Int32} (h : own_sg i n) : DInt i.toInt (own_x i n) := by
  unfold own_x
  rcases h with rfl | ⟨rfl, rfl⟩
  · simp only [if_true]; exact i2d_int i
  · have q := dneg_int (i2d_int 0)
    have e : FP.dneg (FP.i2d 0) = Core.dneg (Core.i2d 0) := by decide +kernel
    have e0 : (0 : Int32).toInt = 0 := by decide
    simp only [if_neg (show ¬ (1 : Int32) = 0 by decide)]
    rw [e, e0]; rw [e0] at q; exact q
theorem own_x_inj {i j n k : Int32} (h : own_sg i n) (g : own_sg j k) : own_x i n = own_x j k ↔ i = j ∧ n = k := by
  constructor
  · intro e
    have a := own_x_int h
    have b := own_x_int g
    rw [← e] at b
    have c1 := dcmp_int a a
    have c2 := dcmp_int a b
    rw [c1] at c2
    have c3 : compare i.toInt j.toInt = compare i.toInt i.toInt := (Option.some.inj c2).symm
    have c4 : i.toInt = j.toInt := by
      have : compare i.toInt i.toInt = Ordering.eq := (compare_eq_iff _ _).mpr rfl
      rw [this] at c3
      exact (compare_eq_iff _ _).mp c3
    have ij : i = j := Int32.toInt_inj.mp c4
    subst ij
    refine ⟨rfl, ?_⟩
    rcases h with rfl | ⟨rfl, rfl⟩ <;> rcases g with rfl | ⟨rfl, g2⟩
    · rfl
    · subst g2; exfalso; revert e; decide +kernel
    · exfalso; revert e; decide +kernel
    · rfl
  · rintro ⟨rfl, rfl⟩; rfl
theorem own_x_fin {i n : Int32} (h : own_sg i n) : NoNaN64 (own_x i n) := by
  unfold own_x
  rcases h with rfl | ⟨rfl, rfl⟩
  · simp only [if_true]; exact (Fl.i2d_fin i).noNaN
  · unfold NoNaN64; decide +kernel
theorem own_x_mag {i n : Int32} (h : own_sg i n) : Mag64 1088 (own_x i n) := by
  unfold own_x
  rcases h with rfl | ⟨rfl, rfl⟩
  · simp only [if_true]; exact (Fl.i2d_mag i).mono (by decide)
  · unfold Mag64; decide +kernel
/-- within the largest -/
theorem own_key_le {x y : UInt64} (hx : NoNaN64 x) (hy : NoNaN64 y) (o : CmpOp) (h : dkey x ≤ dkey y) : ¬ (0 : Int32) < cmpValue (FP.dcmp x y) o := by
  rcases Int.lt_or_eq_of_le h with q | q
  · rw [show FP.dcmp x y = some .lt from (dcmp_lt_key (val64_no.mp hx) (val64_no.mp hy)).mpr q]; cases o <;> decide
  · rw [show FP.dcmp x y = some .eq from (dcmp_eq_key (val64_no.mp hx) (val64_no.mp hy)).mpr q]; cases o <;> decide
theorem own_abs_max {x : UInt64} (hm : Mag64 1088 x) : ¬ (0 : Int32) < cmpValue (FP.dcmp (x &&& 0x7fffffffffffffff) (9218868437227405311 : UInt64)) .g := by
  have m2 := dabs_mag hm
  refine own_key_le (m2.fin (by decide)).noNaN (by unfold NoNaN64; decide) .g ?_
  have e : (x &&& 0x7fffffffffffffff).toNat < 2 ^ 63 := by
    rw [UInt64.toNat_and]
    exact Nat.lt_of_le_of_lt Nat.and_le_right (by decide)
  unfold Mag64 at m2
  have c : dkey (9218868437227405311 : UInt64) = 9218868437227405311 := by decide
  rw [c]; unfold dkey
  split <;> omega
theorem own_var_ge {i n : Int32} (h : own_sg i n) (hi : 0 ≤ i.toInt) : ¬ cmpValue (FP.dcmp (own_x i n) FP.dconst0) .l < (0 : Int32) := by
  have z : DInt 0 FP.dconst0 := by have e := l2d_int (a := 0) (by decide); have d : FP.dconst0 = FP.l2d 0 := by decide +kernel
                                   rw [d]; exact e
  rw [show FP.dcmp _ _ = some (compare _ _) from dcmp_int (own_x_int h) z]
  rcases Int.lt_or_eq_of_le hi with q | q
  · rw [show compare i.toInt 0 = Ordering.gt from Int.compare_eq_gt.mpr q]; decide
  · rw [show compare i.toInt 0 = Ordering.eq from (compare_eq_iff _ _).mpr q.symm]; decide
theorem own_ne_inf {x : UInt64} (hm : Mag64 1088 x) : ¬ cmpValue (FP.dcmp x (9218868437227405312 : UInt64)) .l = (0 : Int32) := by
  have c : dkey (9218868437227405312 : UInt64) = 9218868437227405312 := by decide
  have h : dkey x < dkey (9218868437227405312 : UInt64) := by
    rw [c]; unfold Mag64 at hm; have := x.toNat_lt; unfold dkey; split <;> omega
  rw [show FP.dcmp x _ = some .lt from (dcmp_lt_key (val64_no.mp (hm.fin (by decide)).noNaN) (val64_no.mp (by unfold NoNaN64; decide))).mpr h]; decide
/-! equality as the class says it -/
def own_eqv (x1 y1 x2 y2 : UInt64) : Int32 := if x1 = x2 ∧ y1 = y2 then 1 else 0
theorem own_bits {x y : UInt64} : x.toInt64 = y.toInt64 ↔ x = y := ⟨fun h => by have := congrArg Int64.toUInt64 h; simpa using this, fun h => by rw [h]⟩
theorem own_cmp_self {x y : UInt64} {o : CmpOp} {z : Int32} (hx : NoNaN64 x) (h : cmpValue (FP.dcmp x y) o = z) (hz : ¬ z = 0) : ¬ x = y := fun e => hz (by subst e; rw [← h]; exact dcmpV_self hx o)
theorem own_noinst {Z : State} {a0 : Array Value} {C S K R : String} {n : Nat} (w : (Jvm.Cond.superclass C S).before a0 Z = true) (w2 : (Jvm.Cond.superclass S R).before a0 Z = true) (w3 : (Jvm.Cond.noSuperclass R).before a0 Z = true) (wi : (Jvm.Cond.instantiable K n).before a0 Z = true) (h1 : C ≠ K) (h2 : S ≠ K) (h3 : R ≠ K) :
    ∃ c t, Z.vm.findClass C = some c ∧ Z.vm.findClass K = some t ∧ Z.vm.assignable c t = false := by
  obtain ⟨t, kt, g1, g2, g3, g4, -, -⟩ := Cond.instantiable_spec wi
  have g5 : kt.isInterface = false := by
    cases hq : kt.isInterface
    · rfl
    · rw [hq] at g4; cases g4
  have nr : NS Z R K := by
    obtain ⟨c, k, q1, q2, q3, -, -⟩ := Cond.noSuperclass_spec w3
    have ne := ids_ne q1 g1 h3
    refine ⟨c, t, q1, g1, fun fuel => ?_⟩
    cases fuel with
    | zero => rfl
    | succ f => simp [Vm.isSubclassAux, ne, q2, q3]
  have n := NS.step w (NS.step w2 nr h2) h1
  obtain ⟨c, t', e0, e1, n3⟩ := n
  cases g1.symm.trans e1
  obtain ⟨p, k, kp, f1, f2, f3, f4, f5, -, f7⟩ := Cond.superclass_spec e0 w
  have ne := ids_ne e0 g1 h1
  refine ⟨c, t, e0, g1, ?_⟩
  show Z.vm.assignableAux (255 + 1) c t = false
  simp [Vm.assignableAux, ne, f2, g2, f5, g3, g5, Vm.isSubclass, n3]
end OwnPrior
theorem own_len {args : Array Value} {Z : State} {t : Term} {x : Addr} {cl : Cell} {z : Int32} (ht : t.eval args Z none [] Z = some (.ref x)) (ha : Z.arrayAt? x = some cl) (L : (Term.length t).eval args Z none [] Z = some (.int z)) : cl.slots.size < 2 ^ 31 ∧ cl.slots.size.toInt32 = z := by
  by_cases hl : cl.slots.size < 2 ^ 31
  · have q := len_f ht ha hl
    rw [q] at L
    exact ⟨hl, Value.int.inj (Option.some.inj L)⟩
  · exfalso
    have h2 : ¬ cl.slots.size < 2147483648 := hl
    simp [Term.eval, ht, ha, h2] at L
theorem own_cache {Z : State} {args : Array Value} (h : ∀ d ∈ jdkStatics_1, d.before args Z = true) (wi : (Jvm.Cond.initialized "java/lang/Integer$IntegerCache").before args Z = true) :
    ∃ (ca : Addr) (cc : Cell), Sta Z Z.heap "java/lang/Integer$IntegerCache" "high" "I" (.int (127 : Int32)) ∧ Sta Z Z.heap "java/lang/Integer$IntegerCache" "cache" "[Ljava/lang/Integer;" (.ref ca) ∧ Bxs Z ca cc "java/lang/Integer" "I" (256 : Int32) (fun j => .int (j - 128)) := by
  have h0 := h _ (List.mem_of_getElem? (i := 0) rfl)
  have h2 := h _ (List.mem_of_getElem? (i := 2) rfl)
  have h3 := Cond.before_iff.mp (h _ (List.mem_of_getElem? (i := 3) rfl))
  have h4 := Cond.before_iff.mp (h _ (List.mem_of_getElem? (i := 4) rfl))
  have h6 := Cond.before_iff.mp (h _ (List.mem_of_getElem? (i := 6) rfl))
  have h7 := Cond.before_iff.mp (h _ (List.mem_of_getElem? (i := 7) rfl))
  have e1 := eqv_i (Term.int_eval (127 : Int32)) h3
  obtain ⟨ca, ec⟩ := arr_v h4
  obtain ⟨cc, A⟩ := Arr.start ec h4
  have L := eqv_i (Term.int_eval (256 : Int32)) h6
  obtain ⟨e4, e5⟩ := own_len ec (A.fin (Vm.Alike.refl _)) L
  refine ⟨ca, cc, Sta.start e1 (Or.inr ⟨wi, h0⟩), Sta.start ec (Or.inr ⟨wi, h2⟩), Bxs.start (t := .static "java/lang/Integer$IntegerCache" "cache" "[Ljava/lang/Integer;") (fun idx => by simpa [Term.eval] using ec) A e4 e5 (by decide) h7 (fun X j nn q => eqv_i ?_ q)⟩
  have e8 := idx_at (args := args) (first := Z) (o := none) (s := Z) nn
  simp [Term.eval] at e8 ⊢
  simp [e8]
theorem own_lt_ne {z : Int32} (h : z < 0) : ¬ z = 0 := fun e => by rw [e] at h; exact absurd h (by decide)
theorem own_gt_ne {z : Int32} (h : 0 < z) : ¬ z = 0 := fun e => by rw [e] at h; exact absurd h (by decide)
theorem own_eqv1 {x1 y1 x2 y2 : UInt64} (h : x1 = x2) (g : y1 = y2) : own_eqv x1 y1 x2 y2 = 1 := if_pos ⟨h, g⟩
theorem own_eqv0 {x1 y1 x2 y2 : UInt64} (h : ¬ (x1 = x2 ∧ y1 = y2)) : own_eqv x1 y1 x2 y2 = 0 := if_neg h
theorem own_in {i : Int32} {n : Nat} (hn : n = (256 : Int32).toNatClampNeg) (h1 : ¬ i < -128) (h2 : ¬ (127 : Int32) < i) : ¬ (i + 128 < 0 ∨ n ≤ (i + 128).toNatClampNeg) := by
  have e1 : (-128 : Int32).toInt = -128 := by decide
  have e2 : (127 : Int32).toInt = 127 := by decide
  have e3 : (128 : Int32).toInt = 128 := by decide
  have e0 : (0 : Int32).toInt = 0 := by decide
  have e4 : (256 : Int32).toNatClampNeg = 256 := by decide
  rw [Int32.lt_iff_toInt_lt, e1] at h1
  rw [Int32.lt_iff_toInt_lt, e2] at h2
  have q := c_iadd i 128
  have := rng32 (i + 128)
  have r : (i + 128).toInt = i.toInt + 128 := by omega
  rw [hn, e4, Int32.lt_iff_toInt_lt, e0, Int32.toNatClampNeg, r]; omega

theorem ef8 (m : MethodId) (x0 : UInt64) : entryFrame m #[(.double x0)] 2 = mkF m 0 #[.val (.double x0), .second] [] := by first | (simp [entryFrame, mkF, argsToLocals, Value.category]; done) | rfl
set_option maxRecDepth 65536 in
set_option maxHeartbeats 40000000 in
theorem ct8 {l : Launch} {Z : State} {a0 : Array Value} (hw : HW a0 Z) {n0 : Nat} {h0 : Heap} (hn0 : n0 ≤ h0.size) (u : UInt64) (hu : NoNaN64 u) :
    Ctr l Z (⟨"java/lang/Double", "isNaN", "(D)Z"⟩ : MethodName) jdk_117_method_6_code 2 (some .boolean) ({ frames := 0, cells := 0, slots := 0, locals := 0 } : Room) n0 #[(.double u)] h0 (fun v h => v = some (.int (0 : Int32)) ∧ h = h0) := by
  refine Ctr.of (plainFor_of_name pn0) hn0 ?_
  intro p e s m below meth c T0 C hnm hret hlk X0
  rw [ef8 m u]
  refine OGo.dloadN (pc' := 1) C X0 d8_0 rfl rfl ?_
  refine OGo.dloadN (pc' := 2) C X0 d8_1 rfl rfl ?_
  refine OGo.dcmp (pc' := 3) (v := (0 : Int32)) C X0 d8_2 rfl (dcmpV_self hu .l) ?_
  refine OGo.ifYes (pc' := 10) C X0 d8_3 (teq (by decide : (0 : Int32) = (0 : Int32))).1 (by decide) (by decide) ?_
  refine OGo.iconst (pc' := 11) (z := (0 : Int32)) C X0 d8_10 rfl (by decide) ?_
  exact OGo.retN C X0 d8_11 hret (by simp) (z' := (0 : Int32)) (by decide) hlk (⟨rfl, rfl⟩) (by decide) (by decide)
theorem ef7 (m : MethodId) (x0 : UInt64) : entryFrame m #[(.double x0)] 2 = mkF m 0 #[.val (.double x0), .second] [] := by first | (simp [entryFrame, mkF, argsToLocals, Value.category]; done) | rfl
set_option maxRecDepth 65536 in
set_option maxHeartbeats 40000000 in
theorem ct7 {l : Launch} {Z : State} {a0 : Array Value} (hw : HW a0 Z) {n0 : Nat} {h0 : Heap} (hn0 : n0 ≤ h0.size) (u : UInt64) (hu : NoNaN64 u) :
    Ctr l Z (⟨"java/lang/Double", "doubleToLongBits", "(D)J"⟩ : MethodName) jdk_117_method_23_code 2 (some .long) ({ frames := 1, cells := 0, slots := 0, locals := 40 } : Room) n0 #[(.double u)] h0 (fun v h => v = some (.long u.toInt64) ∧ h = h0) := by
  refine Ctr.of (plainFor_of_name pn0) hn0 ?_
  intro p e s m below meth c T0 C hnm hret hlk X0
  rw [ef7 m u]
  refine OGo.dloadN (pc' := 1) C X0 d7_0 rfl rfl ?_
  refine OGo.callS (pc' := 4) (cells' := 0) (slots' := 0) (argsL := [(.double u)]) (St := []) C X0 (wd37 hw) (wd38 hw) (by decide) (wd39 hw) (wd12 hw) (ct8 hw X0.2.1 u hu) (lenOf pd0 rfl) rfl d7_1 rfl rfl (by decide) (Nat.le_of_ble_eq_true rfl) rfl rfl (by decide) (by decide) (fun v1 T1 h1 Q1 X1 z1 => ?_)
  obtain ⟨hv1, hh1⟩ := Q1
  subst hv1; rw [hh1] at X1
  show OGo p e below _ T1 (mkF m 4 #[.val (.double u), .second] [(.int (0 : Int32))])
  refine OGo.ifNo (pc' := 7) C X1 d7_4 rfl (teq (by decide : (0 : Int32) = (0 : Int32))).2 ?_
  refine OGo.dloadN (pc' := 8) C X1 d7_7 rfl rfl ?_
  refine OGo.rawBits (pc' := 11) C X1 (wd40 hw) (wd42 hw) (wd41 hw) (wd12 hw) d7_8 rfl rfl (by decide) (Nat.le_of_ble_eq_true rfl) (fun T2 X2 => ?_)
  exact OGo.retL C X2 d7_11 hret hlk (⟨rfl, rfl⟩) (by decide) (by decide)
theorem ef6 (m : MethodId) (x0 : UInt64) (x1 : UInt64) : entryFrame m #[(.double x0), (.double x1)] 8 = mkF m 0 #[.val (.double x0), .second, .val (.double x1), .second, .unset, .unset, .unset, .unset] [] := by first | (simp [entryFrame, mkF, argsToLocals, Value.category]; done) | rfl
set_option maxRecDepth 65536 in
set_option maxHeartbeats 40000000 in
theorem ct6 {l : Launch} {Z : State} {a0 : Array Value} (hw : HW a0 Z) {n0 : Nat} {h0 : Heap} (hn0 : n0 ≤ h0.size) (x y : UInt64) (hx : NoNaN64 x) (hy : NoNaN64 y) :
    Ctr l Z (⟨"java/lang/Double", "compare", "(DD)I"⟩ : MethodName) jdk_117_method_27_code 8 (some .int) ({ frames := 2, cells := 0, slots := 0, locals := 60 } : Room) n0 #[(.double x), (.double y)] h0 (fun v h => ∃ z : Int32, v = some (.int z) ∧ h = h0 ∧ (z = 0 ↔ x = y)) := by
  refine Ctr.of (plainFor_of_name pn0) hn0 ?_
  intro p e s m below meth c T0 C hnm hret hlk X0
  rw [ef6 m x y]
  refine OGo.dloadN (pc' := 1) C X0 d6_0 rfl rfl ?_
  refine OGo.dloadN (pc' := 2) C X0 d6_1 rfl rfl ?_
  obtain ⟨c1, h_c1⟩ : ∃ z : Int32, cmpValue (FP.dcmp x y) .g = z := ⟨_, rfl⟩
  refine OGo.dcmp (pc' := 3) (v := c1) C X0 d6_2 rfl h_c1 ?_
  by_cases hlt : c1 < (0 : Int32)
  · refine OGo.ifNo (pc' := 6) C X0 d6_3 rfl (tlt hlt).2.1 ?_
    refine OGo.iconst (pc' := 7) (z := (-1 : Int32)) C X0 d6_6 rfl (by decide) ?_
    exact OGo.retInt C X0 d6_7 hret hlk (⟨_, rfl, rfl, ⟨fun q => absurd q (by decide), fun q => absurd q (own_cmp_self hx h_c1 (own_lt_ne hlt))⟩⟩) (by decide) (by decide)
  · refine OGo.ifYes (pc' := 8) C X0 d6_3 (flt hlt).2.1 (by decide) (by decide) ?_
    refine OGo.dloadN (pc' := 9) C X0 d6_8 rfl rfl ?_
    refine OGo.dloadN (pc' := 10) C X0 d6_9 rfl rfl ?_
    obtain ⟨c2, h_c2⟩ : ∃ z : Int32, cmpValue (FP.dcmp x y) .l = z := ⟨_, rfl⟩
    refine OGo.dcmp (pc' := 11) (v := c2) C X0 d6_10 rfl h_c2 ?_
    by_cases hgt : (0 : Int32) < c2
    · refine OGo.ifNo (pc' := 14) C X0 d6_11 rfl (tlt hgt).2.2.2 ?_
      refine OGo.iconst (pc' := 15) (z := (1 : Int32)) C X0 d6_14 rfl (by decide) ?_
      exact OGo.retInt C X0 d6_15 hret hlk (⟨_, rfl, rfl, ⟨fun q => absurd q (by decide), fun q => absurd q (own_cmp_self hx h_c2 (own_gt_ne hgt))⟩⟩) (by decide) (by decide)
    · refine OGo.ifYes (pc' := 16) C X0 d6_11 (flt hgt).2.2.2 (by decide) (by decide) ?_
      refine OGo.dloadN (pc' := 17) C X0 d6_16 rfl rfl ?_
      refine OGo.callS (pc' := 20) (cells' := 0) (slots' := 0) (argsL := [(.double x)]) (St := []) C X0 (wd34 hw) (wd35 hw) (by decide) (wd36 hw) (wd12 hw) (ct7 hw X0.2.1 x hx) (lenOf pd1 rfl) rfl d6_17 rfl rfl (by decide) (Nat.le_of_ble_eq_true rfl) rfl rfl (by decide) (by decide) (fun v3 T3 h3 Q3 X3 z3 => ?_)
      obtain ⟨hv3, hh3⟩ := Q3
      subst hv3; rw [hh3] at X3
      show OGo p e below _ T3 (mkF m 20 #[.val (.double x), .second, .val (.double y), .second, .unset, .unset, .unset, .unset] [(.long x.toInt64)])
      refine OGo.lstore (pc' := 22) C X3 d6_20 rfl (l' := #[.val (.double x), .second, .val (.double y), .second, .val (.long x.toInt64), .second, .unset, .unset]) rfl ?_
      refine OGo.dloadN (pc' := 23) C X3 d6_22 rfl rfl ?_
      refine OGo.callS (pc' := 26) (cells' := 0) (slots' := 0) (argsL := [(.double y)]) (St := []) C X3 (wd34 hw) (wd35 hw) (by decide) (wd36 hw) (wd12 hw) (ct7 hw X3.2.1 y hy) (lenOf pd1 rfl) rfl d6_23 rfl rfl (by decide) (Nat.le_of_ble_eq_true rfl) rfl rfl (by decide) (by decide) (fun v4 T4 h4 Q4 X4 z4 => ?_)
      obtain ⟨hv4, hh4⟩ := Q4
      subst hv4; rw [hh4] at X4
      show OGo p e below _ T4 (mkF m 26 #[.val (.double x), .second, .val (.double y), .second, .val (.long x.toInt64), .second, .unset, .unset] [(.long y.toInt64)])
      refine OGo.lstore (pc' := 28) C X4 d6_26 rfl (l' := #[.val (.double x), .second, .val (.double y), .second, .val (.long x.toInt64), .second, .val (.long y.toInt64), .second]) rfl ?_
      refine OGo.lload (pc' := 30) C X4 d6_28 rfl rfl ?_
      refine OGo.lload (pc' := 32) C X4 d6_30 rfl rfl ?_
      refine OGo.lcmp (pc' := 33) C X4 d6_32 rfl rfl ?_
      by_cases hb : x.toInt64 = y.toInt64
      · refine OGo.ifNo (pc' := 36) C X4 d6_33 rfl (teq ((lw_eq x.toInt64 y.toInt64).mpr hb)).2 ?_
        refine OGo.iconst (pc' := 37) (z := (0 : Int32)) C X4 d6_36 rfl (by decide) ?_
        refine OGo.goto (pc' := 53) C X4 d6_37 (by decide) (by decide) ?_
        exact OGo.retInt C X4 d6_53 hret hlk (⟨_, rfl, rfl, ⟨fun _ => own_bits.mp hb, fun _ => rfl⟩⟩) (by decide) (by decide)
      · refine OGo.ifYes (pc' := 40) C X4 d6_33 (feq (fun hq => hb ((lw_eq x.toInt64 y.toInt64).mp hq))).2 (by decide) (by decide) ?_
        refine OGo.lload (pc' := 42) C X4 d6_40 rfl rfl ?_
        refine OGo.lload (pc' := 44) C X4 d6_42 rfl rfl ?_
        refine OGo.lcmp (pc' := 45) C X4 d6_44 rfl rfl ?_
        by_cases hbl : x.toInt64 < y.toInt64
        · refine OGo.ifNo (pc' := 48) C X4 d6_45 rfl (tlt ((lw_lt x.toInt64 y.toInt64).mpr hbl)).2.1 ?_
          refine OGo.iconst (pc' := 49) (z := (-1 : Int32)) C X4 d6_48 rfl (by decide) ?_
          refine OGo.goto (pc' := 53) C X4 d6_49 (by decide) (by decide) ?_
          exact OGo.retInt C X4 d6_53 hret hlk (⟨_, rfl, rfl, ⟨fun q => absurd q (by decide), fun q => absurd (own_bits.mpr q) hb⟩⟩) (by decide) (by decide)
        · refine OGo.ifYes (pc' := 52) C X4 d6_45 (flt (fun hq => hbl ((lw_lt x.toInt64 y.toInt64).mp hq))).2.1 (by decide) (by decide) ?_
          refine OGo.iconst (pc' := 53) (z := (1 : Int32)) C X4 d6_52 rfl (by decide) ?_
          exact OGo.retInt C X4 d6_53 hret hlk (⟨_, rfl, rfl, ⟨fun q => absurd q (by decide), fun q => absurd (own_bits.mpr q) hb⟩⟩) (by decide) (by decide)
theorem ef3 (m : MethodId) (x0 : UInt64) : entryFrame m #[(.double x0)] 2 = mkF m 0 #[.val (.double x0), .second] [] := by first | (simp [entryFrame, mkF, argsToLocals, Value.category]; done) | rfl
set_option maxRecDepth 65536 in
set_option maxHeartbeats 40000000 in
theorem ct3 {l : Launch} {Z : State} {a0 : Array Value} (hw : HW a0 Z) {n0 : Nat} {h0 : Heap} (hn0 : n0 ≤ h0.size) (x : UInt64) (mx : Mag64 1088 x) :
    Ctr l Z (⟨"java/lang/Double", "isFinite", "(D)Z"⟩ : MethodName) jdk_117_method_8_code 2 (some .boolean) ({ frames := 1, cells := 0, slots := 0, locals := 16 } : Room) n0 #[(.double x)] h0 (fun v h => v = some (.int (1 : Int32)) ∧ h = h0) := by
  refine Ctr.of (plainFor_of_name pn0) hn0 ?_
  intro p e s m below meth c T0 C hnm hret hlk X0
  rw [ef3 m x]
  refine OGo.dloadN (pc' := 1) C X0 d3_0 rfl rfl ?_
  refine OGo.natS (pc' := 4) (argsL := [(.double x)]) (St := []) (val := (.double (x &&& 0x7fffffffffffffff))) C X0 (wd14 hw) (wd15 hw) (wd16 hw) (wd17 hw) (by decide) (lenOf pd2 rfl) d3_1 rfl rfl (by decide) (by decide) (fun hq => Jvm.Free.Fl.Abs.absD_pays x hq (by decide) (by decide)) (⟨rfl, (mx.fin (by decide)).noNaN⟩) (fun T1 X1 => ?_)
  refine OGo.ldc2Double (pc' := 7) C X1 (wd18 hw) d3_4 rfl ?_
  refine OGo.dcmp (pc' := 8) (v := (cmpValue (FP.dcmp (x &&& 0x7fffffffffffffff) (9218868437227405311 : UInt64)) .g)) C X1 d3_7 rfl rfl ?_
  refine OGo.ifNo (pc' := 11) C X1 d3_8 rfl (flt (own_abs_max mx)).2.2.1 ?_
  refine OGo.iconst (pc' := 12) (z := (1 : Int32)) C X1 d3_11 rfl (by decide) ?_
  refine OGo.goto (pc' := 16) C X1 d3_12 (by decide) (by decide) ?_
  exact OGo.retN C X1 d3_16 hret (by simp) (z' := (1 : Int32)) (by decide) hlk (⟨rfl, rfl⟩) (by decide) (by decide)
theorem ef1 (m : MethodId) (x0 : Addr) (x1 : UInt64) (x2 : UInt64) : entryFrame m #[(.ref x0), (.double x1), (.double x2)] 5 = mkF m 0 #[.val (.ref x0), .val (.double x1), .second, .val (.double x2), .second] [] := by first | (simp [entryFrame, mkF, argsToLocals, Value.category]; done) | rfl
set_option maxRecDepth 65536 in
set_option maxHeartbeats 40000000 in
theorem ct1 {l : Launch} {Z : State} {a0 : Array Value} (hw : HW a0 Z) {n0 : Nat} {h0 : Heap} (hn0 : n0 ≤ h0.size) (a1 : Addr) (x y : UInt64) (E1 : Exa Z h0 a1 "com/example/first_from_joins/firstfromjoins/engine/ScorePrior") (F_mean : Fld Z h0 a1 "com/example/first_from_joins/firstfromjoins/engine/ScorePrior" "mean" "D" (.double (0 : UInt64))) (F_variance : Fld Z h0 a1 "com/example/first_from_joins/firstfromjoins/engine/ScorePrior" "variance" "D" (.double (0 : UInt64))) (ga : n0 ≤ a1) (mx : Mag64 1088 x) (my : Mag64 1088 y) (hy : ¬ cmpValue (FP.dcmp y FP.dconst0) .l < (0 : Int32)) :
    Ctr l Z (⟨"com/example/first_from_joins/firstfromjoins/engine/ScorePrior", "<init>", "(DD)V"⟩ : MethodName) prog_18_method_1_code 5 none ({ frames := 2, cells := 0, slots := 0, locals := 32 } : Room) n0 #[(.ref a1), (.double x), (.double y)] h0 (fun v h => v = none ∧ Keep h0 h [a1] ∧ Exa Z h a1 "com/example/first_from_joins/firstfromjoins/engine/ScorePrior" ∧ Fld Z h a1 "com/example/first_from_joins/firstfromjoins/engine/ScorePrior" "mean" "D" (.double x) ∧ Fld Z h a1 "com/example/first_from_joins/firstfromjoins/engine/ScorePrior" "variance" "D" (.double y)) := by
  refine Ctr.of (plainFor_of_name pn1) hn0 ?_
  intro p e s m below meth c T0 C hnm hret hlk X0
  rw [ef1 m a1 x y]
  refine OGo.aloadN (pc' := 1) C X0 d1_0 rfl rfl rfl ?_
  refine OGo.initObj (pc' := 4) C X0 (wd7 hw) (wd8 hw) (wd9 hw) d1_1 rfl rfl (by decide) (Nat.le_of_ble_eq_true rfl) (fun T1 X1 => ?_)
  refine OGo.dloadN (pc' := 5) C X1 d1_4 rfl rfl ?_
  refine OGo.callS (pc' := 8) (cells' := 0) (slots' := 0) (argsL := [(.double x)]) (St := []) C X1 (wd10 hw) (wd11 hw) (by decide) (wd13 hw) (wd12 hw) (ct3 hw X1.2.1 x mx) (lenOf pd0 rfl) rfl d1_5 rfl rfl (by decide) (Nat.le_of_ble_eq_true rfl) rfl rfl (by decide) (by decide) (fun v2 T2 h2 Q2 X2 z2 => ?_)
  obtain ⟨hv2, hh2⟩ := Q2
  subst hv2; rw [hh2] at X2
  show OGo p e below _ T2 (mkF m 8 #[.val (.ref a1), .val (.double x), .second, .val (.double y), .second] [(.int (1 : Int32))])
  refine OGo.ifYes (pc' := 25) C X2 d1_8 (feq (by decide : ¬ (1 : Int32) = (0 : Int32))).2 (by decide) (by decide) ?_
  refine OGo.dloadN (pc' := 26) C X2 d1_25 rfl rfl ?_
  refine OGo.dconst0 (pc' := 27) (v := (FP.dconst0)) C X2 d1_26 rfl rfl ?_
  refine OGo.dcmp (pc' := 28) (v := (cmpValue (FP.dcmp y (FP.dconst0)) .l)) C X2 d1_27 rfl rfl ?_
  refine OGo.ifNo (pc' := 31) C X2 d1_28 rfl (flt hy).1 ?_
  refine OGo.dloadN (pc' := 32) C X2 d1_31 rfl rfl ?_
  refine OGo.ldc2Double (pc' := 35) C X2 (wd19 hw) d1_32 rfl ?_
  refine OGo.dcmp (pc' := 36) (v := (cmpValue (FP.dcmp y (9218868437227405312 : UInt64)) .l)) C X2 d1_35 rfl rfl ?_
  refine OGo.ifYes (pc' := 53) C X2 d1_36 (feq (own_ne_inf my)).2 (by decide) (by decide) ?_
  refine OGo.aloadN (pc' := 54) C X2 d1_53 rfl rfl rfl ?_
  refine OGo.dloadN (pc' := 55) C X2 d1_54 rfl rfl ?_
  refine OGo.putfield (pc' := 58) C X2 (host := "") (Or.inl (wd20 hw)) Via.refl F_mean E1 ga (Or.inr ⟨(wd21 hw), rfl, hnm⟩) (wd2 hw) (ty := .double) (by decide) rfl rfl d1_55 rfl (fun T3 h3 X3 W3 F3 => ?_)
  have K4 : Keep h0 h3 [a1] := (Keep.refl h0 [a1]).wr W3 (Or.inl (List.mem_of_getElem? (i := 0) rfl))
  refine OGo.aloadN (pc' := 59) C X3 d1_58 rfl rfl rfl ?_
  refine OGo.dloadN (pc' := 60) C X3 d1_59 rfl rfl ?_
  have f5 := (F_variance.other W3 (Or.inr (slot_ne (Or.inr (wd23 hw)) (Or.inr (wd21 hw)) (by decide) (t := .double) (t' := .double) (by decide) (by decide))))
  have f6 := (E1.wr W3)
  refine OGo.putfield (pc' := 63) C X3 (host := "") (Or.inl (wd22 hw)) Via.refl f5 f6 ga (Or.inr ⟨(wd23 hw), rfl, hnm⟩) (wd2 hw) (ty := .double) (by decide) rfl rfl d1_60 rfl (fun T7 h7 X7 W7 F7 => ?_)
  have K8 : Keep h0 h7 [a1] := K4.wr W7 (Or.inl (List.mem_of_getElem? (i := 0) rfl))
  have f9 := (f6.wr W7)
  have f10 := (F3.other W7 (Or.inr (slot_ne (Or.inr (wd21 hw)) (Or.inr (wd23 hw)) (by decide) (t := .double) (t' := .double) (by decide) (by decide))))
  exact OGo.ret C X7 d1_63 hret hlk (⟨rfl, K8, f9, f10, F7⟩) (by decide) (by decide)
theorem ef5 (m : MethodId) (x0 : Addr) (x1 : Addr) : entryFrame m #[(.ref x0), (.ref x1)] 3 = mkF m 0 #[.val (.ref x0), .val (.ref x1), .unset] [] := by first | (simp [entryFrame, mkF, argsToLocals, Value.category]; done) | rfl
set_option maxRecDepth 65536 in
set_option maxHeartbeats 40000000 in
theorem ct5 {l : Launch} {Z : State} {a0 : Array Value} (hw : HW a0 Z) {n0 : Nat} {h0 : Heap} (hn0 : n0 ≤ h0.size) (a1 a2 : Addr) (x1 y1 x2 y2 : UInt64) (E1 : Exa Z h0 a1 "com/example/first_from_joins/firstfromjoins/engine/ScorePrior") (F1 : Fld Z h0 a1 "com/example/first_from_joins/firstfromjoins/engine/ScorePrior" "mean" "D" (.double x1)) (G1 : Fld Z h0 a1 "com/example/first_from_joins/firstfromjoins/engine/ScorePrior" "variance" "D" (.double y1)) (E2 : Exa Z h0 a2 "com/example/first_from_joins/firstfromjoins/engine/ScorePrior") (F2 : Fld Z h0 a2 "com/example/first_from_joins/firstfromjoins/engine/ScorePrior" "mean" "D" (.double x2)) (G2 : Fld Z h0 a2 "com/example/first_from_joins/firstfromjoins/engine/ScorePrior" "variance" "D" (.double y2)) (nx1 : NoNaN64 x1) (nx2 : NoNaN64 x2) (ny1 : NoNaN64 y1) (ny2 : NoNaN64 y2) :
    Ctr l Z (⟨"com/example/first_from_joins/firstfromjoins/engine/ScorePrior", "equals", "(Ljava/lang/Object;)Z"⟩ : MethodName) prog_18_method_6_code 3 (some .boolean) ({ frames := 3, cells := 0, slots := 0, locals := 80 } : Room) n0 #[(.ref a1), (.ref a2)] h0 (fun v h => v = some (.int (own_eqv x1 y1 x2 y2)) ∧ h = h0) := by
  refine Ctr.of (plainFor_of_name pn1) hn0 ?_
  intro p e s m below meth c T0 C hnm hret hlk X0
  rw [ef5 m a1 a2]
  refine OGo.aloadN (pc' := 1) C X0 d5_0 rfl rfl rfl ?_
  refine OGo.instYes (pc' := 4) C X0 (wd29 hw) (Ins.self E2) d5_1 rfl (fun T1 X1 => ?_)
  refine OGo.ifNo (pc' := 7) C X1 d5_4 rfl (feq (by decide : ¬ (1 : Int32) = (0 : Int32))).1 ?_
  refine OGo.aloadN (pc' := 8) C X1 d5_7 rfl rfl rfl ?_
  refine OGo.checkcast (pc' := 11) C X1 (wd29 hw) (Ins.self E2) d5_8 rfl (fun T2 X2 => ?_)
  refine OGo.astoreN (pc' := 12) C X2 d5_11 rfl rfl (l' := #[.val (.ref a1), .val (.ref a2), .val (.ref a2)]) rfl ?_
  refine OGo.aloadN (pc' := 13) C X2 d5_12 rfl rfl rfl ?_
  refine OGo.getfield (pc' := 16) C X2 (host := "") (Or.inl (wd20 hw)) Via.refl F1 d5_13 rfl (fun T3 X3 => ?_)
  refine OGo.aloadN (pc' := 17) C X3 d5_16 rfl rfl rfl ?_
  refine OGo.getfield (pc' := 20) C X3 (host := "") (Or.inl (wd20 hw)) Via.refl F2 d5_17 rfl (fun T4 X4 => ?_)
  refine OGo.callS (pc' := 23) (cells' := 0) (slots' := 0) (argsL := [(.double x1), (.double x2)]) (St := []) C X4 (wd31 hw) (wd32 hw) (by decide) (wd33 hw) (wd12 hw) (ct6 hw X4.2.1 x1 x2 nx1 nx2) (lenOf pd3 rfl) rfl d5_20 rfl rfl (by decide) (Nat.le_of_ble_eq_true rfl) rfl rfl (by decide) (by decide) (fun v5 T5 h5 Q5 X5 z5 => ?_)
  obtain ⟨z5, hv5, hh5, hz_x1⟩ := Q5
  subst hv5; rw [hh5] at X5
  show OGo p e below _ T5 (mkF m 23 #[.val (.ref a1), .val (.ref a2), .val (.ref a2)] [(.int z5)])
  by_cases hc1 : z5 = (0 : Int32)
  · refine OGo.ifNo (pc' := 26) C X5 d5_23 rfl (teq hc1).2 ?_
    refine OGo.aloadN (pc' := 27) C X5 d5_26 rfl rfl rfl ?_
    refine OGo.getfield (pc' := 30) C X5 (host := "") (Or.inl (wd22 hw)) Via.refl G1 d5_27 rfl (fun T7 X7 => ?_)
    refine OGo.aloadN (pc' := 31) C X7 d5_30 rfl rfl rfl ?_
    refine OGo.getfield (pc' := 34) C X7 (host := "") (Or.inl (wd22 hw)) Via.refl G2 d5_31 rfl (fun T8 X8 => ?_)
    refine OGo.callS (pc' := 37) (cells' := 0) (slots' := 0) (argsL := [(.double y1), (.double y2)]) (St := []) C X8 (wd31 hw) (wd32 hw) (by decide) (wd33 hw) (wd12 hw) (ct6 hw X8.2.1 y1 y2 ny1 ny2) (lenOf pd3 rfl) rfl d5_34 rfl rfl (by decide) (Nat.le_of_ble_eq_true rfl) rfl rfl (by decide) (by decide) (fun v9 T9 h9 Q9 X9 z9 => ?_)
    obtain ⟨z9, hv9, hh9, hz_y1⟩ := Q9
    subst hv9; rw [hh9] at X9
    show OGo p e below _ T9 (mkF m 37 #[.val (.ref a1), .val (.ref a2), .val (.ref a2)] [(.int z9)])
    by_cases hc2 : z9 = (0 : Int32)
    · refine OGo.ifNo (pc' := 40) C X9 d5_37 rfl (teq hc2).2 ?_
      refine OGo.iconst (pc' := 41) (z := (1 : Int32)) C X9 d5_40 rfl (by decide) ?_
      refine OGo.goto (pc' := 45) C X9 d5_41 (by decide) (by decide) ?_
      exact OGo.retN C X9 d5_45 hret (by simp) (z' := (1 : Int32)) (by decide) hlk (⟨by rw [own_eqv1 (hz_x1.mp hc1) (hz_y1.mp hc2)], rfl⟩) (by decide) (by decide)
    · refine OGo.ifYes (pc' := 44) C X9 d5_37 (feq hc2).2 (by decide) (by decide) ?_
      refine OGo.iconst (pc' := 45) (z := (0 : Int32)) C X9 d5_44 rfl (by decide) ?_
      exact OGo.retN C X9 d5_45 hret (by simp) (z' := (0 : Int32)) (by decide) hlk (⟨by rw [own_eqv0 fun q => hc2 (hz_y1.mpr q.2)], rfl⟩) (by decide) (by decide)
  · refine OGo.ifYes (pc' := 44) C X5 d5_23 (feq hc1).2 (by decide) (by decide) ?_
    refine OGo.iconst (pc' := 45) (z := (0 : Int32)) C X5 d5_44 rfl (by decide) ?_
    exact OGo.retN C X5 d5_45 hret (by simp) (z' := (0 : Int32)) (by decide) hlk (⟨by rw [own_eqv0 fun q => hc1 (hz_x1.mpr q.1)], rfl⟩) (by decide) (by decide)
theorem efEN (m : MethodId) (x0 : Addr) : entryFrame m #[(.ref x0), .null] 3 = mkF m 0 #[.val (.ref x0), .val .null, .unset] [] := by first | (simp [entryFrame, mkF, argsToLocals, Value.category]; done) | rfl
set_option maxRecDepth 65536 in
set_option maxHeartbeats 40000000 in
theorem ctEN {l : Launch} {Z : State} {a0 : Array Value} (hw : HW a0 Z) {n0 : Nat} {h0 : Heap} (hn0 : n0 ≤ h0.size) (a1 : Addr)  :
    Ctr l Z (⟨"com/example/first_from_joins/firstfromjoins/engine/ScorePrior", "equals", "(Ljava/lang/Object;)Z"⟩ : MethodName) prog_18_method_6_code 3 (some .boolean) ({ frames := 0, cells := 0, slots := 0, locals := 0 } : Room) n0 #[(.ref a1), .null] h0 (fun v h => v = some (.int (0 : Int32)) ∧ h = h0) := by
  refine Ctr.of (plainFor_of_name pn1) hn0 ?_
  intro p e s m below meth c T0 C hnm hret hlk X0
  rw [efEN m a1]
  refine OGo.aloadN (pc' := 1) C X0 d5_0 rfl rfl rfl ?_
  refine OGo.instNull (pc' := 4) C X0 d5_1 rfl ?_
  refine OGo.ifYes (pc' := 44) C X0 d5_4 (teq (by decide : (0 : Int32) = (0 : Int32))).1 (by decide) (by decide) ?_
  refine OGo.iconst (pc' := 45) (z := (0 : Int32)) C X0 d5_44 rfl (by decide) ?_
  exact OGo.retN C X0 d5_45 hret (by simp) (z' := (0 : Int32)) (by decide) hlk (⟨rfl, rfl⟩) (by decide) (by decide)
set_option maxRecDepth 65536 in
set_option maxHeartbeats 40000000 in
theorem ctEI {l : Launch} {Z : State} {a0 : Array Value} (hw : HW a0 Z) {n0 : Nat} {h0 : Heap} (hn0 : n0 ≤ h0.size) (a1 a2 : Addr) (E2 : Exa Z h0 a2 "java/lang/Integer") :
    Ctr l Z (⟨"com/example/first_from_joins/firstfromjoins/engine/ScorePrior", "equals", "(Ljava/lang/Object;)Z"⟩ : MethodName) prog_18_method_6_code 3 (some .boolean) ({ frames := 0, cells := 0, slots := 0, locals := 0 } : Room) n0 #[(.ref a1), (.ref a2)] h0 (fun v h => v = some (.int (0 : Int32)) ∧ h = h0) := by
  refine Ctr.of (plainFor_of_name pn1) hn0 ?_
  intro p e s m below meth c T0 C hnm hret hlk X0
  rw [ef5 m a1 a2]
  refine OGo.aloadN (pc' := 1) C X0 d5_0 rfl rfl rfl ?_
  refine OGo.instNo (pc' := 4) C X0 (wd29 hw) E2 (own_noinst (wd62 hw) (wd63 hw) (wd64 hw) (wd2 hw) (by decide) (by decide) (by decide)) d5_1 rfl (fun T1 X1 => ?_)
  refine OGo.ifYes (pc' := 44) C X1 d5_4 (teq (by decide : (0 : Int32) = (0 : Int32))).1 (by decide) (by decide) ?_
  refine OGo.iconst (pc' := 45) (z := (0 : Int32)) C X1 d5_44 rfl (by decide) ?_
  exact OGo.retN C X1 d5_45 hret (by simp) (z' := (0 : Int32)) (by decide) hlk (⟨rfl, rfl⟩) (by decide) (by decide)
theorem ef11 (m : MethodId) (x0 : Addr) : entryFrame m #[(.ref x0)] 1 = mkF m 0 #[.val (.ref x0)] [] := by first | (simp [entryFrame, mkF, argsToLocals, Value.category]; done) | rfl
set_option maxRecDepth 65536 in
set_option maxHeartbeats 40000000 in
theorem ct11 {l : Launch} {Z : State} {a0 : Array Value} (hw : HW a0 Z) {n0 : Nat} {h0 : Heap} (hn0 : n0 ≤ h0.size) (a1 : Addr)  :
    Ctr l Z (⟨"java/lang/Number", "<init>", "()V"⟩ : MethodName) jdk_18_method_1_code 1 none ({ frames := 1, cells := 0, slots := 0, locals := 12 } : Room) n0 #[(.ref a1)] h0 (fun v h => v = none ∧ h = h0) := by
  refine Ctr.of (plainFor_of_name pn2) hn0 ?_
  intro p e s m below meth c T0 C hnm hret hlk X0
  rw [ef11 m a1]
  refine OGo.aloadN (pc' := 1) C X0 d11_0 rfl rfl rfl ?_
  refine OGo.initObj (pc' := 4) C X0 (wd59 hw) (wd8 hw) (wd9 hw) d11_1 rfl rfl (by decide) (Nat.le_of_ble_eq_true rfl) (fun T1 X1 => ?_)
  exact OGo.ret C X1 d11_4 hret hlk (⟨rfl, rfl⟩) (by decide) (by decide)
theorem ef10 (m : MethodId) (x0 : Addr) (x1 : Int32) : entryFrame m #[(.ref x0), (.int x1)] 2 = mkF m 0 #[.val (.ref x0), .val (.int x1)] [] := by first | (simp [entryFrame, mkF, argsToLocals, Value.category]; done) | rfl
set_option maxRecDepth 65536 in
set_option maxHeartbeats 40000000 in
theorem ct10 {l : Launch} {Z : State} {a0 : Array Value} (hw : HW a0 Z) {n0 : Nat} {h0 : Heap} (hn0 : n0 ≤ h0.size) (a1 : Addr) (i : Int32) (E1 : Exa Z h0 a1 "java/lang/Integer") (F1 : Fld Z h0 a1 "java/lang/Integer" "value" "I" (.int (0 : Int32))) (ga : n0 ≤ a1) :
    Ctr l Z (⟨"java/lang/Integer", "<init>", "(I)V"⟩ : MethodName) jdk_33_method_23_code 2 none ({ frames := 2, cells := 0, slots := 0, locals := 24 } : Room) n0 #[(.ref a1), (.int i)] h0 (fun v h => v = none ∧ Keep h0 h [a1] ∧ Exa Z h a1 "java/lang/Integer") := by
  refine Ctr.of (plainFor_of_name pn3) hn0 ?_
  intro p e s m below meth c T0 C hnm hret hlk X0
  rw [ef10 m a1 i]
  refine OGo.aloadN (pc' := 1) C X0 d10_0 rfl rfl rfl ?_
  refine OGo.callInit (pc' := 4) (cells' := 0) (slots' := 0) (argsL := []) (St := []) C X0 rfl rfl (wd53 hw) (wd54 hw) (by decide) (wd58 hw) (wd57 hw) (ct11 hw X0.2.1 a1) (lenOf pd4 rfl) rfl d10_1 rfl rfl (by decide) (Nat.le_of_ble_eq_true rfl) rfl rfl (by decide) (by decide) (fun v1 T1 h1 Q1 X1 z1 => ?_)
  obtain ⟨hv1, hh1⟩ := Q1
  subst hv1; rw [hh1] at X1
  show OGo p e below _ T1 (mkF m 4 #[.val (.ref a1), .val (.int i)] [])
  refine OGo.aloadN (pc' := 5) C X1 d10_4 rfl rfl rfl ?_
  refine OGo.iloadN (pc' := 6) C X1 d10_5 rfl rfl ?_
  refine OGo.putfield (pc' := 9) C X1 (host := "") (Or.inl (wd60 hw)) Via.refl F1 E1 ga (Or.inr ⟨(wd61 hw), rfl, hnm⟩) (wd48 hw) (ty := .int) (by decide) rfl rfl d10_6 rfl (fun T2 h2 X2 W2 F2 => ?_)
  have K3 : Keep h0 h2 [a1] := (Keep.refl h0 [a1]).wr W2 (Or.inl (List.mem_of_getElem? (i := 0) rfl))
  have f4 := (E1.wr W2)
  exact OGo.ret C X2 d10_9 hret hlk (⟨rfl, K3, f4⟩) (by decide) (by decide)
theorem ef9 (m : MethodId) (x0 : Int32) : entryFrame m #[(.int x0)] 1 = mkF m 0 #[.val (.int x0)] [] := by first | (simp [entryFrame, mkF, argsToLocals, Value.category]; done) | rfl
set_option maxRecDepth 65536 in
set_option maxHeartbeats 40000000 in
theorem ct9 {l : Launch} {Z : State} {a0 : Array Value} (hw : HW a0 Z) {n0 : Nat} {h0 : Heap} (hn0 : n0 ≤ h0.size) (i : Int32) (ca : Addr) (cc : Cell) (OD : Old Z n0 h0) (S1 : Sta Z Z.heap "java/lang/Integer$IntegerCache" "high" "I" (.int (127 : Int32))) (S2 : Sta Z Z.heap "java/lang/Integer$IntegerCache" "cache" "[Ljava/lang/Integer;" (.ref ca)) (B : Bxs Z ca cc "java/lang/Integer" "I" (256 : Int32) (fun j => .int (j - 128))) :
    Ctr l Z (⟨"java/lang/Integer", "valueOf", "(I)Ljava/lang/Integer;"⟩ : MethodName) jdk_33_method_22_code 1 (some (.object "java/lang/Integer")) ({ frames := 3, cells := 1, slots := 1, locals := 40 } : Room) n0 #[(.int i)] h0 (fun v h => ∃ b : Addr, v = some (.ref b) ∧ Keep h0 h [] ∧ Exa Z h b "java/lang/Integer") := by
  refine Ctr.of (plainFor_of_name pn3) hn0 ?_
  intro p e s m below meth c T0 C hnm hret hlk X0
  rw [ef9 m i]
  refine OGo.iloadN (pc' := 1) C X0 d9_0 rfl rfl ?_
  refine OGo.bipush (pc' := 3) (z := (-128 : Int32)) C X0 d9_1 rfl (by decide) ?_
  by_cases hlo : i < (-128 : Int32)
  · refine OGo.icmpYes (pc' := 23) C X0 d9_3 (tlt hlo).1 (by decide) (by decide) ?_
    refine OGo.new (pc' := 26) (cells' := 1) (slots' := 1) C X0 (wd47 hw) (wd48 hw) (wd45 hw) d9_23 rfl rfl rfl (by decide) (by decide) (fun T2 h2 a2 X2 g2 q2 E2 A2 D2 U2 => ?_)
    have sz3 : h0.size ≤ a2 := Nat.le_trans (Keep.refl h0 []).1 (Nat.le_of_eq g2.symm)
    have K4 : Keep h0 h2 [] := (Keep.refl h0 []).ext E2
    have F2_value : Fld Z h2 a2 "java/lang/Integer" "value" "I" (.int (0 : Int32)) := D2 (Or.inr (wd61 hw)) (ty := .int) (by decide)
    refine OGo.dup (pc' := 27) C X2 d9_26 rfl rfl ?_
    refine OGo.iloadN (pc' := 28) C X2 d9_27 rfl rfl ?_
    refine OGo.callInit (pc' := 31) (cells' := 1) (slots' := 1) (argsL := [(.int i)]) (St := [(.ref a2)]) C X2 rfl rfl (wd49 hw) (wd50 hw) (by decide) (wd52 hw) (wd45 hw) (ct10 hw X2.2.1 a2 i A2 F2_value q2) (lenOf pd5 rfl) rfl d9_28 rfl rfl (by decide) (Nat.le_of_ble_eq_true rfl) rfl rfl (by decide) (by decide) (fun v5 T5 h5 Q5 X5 z5 => ?_)
    obtain ⟨hv5, K5, E5a⟩ := Q5
    subst hv5
    have K6 : Keep h0 h5 [] := K4.trans K5 (allS (Or.inr sz3) all0)
    show OGo p e below _ T5 (mkF m 31 #[.val (.int i)] [(.ref a2)])
    exact OGo.retA C X5 d9_31 hret rfl rfl hlk (⟨a2, rfl, K6, E5a⟩) (by decide) (by decide)
  · refine OGo.icmpNo (pc' := 6) C X0 d9_3 rfl (flt hlo).1 ?_
    refine OGo.iloadN (pc' := 7) C X0 d9_6 rfl rfl ?_
    refine OGo.getstatic (pc' := 10) C X0 (host := "") (Or.inl (wd65 hw)) Via.refl (S1.ext OD.2) d9_7 rfl (fun T7 X7 => ?_)
    by_cases hhi : (127 : Int32) < i
    · refine OGo.icmpYes (pc' := 23) C X7 d9_10 (tlt hhi).2.2.1 (by decide) (by decide) ?_
      refine OGo.new (pc' := 26) (cells' := 1) (slots' := 1) C X7 (wd47 hw) (wd48 hw) (wd45 hw) d9_23 rfl rfl rfl (by decide) (by decide) (fun T9 h9 a9 X9 g9 q9 E9 A9 D9 U9 => ?_)
      have sz10 : h0.size ≤ a9 := Nat.le_trans (Keep.refl h0 []).1 (Nat.le_of_eq g9.symm)
      have K11 : Keep h0 h9 [] := (Keep.refl h0 []).ext E9
      have F9_value : Fld Z h9 a9 "java/lang/Integer" "value" "I" (.int (0 : Int32)) := D9 (Or.inr (wd61 hw)) (ty := .int) (by decide)
      refine OGo.dup (pc' := 27) C X9 d9_26 rfl rfl ?_
      refine OGo.iloadN (pc' := 28) C X9 d9_27 rfl rfl ?_
      refine OGo.callInit (pc' := 31) (cells' := 1) (slots' := 1) (argsL := [(.int i)]) (St := [(.ref a9)]) C X9 rfl rfl (wd49 hw) (wd50 hw) (by decide) (wd52 hw) (wd45 hw) (ct10 hw X9.2.1 a9 i A9 F9_value q9) (lenOf pd5 rfl) rfl d9_28 rfl rfl (by decide) (Nat.le_of_ble_eq_true rfl) rfl rfl (by decide) (by decide) (fun v12 T12 h12 Q12 X12 z12 => ?_)
      obtain ⟨hv12, K12, E12a⟩ := Q12
      subst hv12
      have K13 : Keep h0 h12 [] := K11.trans K12 (allS (Or.inr sz10) all0)
      show OGo p e below _ T12 (mkF m 31 #[.val (.int i)] [(.ref a9)])
      exact OGo.retA C X12 d9_31 hret rfl rfl hlk (⟨a9, rfl, K13, E12a⟩) (by decide) (by decide)
    · refine OGo.icmpNo (pc' := 13) C X7 d9_10 rfl (flt hhi).2.2.1 ?_
      refine OGo.getstatic (pc' := 16) C X7 (host := "") (Or.inl (wd67 hw)) Via.refl (S2.ext OD.2) d9_13 rfl (fun T14 X14 => ?_)
      refine OGo.iloadN (pc' := 17) C X14 d9_16 rfl rfl ?_
      refine OGo.sipush (pc' := 20) (z := (128 : Int32)) C X14 d9_17 rfl (by decide) ?_
      refine OGo.iadd (pc' := 21) (z := (i + (128 : Int32))) C X14 d9_20 rfl rfl ?_
      have hin : ¬ ((i + (128 : Int32)) < 0 ∨ cc.slots.size ≤ (i + (128 : Int32)).toNatClampNeg) := own_in B.2.1 hlo hhi
      obtain ⟨b, eb⟩ := B.2.2.2 _ hin
      refine OGo.aaload (pc' := 22) C X14 (B.ext OD.2).1 rfl hin eb.1 d9_21 rfl ?_
      exact OGo.retA C X14 d9_22 hret rfl rfl hlk (⟨b, rfl, (Keep.refl h0 []), (eb.2.1.ext OD.2)⟩) (by decide) (by decide)
theorem ef0 (m : MethodId) (x0 : Int32) (x1 : Int32) (x2 : Int32) (x3 : Int32) (x4 : Int32) : entryFrame m #[(.int x0), (.int x1), (.int x2), (.int x3), (.int x4)] maxLocals = mkF m 0 #[.val (.int x0), .val (.int x1), .val (.int x2), .val (.int x3), .val (.int x4), .unset, .unset, .unset, .unset, .unset, .unset, .unset, .unset, .unset, .unset, .unset, .unset, .unset, .unset, .unset, .unset, .unset, .unset, .unset, .unset] [] := by first | (simp [entryFrame, mkF, argsToLocals, Value.category, maxLocals]; done) | rfl
set_option maxRecDepth 65536 in
set_option maxHeartbeats 40000000 in
theorem ct0 {l : Launch} {Z : State} {a0 : Array Value} (hw : HW a0 Z) {n0 : Nat} {h0 : Heap} (hn0 : n0 ≤ h0.size) (i0 : Int32) (i1 : Int32) (i2 : Int32) (i3 : Int32) (i4 : Int32) (ca : Addr) (cc : Cell) (OD : Old Z n0 h0) (S1 : Sta Z Z.heap "java/lang/Integer$IntegerCache" "high" "I" (.int (127 : Int32))) (S2 : Sta Z Z.heap "java/lang/Integer$IntegerCache" "cache" "[Ljava/lang/Integer;" (.ref ca)) (B : Bxs Z ca cc "java/lang/Integer" "I" (256 : Int32) (fun j => .int (j - 128))) :
    Ctr l Z x code maxLocals ret room_1 n0 #[(.int i0), (.int i1), (.int i2), (.int i3), (.int i4)] h0 (fun v h => v = some (.int 1)) := by
  refine Ctr.of (plainFor_of_name pn4) hn0 ?_
  intro p e s m below meth c T0 C hnm hret hlk X0
  rw [ef0 m i0 i1 i2 i3 i4]
  have J15 : ∀ m1 : Int32,  OGo p e below (Kk s below n0 (fun v h => v = some (.int 1)) room_1.cells room_1.slots) T0 (mkF m 15 #[.val (.int i0), .val (.int i1), .val (.int i2), .val (.int i3), .val (.int i4), .unset, .unset, .unset, .unset, .unset, .unset, .unset, .unset, .unset, .unset, .unset, .unset, .unset, .unset, .unset, .unset, .unset, .unset, .unset, .unset] [(.int m1)]) := by
    intro m1
    refine OGo.istore (pc' := 17) C X0 at_15 rfl (l' := #[.val (.int i0), .val (.int i1), .val (.int i2), .val (.int i3), .val (.int i4), .val (.int m1), .unset, .unset, .unset, .unset, .unset, .unset, .unset, .unset, .unset, .unset, .unset, .unset, .unset, .unset, .unset, .unset, .unset, .unset, .unset]) rfl ?_
    have J45 : ∀ m2 : Int32,  OGo p e below (Kk s below n0 (fun v h => v = some (.int 1)) room_1.cells room_1.slots) T0 (mkF m 45 #[.val (.int i0), .val (.int i1), .val (.int i2), .val (.int i3), .val (.int i4), .val (.int m1), .unset, .unset, .unset, .unset, .unset, .unset, .unset, .unset, .unset, .unset, .unset, .unset, .unset, .unset, .unset, .unset, .unset, .unset, .unset] [(.int m2)]) := by
      intro m2
      refine OGo.istore (pc' := 47) C X0 at_45 rfl (l' := #[.val (.int i0), .val (.int i1), .val (.int i2), .val (.int i3), .val (.int i4), .val (.int m1), .val (.int m2), .unset, .unset, .unset, .unset, .unset, .unset, .unset, .unset, .unset, .unset, .unset, .unset, .unset, .unset, .unset, .unset, .unset, .unset]) rfl ?_
      have J66 : ∀ v1 : Int32, 0 ≤ v1.toInt → OGo p e below (Kk s below n0 (fun v h => v = some (.int 1)) room_1.cells room_1.slots) T0 (mkF m 66 #[.val (.int i0), .val (.int i1), .val (.int i2), .val (.int i3), .val (.int i4), .val (.int m1), .val (.int m2), .unset, .unset, .unset, .unset, .unset, .unset, .unset, .unset, .unset, .unset, .unset, .unset, .unset, .unset, .unset, .unset, .unset, .unset] [(.int v1)]) := by
        intro v1 p1
        refine OGo.istore (pc' := 68) C X0 at_66 rfl (l' := #[.val (.int i0), .val (.int i1), .val (.int i2), .val (.int i3), .val (.int i4), .val (.int m1), .val (.int m2), .val (.int v1), .unset, .unset, .unset, .unset, .unset, .unset, .unset, .unset, .unset, .unset, .unset, .unset, .unset, .unset, .unset, .unset, .unset]) rfl ?_
        have J99 : ∀ v2 : Int32, 0 ≤ v2.toInt → OGo p e below (Kk s below n0 (fun v h => v = some (.int 1)) room_1.cells room_1.slots) T0 (mkF m 99 #[.val (.int i0), .val (.int i1), .val (.int i2), .val (.int i3), .val (.int i4), .val (.int m1), .val (.int m2), .val (.int v1), .unset, .unset, .unset, .unset, .unset, .unset, .unset, .unset, .unset, .unset, .unset, .unset, .unset, .unset, .unset, .unset, .unset] [(.int v2)]) := by
          intro v2 p2
          refine OGo.istore (pc' := 101) C X0 at_99 rfl (l' := #[.val (.int i0), .val (.int i1), .val (.int i2), .val (.int i3), .val (.int i4), .val (.int m1), .val (.int m2), .val (.int v1), .val (.int v2), .unset, .unset, .unset, .unset, .unset, .unset, .unset, .unset, .unset, .unset, .unset, .unset, .unset, .unset, .unset, .unset]) rfl ?_
          have J118 : ∀ n1 : Int32, own_sg m1 n1 → OGo p e below (Kk s below n0 (fun v h => v = some (.int 1)) room_1.cells room_1.slots) T0 (mkF m 118 #[.val (.int i0), .val (.int i1), .val (.int i2), .val (.int i3), .val (.int i4), .val (.int m1), .val (.int m2), .val (.int v1), .val (.int v2), .unset, .unset, .unset, .unset, .unset, .unset, .unset, .unset, .unset, .unset, .unset, .unset, .unset, .unset, .unset, .unset] [(.int n1)]) := by
            intro n1 s1
            refine OGo.istore (pc' := 120) C X0 at_118 rfl (l' := #[.val (.int i0), .val (.int i1), .val (.int i2), .val (.int i3), .val (.int i4), .val (.int m1), .val (.int m2), .val (.int v1), .val (.int v2), .val (.int n1), .unset, .unset, .unset, .unset, .unset, .unset, .unset, .unset, .unset, .unset, .unset, .unset, .unset, .unset, .unset]) rfl ?_
            have J138 : ∀ n2 : Int32, own_sg m2 n2 → OGo p e below (Kk s below n0 (fun v h => v = some (.int 1)) room_1.cells room_1.slots) T0 (mkF m 138 #[.val (.int i0), .val (.int i1), .val (.int i2), .val (.int i3), .val (.int i4), .val (.int m1), .val (.int m2), .val (.int v1), .val (.int v2), .val (.int n1), .unset, .unset, .unset, .unset, .unset, .unset, .unset, .unset, .unset, .unset, .unset, .unset, .unset, .unset, .unset] [(.int n2)]) := by
              intro n2 s2
              refine OGo.istore (pc' := 140) C X0 at_138 rfl (l' := #[.val (.int i0), .val (.int i1), .val (.int i2), .val (.int i3), .val (.int i4), .val (.int m1), .val (.int m2), .val (.int v1), .val (.int v2), .val (.int n1), .val (.int n2), .unset, .unset, .unset, .unset, .unset, .unset, .unset, .unset, .unset, .unset, .unset, .unset, .unset, .unset]) rfl ?_
              have J158 : ∀ n3 : Int32, own_sg v1 n3 → OGo p e below (Kk s below n0 (fun v h => v = some (.int 1)) room_1.cells room_1.slots) T0 (mkF m 158 #[.val (.int i0), .val (.int i1), .val (.int i2), .val (.int i3), .val (.int i4), .val (.int m1), .val (.int m2), .val (.int v1), .val (.int v2), .val (.int n1), .val (.int n2), .unset, .unset, .unset, .unset, .unset, .unset, .unset, .unset, .unset, .unset, .unset, .unset, .unset, .unset] [(.int n3)]) := by
                intro n3 s3
                refine OGo.istore (pc' := 160) C X0 at_158 rfl (l' := #[.val (.int i0), .val (.int i1), .val (.int i2), .val (.int i3), .val (.int i4), .val (.int m1), .val (.int m2), .val (.int v1), .val (.int v2), .val (.int n1), .val (.int n2), .val (.int n3), .unset, .unset, .unset, .unset, .unset, .unset, .unset, .unset, .unset, .unset, .unset, .unset, .unset]) rfl ?_
                have J178 : ∀ n4 : Int32, own_sg v2 n4 → OGo p e below (Kk s below n0 (fun v h => v = some (.int 1)) room_1.cells room_1.slots) T0 (mkF m 178 #[.val (.int i0), .val (.int i1), .val (.int i2), .val (.int i3), .val (.int i4), .val (.int m1), .val (.int m2), .val (.int v1), .val (.int v2), .val (.int n1), .val (.int n2), .val (.int n3), .unset, .unset, .unset, .unset, .unset, .unset, .unset, .unset, .unset, .unset, .unset, .unset, .unset] [(.int n4)]) := by
                  intro n4 s4
                  refine OGo.istore (pc' := 180) C X0 at_178 rfl (l' := #[.val (.int i0), .val (.int i1), .val (.int i2), .val (.int i3), .val (.int i4), .val (.int m1), .val (.int m2), .val (.int v1), .val (.int v2), .val (.int n1), .val (.int n2), .val (.int n3), .val (.int n4), .unset, .unset, .unset, .unset, .unset, .unset, .unset, .unset, .unset, .unset, .unset, .unset]) rfl ?_
                  refine OGo.iload (pc' := 182) C X0 at_180 rfl rfl ?_
                  refine OGo.i2d (pc' := 183) (v := (FP.i2d m1)) C X0 at_182 rfl rfl ?_
                  refine OGo.dstore (pc' := 185) C X0 at_183 rfl (l' := #[.val (.int i0), .val (.int i1), .val (.int i2), .val (.int i3), .val (.int i4), .val (.int m1), .val (.int m2), .val (.int v1), .val (.int v2), .val (.int n1), .val (.int n2), .val (.int n3), .val (.int n4), .val (.double (FP.i2d m1)), .second, .unset, .unset, .unset, .unset, .unset, .unset, .unset, .unset, .unset, .unset]) rfl ?_
                  have J195 : ∀ x1 : UInt64, x1 = own_x m1 n1 → OGo p e below (Kk s below n0 (fun v h => v = some (.int 1)) room_1.cells room_1.slots) T0 (mkF m 195 #[.val (.int i0), .val (.int i1), .val (.int i2), .val (.int i3), .val (.int i4), .val (.int m1), .val (.int m2), .val (.int v1), .val (.int v2), .val (.int n1), .val (.int n2), .val (.int n3), .val (.int n4), .val (.double x1), .second, .unset, .unset, .unset, .unset, .unset, .unset, .unset, .unset, .unset, .unset] []) := by
                    intro x1 e_x1
                    refine OGo.iload (pc' := 197) C X0 at_195 rfl rfl ?_
                    refine OGo.i2d (pc' := 198) (v := (FP.i2d m2)) C X0 at_197 rfl rfl ?_
                    refine OGo.dstore (pc' := 200) C X0 at_198 rfl (l' := #[.val (.int i0), .val (.int i1), .val (.int i2), .val (.int i3), .val (.int i4), .val (.int m1), .val (.int m2), .val (.int v1), .val (.int v2), .val (.int n1), .val (.int n2), .val (.int n3), .val (.int n4), .val (.double x1), .second, .val (.double (FP.i2d m2)), .second, .unset, .unset, .unset, .unset, .unset, .unset, .unset, .unset]) rfl ?_
                    have J210 : ∀ x2 : UInt64, x2 = own_x m2 n2 → OGo p e below (Kk s below n0 (fun v h => v = some (.int 1)) room_1.cells room_1.slots) T0 (mkF m 210 #[.val (.int i0), .val (.int i1), .val (.int i2), .val (.int i3), .val (.int i4), .val (.int m1), .val (.int m2), .val (.int v1), .val (.int v2), .val (.int n1), .val (.int n2), .val (.int n3), .val (.int n4), .val (.double x1), .second, .val (.double x2), .second, .unset, .unset, .unset, .unset, .unset, .unset, .unset, .unset] []) := by
                      intro x2 e_x2
                      refine OGo.iload (pc' := 212) C X0 at_210 rfl rfl ?_
                      refine OGo.i2d (pc' := 213) (v := (FP.i2d v1)) C X0 at_212 rfl rfl ?_
                      refine OGo.dstore (pc' := 215) C X0 at_213 rfl (l' := #[.val (.int i0), .val (.int i1), .val (.int i2), .val (.int i3), .val (.int i4), .val (.int m1), .val (.int m2), .val (.int v1), .val (.int v2), .val (.int n1), .val (.int n2), .val (.int n3), .val (.int n4), .val (.double x1), .second, .val (.double x2), .second, .val (.double (FP.i2d v1)), .second, .unset, .unset, .unset, .unset, .unset, .unset]) rfl ?_
                      have J225 : ∀ y1 : UInt64, y1 = own_x v1 n3 → OGo p e below (Kk s below n0 (fun v h => v = some (.int 1)) room_1.cells room_1.slots) T0 (mkF m 225 #[.val (.int i0), .val (.int i1), .val (.int i2), .val (.int i3), .val (.int i4), .val (.int m1), .val (.int m2), .val (.int v1), .val (.int v2), .val (.int n1), .val (.int n2), .val (.int n3), .val (.int n4), .val (.double x1), .second, .val (.double x2), .second, .val (.double y1), .second, .unset, .unset, .unset, .unset, .unset, .unset] []) := by
                        intro y1 e_y1
                        refine OGo.iload (pc' := 227) C X0 at_225 rfl rfl ?_
                        refine OGo.i2d (pc' := 228) (v := (FP.i2d v2)) C X0 at_227 rfl rfl ?_
                        refine OGo.dstore (pc' := 230) C X0 at_228 rfl (l' := #[.val (.int i0), .val (.int i1), .val (.int i2), .val (.int i3), .val (.int i4), .val (.int m1), .val (.int m2), .val (.int v1), .val (.int v2), .val (.int n1), .val (.int n2), .val (.int n3), .val (.int n4), .val (.double x1), .second, .val (.double x2), .second, .val (.double y1), .second, .val (.double (FP.i2d v2)), .second, .unset, .unset, .unset, .unset]) rfl ?_
                        have J240 : ∀ y2 : UInt64, y2 = own_x v2 n4 → OGo p e below (Kk s below n0 (fun v h => v = some (.int 1)) room_1.cells room_1.slots) T0 (mkF m 240 #[.val (.int i0), .val (.int i1), .val (.int i2), .val (.int i3), .val (.int i4), .val (.int m1), .val (.int m2), .val (.int v1), .val (.int v2), .val (.int n1), .val (.int n2), .val (.int n3), .val (.int n4), .val (.double x1), .second, .val (.double x2), .second, .val (.double y1), .second, .val (.double y2), .second, .unset, .unset, .unset, .unset] []) := by
                          intro y2 e_y2
                          have m_x1 : Mag64 1088 x1 := e_x1 ▸ own_x_mag s1
                          have f_x1 : NoNaN64 x1 := e_x1 ▸ own_x_fin s1
                          have m_x2 : Mag64 1088 x2 := e_x2 ▸ own_x_mag s2
                          have f_x2 : NoNaN64 x2 := e_x2 ▸ own_x_fin s2
                          have m_y1 : Mag64 1088 y1 := e_y1 ▸ own_x_mag s3
                          have f_y1 : NoNaN64 y1 := e_y1 ▸ own_x_fin s3
                          have m_y2 : Mag64 1088 y2 := e_y2 ▸ own_x_mag s4
                          have f_y2 : NoNaN64 y2 := e_y2 ▸ own_x_fin s4
                          have g_y1 : ¬ cmpValue (FP.dcmp y1 FP.dconst0) .l < (0 : Int32) := e_y1 ▸ own_var_ge s3 p1
                          have g_y2 : ¬ cmpValue (FP.dcmp y2 FP.dconst0) .l < (0 : Int32) := e_y2 ▸ own_var_ge s4 p2
                          refine OGo.new (pc' := 243) (cells' := 1) (slots' := 2) C X0 (wd1 hw) (wd2 hw) (wd3 hw) at_240 rfl rfl rfl (by decide) (by decide) (fun T1 h1 a1 X1 g1 q1 E1 A1 D1 U1 => ?_)
                          have F1_mean : Fld Z h1 a1 "com/example/first_from_joins/firstfromjoins/engine/ScorePrior" "mean" "D" (.double (0 : UInt64)) := D1 (Or.inr (wd21 hw)) (ty := .double) (by decide)
                          have F1_variance : Fld Z h1 a1 "com/example/first_from_joins/firstfromjoins/engine/ScorePrior" "variance" "D" (.double (0 : UInt64)) := D1 (Or.inr (wd23 hw)) (ty := .double) (by decide)
                          refine OGo.dup (pc' := 244) C X1 at_243 rfl rfl ?_
                          refine OGo.dload (pc' := 246) C X1 at_244 rfl rfl ?_
                          refine OGo.dload (pc' := 248) C X1 at_246 rfl rfl ?_
                          refine OGo.callInit (pc' := 251) (cells' := 1) (slots' := 2) (argsL := [(.double x1), (.double y1)]) (St := [(.ref a1)]) C X1 rfl rfl (wd4 hw) (wd5 hw) (by decide) (wd6 hw) (wd3 hw) (ct1 hw X1.2.1 a1 x1 y1 A1 F1_mean F1_variance q1 m_x1 m_y1 g_y1) (lenOf pd6 rfl) rfl at_248 rfl rfl (by decide) (Nat.le_of_ble_eq_true rfl) rfl rfl (by decide) (by decide) (fun v2 T2 h2 Q2 X2 z2 => ?_)
                          obtain ⟨hv2, K2, E2a, F2a, F2b⟩ := Q2
                          subst hv2
                          show OGo p e below _ T2 (mkF m 251 #[.val (.int i0), .val (.int i1), .val (.int i2), .val (.int i3), .val (.int i4), .val (.int m1), .val (.int m2), .val (.int v1), .val (.int v2), .val (.int n1), .val (.int n2), .val (.int n3), .val (.int n4), .val (.double x1), .second, .val (.double x2), .second, .val (.double y1), .second, .val (.double y2), .second, .unset, .unset, .unset, .unset] [(.ref a1)])
                          refine OGo.astore (pc' := 253) C X2 at_251 rfl rfl (l' := #[.val (.int i0), .val (.int i1), .val (.int i2), .val (.int i3), .val (.int i4), .val (.int m1), .val (.int m2), .val (.int v1), .val (.int v2), .val (.int n1), .val (.int n2), .val (.int n3), .val (.int n4), .val (.double x1), .second, .val (.double x2), .second, .val (.double y1), .second, .val (.double y2), .second, .val (.ref a1), .unset, .unset, .unset]) rfl ?_
                          refine OGo.new (pc' := 256) (cells' := 2) (slots' := 4) C X2 (wd1 hw) (wd2 hw) (wd3 hw) at_253 rfl rfl rfl (by decide) (by decide) (fun T3 h3 a3 X3 g3 q3 E3 A3 D3 U3 => ?_)
                          have ne4 : a1 ≠ a3 := Nat.ne_of_lt (Nat.lt_of_lt_of_eq E2a.lt g3.symm)
                          have F3_mean : Fld Z h3 a3 "com/example/first_from_joins/firstfromjoins/engine/ScorePrior" "mean" "D" (.double (0 : UInt64)) := D3 (Or.inr (wd21 hw)) (ty := .double) (by decide)
                          have F3_variance : Fld Z h3 a3 "com/example/first_from_joins/firstfromjoins/engine/ScorePrior" "variance" "D" (.double (0 : UInt64)) := D3 (Or.inr (wd23 hw)) (ty := .double) (by decide)
                          refine OGo.dup (pc' := 257) C X3 at_256 rfl rfl ?_
                          refine OGo.dload (pc' := 259) C X3 at_257 rfl rfl ?_
                          refine OGo.dload (pc' := 261) C X3 at_259 rfl rfl ?_
                          refine OGo.callInit (pc' := 264) (cells' := 2) (slots' := 4) (argsL := [(.double x2), (.double y2)]) (St := [(.ref a3)]) C X3 rfl rfl (wd4 hw) (wd5 hw) (by decide) (wd6 hw) (wd3 hw) (ct1 hw X3.2.1 a3 x2 y2 A3 F3_mean F3_variance q3 m_x2 m_y2 g_y2) (lenOf pd6 rfl) rfl at_261 rfl rfl (by decide) (Nat.le_of_ble_eq_true rfl) rfl rfl (by decide) (by decide) (fun v5 T5 h5 Q5 X5 z5 => ?_)
                          obtain ⟨hv5, K5, E5a, F5a, F5b⟩ := Q5
                          subst hv5
                          show OGo p e below _ T5 (mkF m 264 #[.val (.int i0), .val (.int i1), .val (.int i2), .val (.int i3), .val (.int i4), .val (.int m1), .val (.int m2), .val (.int v1), .val (.int v2), .val (.int n1), .val (.int n2), .val (.int n3), .val (.int n4), .val (.double x1), .second, .val (.double x2), .second, .val (.double y1), .second, .val (.double y2), .second, .val (.ref a1), .unset, .unset, .unset] [(.ref a3)])
                          refine OGo.astore (pc' := 266) C X5 at_264 rfl rfl (l' := #[.val (.int i0), .val (.int i1), .val (.int i2), .val (.int i3), .val (.int i4), .val (.int m1), .val (.int m2), .val (.int v1), .val (.int v2), .val (.int n1), .val (.int n2), .val (.int n3), .val (.int n4), .val (.double x1), .second, .val (.double x2), .second, .val (.double y1), .second, .val (.double y2), .second, .val (.ref a1), .val (.ref a3), .unset, .unset]) rfl ?_
                          refine OGo.iload (pc' := 268) C X5 at_266 rfl rfl ?_
                          refine OGo.bipush (pc' := 270) (z := (10 : Int32)) C X5 at_268 rfl (by decide) ?_
                          refine OGo.iushr (pc' := 271) (z := ((i4.toUInt32 >>> ((10 : Int32) &&& 31).toUInt32).toInt32)) C X5 at_270 rfl rfl ?_
                          refine OGo.iconst (pc' := 272) (z := (3 : Int32)) C X5 at_271 rfl (by decide) ?_
                          obtain ⟨mode, h_mode⟩ : ∃ z : Int32, ((i4.toUInt32 >>> ((10 : Int32) &&& 31).toUInt32).toInt32) &&& (3 : Int32) = z := ⟨_, rfl⟩
                          refine OGo.iand (pc' := 273) (z := mode) C X5 at_272 rfl h_mode ?_
                          refine OGo.istore (pc' := 275) C X5 at_273 rfl (l' := #[.val (.int i0), .val (.int i1), .val (.int i2), .val (.int i3), .val (.int i4), .val (.int m1), .val (.int m2), .val (.int v1), .val (.int v2), .val (.int n1), .val (.int n2), .val (.int n3), .val (.int n4), .val (.double x1), .second, .val (.double x2), .second, .val (.double y1), .second, .val (.double y2), .second, .val (.ref a1), .val (.ref a3), .val (.int mode), .unset]) rfl ?_
                          refine OGo.iload (pc' := 277) C X5 at_275 rfl rfl ?_
                          refine OGo.iconst (pc' := 278) (z := (1 : Int32)) C X5 at_277 rfl (by decide) ?_
                          by_cases hm1 : mode = (1 : Int32)
                          · refine OGo.icmpNo (pc' := 281) C X5 at_278 rfl (teq hm1).2 ?_
                            refine OGo.aload (pc' := 283) C X5 at_281 rfl rfl rfl ?_
                            refine OGo.aconst_null (pc' := 284) C X5 at_283 rfl ?_
                            have f8 := ((E2a.ext E3).keep K5)
                            refine OGo.callV (pc' := 287) (cells' := 2) (slots' := 4) (argsL := [.null]) (St := []) C X5 (wd24 hw) (wd25 hw) (wd27 hw) (wd26 hw) (by decide) f8 (wd28 hw) (wd3 hw) (ctEN hw X5.2.1 a1) (lenOf pd7 rfl) rfl at_284 rfl rfl (by decide) (Nat.le_of_ble_eq_true rfl) rfl rfl (by decide) (by decide) (fun v7 T7 h7 Q7 X7 z7 => ?_)
                            obtain ⟨hv7, hh7⟩ := Q7
                            subst hv7; rw [hh7] at X7
                            show OGo p e below _ T7 (mkF m 287 #[.val (.int i0), .val (.int i1), .val (.int i2), .val (.int i3), .val (.int i4), .val (.int m1), .val (.int m2), .val (.int v1), .val (.int v2), .val (.int n1), .val (.int n2), .val (.int n3), .val (.int n4), .val (.double x1), .second, .val (.double x2), .second, .val (.double y1), .second, .val (.double y2), .second, .val (.ref a1), .val (.ref a3), .val (.int mode), .unset] [(.int (0 : Int32))])
                            refine OGo.ifNo (pc' := 290) C X7 at_287 rfl (teq (by decide : (0 : Int32) = (0 : Int32))).2 ?_
                            refine OGo.iconst (pc' := 291) (z := (1 : Int32)) C X7 at_290 rfl (by decide) ?_
                            refine OGo.goto (pc' := 295) C X7 at_291 (by decide) (by decide) ?_
                            exact OGo.retN C X7 at_295 hret (by simp) (z' := (1 : Int32)) (by decide) hlk (rfl) (by decide) (by decide)
                          · refine OGo.icmpYes (pc' := 296) C X5 at_278 (feq hm1).2 (by decide) (by decide) ?_
                            refine OGo.iload (pc' := 298) C X5 at_296 rfl rfl ?_
                            refine OGo.iconst (pc' := 299) (z := (2 : Int32)) C X5 at_298 rfl (by decide) ?_
                            by_cases hm2 : mode = (2 : Int32)
                            · refine OGo.icmpNo (pc' := 302) C X5 at_299 rfl (teq hm2).2 ?_
                              refine OGo.aload (pc' := 304) C X5 at_302 rfl rfl rfl ?_
                              refine OGo.iloadN (pc' := 305) C X5 at_304 rfl rfl ?_
                              have f10 := ((((OD.ext E1).keep K2 (allS q1 all0)).ext E3).keep K5 (allS q3 all0))
                              refine OGo.callS (pc' := 308) (cells' := 3) (slots' := 5) (argsL := [(.int i0)]) (St := [(.ref a1)]) C X5 (wd43 hw) (wd44 hw) (by decide) (wd46 hw) (wd45 hw) (ct9 hw X5.2.1 i0 ca cc f10 S1 S2 B) (lenOf pd8 rfl) rfl at_305 rfl rfl (by decide) (Nat.le_of_ble_eq_true rfl) rfl rfl (by decide) (by decide) (fun v11 T11 h11 Q11 X11 z11 => ?_)
                              obtain ⟨b11, hv11, K11, E11⟩ := Q11
                              subst hv11
                              show OGo p e below _ T11 (mkF m 308 #[.val (.int i0), .val (.int i1), .val (.int i2), .val (.int i3), .val (.int i4), .val (.int m1), .val (.int m2), .val (.int v1), .val (.int v2), .val (.int n1), .val (.int n2), .val (.int n3), .val (.int n4), .val (.double x1), .second, .val (.double x2), .second, .val (.double y1), .second, .val (.double y2), .second, .val (.ref a1), .val (.ref a3), .val (.int mode), .unset] [(.ref b11), (.ref a1)])
                              have f13 := (((E2a.ext E3).keep K5).keep K11)
                              refine OGo.callV (pc' := 311) (cells' := 3) (slots' := 5) (argsL := [(.ref b11)]) (St := []) C X11 (wd24 hw) (wd25 hw) (wd27 hw) (wd26 hw) (by decide) f13 (wd28 hw) (wd3 hw) (ctEI hw X11.2.1 a1 b11 E11) (lenOf pd7 rfl) rfl at_308 rfl rfl (by decide) (Nat.le_of_ble_eq_true rfl) rfl rfl (by decide) (by decide) (fun v12 T12 h12 Q12 X12 z12 => ?_)
                              obtain ⟨hv12, hh12⟩ := Q12
                              subst hv12; rw [hh12] at X12
                              show OGo p e below _ T12 (mkF m 311 #[.val (.int i0), .val (.int i1), .val (.int i2), .val (.int i3), .val (.int i4), .val (.int m1), .val (.int m2), .val (.int v1), .val (.int v2), .val (.int n1), .val (.int n2), .val (.int n3), .val (.int n4), .val (.double x1), .second, .val (.double x2), .second, .val (.double y1), .second, .val (.double y2), .second, .val (.ref a1), .val (.ref a3), .val (.int mode), .unset] [(.int (0 : Int32))])
                              refine OGo.ifNo (pc' := 314) C X12 at_311 rfl (teq (by decide : (0 : Int32) = (0 : Int32))).2 ?_
                              refine OGo.iconst (pc' := 315) (z := (1 : Int32)) C X12 at_314 rfl (by decide) ?_
                              refine OGo.goto (pc' := 319) C X12 at_315 (by decide) (by decide) ?_
                              exact OGo.retN C X12 at_319 hret (by simp) (z' := (1 : Int32)) (by decide) hlk (rfl) (by decide) (by decide)
                            · refine OGo.icmpYes (pc' := 320) C X5 at_299 (feq hm2).2 (by decide) (by decide) ?_
                              refine OGo.iload (pc' := 322) C X5 at_320 rfl rfl ?_
                              refine OGo.iconst (pc' := 323) (z := (3 : Int32)) C X5 at_322 rfl (by decide) ?_
                              by_cases hm3 : mode = (3 : Int32)
                              · refine OGo.icmpNo (pc' := 326) C X5 at_323 rfl (teq hm3).2 ?_
                                refine OGo.aload (pc' := 328) C X5 at_326 rfl rfl rfl ?_
                                refine OGo.aload (pc' := 330) C X5 at_328 rfl rfl rfl ?_
                                have f15 := ((E2a.ext E3).keep K5)
                                have f16 := ((F2a.ext E3).keep K5 (ninS ne4 nin0))
                                have f17 := ((F2b.ext E3).keep K5 (ninS ne4 nin0))
                                refine OGo.callV (pc' := 333) (cells' := 2) (slots' := 4) (argsL := [(.ref a1)]) (St := []) C X5 (wd24 hw) (wd25 hw) (wd27 hw) (wd26 hw) (by decide) f15 (wd28 hw) (wd3 hw) (ct5 hw X5.2.1 a1 a1 x1 y1 x1 y1 f15 f16 f17 f15 f16 f17 f_x1 f_x1 f_y1 f_y1) (lenOf pd7 rfl) rfl at_330 rfl rfl (by decide) (Nat.le_of_ble_eq_true rfl) rfl rfl (by decide) (by decide) (fun v18 T18 h18 Q18 X18 z18 => ?_)
                                obtain ⟨hv18, hh18⟩ := Q18
                                subst hv18; rw [hh18] at X18
                                show OGo p e below _ T18 (mkF m 333 #[.val (.int i0), .val (.int i1), .val (.int i2), .val (.int i3), .val (.int i4), .val (.int m1), .val (.int m2), .val (.int v1), .val (.int v2), .val (.int n1), .val (.int n2), .val (.int n3), .val (.int n4), .val (.double x1), .second, .val (.double x2), .second, .val (.double y1), .second, .val (.double y2), .second, .val (.ref a1), .val (.ref a3), .val (.int mode), .unset] [(.int (own_eqv x1 y1 x1 y1))])
                                exact OGo.retN C X18 at_333 hret (by simp) (z' := (1 : Int32)) (by rw [own_eqv1 rfl rfl]; decide) hlk (rfl) (by decide) (by decide)
                              · refine OGo.icmpYes (pc' := 334) C X5 at_323 (feq hm3).2 (by decide) (by decide) ?_
                                refine OGo.iload (pc' := 336) C X5 at_334 rfl rfl ?_
                                refine OGo.iload (pc' := 338) C X5 at_336 rfl rfl ?_
                                by_cases hm : m1 = m2
                                · refine OGo.icmpNo (pc' := 341) C X5 at_338 rfl (teq hm).2 ?_
                                  refine OGo.iload (pc' := 343) C X5 at_341 rfl rfl ?_
                                  refine OGo.iload (pc' := 345) C X5 at_343 rfl rfl ?_
                                  by_cases hn : n1 = n2
                                  · refine OGo.icmpNo (pc' := 348) C X5 at_345 rfl (teq hn).2 ?_
                                    refine OGo.iload (pc' := 350) C X5 at_348 rfl rfl ?_
                                    refine OGo.iload (pc' := 352) C X5 at_350 rfl rfl ?_
                                    by_cases hv : v1 = v2
                                    · refine OGo.icmpNo (pc' := 355) C X5 at_352 rfl (teq hv).2 ?_
                                      refine OGo.iload (pc' := 357) C X5 at_355 rfl rfl ?_
                                      refine OGo.iload (pc' := 359) C X5 at_357 rfl rfl ?_
                                      by_cases hz : n3 = n4
                                      · refine OGo.icmpNo (pc' := 362) C X5 at_359 rfl (teq hz).2 ?_
                                        refine OGo.iconst (pc' := 363) (z := (1 : Int32)) C X5 at_362 rfl (by decide) ?_
                                        refine OGo.goto (pc' := 367) C X5 at_363 (by decide) (by decide) ?_
                                        refine OGo.istore (pc' := 369) C X5 at_367 rfl (l' := #[.val (.int i0), .val (.int i1), .val (.int i2), .val (.int i3), .val (.int i4), .val (.int m1), .val (.int m2), .val (.int v1), .val (.int v2), .val (.int n1), .val (.int n2), .val (.int n3), .val (.int n4), .val (.double x1), .second, .val (.double x2), .second, .val (.double y1), .second, .val (.double y2), .second, .val (.ref a1), .val (.ref a3), .val (.int mode), .val (.int (1 : Int32))]) rfl ?_
                                        refine OGo.aload (pc' := 371) C X5 at_369 rfl rfl rfl ?_
                                        refine OGo.aload (pc' := 373) C X5 at_371 rfl rfl rfl ?_
                                        have f23 := ((E2a.ext E3).keep K5)
                                        have f24 := ((F2a.ext E3).keep K5 (ninS ne4 nin0))
                                        have f25 := ((F2b.ext E3).keep K5 (ninS ne4 nin0))
                                        refine OGo.callV (pc' := 376) (cells' := 2) (slots' := 4) (argsL := [(.ref a3)]) (St := []) C X5 (wd24 hw) (wd25 hw) (wd27 hw) (wd26 hw) (by decide) f23 (wd28 hw) (wd3 hw) (ct5 hw X5.2.1 a1 a3 x1 y1 x2 y2 f23 f24 f25 E5a F5a F5b f_x1 f_x2 f_y1 f_y2) (lenOf pd7 rfl) rfl at_373 rfl rfl (by decide) (Nat.le_of_ble_eq_true rfl) rfl rfl (by decide) (by decide) (fun v26 T26 h26 Q26 X26 z26 => ?_)
                                        obtain ⟨hv26, hh26⟩ := Q26
                                        subst hv26; rw [hh26] at X26
                                        show OGo p e below _ T26 (mkF m 376 #[.val (.int i0), .val (.int i1), .val (.int i2), .val (.int i3), .val (.int i4), .val (.int m1), .val (.int m2), .val (.int v1), .val (.int v2), .val (.int n1), .val (.int n2), .val (.int n3), .val (.int n4), .val (.double x1), .second, .val (.double x2), .second, .val (.double y1), .second, .val (.double y2), .second, .val (.ref a1), .val (.ref a3), .val (.int mode), .val (.int (1 : Int32))] [(.int (own_eqv x1 y1 x2 y2))])
                                        refine OGo.iload (pc' := 378) C X26 at_376 rfl rfl ?_
                                        refine OGo.icmpNo (pc' := 381) C X26 at_378 rfl (teq (show own_eqv x1 y1 x2 y2 = (1 : Int32) from own_eqv1 (by rw [e_x1, e_x2]; exact ((own_x_inj s1 s2).mpr ⟨hm, hn⟩)) (by rw [e_y1, e_y2]; exact ((own_x_inj s3 s4).mpr ⟨hv, hz⟩)))).2 ?_
                                        refine OGo.aload (pc' := 383) C X26 at_381 rfl rfl rfl ?_
                                        refine OGo.aload (pc' := 385) C X26 at_383 rfl rfl rfl ?_
                                        refine OGo.callV (pc' := 388) (cells' := 2) (slots' := 4) (argsL := [(.ref a1)]) (St := []) C X26 (wd24 hw) (wd25 hw) (wd27 hw) (wd26 hw) (by decide) E5a (wd28 hw) (wd3 hw) (ct5 hw X26.2.1 a3 a1 x2 y2 x1 y1 E5a F5a F5b f23 f24 f25 f_x2 f_x1 f_y2 f_y1) (lenOf pd7 rfl) rfl at_385 rfl rfl (by decide) (Nat.le_of_ble_eq_true rfl) rfl rfl (by decide) (by decide) (fun v27 T27 h27 Q27 X27 z27 => ?_)
                                        obtain ⟨hv27, hh27⟩ := Q27
                                        subst hv27; rw [hh27] at X27
                                        show OGo p e below _ T27 (mkF m 388 #[.val (.int i0), .val (.int i1), .val (.int i2), .val (.int i3), .val (.int i4), .val (.int m1), .val (.int m2), .val (.int v1), .val (.int v2), .val (.int n1), .val (.int n2), .val (.int n3), .val (.int n4), .val (.double x1), .second, .val (.double x2), .second, .val (.double y1), .second, .val (.double y2), .second, .val (.ref a1), .val (.ref a3), .val (.int mode), .val (.int (1 : Int32))] [(.int (own_eqv x2 y2 x1 y1))])
                                        refine OGo.iload (pc' := 390) C X27 at_388 rfl rfl ?_
                                        refine OGo.icmpNo (pc' := 393) C X27 at_390 rfl (teq (show own_eqv x2 y2 x1 y1 = (1 : Int32) from own_eqv1 (by rw [e_x1, e_x2]; exact ((own_x_inj s2 s1).mpr ⟨hm.symm, hn.symm⟩)) (by rw [e_y1, e_y2]; exact ((own_x_inj s4 s3).mpr ⟨hv.symm, hz.symm⟩)))).2 ?_
                                        refine OGo.iconst (pc' := 394) (z := (1 : Int32)) C X27 at_393 rfl (by decide) ?_
                                        refine OGo.goto (pc' := 398) C X27 at_394 (by decide) (by decide) ?_
                                        exact OGo.retN C X27 at_398 hret (by simp) (z' := (1 : Int32)) (by decide) hlk (rfl) (by decide) (by decide)
                                      · refine OGo.icmpYes (pc' := 366) C X5 at_359 (feq hz).2 (by decide) (by decide) ?_
                                        refine OGo.iconst (pc' := 367) (z := (0 : Int32)) C X5 at_366 rfl (by decide) ?_
                                        refine OGo.istore (pc' := 369) C X5 at_367 rfl (l' := #[.val (.int i0), .val (.int i1), .val (.int i2), .val (.int i3), .val (.int i4), .val (.int m1), .val (.int m2), .val (.int v1), .val (.int v2), .val (.int n1), .val (.int n2), .val (.int n3), .val (.int n4), .val (.double x1), .second, .val (.double x2), .second, .val (.double y1), .second, .val (.double y2), .second, .val (.ref a1), .val (.ref a3), .val (.int mode), .val (.int (0 : Int32))]) rfl ?_
                                        refine OGo.aload (pc' := 371) C X5 at_369 rfl rfl rfl ?_
                                        refine OGo.aload (pc' := 373) C X5 at_371 rfl rfl rfl ?_
                                        have f28 := ((E2a.ext E3).keep K5)
                                        have f29 := ((F2a.ext E3).keep K5 (ninS ne4 nin0))
                                        have f30 := ((F2b.ext E3).keep K5 (ninS ne4 nin0))
                                        refine OGo.callV (pc' := 376) (cells' := 2) (slots' := 4) (argsL := [(.ref a3)]) (St := []) C X5 (wd24 hw) (wd25 hw) (wd27 hw) (wd26 hw) (by decide) f28 (wd28 hw) (wd3 hw) (ct5 hw X5.2.1 a1 a3 x1 y1 x2 y2 f28 f29 f30 E5a F5a F5b f_x1 f_x2 f_y1 f_y2) (lenOf pd7 rfl) rfl at_373 rfl rfl (by decide) (Nat.le_of_ble_eq_true rfl) rfl rfl (by decide) (by decide) (fun v31 T31 h31 Q31 X31 z31 => ?_)
                                        obtain ⟨hv31, hh31⟩ := Q31
                                        subst hv31; rw [hh31] at X31
                                        show OGo p e below _ T31 (mkF m 376 #[.val (.int i0), .val (.int i1), .val (.int i2), .val (.int i3), .val (.int i4), .val (.int m1), .val (.int m2), .val (.int v1), .val (.int v2), .val (.int n1), .val (.int n2), .val (.int n3), .val (.int n4), .val (.double x1), .second, .val (.double x2), .second, .val (.double y1), .second, .val (.double y2), .second, .val (.ref a1), .val (.ref a3), .val (.int mode), .val (.int (0 : Int32))] [(.int (own_eqv x1 y1 x2 y2))])
                                        refine OGo.iload (pc' := 378) C X31 at_376 rfl rfl ?_
                                        refine OGo.icmpNo (pc' := 381) C X31 at_378 rfl (teq (show own_eqv x1 y1 x2 y2 = (0 : Int32) from own_eqv0 fun q => by rw [e_x1, e_x2, e_y1, e_y2] at q; exact hz ((own_x_inj s3 s4).mp q.2).2)).2 ?_
                                        refine OGo.aload (pc' := 383) C X31 at_381 rfl rfl rfl ?_
                                        refine OGo.aload (pc' := 385) C X31 at_383 rfl rfl rfl ?_
                                        refine OGo.callV (pc' := 388) (cells' := 2) (slots' := 4) (argsL := [(.ref a1)]) (St := []) C X31 (wd24 hw) (wd25 hw) (wd27 hw) (wd26 hw) (by decide) E5a (wd28 hw) (wd3 hw) (ct5 hw X31.2.1 a3 a1 x2 y2 x1 y1 E5a F5a F5b f28 f29 f30 f_x2 f_x1 f_y2 f_y1) (lenOf pd7 rfl) rfl at_385 rfl rfl (by decide) (Nat.le_of_ble_eq_true rfl) rfl rfl (by decide) (by decide) (fun v32 T32 h32 Q32 X32 z32 => ?_)
                                        obtain ⟨hv32, hh32⟩ := Q32
                                        subst hv32; rw [hh32] at X32
                                        show OGo p e below _ T32 (mkF m 388 #[.val (.int i0), .val (.int i1), .val (.int i2), .val (.int i3), .val (.int i4), .val (.int m1), .val (.int m2), .val (.int v1), .val (.int v2), .val (.int n1), .val (.int n2), .val (.int n3), .val (.int n4), .val (.double x1), .second, .val (.double x2), .second, .val (.double y1), .second, .val (.double y2), .second, .val (.ref a1), .val (.ref a3), .val (.int mode), .val (.int (0 : Int32))] [(.int (own_eqv x2 y2 x1 y1))])
                                        refine OGo.iload (pc' := 390) C X32 at_388 rfl rfl ?_
                                        refine OGo.icmpNo (pc' := 393) C X32 at_390 rfl (teq (show own_eqv x2 y2 x1 y1 = (0 : Int32) from own_eqv0 fun q => by rw [e_x1, e_x2, e_y1, e_y2] at q; exact hz ((own_x_inj s4 s3).mp q.2).2.symm)).2 ?_
                                        refine OGo.iconst (pc' := 394) (z := (1 : Int32)) C X32 at_393 rfl (by decide) ?_
                                        refine OGo.goto (pc' := 398) C X32 at_394 (by decide) (by decide) ?_
                                        exact OGo.retN C X32 at_398 hret (by simp) (z' := (1 : Int32)) (by decide) hlk (rfl) (by decide) (by decide)
                                    · refine OGo.icmpYes (pc' := 366) C X5 at_352 (feq hv).2 (by decide) (by decide) ?_
                                      refine OGo.iconst (pc' := 367) (z := (0 : Int32)) C X5 at_366 rfl (by decide) ?_
                                      refine OGo.istore (pc' := 369) C X5 at_367 rfl (l' := #[.val (.int i0), .val (.int i1), .val (.int i2), .val (.int i3), .val (.int i4), .val (.int m1), .val (.int m2), .val (.int v1), .val (.int v2), .val (.int n1), .val (.int n2), .val (.int n3), .val (.int n4), .val (.double x1), .second, .val (.double x2), .second, .val (.double y1), .second, .val (.double y2), .second, .val (.ref a1), .val (.ref a3), .val (.int mode), .val (.int (0 : Int32))]) rfl ?_
                                      refine OGo.aload (pc' := 371) C X5 at_369 rfl rfl rfl ?_
                                      refine OGo.aload (pc' := 373) C X5 at_371 rfl rfl rfl ?_
                                      have f33 := ((E2a.ext E3).keep K5)
                                      have f34 := ((F2a.ext E3).keep K5 (ninS ne4 nin0))
                                      have f35 := ((F2b.ext E3).keep K5 (ninS ne4 nin0))
                                      refine OGo.callV (pc' := 376) (cells' := 2) (slots' := 4) (argsL := [(.ref a3)]) (St := []) C X5 (wd24 hw) (wd25 hw) (wd27 hw) (wd26 hw) (by decide) f33 (wd28 hw) (wd3 hw) (ct5 hw X5.2.1 a1 a3 x1 y1 x2 y2 f33 f34 f35 E5a F5a F5b f_x1 f_x2 f_y1 f_y2) (lenOf pd7 rfl) rfl at_373 rfl rfl (by decide) (Nat.le_of_ble_eq_true rfl) rfl rfl (by decide) (by decide) (fun v36 T36 h36 Q36 X36 z36 => ?_)
                                      obtain ⟨hv36, hh36⟩ := Q36
                                      subst hv36; rw [hh36] at X36
                                      show OGo p e below _ T36 (mkF m 376 #[.val (.int i0), .val (.int i1), .val (.int i2), .val (.int i3), .val (.int i4), .val (.int m1), .val (.int m2), .val (.int v1), .val (.int v2), .val (.int n1), .val (.int n2), .val (.int n3), .val (.int n4), .val (.double x1), .second, .val (.double x2), .second, .val (.double y1), .second, .val (.double y2), .second, .val (.ref a1), .val (.ref a3), .val (.int mode), .val (.int (0 : Int32))] [(.int (own_eqv x1 y1 x2 y2))])
                                      refine OGo.iload (pc' := 378) C X36 at_376 rfl rfl ?_
                                      refine OGo.icmpNo (pc' := 381) C X36 at_378 rfl (teq (show own_eqv x1 y1 x2 y2 = (0 : Int32) from own_eqv0 fun q => by rw [e_x1, e_x2, e_y1, e_y2] at q; exact hv ((own_x_inj s3 s4).mp q.2).1)).2 ?_
                                      refine OGo.aload (pc' := 383) C X36 at_381 rfl rfl rfl ?_
                                      refine OGo.aload (pc' := 385) C X36 at_383 rfl rfl rfl ?_
                                      refine OGo.callV (pc' := 388) (cells' := 2) (slots' := 4) (argsL := [(.ref a1)]) (St := []) C X36 (wd24 hw) (wd25 hw) (wd27 hw) (wd26 hw) (by decide) E5a (wd28 hw) (wd3 hw) (ct5 hw X36.2.1 a3 a1 x2 y2 x1 y1 E5a F5a F5b f33 f34 f35 f_x2 f_x1 f_y2 f_y1) (lenOf pd7 rfl) rfl at_385 rfl rfl (by decide) (Nat.le_of_ble_eq_true rfl) rfl rfl (by decide) (by decide) (fun v37 T37 h37 Q37 X37 z37 => ?_)
                                      obtain ⟨hv37, hh37⟩ := Q37
                                      subst hv37; rw [hh37] at X37
                                      show OGo p e below _ T37 (mkF m 388 #[.val (.int i0), .val (.int i1), .val (.int i2), .val (.int i3), .val (.int i4), .val (.int m1), .val (.int m2), .val (.int v1), .val (.int v2), .val (.int n1), .val (.int n2), .val (.int n3), .val (.int n4), .val (.double x1), .second, .val (.double x2), .second, .val (.double y1), .second, .val (.double y2), .second, .val (.ref a1), .val (.ref a3), .val (.int mode), .val (.int (0 : Int32))] [(.int (own_eqv x2 y2 x1 y1))])
                                      refine OGo.iload (pc' := 390) C X37 at_388 rfl rfl ?_
                                      refine OGo.icmpNo (pc' := 393) C X37 at_390 rfl (teq (show own_eqv x2 y2 x1 y1 = (0 : Int32) from own_eqv0 fun q => by rw [e_x1, e_x2, e_y1, e_y2] at q; exact hv ((own_x_inj s4 s3).mp q.2).1.symm)).2 ?_
                                      refine OGo.iconst (pc' := 394) (z := (1 : Int32)) C X37 at_393 rfl (by decide) ?_
                                      refine OGo.goto (pc' := 398) C X37 at_394 (by decide) (by decide) ?_
                                      exact OGo.retN C X37 at_398 hret (by simp) (z' := (1 : Int32)) (by decide) hlk (rfl) (by decide) (by decide)
                                  · refine OGo.icmpYes (pc' := 366) C X5 at_345 (feq hn).2 (by decide) (by decide) ?_
                                    refine OGo.iconst (pc' := 367) (z := (0 : Int32)) C X5 at_366 rfl (by decide) ?_
                                    refine OGo.istore (pc' := 369) C X5 at_367 rfl (l' := #[.val (.int i0), .val (.int i1), .val (.int i2), .val (.int i3), .val (.int i4), .val (.int m1), .val (.int m2), .val (.int v1), .val (.int v2), .val (.int n1), .val (.int n2), .val (.int n3), .val (.int n4), .val (.double x1), .second, .val (.double x2), .second, .val (.double y1), .second, .val (.double y2), .second, .val (.ref a1), .val (.ref a3), .val (.int mode), .val (.int (0 : Int32))]) rfl ?_
                                    refine OGo.aload (pc' := 371) C X5 at_369 rfl rfl rfl ?_
                                    refine OGo.aload (pc' := 373) C X5 at_371 rfl rfl rfl ?_
                                    have f38 := ((E2a.ext E3).keep K5)
                                    have f39 := ((F2a.ext E3).keep K5 (ninS ne4 nin0))
                                    have f40 := ((F2b.ext E3).keep K5 (ninS ne4 nin0))
                                    refine OGo.callV (pc' := 376) (cells' := 2) (slots' := 4) (argsL := [(.ref a3)]) (St := []) C X5 (wd24 hw) (wd25 hw) (wd27 hw) (wd26 hw) (by decide) f38 (wd28 hw) (wd3 hw) (ct5 hw X5.2.1 a1 a3 x1 y1 x2 y2 f38 f39 f40 E5a F5a F5b f_x1 f_x2 f_y1 f_y2) (lenOf pd7 rfl) rfl at_373 rfl rfl (by decide) (Nat.le_of_ble_eq_true rfl) rfl rfl (by decide) (by decide) (fun v41 T41 h41 Q41 X41 z41 => ?_)
                                    obtain ⟨hv41, hh41⟩ := Q41
                                    subst hv41; rw [hh41] at X41
                                    show OGo p e below _ T41 (mkF m 376 #[.val (.int i0), .val (.int i1), .val (.int i2), .val (.int i3), .val (.int i4), .val (.int m1), .val (.int m2), .val (.int v1), .val (.int v2), .val (.int n1), .val (.int n2), .val (.int n3), .val (.int n4), .val (.double x1), .second, .val (.double x2), .second, .val (.double y1), .second, .val (.double y2), .second, .val (.ref a1), .val (.ref a3), .val (.int mode), .val (.int (0 : Int32))] [(.int (own_eqv x1 y1 x2 y2))])
                                    refine OGo.iload (pc' := 378) C X41 at_376 rfl rfl ?_
                                    refine OGo.icmpNo (pc' := 381) C X41 at_378 rfl (teq (show own_eqv x1 y1 x2 y2 = (0 : Int32) from own_eqv0 fun q => by rw [e_x1, e_x2, e_y1, e_y2] at q; exact hn ((own_x_inj s1 s2).mp q.1).2)).2 ?_
                                    refine OGo.aload (pc' := 383) C X41 at_381 rfl rfl rfl ?_
                                    refine OGo.aload (pc' := 385) C X41 at_383 rfl rfl rfl ?_
                                    refine OGo.callV (pc' := 388) (cells' := 2) (slots' := 4) (argsL := [(.ref a1)]) (St := []) C X41 (wd24 hw) (wd25 hw) (wd27 hw) (wd26 hw) (by decide) E5a (wd28 hw) (wd3 hw) (ct5 hw X41.2.1 a3 a1 x2 y2 x1 y1 E5a F5a F5b f38 f39 f40 f_x2 f_x1 f_y2 f_y1) (lenOf pd7 rfl) rfl at_385 rfl rfl (by decide) (Nat.le_of_ble_eq_true rfl) rfl rfl (by decide) (by decide) (fun v42 T42 h42 Q42 X42 z42 => ?_)
                                    obtain ⟨hv42, hh42⟩ := Q42
                                    subst hv42; rw [hh42] at X42
                                    show OGo p e below _ T42 (mkF m 388 #[.val (.int i0), .val (.int i1), .val (.int i2), .val (.int i3), .val (.int i4), .val (.int m1), .val (.int m2), .val (.int v1), .val (.int v2), .val (.int n1), .val (.int n2), .val (.int n3), .val (.int n4), .val (.double x1), .second, .val (.double x2), .second, .val (.double y1), .second, .val (.double y2), .second, .val (.ref a1), .val (.ref a3), .val (.int mode), .val (.int (0 : Int32))] [(.int (own_eqv x2 y2 x1 y1))])
                                    refine OGo.iload (pc' := 390) C X42 at_388 rfl rfl ?_
                                    refine OGo.icmpNo (pc' := 393) C X42 at_390 rfl (teq (show own_eqv x2 y2 x1 y1 = (0 : Int32) from own_eqv0 fun q => by rw [e_x1, e_x2, e_y1, e_y2] at q; exact hn ((own_x_inj s2 s1).mp q.1).2.symm)).2 ?_
                                    refine OGo.iconst (pc' := 394) (z := (1 : Int32)) C X42 at_393 rfl (by decide) ?_
                                    refine OGo.goto (pc' := 398) C X42 at_394 (by decide) (by decide) ?_
                                    exact OGo.retN C X42 at_398 hret (by simp) (z' := (1 : Int32)) (by decide) hlk (rfl) (by decide) (by decide)
                                · refine OGo.icmpYes (pc' := 366) C X5 at_338 (feq hm).2 (by decide) (by decide) ?_
                                  refine OGo.iconst (pc' := 367) (z := (0 : Int32)) C X5 at_366 rfl (by decide) ?_
                                  refine OGo.istore (pc' := 369) C X5 at_367 rfl (l' := #[.val (.int i0), .val (.int i1), .val (.int i2), .val (.int i3), .val (.int i4), .val (.int m1), .val (.int m2), .val (.int v1), .val (.int v2), .val (.int n1), .val (.int n2), .val (.int n3), .val (.int n4), .val (.double x1), .second, .val (.double x2), .second, .val (.double y1), .second, .val (.double y2), .second, .val (.ref a1), .val (.ref a3), .val (.int mode), .val (.int (0 : Int32))]) rfl ?_
                                  refine OGo.aload (pc' := 371) C X5 at_369 rfl rfl rfl ?_
                                  refine OGo.aload (pc' := 373) C X5 at_371 rfl rfl rfl ?_
                                  have f43 := ((E2a.ext E3).keep K5)
                                  have f44 := ((F2a.ext E3).keep K5 (ninS ne4 nin0))
                                  have f45 := ((F2b.ext E3).keep K5 (ninS ne4 nin0))
                                  refine OGo.callV (pc' := 376) (cells' := 2) (slots' := 4) (argsL := [(.ref a3)]) (St := []) C X5 (wd24 hw) (wd25 hw) (wd27 hw) (wd26 hw) (by decide) f43 (wd28 hw) (wd3 hw) (ct5 hw X5.2.1 a1 a3 x1 y1 x2 y2 f43 f44 f45 E5a F5a F5b f_x1 f_x2 f_y1 f_y2) (lenOf pd7 rfl) rfl at_373 rfl rfl (by decide) (Nat.le_of_ble_eq_true rfl) rfl rfl (by decide) (by decide) (fun v46 T46 h46 Q46 X46 z46 => ?_)
                                  obtain ⟨hv46, hh46⟩ := Q46
                                  subst hv46; rw [hh46] at X46
                                  show OGo p e below _ T46 (mkF m 376 #[.val (.int i0), .val (.int i1), .val (.int i2), .val (.int i3), .val (.int i4), .val (.int m1), .val (.int m2), .val (.int v1), .val (.int v2), .val (.int n1), .val (.int n2), .val (.int n3), .val (.int n4), .val (.double x1), .second, .val (.double x2), .second, .val (.double y1), .second, .val (.double y2), .second, .val (.ref a1), .val (.ref a3), .val (.int mode), .val (.int (0 : Int32))] [(.int (own_eqv x1 y1 x2 y2))])
                                  refine OGo.iload (pc' := 378) C X46 at_376 rfl rfl ?_
                                  refine OGo.icmpNo (pc' := 381) C X46 at_378 rfl (teq (show own_eqv x1 y1 x2 y2 = (0 : Int32) from own_eqv0 fun q => by rw [e_x1, e_x2, e_y1, e_y2] at q; exact hm ((own_x_inj s1 s2).mp q.1).1)).2 ?_
                                  refine OGo.aload (pc' := 383) C X46 at_381 rfl rfl rfl ?_
                                  refine OGo.aload (pc' := 385) C X46 at_383 rfl rfl rfl ?_
                                  refine OGo.callV (pc' := 388) (cells' := 2) (slots' := 4) (argsL := [(.ref a1)]) (St := []) C X46 (wd24 hw) (wd25 hw) (wd27 hw) (wd26 hw) (by decide) E5a (wd28 hw) (wd3 hw) (ct5 hw X46.2.1 a3 a1 x2 y2 x1 y1 E5a F5a F5b f43 f44 f45 f_x2 f_x1 f_y2 f_y1) (lenOf pd7 rfl) rfl at_385 rfl rfl (by decide) (Nat.le_of_ble_eq_true rfl) rfl rfl (by decide) (by decide) (fun v47 T47 h47 Q47 X47 z47 => ?_)
                                  obtain ⟨hv47, hh47⟩ := Q47
                                  subst hv47; rw [hh47] at X47
                                  show OGo p e below _ T47 (mkF m 388 #[.val (.int i0), .val (.int i1), .val (.int i2), .val (.int i3), .val (.int i4), .val (.int m1), .val (.int m2), .val (.int v1), .val (.int v2), .val (.int n1), .val (.int n2), .val (.int n3), .val (.int n4), .val (.double x1), .second, .val (.double x2), .second, .val (.double y1), .second, .val (.double y2), .second, .val (.ref a1), .val (.ref a3), .val (.int mode), .val (.int (0 : Int32))] [(.int (own_eqv x2 y2 x1 y1))])
                                  refine OGo.iload (pc' := 390) C X47 at_388 rfl rfl ?_
                                  refine OGo.icmpNo (pc' := 393) C X47 at_390 rfl (teq (show own_eqv x2 y2 x1 y1 = (0 : Int32) from own_eqv0 fun q => by rw [e_x1, e_x2, e_y1, e_y2] at q; exact hm ((own_x_inj s2 s1).mp q.1).1.symm)).2 ?_
                                  refine OGo.iconst (pc' := 394) (z := (1 : Int32)) C X47 at_393 rfl (by decide) ?_
                                  refine OGo.goto (pc' := 398) C X47 at_394 (by decide) (by decide) ?_
                                  exact OGo.retN C X47 at_398 hret (by simp) (z' := (1 : Int32)) (by decide) hlk (rfl) (by decide) (by decide)
                        refine OGo.iload (pc' := 232) C X0 at_230 rfl rfl ?_
                        by_cases hq : n4 = (0 : Int32)
                        · refine OGo.ifYes (pc' := 240) C X0 at_232 (teq hq).1 (by decide) (by decide) ?_
                          exact J240 _ (own_x0 hq)
                        · refine OGo.ifNo (pc' := 235) C X0 at_232 rfl (feq hq).1 ?_
                          refine OGo.dload (pc' := 237) C X0 at_235 rfl rfl ?_
                          refine OGo.dneg (pc' := 238) (v := (FP.dneg (FP.i2d v2))) C X0 at_237 rfl rfl ?_
                          refine OGo.dstore (pc' := 240) C X0 at_238 rfl (l' := #[.val (.int i0), .val (.int i1), .val (.int i2), .val (.int i3), .val (.int i4), .val (.int m1), .val (.int m2), .val (.int v1), .val (.int v2), .val (.int n1), .val (.int n2), .val (.int n3), .val (.int n4), .val (.double x1), .second, .val (.double x2), .second, .val (.double y1), .second, .val (.double (FP.dneg (FP.i2d v2))), .second, .unset, .unset, .unset, .unset]) rfl ?_
                          exact J240 _ (own_x1 hq)
                      refine OGo.iload (pc' := 217) C X0 at_215 rfl rfl ?_
                      by_cases hq : n3 = (0 : Int32)
                      · refine OGo.ifYes (pc' := 225) C X0 at_217 (teq hq).1 (by decide) (by decide) ?_
                        exact J225 _ (own_x0 hq)
                      · refine OGo.ifNo (pc' := 220) C X0 at_217 rfl (feq hq).1 ?_
                        refine OGo.dload (pc' := 222) C X0 at_220 rfl rfl ?_
                        refine OGo.dneg (pc' := 223) (v := (FP.dneg (FP.i2d v1))) C X0 at_222 rfl rfl ?_
                        refine OGo.dstore (pc' := 225) C X0 at_223 rfl (l' := #[.val (.int i0), .val (.int i1), .val (.int i2), .val (.int i3), .val (.int i4), .val (.int m1), .val (.int m2), .val (.int v1), .val (.int v2), .val (.int n1), .val (.int n2), .val (.int n3), .val (.int n4), .val (.double x1), .second, .val (.double x2), .second, .val (.double (FP.dneg (FP.i2d v1))), .second, .unset, .unset, .unset, .unset, .unset, .unset]) rfl ?_
                        exact J225 _ (own_x1 hq)
                    refine OGo.iload (pc' := 202) C X0 at_200 rfl rfl ?_
                    by_cases hq : n2 = (0 : Int32)
                    · refine OGo.ifYes (pc' := 210) C X0 at_202 (teq hq).1 (by decide) (by decide) ?_
                      exact J210 _ (own_x0 hq)
                    · refine OGo.ifNo (pc' := 205) C X0 at_202 rfl (feq hq).1 ?_
                      refine OGo.dload (pc' := 207) C X0 at_205 rfl rfl ?_
                      refine OGo.dneg (pc' := 208) (v := (FP.dneg (FP.i2d m2))) C X0 at_207 rfl rfl ?_
                      refine OGo.dstore (pc' := 210) C X0 at_208 rfl (l' := #[.val (.int i0), .val (.int i1), .val (.int i2), .val (.int i3), .val (.int i4), .val (.int m1), .val (.int m2), .val (.int v1), .val (.int v2), .val (.int n1), .val (.int n2), .val (.int n3), .val (.int n4), .val (.double x1), .second, .val (.double (FP.dneg (FP.i2d m2))), .second, .unset, .unset, .unset, .unset, .unset, .unset, .unset, .unset]) rfl ?_
                      exact J210 _ (own_x1 hq)
                  refine OGo.iload (pc' := 187) C X0 at_185 rfl rfl ?_
                  by_cases hq : n1 = (0 : Int32)
                  · refine OGo.ifYes (pc' := 195) C X0 at_187 (teq hq).1 (by decide) (by decide) ?_
                    exact J195 _ (own_x0 hq)
                  · refine OGo.ifNo (pc' := 190) C X0 at_187 rfl (feq hq).1 ?_
                    refine OGo.dload (pc' := 192) C X0 at_190 rfl rfl ?_
                    refine OGo.dneg (pc' := 193) (v := (FP.dneg (FP.i2d m1))) C X0 at_192 rfl rfl ?_
                    refine OGo.dstore (pc' := 195) C X0 at_193 rfl (l' := #[.val (.int i0), .val (.int i1), .val (.int i2), .val (.int i3), .val (.int i4), .val (.int m1), .val (.int m2), .val (.int v1), .val (.int v2), .val (.int n1), .val (.int n2), .val (.int n3), .val (.int n4), .val (.double (FP.dneg (FP.i2d m1))), .second, .unset, .unset, .unset, .unset, .unset, .unset, .unset, .unset, .unset, .unset]) rfl ?_
                    exact J195 _ (own_x1 hq)
                refine OGo.iload (pc' := 162) C X0 at_160 rfl rfl ?_
                refine OGo.bipush (pc' := 164) (z := (32 : Int32)) C X0 at_162 rfl (by decide) ?_
                refine OGo.iand (pc' := 165) (z := (i4 &&& (32 : Int32))) C X0 at_164 rfl rfl ?_
                by_cases hc52 : (i4 &&& (32 : Int32)) = (0 : Int32)
                · refine OGo.ifYes (pc' := 177) C X0 at_165 (teq hc52).1 (by decide) (by decide) ?_
                  refine OGo.iconst (pc' := 178) (z := (0 : Int32)) C X0 at_177 rfl (by decide) ?_
                  exact J178 _ (Or.inl rfl)
                · refine OGo.ifNo (pc' := 168) C X0 at_165 rfl (feq hc52).1 ?_
                  refine OGo.iload (pc' := 170) C X0 at_168 rfl rfl ?_
                  by_cases hc53 : v2 = (0 : Int32)
                  · refine OGo.ifNo (pc' := 173) C X0 at_170 rfl (teq hc53).2 ?_
                    refine OGo.iconst (pc' := 174) (z := (1 : Int32)) C X0 at_173 rfl (by decide) ?_
                    refine OGo.goto (pc' := 178) C X0 at_174 (by decide) (by decide) ?_
                    exact J178 _ (Or.inr ⟨rfl, hc53⟩)
                  · refine OGo.ifYes (pc' := 177) C X0 at_170 (feq hc53).2 (by decide) (by decide) ?_
                    refine OGo.iconst (pc' := 178) (z := (0 : Int32)) C X0 at_177 rfl (by decide) ?_
                    exact J178 _ (Or.inl rfl)
              refine OGo.iload (pc' := 142) C X0 at_140 rfl rfl ?_
              refine OGo.bipush (pc' := 144) (z := (16 : Int32)) C X0 at_142 rfl (by decide) ?_
              refine OGo.iand (pc' := 145) (z := (i4 &&& (16 : Int32))) C X0 at_144 rfl rfl ?_
              by_cases hc54 : (i4 &&& (16 : Int32)) = (0 : Int32)
              · refine OGo.ifYes (pc' := 157) C X0 at_145 (teq hc54).1 (by decide) (by decide) ?_
                refine OGo.iconst (pc' := 158) (z := (0 : Int32)) C X0 at_157 rfl (by decide) ?_
                exact J158 _ (Or.inl rfl)
              · refine OGo.ifNo (pc' := 148) C X0 at_145 rfl (feq hc54).1 ?_
                refine OGo.iload (pc' := 150) C X0 at_148 rfl rfl ?_
                by_cases hc55 : v1 = (0 : Int32)
                · refine OGo.ifNo (pc' := 153) C X0 at_150 rfl (teq hc55).2 ?_
                  refine OGo.iconst (pc' := 154) (z := (1 : Int32)) C X0 at_153 rfl (by decide) ?_
                  refine OGo.goto (pc' := 158) C X0 at_154 (by decide) (by decide) ?_
                  exact J158 _ (Or.inr ⟨rfl, hc55⟩)
                · refine OGo.ifYes (pc' := 157) C X0 at_150 (feq hc55).2 (by decide) (by decide) ?_
                  refine OGo.iconst (pc' := 158) (z := (0 : Int32)) C X0 at_157 rfl (by decide) ?_
                  exact J158 _ (Or.inl rfl)
            refine OGo.iload (pc' := 122) C X0 at_120 rfl rfl ?_
            refine OGo.bipush (pc' := 124) (z := (8 : Int32)) C X0 at_122 rfl (by decide) ?_
            refine OGo.iand (pc' := 125) (z := (i4 &&& (8 : Int32))) C X0 at_124 rfl rfl ?_
            by_cases hc56 : (i4 &&& (8 : Int32)) = (0 : Int32)
            · refine OGo.ifYes (pc' := 137) C X0 at_125 (teq hc56).1 (by decide) (by decide) ?_
              refine OGo.iconst (pc' := 138) (z := (0 : Int32)) C X0 at_137 rfl (by decide) ?_
              exact J138 _ (Or.inl rfl)
            · refine OGo.ifNo (pc' := 128) C X0 at_125 rfl (feq hc56).1 ?_
              refine OGo.iload (pc' := 130) C X0 at_128 rfl rfl ?_
              by_cases hc57 : m2 = (0 : Int32)
              · refine OGo.ifNo (pc' := 133) C X0 at_130 rfl (teq hc57).2 ?_
                refine OGo.iconst (pc' := 134) (z := (1 : Int32)) C X0 at_133 rfl (by decide) ?_
                refine OGo.goto (pc' := 138) C X0 at_134 (by decide) (by decide) ?_
                exact J138 _ (Or.inr ⟨rfl, hc57⟩)
              · refine OGo.ifYes (pc' := 137) C X0 at_130 (feq hc57).2 (by decide) (by decide) ?_
                refine OGo.iconst (pc' := 138) (z := (0 : Int32)) C X0 at_137 rfl (by decide) ?_
                exact J138 _ (Or.inl rfl)
          refine OGo.iload (pc' := 103) C X0 at_101 rfl rfl ?_
          refine OGo.iconst (pc' := 104) (z := (4 : Int32)) C X0 at_103 rfl (by decide) ?_
          refine OGo.iand (pc' := 105) (z := (i4 &&& (4 : Int32))) C X0 at_104 rfl rfl ?_
          by_cases hc58 : (i4 &&& (4 : Int32)) = (0 : Int32)
          · refine OGo.ifYes (pc' := 117) C X0 at_105 (teq hc58).1 (by decide) (by decide) ?_
            refine OGo.iconst (pc' := 118) (z := (0 : Int32)) C X0 at_117 rfl (by decide) ?_
            exact J118 _ (Or.inl rfl)
          · refine OGo.ifNo (pc' := 108) C X0 at_105 rfl (feq hc58).1 ?_
            refine OGo.iload (pc' := 110) C X0 at_108 rfl rfl ?_
            by_cases hc59 : m1 = (0 : Int32)
            · refine OGo.ifNo (pc' := 113) C X0 at_110 rfl (teq hc59).2 ?_
              refine OGo.iconst (pc' := 114) (z := (1 : Int32)) C X0 at_113 rfl (by decide) ?_
              refine OGo.goto (pc' := 118) C X0 at_114 (by decide) (by decide) ?_
              exact J118 _ (Or.inr ⟨rfl, hc59⟩)
            · refine OGo.ifYes (pc' := 117) C X0 at_110 (feq hc59).2 (by decide) (by decide) ?_
              refine OGo.iconst (pc' := 118) (z := (0 : Int32)) C X0 at_117 rfl (by decide) ?_
              exact J118 _ (Or.inl rfl)
        refine OGo.iload (pc' := 70) C X0 at_68 rfl rfl ?_
        refine OGo.iconst (pc' := 71) (z := (2 : Int32)) C X0 at_70 rfl (by decide) ?_
        refine OGo.iand (pc' := 72) (z := (i4 &&& (2 : Int32))) C X0 at_71 rfl rfl ?_
        by_cases hc60 : (i4 &&& (2 : Int32)) = (0 : Int32)
        · refine OGo.ifYes (pc' := 80) C X0 at_72 (teq hc60).1 (by decide) (by decide) ?_
          refine OGo.iload (pc' := 82) C X0 at_80 rfl rfl ?_
          refine OGo.sipush (pc' := 85) (z := (512 : Int32)) C X0 at_82 rfl (by decide) ?_
          refine OGo.iand (pc' := 86) (z := (i4 &&& (512 : Int32))) C X0 at_85 rfl rfl ?_
          by_cases hc61 : (i4 &&& (512 : Int32)) = (0 : Int32)
          · refine OGo.ifYes (pc' := 95) C X0 at_86 (teq hc61).1 (by decide) (by decide) ?_
            refine OGo.iloadN (pc' := 96) C X0 at_95 rfl rfl ?_
            refine OGo.ldcInt (pc' := 98) C X0 (wd0 hw) at_96 rfl ?_
            refine OGo.iand (pc' := 99) (z := (i3 &&& (2147483647 : Int32))) C X0 at_98 rfl rfl ?_
            exact J99 _ (c_and _ _ (by decide)).1
          · refine OGo.ifNo (pc' := 89) C X0 at_86 rfl (feq hc61).1 ?_
            refine OGo.iloadN (pc' := 90) C X0 at_89 rfl rfl ?_
            refine OGo.iconst (pc' := 91) (z := (1 : Int32)) C X0 at_90 rfl (by decide) ?_
            refine OGo.iand (pc' := 92) (z := (i3 &&& (1 : Int32))) C X0 at_91 rfl rfl ?_
            refine OGo.goto (pc' := 99) C X0 at_92 (by decide) (by decide) ?_
            exact J99 _ (c_and _ _ (by decide)).1
        · refine OGo.ifNo (pc' := 75) C X0 at_72 rfl (feq hc60).1 ?_
          refine OGo.iload (pc' := 77) C X0 at_75 rfl rfl ?_
          refine OGo.goto (pc' := 99) C X0 at_77 (by decide) (by decide) ?_
          exact J99 _ p1
      refine OGo.iload (pc' := 49) C X0 at_47 rfl rfl ?_
      refine OGo.sipush (pc' := 52) (z := (256 : Int32)) C X0 at_49 rfl (by decide) ?_
      refine OGo.iand (pc' := 53) (z := (i4 &&& (256 : Int32))) C X0 at_52 rfl rfl ?_
      by_cases hc62 : (i4 &&& (256 : Int32)) = (0 : Int32)
      · refine OGo.ifYes (pc' := 62) C X0 at_53 (teq hc62).1 (by decide) (by decide) ?_
        refine OGo.iloadN (pc' := 63) C X0 at_62 rfl rfl ?_
        refine OGo.ldcInt (pc' := 65) C X0 (wd0 hw) at_63 rfl ?_
        refine OGo.iand (pc' := 66) (z := (i2 &&& (2147483647 : Int32))) C X0 at_65 rfl rfl ?_
        exact J66 _ (c_and _ _ (by decide)).1
      · refine OGo.ifNo (pc' := 56) C X0 at_53 rfl (feq hc62).1 ?_
        refine OGo.iloadN (pc' := 57) C X0 at_56 rfl rfl ?_
        refine OGo.iconst (pc' := 58) (z := (1 : Int32)) C X0 at_57 rfl (by decide) ?_
        refine OGo.iand (pc' := 59) (z := (i2 &&& (1 : Int32))) C X0 at_58 rfl rfl ?_
        refine OGo.goto (pc' := 66) C X0 at_59 (by decide) (by decide) ?_
        exact J66 _ (c_and _ _ (by decide)).1
    refine OGo.iload (pc' := 19) C X0 at_17 rfl rfl ?_
    refine OGo.iconst (pc' := 20) (z := (1 : Int32)) C X0 at_19 rfl (by decide) ?_
    refine OGo.iand (pc' := 21) (z := (i4 &&& (1 : Int32))) C X0 at_20 rfl rfl ?_
    by_cases hc63 : (i4 &&& (1 : Int32)) = (0 : Int32)
    · refine OGo.ifYes (pc' := 29) C X0 at_21 (teq hc63).1 (by decide) (by decide) ?_
      refine OGo.iload (pc' := 31) C X0 at_29 rfl rfl ?_
      refine OGo.sipush (pc' := 34) (z := (128 : Int32)) C X0 at_31 rfl (by decide) ?_
      refine OGo.iand (pc' := 35) (z := (i4 &&& (128 : Int32))) C X0 at_34 rfl rfl ?_
      by_cases hc64 : (i4 &&& (128 : Int32)) = (0 : Int32)
      · refine OGo.ifYes (pc' := 44) C X0 at_35 (teq hc64).1 (by decide) (by decide) ?_
        refine OGo.iloadN (pc' := 45) C X0 at_44 rfl rfl ?_
        exact J45 _ 
      · refine OGo.ifNo (pc' := 38) C X0 at_35 rfl (feq hc64).1 ?_
        refine OGo.iloadN (pc' := 39) C X0 at_38 rfl rfl ?_
        refine OGo.iconst (pc' := 40) (z := (1 : Int32)) C X0 at_39 rfl (by decide) ?_
        refine OGo.iand (pc' := 41) (z := (i1 &&& (1 : Int32))) C X0 at_40 rfl rfl ?_
        refine OGo.goto (pc' := 45) C X0 at_41 (by decide) (by decide) ?_
        exact J45 _ 
    · refine OGo.ifNo (pc' := 24) C X0 at_21 rfl (feq hc63).1 ?_
      refine OGo.iload (pc' := 26) C X0 at_24 rfl rfl ?_
      refine OGo.goto (pc' := 45) C X0 at_26 (by decide) (by decide) ?_
      exact J45 _ 
  refine OGo.iload (pc' := 2) C X0 at_0 rfl rfl ?_
  refine OGo.bipush (pc' := 4) (z := (64 : Int32)) C X0 at_2 rfl (by decide) ?_
  refine OGo.iand (pc' := 5) (z := (i4 &&& (64 : Int32))) C X0 at_4 rfl rfl ?_
  by_cases hc65 : (i4 &&& (64 : Int32)) = (0 : Int32)
  · refine OGo.ifYes (pc' := 14) C X0 at_5 (teq hc65).1 (by decide) (by decide) ?_
    refine OGo.iloadN (pc' := 15) C X0 at_14 rfl rfl ?_
    exact J15 _ 
  · refine OGo.ifNo (pc' := 8) C X0 at_5 rfl (feq hc65).1 ?_
    refine OGo.iloadN (pc' := 9) C X0 at_8 rfl rfl ?_
    refine OGo.iconst (pc' := 10) (z := (1 : Int32)) C X0 at_9 rfl (by decide) ?_
    refine OGo.iand (pc' := 11) (z := (i0 &&& (1 : Int32))) C X0 at_10 rfl rfl ?_
    refine OGo.goto (pc' := 15) C X0 at_11 (by decide) (by decide) ?_
    exact J15 _ 
set_option maxRecDepth 65536 in
set_option maxHeartbeats 40000000 in
theorem comes_1 {Post : Tables → Env → Array Value → State → Outcome → State → Prop} (hpost : ∀ tb e args s v u, (limb_1_1.after args s (.returned v) u = true ∧ limb_1_2.after args s (.returned v) u = true ∧ True) → FrameEnd s (.returned v) u (Jvm.fieldLocs frame_1_writes args s ++ Jvm.arrayLocs frame_1_arrays args s ++ Jvm.staticLocs frame_1_statics s) 16 128 → Post tb e args s (.returned v) u) :
    ArmFor flags0 classFile x code maxLocals ret World_1 tables_1 room_1 Calls_1 rest_1 Pre_1 Post := by
  intro l hfl _ _ p e ha hc hk s m args below hf hA hF happ hP
  obtain ⟨hcalls, hrest, hpre⟩ := hP
  obtain ⟨-, -, -, hnamed, -, -, -, hat⟩ := (Spec.applies_iff hf).mp happ
  obtain ⟨hg, hn⟩ := and_e (Cond.before_iff.mp (show (Jvm.Cond.and given_1 narrow_1).before args s = true from hpre))
  obtain ⟨g1, g2⟩ := and_e hg
  obtain ⟨g3, g4⟩ := and_e g2
  obtain ⟨g5, g6⟩ := and_e g4
  obtain ⟨g7, g8⟩ := and_e g6
  obtain ⟨g9, g10⟩ := and_e g8
  obtain ⟨w0, w1, w2, w3, w4, rfl⟩ : ∃ w0 w1 w2 w3 w4 : Value, args = #[w0, w1, w2, w3, w4] := by
    have hs : args.size = 5 := by simpa [Cond.value, given_1] using g1
    obtain ⟨L⟩ := args
    match L, hs with
    | [w0, w1, w2, w3, w4], _ => exact ⟨w0, w1, w2, w3, w4, rfl⟩
  have hw := fun d (hd : d ∈ tables_1) => atoms_spec (ws := Jvm.Cond.code x code maxLocals ret :: tables_1) hat d (List.mem_cons_of_mem _ hd)
  have hfit : Fit s := fun {y c} hc i hi => by
    obtain ⟨ha, rfl⟩ := Array.getElem?_eq_some_iff.mp hc
    have q := List.all_eq_true.mp ((Array.all_eq_true_iff_forall_mem.mp hF) _ (Array.getElem_mem ha)) i (List.mem_range.mpr hi)
    simpa [Array.getElem?_eq_getElem hi] using q
  obtain ⟨hsets, hown0⟩ := atoms_of _ (rest_1_c_eq ▸ (show rest_1_c.before _ s = true from hrest))
  obtain ⟨i0, ei0⟩ := is_v g3
  obtain rfl : w0 = (.int i0) := Option.some.inj ei0
  obtain ⟨i1, ei1⟩ := is_v g5
  obtain rfl : w1 = (.int i1) := Option.some.inj ei1
  obtain ⟨i2, ei2⟩ := is_v g7
  obtain rfl : w2 = (.int i2) := Option.some.inj ei2
  obtain ⟨i3, ei3⟩ := is_v g9
  obtain rfl : w3 = (.int i3) := Option.some.inj ei3
  obtain ⟨i4, ei4⟩ := is_v g10
  obtain rfl : w4 = (.int i4) := Option.some.inj ei4
  obtain ⟨ca, cc, S1, S2, B⟩ := own_cache hsets (wd66 hw)
  obtain ⟨n, o, h1, h2, h3, _, L, rfl, ⟨⟨rfl, -⟩, N⟩, hq⟩ := ct0 (l := l) (Z := s) hw (n0 := s.heap.size) (h0 := s.heap) (Nat.le_refl _) i0 i1 i2 i3 i4 ca cc (Old.start s) S1 S2 B tables_1 p e ha hc hk s m _ below hf ((Spec.applies_iff_loose hf).mp happ).1 ⟨rfl, State.Warmed39.refl s, rfl⟩ trivial
  refine ⟨n, _, h1, h2, h3, hpost _ _ _ _ _ _ ⟨Cond.after_iff.mpr rfl, Cond.after_iff.mpr (eq_i res_at (Term.int_eval (1)) rfl), trivial⟩ ⟨hq.1, hq.2.1, (hq.2.2.sift fun y hy => Or.inr (N y hy)).mono (by decide) (by decide)⟩⟩
theorem main_1_1 : Claimed_1_1 := comes_1 fun _ _ _ _ _ _ h hF => ⟨h.1, hF⟩
theorem main_1_2 : Claimed_1_2 := comes_1 fun _ _ _ _ _ _ h hF => ⟨h.2.1, hF⟩
end Jvm.Pilot.@@N@@
namespace Jvm.Pilot.@@N@@
open Jvm Jvm.ClassFile Sem Op Lib Jvm.Free Jvm.Stand Jvm.Pilot.@@N@@.Jvm.D
/-! MADE BY PROGRAM (witnessworld.py) out of the Statement's table words and the real class files: 18 classes; the members and pool entries that the words name. The judged class is class 1, her method 1. -/
namespace start1
open Jvm.ClassFile
def u (s : String) : CpInfo := .utf8 (stringToUtf16 s)
/-- a pool by its gaps: so many unusable entries, then the entry; so many at the end -/
def gap : Nat → List CpInfo → List CpInfo
  | 0, r => r
  | n + 1, r => .unusable :: gap n r
def poolList (es : List (Nat × CpInfo)) (last : Nat) : List CpInfo := es.foldr (fun e r => gap e.1 (e.2 :: r)) (gap last [])
def pool (es : List (Nat × CpInfo)) (last : Nat) : Array CpInfo := ⟨poolList es last⟩
def fileOf (pool : Array CpInfo) (this : Nat) (attrs : Array Attribute := #[]) (ms : Array MethodInfo := #[]) (fl : Nat := 33) (sup : Nat := 0) (ifs : Array Nat := #[]) (fds : Array FieldInfo := #[]) : ClassFile where
  minorVersion := 0
  majorVersion := 65
  constantPool := pool
  accessFlags := fl
  thisClass := this
  superClass := sup
  interfaces := ifs
  fields := fds
  methods := ms
  attributes := attrs
def plain (name : String) (sup : Option ClassId) : Class where
  name := name
  kind := .ordinary
  loader := none
  accessFlags := 33
  super := sup
  interfaces := #[]
  cf := none
  fields := #[]
  methods := #[]
  instanceTypes := #[]
  staticTypes := #[]
  resolved := #[]
  callSites := []
  init := .initialized
  statics := none
  mirror := none

def pool0 : Array CpInfo := pool [(5, u "<init>"), (0, u "()V"), (1, .class_ 10), (1, u "java/lang/Object")] 113

def k0c0 : Code := { maxStack := 0, maxLocals := 1, code := object_method_1_code, exceptionTable := #[], attributes := #[] }
def k0m0 : Method := { name := "<init>", desc := "()V", sig := { parameters := [], returnType := none }, accessFlags := 1, code := some k0c0 }
/-- java/lang/Object -/
def k0 : Class := { plain "java/lang/Object" none with
  accessFlags := 33
  interfaces := #[]
  cf := some (fileOf pool0 8 #[] #[{ accessFlags := 1, nameIndex := 5, descriptorIndex := 6, attributes := #[] }] 33 0 #[] #[])
  fields := #[]
  methods := #[k0m0]
  instanceTypes := #[]
  staticTypes := #[]
  resolved := Array.replicate 124 none
  statics := none }

def pool1 : Array CpInfo := pool [(2, .class_ 4), (1, u "java/lang/Object"), (0, u "<init>"), (0, u "()V"), (0, .integer 2147483647), (0, .class_ 9), (0, u "com/example/first_from_joins/firstfromjoins/engine/ScorePrior"), (0, .methodref 8 11), (0, .nameAndType 5 12), (0, u "(DD)V"), (0, .methodref 8 14), (0, .nameAndType 15 16), (0, u "equals"), (0, u "(Ljava/lang/Object;)Z"), (0, .methodref 18 19), (0, .class_ 20), (0, .nameAndType 21 22), (0, u "java/lang/Integer"), (0, u "valueOf"), (0, u "(I)Ljava/lang/Integer;"), (0, .class_ 24), (0, u "com/example/first_from_joins/firstfromjoins/engine/ScorePriorEqualsPinLaw"), (2, u "law"), (0, u "(IIIII)Z")] 3

def k1m0 : Method := { name := "<init>", desc := "()V", sig := { parameters := [], returnType := none }, accessFlags := 1, code := none }
def k1c1 : Code := { maxStack := 6, maxLocals := 25, code := code, exceptionTable := #[], attributes := #[] }
def k1m1 : Method := { name := "law", desc := "(IIIII)Z", sig := { parameters := [.int, .int, .int, .int, .int], returnType := some .boolean }, accessFlags := 9, code := some k1c1 }
/-- com/example/first_from_joins/firstfromjoins/engine/ScorePriorEqualsPinLaw -/
def k1 : Class := { plain "com/example/first_from_joins/firstfromjoins/engine/ScorePriorEqualsPinLaw" (some 0) with
  accessFlags := 49
  interfaces := #[]
  cf := some (fileOf pool1 23 #[] #[{ accessFlags := 1, nameIndex := 5, descriptorIndex := 6, attributes := #[] }, { accessFlags := 9, nameIndex := 27, descriptorIndex := 28, attributes := #[] }] 49 2 #[] #[])
  fields := #[]
  methods := #[k1m0, k1m1]
  instanceTypes := #[]
  staticTypes := #[]
  resolved := Array.replicate 32 none
  statics := none }

def pool2 : Array CpInfo := pool [(1, .methodref 2 3), (0, .class_ 4), (0, .nameAndType 5 6), (0, u "java/lang/Object"), (0, u "<init>"), (0, u "()V"), (0, .methodref 8 9), (0, .class_ 10), (0, .nameAndType 11 12), (0, u "java/lang/Double"), (0, u "isFinite"), (0, u "(D)Z"), (9, .double 9218868437227405312), (2, .fieldref 26 27), (0, .class_ 28), (0, .nameAndType 29 30), (0, u "com/example/first_from_joins/firstfromjoins/engine/ScorePrior"), (0, u "mean"), (0, u "D"), (0, .fieldref 26 32), (0, .nameAndType 33 30), (0, u "variance"), (9, u "(DD)V"), (0, .methodref 8 45), (0, .nameAndType 46 47), (0, u "compare"), (0, u "(DD)I"), (19, u "equals"), (0, u "(Ljava/lang/Object;)Z")] 27

def k2c0 : Code := { maxStack := 4, maxLocals := 5, code := prog_18_method_1_code, exceptionTable := #[], attributes := #[] }
def k2m0 : Method := { name := "<init>", desc := "(DD)V", sig := { parameters := [.double, .double], returnType := none }, accessFlags := 1, code := some k2c0 }
def k2c1 : Code := { maxStack := 4, maxLocals := 3, code := prog_18_method_6_code, exceptionTable := #[], attributes := #[] }
def k2m1 : Method := { name := "equals", desc := "(Ljava/lang/Object;)Z", sig := { parameters := [(.object "java/lang/Object")], returnType := some .boolean }, accessFlags := 1, code := some k2c1 }
/-- com/example/first_from_joins/firstfromjoins/engine/ScorePrior -/
def k2 : Class := { plain "com/example/first_from_joins/firstfromjoins/engine/ScorePrior" (some 0) with
  accessFlags := 49
  interfaces := #[]
  cf := some (fileOf pool2 26 #[] #[{ accessFlags := 1, nameIndex := 5, descriptorIndex := 43, attributes := #[] }, { accessFlags := 1, nameIndex := 67, descriptorIndex := 68, attributes := #[] }] 49 2 #[] #[{ accessFlags := 18, nameIndex := 29, descriptorIndex := 30, attributes := #[] }, { accessFlags := 18, nameIndex := 33, descriptorIndex := 30, attributes := #[] }])
  fields := #[{ name := "mean", type := .double, accessFlags := 18, slot := 0, constantValue := 0 }, { name := "variance", type := .double, accessFlags := 18, slot := 1, constantValue := 0 }]
  methods := #[k2m0, k2m1]
  instanceTypes := #[.double, .double]
  staticTypes := #[]
  resolved := Array.replicate 96 none
  statics := none }

def pool3 : Array CpInfo := pool [(1, .class_ 2), (0, u "java/io/Serializable"), (0, .class_ 4), (0, u "java/lang/Object")] 2

/-- java/io/Serializable -/
def k3 : Class := { plain "java/io/Serializable" (some 0) with
  accessFlags := 1537
  interfaces := #[]
  cf := some (fileOf pool3 1 #[] #[] 1537 3 #[] #[])
  fields := #[]
  methods := #[]
  instanceTypes := #[]
  staticTypes := #[]
  resolved := Array.replicate 7 none
  statics := none }

def pool4 : Array CpInfo := pool [(1, .methodref 2 3), (0, .class_ 4), (0, .nameAndType 5 6), (0, u "java/lang/Object"), (0, u "<init>"), (0, u "()V"), (1, .class_ 10), (1, u "java/lang/Number"), (2, .class_ 14), (0, u "java/io/Serializable"), (0, u "serialVersionUID"), (0, u "J")] 20

def k4c0 : Code := { maxStack := 1, maxLocals := 1, code := jdk_18_method_1_code, exceptionTable := #[], attributes := #[] }
def k4m0 : Method := { name := "<init>", desc := "()V", sig := { parameters := [], returnType := none }, accessFlags := 1, code := some k4c0 }
/-- java/lang/Number -/
def k4 : Class := { plain "java/lang/Number" (some 0) with
  accessFlags := 1057
  interfaces := #[3]
  cf := some (fileOf pool4 8 #[] #[{ accessFlags := 1, nameIndex := 5, descriptorIndex := 6, attributes := #[] }] 1057 2 #[13] #[{ accessFlags := 26, nameIndex := 15, descriptorIndex := 16, attributes := #[] }])
  fields := #[{ name := "serialVersionUID", type := .long, accessFlags := 26, slot := 0, constantValue := 0 }]
  methods := #[k4m0]
  instanceTypes := #[]
  staticTypes := #[.long]
  resolved := Array.replicate 37 none
  statics := none }

def pool5 : Array CpInfo := pool [(1, .class_ 2), (0, u "java/lang/Comparable"), (0, .class_ 4), (0, u "java/lang/Object")] 7

/-- java/lang/Comparable -/
def k5 : Class := { plain "java/lang/Comparable" (some 0) with
  accessFlags := 1537
  interfaces := #[]
  cf := some (fileOf pool5 1 #[] #[] 1537 3 #[] #[])
  fields := #[]
  methods := #[]
  instanceTypes := #[]
  staticTypes := #[]
  resolved := Array.replicate 12 none
  statics := none }

def pool6 : Array CpInfo := pool [(1, .class_ 2), (0, u "java/lang/constant/Constable"), (0, .class_ 4), (0, u "java/lang/Object")] 6

/-- java/lang/constant/Constable -/
def k6 : Class := { plain "java/lang/constant/Constable" (some 0) with
  accessFlags := 1537
  interfaces := #[]
  cf := some (fileOf pool6 1 #[] #[] 1537 3 #[] #[])
  fields := #[]
  methods := #[]
  instanceTypes := #[]
  staticTypes := #[]
  resolved := Array.replicate 11 none
  statics := none }

def pool7 : Array CpInfo := pool [(1, .class_ 2), (0, u "java/lang/constant/ConstantDesc"), (0, .class_ 4), (0, u "java/lang/Object")] 32

/-- java/lang/constant/ConstantDesc -/
def k7 : Class := { plain "java/lang/constant/ConstantDesc" (some 0) with
  accessFlags := 1537
  interfaces := #[]
  cf := some (fileOf pool7 1 #[] #[] 1537 3 #[] #[])
  fields := #[]
  methods := #[]
  instanceTypes := #[]
  staticTypes := #[]
  resolved := Array.replicate 37 none
  statics := none }

def pool8 : Array CpInfo := pool [(1, .class_ 2), (0, u "java/lang/Double"), (10, u "isFinite"), (0, u "(D)Z"), (8, .class_ 25), (1, u "java/lang/Math"), (12, .methodref 23 39), (0, .nameAndType 40 41), (0, u "abs"), (0, u "(D)D"), (4, .methodref 1 47), (0, .nameAndType 48 49), (0, u "doubleToLongBits"), (0, u "(D)J"), (61, .double 9218868437227405311), (2, .class_ 116), (1, u "java/lang/Number"), (3, u "value"), (0, u "D"), (0, .methodref 1 123), (0, .nameAndType 124 14), (0, u "isNaN"), (9, .methodref 1 135), (0, .nameAndType 136 49), (0, u "doubleToRawLongBits"), (4, u "compare"), (0, u "(DD)I"), (30, u "TYPE"), (0, u "Ljava/lang/Class;"), (0, .class_ 176), (0, u "java/lang/Comparable"), (0, .class_ 178), (0, u "java/lang/constant/Constable"), (0, .class_ 180), (0, u "java/lang/constant/ConstantDesc"), (0, u "POSITIVE_INFINITY"), (3, u "NEGATIVE_INFINITY"), (2, u "NaN"), (2, u "MAX_VALUE"), (0, u "MIN_NORMAL"), (0, u "MIN_VALUE"), (2, u "SIZE"), (0, u "I"), (1, u "PRECISION"), (1, u "MAX_EXPONENT"), (1, u "MIN_EXPONENT"), (1, u "BYTES"), (3, u "serialVersionUID"), (0, u "J")] 79

def k8c0 : Code := { maxStack := 4, maxLocals := 2, code := jdk_117_method_6_code, exceptionTable := #[], attributes := #[] }
def k8m0 : Method := { name := "isNaN", desc := "(D)Z", sig := { parameters := [.double], returnType := some .boolean }, accessFlags := 9, code := some k8c0 }
def k8c1 : Code := { maxStack := 4, maxLocals := 2, code := jdk_117_method_8_code, exceptionTable := #[], attributes := #[] }
def k8m1 : Method := { name := "isFinite", desc := "(D)Z", sig := { parameters := [.double], returnType := some .boolean }, accessFlags := 9, code := some k8c1 }
def k8c2 : Code := { maxStack := 2, maxLocals := 2, code := jdk_117_method_23_code, exceptionTable := #[], attributes := #[] }
def k8m2 : Method := { name := "doubleToLongBits", desc := "(D)J", sig := { parameters := [.double], returnType := some .long }, accessFlags := 9, code := some k8c2 }
def k8m3 : Method := { name := "doubleToRawLongBits", desc := "(D)J", sig := { parameters := [.double], returnType := some .long }, accessFlags := 265, code := none }
def k8c4 : Code := { maxStack := 4, maxLocals := 8, code := jdk_117_method_27_code, exceptionTable := #[], attributes := #[] }
def k8m4 : Method := { name := "compare", desc := "(DD)I", sig := { parameters := [.double, .double], returnType := some .int }, accessFlags := 9, code := some k8c4 }
/-- java/lang/Double -/
def k8 : Class := { plain "java/lang/Double" (some 4) with
  accessFlags := 49
  interfaces := #[5, 6, 7]
  cf := some (fileOf pool8 1 #[] #[{ accessFlags := 9, nameIndex := 124, descriptorIndex := 14, attributes := #[] }, { accessFlags := 9, nameIndex := 13, descriptorIndex := 14, attributes := #[] }, { accessFlags := 9, nameIndex := 48, descriptorIndex := 49, attributes := #[] }, { accessFlags := 265, nameIndex := 136, descriptorIndex := 49, attributes := #[] }, { accessFlags := 9, nameIndex := 141, descriptorIndex := 142, attributes := #[] }] 49 114 #[175, 177, 179] #[{ accessFlags := 25, nameIndex := 181, descriptorIndex := 121, attributes := #[] }, { accessFlags := 25, nameIndex := 185, descriptorIndex := 121, attributes := #[] }, { accessFlags := 25, nameIndex := 188, descriptorIndex := 121, attributes := #[] }, { accessFlags := 25, nameIndex := 191, descriptorIndex := 121, attributes := #[] }, { accessFlags := 25, nameIndex := 192, descriptorIndex := 121, attributes := #[] }, { accessFlags := 25, nameIndex := 193, descriptorIndex := 121, attributes := #[] }, { accessFlags := 25, nameIndex := 196, descriptorIndex := 197, attributes := #[] }, { accessFlags := 25, nameIndex := 199, descriptorIndex := 197, attributes := #[] }, { accessFlags := 25, nameIndex := 201, descriptorIndex := 197, attributes := #[] }, { accessFlags := 25, nameIndex := 203, descriptorIndex := 197, attributes := #[] }, { accessFlags := 25, nameIndex := 205, descriptorIndex := 197, attributes := #[] }, { accessFlags := 25, nameIndex := 173, descriptorIndex := 174, attributes := #[] }, { accessFlags := 18, nameIndex := 120, descriptorIndex := 121, attributes := #[] }, { accessFlags := 26, nameIndex := 209, descriptorIndex := 210, attributes := #[] }])
  fields := #[{ name := "POSITIVE_INFINITY", type := .double, accessFlags := 25, slot := 0, constantValue := 0 }, { name := "NEGATIVE_INFINITY", type := .double, accessFlags := 25, slot := 1, constantValue := 0 }, { name := "NaN", type := .double, accessFlags := 25, slot := 2, constantValue := 0 }, { name := "MAX_VALUE", type := .double, accessFlags := 25, slot := 3, constantValue := 0 }, { name := "MIN_NORMAL", type := .double, accessFlags := 25, slot := 4, constantValue := 0 }, { name := "MIN_VALUE", type := .double, accessFlags := 25, slot := 5, constantValue := 0 }, { name := "SIZE", type := .int, accessFlags := 25, slot := 6, constantValue := 0 }, { name := "PRECISION", type := .int, accessFlags := 25, slot := 7, constantValue := 0 }, { name := "MAX_EXPONENT", type := .int, accessFlags := 25, slot := 8, constantValue := 0 }, { name := "MIN_EXPONENT", type := .int, accessFlags := 25, slot := 9, constantValue := 0 }, { name := "BYTES", type := .int, accessFlags := 25, slot := 10, constantValue := 0 }, { name := "TYPE", type := (.object "java/lang/Class"), accessFlags := 25, slot := 11, constantValue := 0 }, { name := "value", type := .double, accessFlags := 18, slot := 0, constantValue := 0 }, { name := "serialVersionUID", type := .long, accessFlags := 26, slot := 12, constantValue := 0 }]
  methods := #[k8m0, k8m1, k8m2, k8m3, k8m4]
  instanceTypes := #[.double]
  staticTypes := #[.double, .double, .double, .double, .double, .double, .int, .int, .int, .int, .int, (.object "java/lang/Class"), .long]
  resolved := Array.replicate 290 none
  statics := none }

def pool9 : Array CpInfo := pool [(1, .class_ 2), (0, u "java/lang/Math"), (1, .class_ 6), (1, u "java/lang/Object"), (0, u "<init>"), (0, u "()V"), (5, u "(D)D"), (83, .class_ 100), (1, u "java/lang/Math$RandomNumberGeneratorHolder"), (23, u "abs"), (47, u "negativeZeroFloatBits"), (0, u "J"), (2, u "negativeZeroDoubleBits"), (68, u "$assertionsDisabled"), (0, u "Z"), (91, u "twoToTheDoubleScaleDown"), (0, u "D"), (4, u "twoToTheDoubleScaleUp"), (9, u "E"), (3, u "PI"), (2, u "TAU"), (2, u "DEGREES_TO_RADIANS"), (0, u "RADIANS_TO_DEGREES")] 94

def k9m0 : Method := { name := "<init>", desc := "()V", sig := { parameters := [], returnType := none }, accessFlags := 2, code := none }
def k9c1 : Code := { maxStack := 4, maxLocals := 2, code := jdk_29_method_64_code, exceptionTable := #[], attributes := #[] }
def k9m1 : Method := { name := "abs", desc := "(D)D", sig := { parameters := [.double], returnType := some .double }, accessFlags := 9, code := some k9c1 }
/-- java/lang/Math -/
def k9 : Class := { plain "java/lang/Math" (some 0) with
  accessFlags := 49
  interfaces := #[]
  cf := some (fileOf pool9 1 #[.nestMembers #[98]] #[{ accessFlags := 2, nameIndex := 7, descriptorIndex := 8, attributes := #[] }, { accessFlags := 9, nameIndex := 124, descriptorIndex := 14, attributes := #[] }] 49 4 #[] #[{ accessFlags := 25, nameIndex := 354, descriptorIndex := 339, attributes := #[] }, { accessFlags := 25, nameIndex := 358, descriptorIndex := 339, attributes := #[] }, { accessFlags := 25, nameIndex := 361, descriptorIndex := 339, attributes := #[] }, { accessFlags := 26, nameIndex := 364, descriptorIndex := 339, attributes := #[] }, { accessFlags := 26, nameIndex := 365, descriptorIndex := 339, attributes := #[] }, { accessFlags := 26, nameIndex := 172, descriptorIndex := 173, attributes := #[] }, { accessFlags := 26, nameIndex := 176, descriptorIndex := 173, attributes := #[] }, { accessFlags := 8, nameIndex := 344, descriptorIndex := 339, attributes := #[] }, { accessFlags := 8, nameIndex := 338, descriptorIndex := 339, attributes := #[] }, { accessFlags := 4120, nameIndex := 245, descriptorIndex := 246, attributes := #[] }])
  fields := #[{ name := "E", type := .double, accessFlags := 25, slot := 0, constantValue := 0 }, { name := "PI", type := .double, accessFlags := 25, slot := 1, constantValue := 0 }, { name := "TAU", type := .double, accessFlags := 25, slot := 2, constantValue := 0 }, { name := "DEGREES_TO_RADIANS", type := .double, accessFlags := 26, slot := 3, constantValue := 0 }, { name := "RADIANS_TO_DEGREES", type := .double, accessFlags := 26, slot := 4, constantValue := 0 }, { name := "negativeZeroFloatBits", type := .long, accessFlags := 26, slot := 5, constantValue := 0 }, { name := "negativeZeroDoubleBits", type := .long, accessFlags := 26, slot := 6, constantValue := 0 }, { name := "twoToTheDoubleScaleUp", type := .double, accessFlags := 8, slot := 7, constantValue := 0 }, { name := "twoToTheDoubleScaleDown", type := .double, accessFlags := 8, slot := 8, constantValue := 0 }, { name := "$assertionsDisabled", type := .boolean, accessFlags := 4120, slot := 9, constantValue := 0 }]
  methods := #[k9m0, k9m1]
  instanceTypes := #[]
  staticTypes := #[.double, .double, .double, .double, .double, .long, .long, .double, .double, .boolean]
  resolved := Array.replicate 460 none
  statics := none }

def pool10 : Array CpInfo := pool [(1, .class_ 2), (0, u "java/lang/Integer"), (16, u "digits"), (0, u "[C"), (46, u "<init>"), (17, u "DigitOnes"), (0, u "[B"), (2, u "DigitTens"), (10, .nameAndType 67 101), (0, u "()V"), (85, u "valueOf"), (0, u "(I)Ljava/lang/Integer;"), (0, .class_ 190), (0, u "java/lang/Integer$IntegerCache"), (0, .fieldref 189 192), (0, .nameAndType 193 194), (0, u "high"), (0, u "I"), (0, .fieldref 189 196), (0, .nameAndType 197 198), (0, u "cache"), (0, u "[Ljava/lang/Integer;"), (0, .methodref 1 200), (0, .nameAndType 67 201), (0, u "(I)V"), (0, .methodref 203 100), (0, .class_ 204), (0, u "java/lang/Number"), (0, .fieldref 1 206), (0, .nameAndType 207 194), (0, u "value"), (94, u "TYPE"), (0, u "Ljava/lang/Class;"), (0, .class_ 305), (0, u "java/lang/Comparable"), (0, .class_ 307), (0, u "java/lang/constant/Constable"), (0, .class_ 309), (0, u "java/lang/constant/ConstantDesc"), (0, u "MIN_VALUE"), (1, u "MAX_VALUE"), (3, u "SIZE"), (1, u "BYTES"), (1, u "serialVersionUID"), (0, u "J")] 131

def k10c0 : Code := { maxStack := 3, maxLocals := 1, code := jdk_33_method_22_code, exceptionTable := #[], attributes := #[] }
def k10m0 : Method := { name := "valueOf", desc := "(I)Ljava/lang/Integer;", sig := { parameters := [.int], returnType := some (.object "java/lang/Integer") }, accessFlags := 9, code := some k10c0 }
def k10c1 : Code := { maxStack := 2, maxLocals := 2, code := jdk_33_method_23_code, exceptionTable := #[], attributes := #[] }
def k10m1 : Method := { name := "<init>", desc := "(I)V", sig := { parameters := [.int], returnType := none }, accessFlags := 1, code := some k10c1 }
/-- java/lang/Integer -/
def k10 : Class := { plain "java/lang/Integer" (some 4) with
  accessFlags := 49
  interfaces := #[5, 6, 7]
  cf := some (fileOf pool10 1 #[.nestMembers #[189]] #[{ accessFlags := 9, nameIndex := 187, descriptorIndex := 188, attributes := #[] }, { accessFlags := 1, nameIndex := 67, descriptorIndex := 201, attributes := #[] }] 49 203 #[304, 306, 308] #[{ accessFlags := 25, nameIndex := 310, descriptorIndex := 194, attributes := #[] }, { accessFlags := 25, nameIndex := 312, descriptorIndex := 194, attributes := #[] }, { accessFlags := 25, nameIndex := 302, descriptorIndex := 303, attributes := #[] }, { accessFlags := 24, nameIndex := 19, descriptorIndex := 20, attributes := #[] }, { accessFlags := 24, nameIndex := 89, descriptorIndex := 86, attributes := #[] }, { accessFlags := 24, nameIndex := 85, descriptorIndex := 86, attributes := #[] }, { accessFlags := 18, nameIndex := 207, descriptorIndex := 194, attributes := #[] }, { accessFlags := 25, nameIndex := 316, descriptorIndex := 194, attributes := #[] }, { accessFlags := 25, nameIndex := 318, descriptorIndex := 194, attributes := #[] }, { accessFlags := 26, nameIndex := 320, descriptorIndex := 321, attributes := #[] }])
  fields := #[{ name := "MIN_VALUE", type := .int, accessFlags := 25, slot := 0, constantValue := 0 }, { name := "MAX_VALUE", type := .int, accessFlags := 25, slot := 1, constantValue := 0 }, { name := "TYPE", type := (.object "java/lang/Class"), accessFlags := 25, slot := 2, constantValue := 0 }, { name := "digits", type := (.array .char), accessFlags := 24, slot := 3, constantValue := 0 }, { name := "DigitTens", type := (.array .byte), accessFlags := 24, slot := 4, constantValue := 0 }, { name := "DigitOnes", type := (.array .byte), accessFlags := 24, slot := 5, constantValue := 0 }, { name := "value", type := .int, accessFlags := 18, slot := 0, constantValue := 0 }, { name := "SIZE", type := .int, accessFlags := 25, slot := 6, constantValue := 0 }, { name := "BYTES", type := .int, accessFlags := 25, slot := 7, constantValue := 0 }, { name := "serialVersionUID", type := .long, accessFlags := 26, slot := 8, constantValue := 0 }]
  methods := #[k10m0, k10m1]
  instanceTypes := #[.int]
  staticTypes := #[.int, .int, (.object "java/lang/Class"), (.array .char), (.array .byte), (.array .byte), .int, .int, .long]
  resolved := Array.replicate 453 none
  statics := none }

def pool11 : Array CpInfo := pool [(2, .class_ 4), (1, u "java/lang/Object"), (0, u "<init>"), (0, u "()V"), (0, .class_ 8), (0, u "java/lang/Integer"), (7, .class_ 18), (1, u "java/lang/Integer$IntegerCache"), (0, u "$assertionsDisabled"), (0, u "Z"), (26, u "high"), (0, u "I"), (8, u "archivedCache"), (0, u "[Ljava/lang/Integer;"), (12, u "cache"), (0, u "low")] 27

def k11m0 : Method := { name := "<init>", desc := "()V", sig := { parameters := [], returnType := none }, accessFlags := 2, code := none }
/-- java/lang/Integer$IntegerCache -/
def k11 : Class := { plain "java/lang/Integer$IntegerCache" (some 0) with
  accessFlags := 48
  interfaces := #[]
  cf := some (fileOf pool11 16 #[.nestHost 7] #[{ accessFlags := 2, nameIndex := 5, descriptorIndex := 6, attributes := #[] }] 48 2 #[] #[{ accessFlags := 24, nameIndex := 72, descriptorIndex := 48, attributes := #[] }, { accessFlags := 24, nameIndex := 47, descriptorIndex := 48, attributes := #[] }, { accessFlags := 24, nameIndex := 71, descriptorIndex := 58, attributes := #[] }, { accessFlags := 8, nameIndex := 57, descriptorIndex := 58, attributes := #[] }, { accessFlags := 4120, nameIndex := 19, descriptorIndex := 20, attributes := #[] }])
  fields := #[{ name := "low", type := .int, accessFlags := 24, slot := 0, constantValue := 0 }, { name := "high", type := .int, accessFlags := 24, slot := 1, constantValue := 0 }, { name := "cache", type := (.array (.object "java/lang/Integer")), accessFlags := 24, slot := 2, constantValue := 0 }, { name := "archivedCache", type := (.array (.object "java/lang/Integer")), accessFlags := 8, slot := 3, constantValue := 0 }, { name := "$assertionsDisabled", type := .boolean, accessFlags := 4120, slot := 4, constantValue := 0 }]
  methods := #[k11m0]
  instanceTypes := #[]
  staticTypes := #[.int, .int, (.array (.object "java/lang/Integer")), (.array (.object "java/lang/Integer")), .boolean]
  resolved := Array.replicate 100 none
  statics := some 0 }

def pool12 : Array CpInfo := pool [(1, u "java/lang/Cloneable"), (0, .class_ 1), (0, u "java/lang/Object"), (0, .class_ 3)] 3

/-- java/lang/Cloneable -/
def k12 : Class := { plain "java/lang/Cloneable" (some 0) with
  accessFlags := 1537
  interfaces := #[]
  cf := some (fileOf pool12 2 #[] #[] 1537 4 #[] #[])
  fields := #[]
  methods := #[]
  instanceTypes := #[]
  staticTypes := #[]
  resolved := Array.replicate 8 none
  statics := none }

/-- the primitive byte -/
def k13 : Class := { plain "byte" none with kind := .primitive 'B', accessFlags := 0x411 }
/-- [B -/
def k14 : Class := { plain "[B" (some 0) with kind := .array 13 .byte, interfaces := #[12, 3], accessFlags := 1041 }

/-- the primitive int -/
def k15 : Class := { plain "int" none with kind := .primitive 'I', accessFlags := 0x411 }
/-- [I -/
def k16 : Class := { plain "[I" (some 0) with kind := .array 15 .int, interfaces := #[12, 3], accessFlags := 1041 }

/-- [Ljava/lang/Integer; -/
def k17 : Class := { plain "[Ljava/lang/Integer;" (some 0) with kind := .array 10 (.object "java/lang/Integer"), interfaces := #[12, 3], accessFlags := 1041 }

def heap : Heap := #[{ cls := 11, slots := #[.int 0, .int 127, .ref 1, .null, .int 0], vm := .statics 11 },
  { cls := 17, slots := #[.ref 2, .ref 3, .ref 4, .ref 5, .ref 6, .ref 7, .ref 8, .ref 9, .ref 10, .ref 11, .ref 12, .ref 13, .ref 14, .ref 15, .ref 16, .ref 17, .ref 18, .ref 19, .ref 20, .ref 21, .ref 22, .ref 23, .ref 24, .ref 25, .ref 26, .ref 27, .ref 28, .ref 29, .ref 30, .ref 31, .ref 32, .ref 33, .ref 34, .ref 35, .ref 36, .ref 37, .ref 38, .ref 39, .ref 40, .ref 41, .ref 42, .ref 43, .ref 44, .ref 45, .ref 46, .ref 47, .ref 48, .ref 49, .ref 50, .ref 51, .ref 52, .ref 53, .ref 54, .ref 55, .ref 56, .ref 57, .ref 58, .ref 59, .ref 60, .ref 61, .ref 62, .ref 63, .ref 64, .ref 65, .ref 66, .ref 67, .ref 68, .ref 69, .ref 70, .ref 71, .ref 72, .ref 73, .ref 74, .ref 75, .ref 76, .ref 77, .ref 78, .ref 79, .ref 80, .ref 81, .ref 82, .ref 83, .ref 84, .ref 85, .ref 86, .ref 87, .ref 88, .ref 89, .ref 90, .ref 91, .ref 92, .ref 93, .ref 94, .ref 95, .ref 96, .ref 97, .ref 98, .ref 99, .ref 100, .ref 101, .ref 102, .ref 103, .ref 104, .ref 105, .ref 106, .ref 107, .ref 108, .ref 109, .ref 110, .ref 111, .ref 112, .ref 113, .ref 114, .ref 115, .ref 116, .ref 117, .ref 118, .ref 119, .ref 120, .ref 121, .ref 122, .ref 123, .ref 124, .ref 125, .ref 126, .ref 127, .ref 128, .ref 129, .ref 130, .ref 131, .ref 132, .ref 133, .ref 134, .ref 135, .ref 136, .ref 137, .ref 138, .ref 139, .ref 140, .ref 141, .ref 142, .ref 143, .ref 144, .ref 145, .ref 146, .ref 147, .ref 148, .ref 149, .ref 150, .ref 151, .ref 152, .ref 153, .ref 154, .ref 155, .ref 156, .ref 157, .ref 158, .ref 159, .ref 160, .ref 161, .ref 162, .ref 163, .ref 164, .ref 165, .ref 166, .ref 167, .ref 168, .ref 169, .ref 170, .ref 171, .ref 172, .ref 173, .ref 174, .ref 175, .ref 176, .ref 177, .ref 178, .ref 179, .ref 180, .ref 181, .ref 182, .ref 183, .ref 184, .ref 185, .ref 186, .ref 187, .ref 188, .ref 189, .ref 190, .ref 191, .ref 192, .ref 193, .ref 194, .ref 195, .ref 196, .ref 197, .ref 198, .ref 199, .ref 200, .ref 201, .ref 202, .ref 203, .ref 204, .ref 205, .ref 206, .ref 207, .ref 208, .ref 209, .ref 210, .ref 211, .ref 212, .ref 213, .ref 214, .ref 215, .ref 216, .ref 217, .ref 218, .ref 219, .ref 220, .ref 221, .ref 222, .ref 223, .ref 224, .ref 225, .ref 226, .ref 227, .ref 228, .ref 229, .ref 230, .ref 231, .ref 232, .ref 233, .ref 234, .ref 235, .ref 236, .ref 237, .ref 238, .ref 239, .ref 240, .ref 241, .ref 242, .ref 243, .ref 244, .ref 245, .ref 246, .ref 247, .ref 248, .ref 249, .ref 250, .ref 251, .ref 252, .ref 253, .ref 254, .ref 255, .ref 256, .ref 257], vm := .none },
  { cls := 10, slots := #[.int (-128)], vm := .none },
  { cls := 10, slots := #[.int (-127)], vm := .none },
  { cls := 10, slots := #[.int (-126)], vm := .none },
  { cls := 10, slots := #[.int (-125)], vm := .none },
  { cls := 10, slots := #[.int (-124)], vm := .none },
  { cls := 10, slots := #[.int (-123)], vm := .none },
  { cls := 10, slots := #[.int (-122)], vm := .none },
  { cls := 10, slots := #[.int (-121)], vm := .none },
  { cls := 10, slots := #[.int (-120)], vm := .none },
  { cls := 10, slots := #[.int (-119)], vm := .none },
  { cls := 10, slots := #[.int (-118)], vm := .none },
  { cls := 10, slots := #[.int (-117)], vm := .none },
  { cls := 10, slots := #[.int (-116)], vm := .none },
  { cls := 10, slots := #[.int (-115)], vm := .none },
  { cls := 10, slots := #[.int (-114)], vm := .none },
  { cls := 10, slots := #[.int (-113)], vm := .none },
  { cls := 10, slots := #[.int (-112)], vm := .none },
  { cls := 10, slots := #[.int (-111)], vm := .none },
  { cls := 10, slots := #[.int (-110)], vm := .none },
  { cls := 10, slots := #[.int (-109)], vm := .none },
  { cls := 10, slots := #[.int (-108)], vm := .none },
  { cls := 10, slots := #[.int (-107)], vm := .none },
  { cls := 10, slots := #[.int (-106)], vm := .none },
  { cls := 10, slots := #[.int (-105)], vm := .none },
  { cls := 10, slots := #[.int (-104)], vm := .none },
  { cls := 10, slots := #[.int (-103)], vm := .none },
  { cls := 10, slots := #[.int (-102)], vm := .none },
  { cls := 10, slots := #[.int (-101)], vm := .none },
  { cls := 10, slots := #[.int (-100)], vm := .none },
  { cls := 10, slots := #[.int (-99)], vm := .none },
  { cls := 10, slots := #[.int (-98)], vm := .none },
  { cls := 10, slots := #[.int (-97)], vm := .none },
  { cls := 10, slots := #[.int (-96)], vm := .none },
  { cls := 10, slots := #[.int (-95)], vm := .none },
  { cls := 10, slots := #[.int (-94)], vm := .none },
  { cls := 10, slots := #[.int (-93)], vm := .none },
  { cls := 10, slots := #[.int (-92)], vm := .none },
  { cls := 10, slots := #[.int (-91)], vm := .none },
  { cls := 10, slots := #[.int (-90)], vm := .none },
  { cls := 10, slots := #[.int (-89)], vm := .none },
  { cls := 10, slots := #[.int (-88)], vm := .none },
  { cls := 10, slots := #[.int (-87)], vm := .none },
  { cls := 10, slots := #[.int (-86)], vm := .none },
  { cls := 10, slots := #[.int (-85)], vm := .none },
  { cls := 10, slots := #[.int (-84)], vm := .none },
  { cls := 10, slots := #[.int (-83)], vm := .none },
  { cls := 10, slots := #[.int (-82)], vm := .none },
  { cls := 10, slots := #[.int (-81)], vm := .none },
  { cls := 10, slots := #[.int (-80)], vm := .none },
  { cls := 10, slots := #[.int (-79)], vm := .none },
  { cls := 10, slots := #[.int (-78)], vm := .none },
  { cls := 10, slots := #[.int (-77)], vm := .none },
  { cls := 10, slots := #[.int (-76)], vm := .none },
  { cls := 10, slots := #[.int (-75)], vm := .none },
  { cls := 10, slots := #[.int (-74)], vm := .none },
  { cls := 10, slots := #[.int (-73)], vm := .none },
  { cls := 10, slots := #[.int (-72)], vm := .none },
  { cls := 10, slots := #[.int (-71)], vm := .none },
  { cls := 10, slots := #[.int (-70)], vm := .none },
  { cls := 10, slots := #[.int (-69)], vm := .none },
  { cls := 10, slots := #[.int (-68)], vm := .none },
  { cls := 10, slots := #[.int (-67)], vm := .none },
  { cls := 10, slots := #[.int (-66)], vm := .none },
  { cls := 10, slots := #[.int (-65)], vm := .none },
  { cls := 10, slots := #[.int (-64)], vm := .none },
  { cls := 10, slots := #[.int (-63)], vm := .none },
  { cls := 10, slots := #[.int (-62)], vm := .none },
  { cls := 10, slots := #[.int (-61)], vm := .none },
  { cls := 10, slots := #[.int (-60)], vm := .none },
  { cls := 10, slots := #[.int (-59)], vm := .none },
  { cls := 10, slots := #[.int (-58)], vm := .none },
  { cls := 10, slots := #[.int (-57)], vm := .none },
  { cls := 10, slots := #[.int (-56)], vm := .none },
  { cls := 10, slots := #[.int (-55)], vm := .none },
  { cls := 10, slots := #[.int (-54)], vm := .none },
  { cls := 10, slots := #[.int (-53)], vm := .none },
  { cls := 10, slots := #[.int (-52)], vm := .none },
  { cls := 10, slots := #[.int (-51)], vm := .none },
  { cls := 10, slots := #[.int (-50)], vm := .none },
  { cls := 10, slots := #[.int (-49)], vm := .none },
  { cls := 10, slots := #[.int (-48)], vm := .none },
  { cls := 10, slots := #[.int (-47)], vm := .none },
  { cls := 10, slots := #[.int (-46)], vm := .none },
  { cls := 10, slots := #[.int (-45)], vm := .none },
  { cls := 10, slots := #[.int (-44)], vm := .none },
  { cls := 10, slots := #[.int (-43)], vm := .none },
  { cls := 10, slots := #[.int (-42)], vm := .none },
  { cls := 10, slots := #[.int (-41)], vm := .none },
  { cls := 10, slots := #[.int (-40)], vm := .none },
  { cls := 10, slots := #[.int (-39)], vm := .none },
  { cls := 10, slots := #[.int (-38)], vm := .none },
  { cls := 10, slots := #[.int (-37)], vm := .none },
  { cls := 10, slots := #[.int (-36)], vm := .none },
  { cls := 10, slots := #[.int (-35)], vm := .none },
  { cls := 10, slots := #[.int (-34)], vm := .none },
  { cls := 10, slots := #[.int (-33)], vm := .none },
  { cls := 10, slots := #[.int (-32)], vm := .none },
  { cls := 10, slots := #[.int (-31)], vm := .none },
  { cls := 10, slots := #[.int (-30)], vm := .none },
  { cls := 10, slots := #[.int (-29)], vm := .none },
  { cls := 10, slots := #[.int (-28)], vm := .none },
  { cls := 10, slots := #[.int (-27)], vm := .none },
  { cls := 10, slots := #[.int (-26)], vm := .none },
  { cls := 10, slots := #[.int (-25)], vm := .none },
  { cls := 10, slots := #[.int (-24)], vm := .none },
  { cls := 10, slots := #[.int (-23)], vm := .none },
  { cls := 10, slots := #[.int (-22)], vm := .none },
  { cls := 10, slots := #[.int (-21)], vm := .none },
  { cls := 10, slots := #[.int (-20)], vm := .none },
  { cls := 10, slots := #[.int (-19)], vm := .none },
  { cls := 10, slots := #[.int (-18)], vm := .none },
  { cls := 10, slots := #[.int (-17)], vm := .none },
  { cls := 10, slots := #[.int (-16)], vm := .none },
  { cls := 10, slots := #[.int (-15)], vm := .none },
  { cls := 10, slots := #[.int (-14)], vm := .none },
  { cls := 10, slots := #[.int (-13)], vm := .none },
  { cls := 10, slots := #[.int (-12)], vm := .none },
  { cls := 10, slots := #[.int (-11)], vm := .none },
  { cls := 10, slots := #[.int (-10)], vm := .none },
  { cls := 10, slots := #[.int (-9)], vm := .none },
  { cls := 10, slots := #[.int (-8)], vm := .none },
  { cls := 10, slots := #[.int (-7)], vm := .none },
  { cls := 10, slots := #[.int (-6)], vm := .none },
  { cls := 10, slots := #[.int (-5)], vm := .none },
  { cls := 10, slots := #[.int (-4)], vm := .none },
  { cls := 10, slots := #[.int (-3)], vm := .none },
  { cls := 10, slots := #[.int (-2)], vm := .none },
  { cls := 10, slots := #[.int (-1)], vm := .none },
  { cls := 10, slots := #[.int 0], vm := .none },
  { cls := 10, slots := #[.int 1], vm := .none },
  { cls := 10, slots := #[.int 2], vm := .none },
  { cls := 10, slots := #[.int 3], vm := .none },
  { cls := 10, slots := #[.int 4], vm := .none },
  { cls := 10, slots := #[.int 5], vm := .none },
  { cls := 10, slots := #[.int 6], vm := .none },
  { cls := 10, slots := #[.int 7], vm := .none },
  { cls := 10, slots := #[.int 8], vm := .none },
  { cls := 10, slots := #[.int 9], vm := .none },
  { cls := 10, slots := #[.int 10], vm := .none },
  { cls := 10, slots := #[.int 11], vm := .none },
  { cls := 10, slots := #[.int 12], vm := .none },
  { cls := 10, slots := #[.int 13], vm := .none },
  { cls := 10, slots := #[.int 14], vm := .none },
  { cls := 10, slots := #[.int 15], vm := .none },
  { cls := 10, slots := #[.int 16], vm := .none },
  { cls := 10, slots := #[.int 17], vm := .none },
  { cls := 10, slots := #[.int 18], vm := .none },
  { cls := 10, slots := #[.int 19], vm := .none },
  { cls := 10, slots := #[.int 20], vm := .none },
  { cls := 10, slots := #[.int 21], vm := .none },
  { cls := 10, slots := #[.int 22], vm := .none },
  { cls := 10, slots := #[.int 23], vm := .none },
  { cls := 10, slots := #[.int 24], vm := .none },
  { cls := 10, slots := #[.int 25], vm := .none },
  { cls := 10, slots := #[.int 26], vm := .none },
  { cls := 10, slots := #[.int 27], vm := .none },
  { cls := 10, slots := #[.int 28], vm := .none },
  { cls := 10, slots := #[.int 29], vm := .none },
  { cls := 10, slots := #[.int 30], vm := .none },
  { cls := 10, slots := #[.int 31], vm := .none },
  { cls := 10, slots := #[.int 32], vm := .none },
  { cls := 10, slots := #[.int 33], vm := .none },
  { cls := 10, slots := #[.int 34], vm := .none },
  { cls := 10, slots := #[.int 35], vm := .none },
  { cls := 10, slots := #[.int 36], vm := .none },
  { cls := 10, slots := #[.int 37], vm := .none },
  { cls := 10, slots := #[.int 38], vm := .none },
  { cls := 10, slots := #[.int 39], vm := .none },
  { cls := 10, slots := #[.int 40], vm := .none },
  { cls := 10, slots := #[.int 41], vm := .none },
  { cls := 10, slots := #[.int 42], vm := .none },
  { cls := 10, slots := #[.int 43], vm := .none },
  { cls := 10, slots := #[.int 44], vm := .none },
  { cls := 10, slots := #[.int 45], vm := .none },
  { cls := 10, slots := #[.int 46], vm := .none },
  { cls := 10, slots := #[.int 47], vm := .none },
  { cls := 10, slots := #[.int 48], vm := .none },
  { cls := 10, slots := #[.int 49], vm := .none },
  { cls := 10, slots := #[.int 50], vm := .none },
  { cls := 10, slots := #[.int 51], vm := .none },
  { cls := 10, slots := #[.int 52], vm := .none },
  { cls := 10, slots := #[.int 53], vm := .none },
  { cls := 10, slots := #[.int 54], vm := .none },
  { cls := 10, slots := #[.int 55], vm := .none },
  { cls := 10, slots := #[.int 56], vm := .none },
  { cls := 10, slots := #[.int 57], vm := .none },
  { cls := 10, slots := #[.int 58], vm := .none },
  { cls := 10, slots := #[.int 59], vm := .none },
  { cls := 10, slots := #[.int 60], vm := .none },
  { cls := 10, slots := #[.int 61], vm := .none },
  { cls := 10, slots := #[.int 62], vm := .none },
  { cls := 10, slots := #[.int 63], vm := .none },
  { cls := 10, slots := #[.int 64], vm := .none },
  { cls := 10, slots := #[.int 65], vm := .none },
  { cls := 10, slots := #[.int 66], vm := .none },
  { cls := 10, slots := #[.int 67], vm := .none },
  { cls := 10, slots := #[.int 68], vm := .none },
  { cls := 10, slots := #[.int 69], vm := .none },
  { cls := 10, slots := #[.int 70], vm := .none },
  { cls := 10, slots := #[.int 71], vm := .none },
  { cls := 10, slots := #[.int 72], vm := .none },
  { cls := 10, slots := #[.int 73], vm := .none },
  { cls := 10, slots := #[.int 74], vm := .none },
  { cls := 10, slots := #[.int 75], vm := .none },
  { cls := 10, slots := #[.int 76], vm := .none },
  { cls := 10, slots := #[.int 77], vm := .none },
  { cls := 10, slots := #[.int 78], vm := .none },
  { cls := 10, slots := #[.int 79], vm := .none },
  { cls := 10, slots := #[.int 80], vm := .none },
  { cls := 10, slots := #[.int 81], vm := .none },
  { cls := 10, slots := #[.int 82], vm := .none },
  { cls := 10, slots := #[.int 83], vm := .none },
  { cls := 10, slots := #[.int 84], vm := .none },
  { cls := 10, slots := #[.int 85], vm := .none },
  { cls := 10, slots := #[.int 86], vm := .none },
  { cls := 10, slots := #[.int 87], vm := .none },
  { cls := 10, slots := #[.int 88], vm := .none },
  { cls := 10, slots := #[.int 89], vm := .none },
  { cls := 10, slots := #[.int 90], vm := .none },
  { cls := 10, slots := #[.int 91], vm := .none },
  { cls := 10, slots := #[.int 92], vm := .none },
  { cls := 10, slots := #[.int 93], vm := .none },
  { cls := 10, slots := #[.int 94], vm := .none },
  { cls := 10, slots := #[.int 95], vm := .none },
  { cls := 10, slots := #[.int 96], vm := .none },
  { cls := 10, slots := #[.int 97], vm := .none },
  { cls := 10, slots := #[.int 98], vm := .none },
  { cls := 10, slots := #[.int 99], vm := .none },
  { cls := 10, slots := #[.int 100], vm := .none },
  { cls := 10, slots := #[.int 101], vm := .none },
  { cls := 10, slots := #[.int 102], vm := .none },
  { cls := 10, slots := #[.int 103], vm := .none },
  { cls := 10, slots := #[.int 104], vm := .none },
  { cls := 10, slots := #[.int 105], vm := .none },
  { cls := 10, slots := #[.int 106], vm := .none },
  { cls := 10, slots := #[.int 107], vm := .none },
  { cls := 10, slots := #[.int 108], vm := .none },
  { cls := 10, slots := #[.int 109], vm := .none },
  { cls := 10, slots := #[.int 110], vm := .none },
  { cls := 10, slots := #[.int 111], vm := .none },
  { cls := 10, slots := #[.int 112], vm := .none },
  { cls := 10, slots := #[.int 113], vm := .none },
  { cls := 10, slots := #[.int 114], vm := .none },
  { cls := 10, slots := #[.int 115], vm := .none },
  { cls := 10, slots := #[.int 116], vm := .none },
  { cls := 10, slots := #[.int 117], vm := .none },
  { cls := 10, slots := #[.int 118], vm := .none },
  { cls := 10, slots := #[.int 119], vm := .none },
  { cls := 10, slots := #[.int 120], vm := .none },
  { cls := 10, slots := #[.int 121], vm := .none },
  { cls := 10, slots := #[.int 122], vm := .none },
  { cls := 10, slots := #[.int 123], vm := .none },
  { cls := 10, slots := #[.int 124], vm := .none },
  { cls := 10, slots := #[.int 125], vm := .none },
  { cls := 10, slots := #[.int 126], vm := .none },
  { cls := 10, slots := #[.int 127], vm := .none }]
def classes : Array Class := #[k0, k1, k2, k3, k4, k5, k6, k7, k8, k9, k10, k11, k12, k13, k14, k15, k16, k17]
def interned : List (Array UInt16 × Addr) := []
def slotsUsed : Nat := 517
def theMethod : MethodId := ⟨1, 1⟩
def args0 : Array Value := #[.int 1, .int 2, .int 3, .int 4, .int 5]
def aboutOver (below : List Frame) : State where
  vm := { classes := classes, interned := interned.toArray }
  heap := heap
  slotsUsed := slotsUsed
  threads := #[{ frames := .invoking theMethod args0 :: below }]
def below0 : List Frame := [.native { method := ⟨0, 0⟩, args := #[] }]
def about1 : State := aboutOver below0
def p0 : Program := .bare "" "" ""
def e0 : Env := launch0.env 0 0 0
theorem w_frames : about1.frames = Frame.invoking theMethod args0 :: below0 := rfl
set_option maxRecDepth 65536 in
theorem w_args : argsFit about1.vm theMethod args0 = true := by decide +kernel
set_option maxRecDepth 65536 in
theorem w_heap : heapFits about1 = true := by decide +kernel
set_option maxRecDepth 65536 in
theorem w_runnable : about1.curStatus? = some .runnable := by decide +kernel
set_option maxRecDepth 65536 in
theorem w_alone : about1.alone = true := by decide +kernel
set_option maxRecDepth 65536 in
theorem w_named : about1.methodNamed? x = some theMethod := by decide +kernel
set_option maxRecDepth 65536 in
theorem w_hears : about1.hears theMethod below0 = true := by decide +kernel
set_option maxRecDepth 65536 in
theorem w_ripe : about1.ripe theMethod args0 below0 = true := by decide +kernel
theorem w_running : about1.status = .running := rfl
set_option maxRecDepth 65536 in
theorem w_room : about1.hasRoom e0.platform room_1 = true :=
  launch0.hasRoom_least _ room_1 (by decide +kernel) (by decide +kernel) (by decide +kernel) (by decide +kernel) (by decide +kernel) (by decide +kernel)
theorem allAtoms_all (ts : List Jvm.Cond) (a : Array Jvm.Value) (st : Jvm.State) : (allAtoms ts).before a st = ts.all (fun c => c.before a st) := by
  induction ts with
  | nil => rfl
  | cons c t ih =>
    show (Jvm.Cond.and c (allAtoms t)).before a st = _
    rw [Jvm.Cond.before_and, ih, List.all_cons]
def words1 : List Jvm.Cond := Jvm.Cond.code x code maxLocals ret :: tables_1
/-- a 'code' word, met by the world's own term for the bytes: nothing is compared byte by byte -/
theorem code_word {y : MethodName} {bytes : ByteArray} {mx : Nat} {rt : Option FieldType} {a : Array Value} {s : State} {m : MethodId} {meth : Method} {c : Code} (h1 : s.methodNamed? y = some m) (h2 : s.vm.method? m = some meth) (h3 : meth.code = some c) (h4 : c.code = bytes)
    (h5 : (c.maxLocals == mx && c.exceptionTable.isEmpty && decide (c.maxStack ≤ mostOperands) && decide (meth.sig.returnType = rt) && !meth.locks && decide (parseMethodDescriptor y.desc = some meth.sig)) = true) : (Jvm.Cond.code y bytes mx rt).before a s = true := by
  simp only [Bool.and_eq_true, beq_iff_eq, Bool.not_eq_true', decide_eq_true_eq] at h5
  obtain ⟨⟨⟨⟨⟨g1, g2⟩, g3⟩, g4⟩, g5⟩, g6⟩ := h5
  simp [Cond.before, Cond.holds, Cond.value, h1, h2, h3, h4, g1, g2, g3, g4, g5, g6]
def isCode : Jvm.Cond → Bool
  | .code _ _ _ _ => true
  | _ => false
theorem all_split {L : List Jvm.Cond} {P : Jvm.Cond → Bool} (h1 : L.all (fun c => isCode c || P c) = true) (h2 : ∀ c ∈ L.filter isCode, P c = true) : L.all P = true := by
  refine List.all_eq_true.mpr fun c hc => ?_
  have h := List.all_eq_true.mp h1 c hc
  rcases Bool.eq_false_or_eq_true (isCode c) with hi | hi
  · exact h2 c (List.mem_filter.mpr ⟨hc, hi⟩)
  · simpa [hi] using h
set_option maxRecDepth 65536 in
theorem w_c0 : (Jvm.Cond.code x code maxLocals ret).before args0 about1 = true := code_word (m := ⟨1, 1⟩) (meth := k1m1) (c := k1c1) (by decide +kernel) rfl rfl rfl (by decide +kernel)
set_option maxRecDepth 65536 in
theorem w_c1 : (Jvm.Cond.code ({ cls := "com/example/first_from_joins/firstfromjoins/engine/ScorePrior", name := "<init>", desc := "(DD)V" } : Jvm.MethodName) prog_18_method_1_code (5 : Nat) (Option.none : Option Jvm.ClassFile.FieldType)).before args0 about1 = true := code_word (m := ⟨2, 0⟩) (meth := k2m0) (c := k2c0) (by decide +kernel) rfl rfl rfl (by decide +kernel)
set_option maxRecDepth 65536 in
theorem w_c2 : (Jvm.Cond.code ({ cls := "java/lang/Object", name := "<init>", desc := "()V" } : Jvm.MethodName) object_method_1_code (1 : Nat) (Option.none : Option Jvm.ClassFile.FieldType)).before args0 about1 = true := code_word (m := ⟨0, 0⟩) (meth := k0m0) (c := k0c0) (by decide +kernel) rfl rfl rfl (by decide +kernel)
set_option maxRecDepth 65536 in
theorem w_c3 : (Jvm.Cond.code ({ cls := "java/lang/Double", name := "isFinite", desc := "(D)Z" } : Jvm.MethodName) jdk_117_method_8_code (2 : Nat) (Option.some Jvm.ClassFile.FieldType.boolean)).before args0 about1 = true := code_word (m := ⟨8, 1⟩) (meth := k8m1) (c := k8c1) (by decide +kernel) rfl rfl rfl (by decide +kernel)
set_option maxRecDepth 65536 in
theorem w_c4 : (Jvm.Cond.code ({ cls := "java/lang/Math", name := "abs", desc := "(D)D" } : Jvm.MethodName) jdk_29_method_64_code (2 : Nat) (Option.some Jvm.ClassFile.FieldType.double)).before args0 about1 = true := code_word (m := ⟨9, 1⟩) (meth := k9m1) (c := k9c1) (by decide +kernel) rfl rfl rfl (by decide +kernel)
set_option maxRecDepth 65536 in
theorem w_c5 : (Jvm.Cond.code ({ cls := "com/example/first_from_joins/firstfromjoins/engine/ScorePrior", name := "equals", desc := "(Ljava/lang/Object;)Z" } : Jvm.MethodName) prog_18_method_6_code (3 : Nat) (Option.some Jvm.ClassFile.FieldType.boolean)).before args0 about1 = true := code_word (m := ⟨2, 1⟩) (meth := k2m1) (c := k2c1) (by decide +kernel) rfl rfl rfl (by decide +kernel)
set_option maxRecDepth 65536 in
theorem w_c6 : (Jvm.Cond.code ({ cls := "java/lang/Double", name := "compare", desc := "(DD)I" } : Jvm.MethodName) jdk_117_method_27_code (8 : Nat) (Option.some Jvm.ClassFile.FieldType.int)).before args0 about1 = true := code_word (m := ⟨8, 4⟩) (meth := k8m4) (c := k8c4) (by decide +kernel) rfl rfl rfl (by decide +kernel)
set_option maxRecDepth 65536 in
theorem w_c7 : (Jvm.Cond.code ({ cls := "java/lang/Double", name := "doubleToLongBits", desc := "(D)J" } : Jvm.MethodName) jdk_117_method_23_code (2 : Nat) (Option.some Jvm.ClassFile.FieldType.long)).before args0 about1 = true := code_word (m := ⟨8, 2⟩) (meth := k8m2) (c := k8c2) (by decide +kernel) rfl rfl rfl (by decide +kernel)
set_option maxRecDepth 65536 in
theorem w_c8 : (Jvm.Cond.code ({ cls := "java/lang/Double", name := "isNaN", desc := "(D)Z" } : Jvm.MethodName) jdk_117_method_6_code (2 : Nat) (Option.some Jvm.ClassFile.FieldType.boolean)).before args0 about1 = true := code_word (m := ⟨8, 0⟩) (meth := k8m0) (c := k8c0) (by decide +kernel) rfl rfl rfl (by decide +kernel)
set_option maxRecDepth 65536 in
theorem w_c9 : (Jvm.Cond.code ({ cls := "java/lang/Integer", name := "valueOf", desc := "(I)Ljava/lang/Integer;" } : Jvm.MethodName) jdk_33_method_22_code (1 : Nat) (Option.some (Jvm.ClassFile.FieldType.object "java/lang/Integer"))).before args0 about1 = true := code_word (m := ⟨10, 0⟩) (meth := k10m0) (c := k10c0) (by decide +kernel) rfl rfl rfl (by decide +kernel)
set_option maxRecDepth 65536 in
theorem w_c10 : (Jvm.Cond.code ({ cls := "java/lang/Integer", name := "<init>", desc := "(I)V" } : Jvm.MethodName) jdk_33_method_23_code (2 : Nat) (Option.none : Option Jvm.ClassFile.FieldType)).before args0 about1 = true := code_word (m := ⟨10, 1⟩) (meth := k10m1) (c := k10c1) (by decide +kernel) rfl rfl rfl (by decide +kernel)
set_option maxRecDepth 65536 in
theorem w_c11 : (Jvm.Cond.code ({ cls := "java/lang/Number", name := "<init>", desc := "()V" } : Jvm.MethodName) jdk_18_method_1_code (1 : Nat) (Option.none : Option Jvm.ClassFile.FieldType)).before args0 about1 = true := code_word (m := ⟨4, 0⟩) (meth := k4m0) (c := k4c0) (by decide +kernel) rfl rfl rfl (by decide +kernel)
def codes1 : List Jvm.Cond := [Jvm.Cond.code x code maxLocals ret, Jvm.Cond.code ({ cls := "com/example/first_from_joins/firstfromjoins/engine/ScorePrior", name := "<init>", desc := "(DD)V" } : Jvm.MethodName) prog_18_method_1_code (5 : Nat) (Option.none : Option Jvm.ClassFile.FieldType), Jvm.Cond.code ({ cls := "java/lang/Object", name := "<init>", desc := "()V" } : Jvm.MethodName) object_method_1_code (1 : Nat) (Option.none : Option Jvm.ClassFile.FieldType), Jvm.Cond.code ({ cls := "java/lang/Double", name := "isFinite", desc := "(D)Z" } : Jvm.MethodName) jdk_117_method_8_code (2 : Nat) (Option.some Jvm.ClassFile.FieldType.boolean), Jvm.Cond.code ({ cls := "java/lang/Math", name := "abs", desc := "(D)D" } : Jvm.MethodName) jdk_29_method_64_code (2 : Nat) (Option.some Jvm.ClassFile.FieldType.double), Jvm.Cond.code ({ cls := "com/example/first_from_joins/firstfromjoins/engine/ScorePrior", name := "equals", desc := "(Ljava/lang/Object;)Z" } : Jvm.MethodName) prog_18_method_6_code (3 : Nat) (Option.some Jvm.ClassFile.FieldType.boolean), Jvm.Cond.code ({ cls := "java/lang/Double", name := "compare", desc := "(DD)I" } : Jvm.MethodName) jdk_117_method_27_code (8 : Nat) (Option.some Jvm.ClassFile.FieldType.int), Jvm.Cond.code ({ cls := "java/lang/Double", name := "doubleToLongBits", desc := "(D)J" } : Jvm.MethodName) jdk_117_method_23_code (2 : Nat) (Option.some Jvm.ClassFile.FieldType.long), Jvm.Cond.code ({ cls := "java/lang/Double", name := "isNaN", desc := "(D)Z" } : Jvm.MethodName) jdk_117_method_6_code (2 : Nat) (Option.some Jvm.ClassFile.FieldType.boolean), Jvm.Cond.code ({ cls := "java/lang/Integer", name := "valueOf", desc := "(I)Ljava/lang/Integer;" } : Jvm.MethodName) jdk_33_method_22_code (1 : Nat) (Option.some (Jvm.ClassFile.FieldType.object "java/lang/Integer")), Jvm.Cond.code ({ cls := "java/lang/Integer", name := "<init>", desc := "(I)V" } : Jvm.MethodName) jdk_33_method_23_code (2 : Nat) (Option.none : Option Jvm.ClassFile.FieldType), Jvm.Cond.code ({ cls := "java/lang/Number", name := "<init>", desc := "()V" } : Jvm.MethodName) jdk_18_method_1_code (1 : Nat) (Option.none : Option Jvm.ClassFile.FieldType)]
set_option maxRecDepth 65536 in
theorem codes_eq : words1.filter isCode = codes1 := rfl
theorem w_codes : ∀ c ∈ words1.filter isCode, c.before args0 about1 = true := by
  rw [codes_eq]
  intro c hc
  simp only [codes1, List.mem_cons, List.not_mem_nil, or_false] at hc
  rcases hc with rfl | rfl | rfl | rfl | rfl | rfl | rfl | rfl | rfl | rfl | rfl | rfl
  · exact w_c0
  · exact w_c1
  · exact w_c2
  · exact w_c3
  · exact w_c4
  · exact w_c5
  · exact w_c6
  · exact w_c7
  · exact w_c8
  · exact w_c9
  · exact w_c10
  · exact w_c11
set_option maxRecDepth 65536 in
theorem w_t1 : (words1.take 24).all (fun c => isCode c || c.before args0 about1) = true := by decide +kernel
set_option maxRecDepth 65536 in
theorem w_t2 : ((words1.drop 24).take 24).all (fun c => isCode c || c.before args0 about1) = true := by decide +kernel
set_option maxRecDepth 65536 in
theorem w_t3 : ((words1.drop 24).drop 24).all (fun c => isCode c || c.before args0 about1) = true := by decide +kernel
theorem w_tables : (allAtoms (Jvm.Cond.code x code maxLocals ret :: tables_1)).before args0 about1 = true := by
  rw [allAtoms_all]
  show words1.all (fun c => c.before args0 about1) = true
  refine all_split ?_ w_codes
  rw [← List.take_append_drop 24 words1, List.all_append, w_t1, ← List.take_append_drop 24 (words1.drop 24), List.all_append, w_t2, w_t3]
  rfl
set_option maxRecDepth 65536 in
theorem w_rest : rest_1_c.before args0 about1 = true := by decide +kernel
set_option maxRecDepth 65536 in
theorem w_case : (Jvm.Cond.and given_1 narrow_1).before args0 about1 = true := by decide +kernel
theorem w_applies : (headSpec (Jvm.Cond.code x code maxLocals ret :: tables_1) room_1).applies x e0.platform about1 = true :=
  (Spec.applies_iff w_frames).mpr ⟨w_running, w_runnable, w_alone, w_named, w_hears, w_ripe, w_room, w_tables⟩
theorem atStart : AtStart classFile x code maxLocals ret World_1 tables_1 room_1 Calls_1 rest_1 Pre_1 launch0 p0 e0 about1 theMethod args0 below0 :=
  ⟨lists_1, trivial, launch0.admits_env _ _ _, launch0.least_env, fairChoices_fair.cas, fairChoices_fair.clock, w_frames, w_args, w_heap, w_applies, trivial, w_rest, w_case⟩
end start1
theorem witness_1 : WitnessClaimed_1 := ⟨start1.p0, start1.e0, start1.about1, start1.theMethod, start1.args0, start1.below0, start1.atStart⟩
end Jvm.Pilot.@@N@@
