import JvmDerived
import JvmDerived.Pilot.@@N@@Statement
import JvmDerived.Pilot.@@N@@Code
set_option linter.unusedVariables false
set_option linter.unusedSimpArgs false
namespace Jvm.Pilot.@@N@@
open Jvm Jvm.ClassFile Sem Op Lib Jvm.Free Jvm.Stand Jvm.LawKit Jvm.RoadKit Bundle Jvm.Pilot.@@N@@.Jvm.D
section OwnGo
variable {p : Program} {l : Launch} {e : Env} {R : Room} {s : State} {m : MethodId} {args : Array Value} {below : List Frame} {meth : Method} {c : Code} {T : State} {n0 cells slots cells' slots' : Nat} {Z : State} {a0 : Array Value} {h : Heap} {K : State → Outcome → Prop} {pc pc' : Nat} {Ls : Array Slot} {St : List Value} {own : String} {by0 : ByteArray} {ml : Nat}
/-- from state T with the frame g on top the run comes to an end of which K holds -/
def OGo (p : Program) (e : Env) (below : List Frame) (K : State → Outcome → Prop) (T : State) (g : JFrame) : Prop := ∃ t o, Steps p.tables e below (T.setTop g) t ∧ K t o
/-- what does not change during one body's walk -/
def Cx (p : Program) (s : State) (m : MethodId) (c : Code) (Z : State) (own : String) (by0 : ByteArray) (ml : Nat) : Prop := p.tables.exec = Jvm.exec ∧ Z.Warmed39 s.vm ∧ s.vm.findClass own = some m.cls ∧ c.code = by0 ∧ c.maxLocals = ml
/-- where the walk stands: heap h, only cells from n0 on written -/
def Sd (p : Program) (l : Launch) (e : Env) (R : Room) (s : State) (m : MethodId) (args : Array Value) (below : List Frame) (meth : Method) (c : Code) (n0 : Nat) (T : State) (h : Heap) (cells slots : Nat) : Prop := T.heap = h ∧ n0 ≤ h.size ∧ ∃ locs, Stand p l e R s m args below meth c T locs cells slots ∧ Fr n0 locs
/-- what a body owes at its end -/
def Kk (s : State) (below : List Frame) (n0 : Nat) (Q : Option Value → Heap → Prop) (nc ns : Nat) : State → Outcome → Prop := fun t o => t.status = .running ∧ Ended t below o ∧ ∃ v L, o = .returned v ∧ (Q v t.heap ∧ Fr n0 L) ∧ FrameEnd s o t L nc ns
/-- a body's contract -/
def Ctr (l : Launch) (Z : State) (y : MethodName) (by0 : ByteArray) (ml : Nat) (ret : Option FieldType) (rm : Room) (n0 : Nat) (as' : Array Value) (h : Heap) (Q : Option Value → Heap → Prop) : Prop :=
  ∀ ws, MetFree l y (head1 (Jvm.Cond.code y by0 ml ret :: ws) rm) (fun a U => a = as' ∧ Z.Warmed39 U.vm ∧ U.heap = h) (fun _ _ _ _ _ => True) (fun _ U o U' => ∃ v L, o = .returned v ∧ ((Q v U'.heap ∧ h.size ≤ U'.heap.size) ∧ Fr n0 L) ∧ FrameEnd U o U' L rm.cells rm.slots)
theorem OGo.st {T T' : State} {g g' : JFrame} (st : ∀ target, Steps p.tables e below (T'.setTop g') target → Steps p.tables e below (T.setTop g) target) (hr : OGo p e below K T' g') : OGo p e below K T g := by
  obtain ⟨t, o, h1, h2⟩ := hr
  exact ⟨t, o, st t h1, h2⟩
theorem OGo.tr {T T' : State} {g g' : JFrame} (st : Steps p.tables e below (T.setTop g) (T'.setTop g')) (hr : OGo p e below K T' g') : OGo p e below K T g := by
  obtain ⟨t, o, h1, h2⟩ := hr
  exact ⟨t, o, st.trans h1, h2⟩
theorem Ctr.of {y : MethodName} {ret : Option FieldType} {rm : Room} {as' : Array Value} {Q : Option Value → Heap → Prop} (hpl : plainFor y = true) (hn : n0 ≤ h.size)
    (body : ∀ p e s m below meth c T, Cx p s m c Z y.cls by0 ml → meth.name = y.name → meth.sig.returnType = ret → meth.locks = false → Sd p l e rm s m as' below meth c n0 T h 0 0 → OGo p e below (Kk s below n0 Q rm.cells rm.slots) T (entryFrame m as' ml)) :
    Ctr l Z y by0 ml ret rm n0 as' h Q := by
  intro ws
  refine MetFree.of_bodySF hpl hisR ?_
  intro p e s m args below meth c s₁ Bd hml0 hP hK
  obtain ⟨rfl, hZ, hh⟩ := hP
  have hown : s.vm.findClass y.cls = some m.cls := findClass_of_methodNamed Bd.named
  have hnm := (name_of_methodNamed Bd.named Bd.method).1
  have X0 := Stand.of_body Bd
  have e0 : s₁.heap = h := by rw [← hh, Bd.state]; rfl
  obtain ⟨t, o, h1, h2, h3, v, L, h4, ⟨h5, h6⟩, h7⟩ := body p e s m below meth c s₁ ⟨Bd.exec, hZ, hown, Bd.bytes, hml0⟩ hnm Bd.returns (BodyLoose.notSynchronized Bd) ⟨e0, hn, [], X0, Fr.nil n0⟩
  exact ⟨t, o, h1, h2, h3, v, L, h4, ⟨⟨h5, by rw [← hh]; exact h7.2.2.2.1⟩, h6⟩, h7⟩
theorem Ctr.mono {y : MethodName} {ret : Option FieldType} {rm : Room} {as' : Array Value} {Q Q' : Option Value → Heap → Prop} (hM : Ctr l Z y by0 ml ret rm n0 as' h Q) (hq : ∀ v h', Q v h' → Q' v h') : Ctr l Z y by0 ml ret rm n0 as' h Q' := by
  intro ws p e ha hc hk s m args below hf happ hP hK
  obtain ⟨n, o, h1, h2, h3, v, L, h4, ⟨⟨h5, h8⟩, h6⟩, h7⟩ := hM ws p e ha hc hk s m args below hf happ hP hK
  exact ⟨n, o, h1, h2, h3, v, L, h4, ⟨⟨hq _ _ h5, h8⟩, h6⟩, h7⟩
theorem Sd.up (X : Sd p l e R s m args below meth c n0 T h cells slots) (hc : cells ≤ cells') (hs : slots ≤ slots') : Sd p l e R s m args below meth c n0 T h cells' slots' := by
  obtain ⟨h1, h2, locs, Y, N⟩ := X
  exact ⟨h1, h2, locs, { Y with same := Y.same.mono hc hs }, N⟩
theorem OGo.iload (C : Cx p s m c Z own by0 ml) (X : Sd p l e R s m args below meth c n0 T h cells slots) {k : Nat} {v : Int32} (hd : decode by0 pc = .ok (.iload k, 2)) (hp : pc + 2 = pc') (hl : Ls[k]? = some (.val (.int v))) (hr : OGo p e below K T (mkF m pc' Ls (.int v :: St))) : OGo p e below K T (mkF m pc Ls (St)) := by
  subst hp
  obtain ⟨-, -, locs, Y, -⟩ := X
  exact OGo.st (fun t k => XS.iload Y.here C.1 rfl (hb C.2.2.2.1 hd) hl k) hr
theorem OGo.iloadN (C : Cx p s m c Z own by0 ml) (X : Sd p l e R s m args below meth c n0 T h cells slots) {k : Fin 4} {v : Int32} (hd : decode by0 pc = .ok (.iload_n k, 1)) (hp : pc + 1 = pc') (hl : Ls[k.val]? = some (.val (.int v))) (hr : OGo p e below K T (mkF m pc' Ls (.int v :: St))) : OGo p e below K T (mkF m pc Ls (St)) := by
  subst hp
  obtain ⟨-, -, locs, Y, -⟩ := X
  exact OGo.st (fun t k => XS.iloadN Y.here C.1 rfl (hb C.2.2.2.1 hd) hl k) hr
theorem OGo.lload (C : Cx p s m c Z own by0 ml) (X : Sd p l e R s m args below meth c n0 T h cells slots) {k : Nat} {v : Int64} (hd : decode by0 pc = .ok (.lload k, 2)) (hp : pc + 2 = pc') (hl : Ls[k]? = some (.val (.long v))) (hr : OGo p e below K T (mkF m pc' Ls (.long v :: St))) : OGo p e below K T (mkF m pc Ls (St)) := by
  subst hp
  obtain ⟨-, -, locs, Y, -⟩ := X
  exact OGo.st (fun t k => XS.lload Y.here C.1 rfl (hb C.2.2.2.1 hd) hl k) hr
theorem OGo.lloadN (C : Cx p s m c Z own by0 ml) (X : Sd p l e R s m args below meth c n0 T h cells slots) {k : Fin 4} {v : Int64} (hd : decode by0 pc = .ok (.lload_n k, 1)) (hp : pc + 1 = pc') (hl : Ls[k.val]? = some (.val (.long v))) (hr : OGo p e below K T (mkF m pc' Ls (.long v :: St))) : OGo p e below K T (mkF m pc Ls (St)) := by
  subst hp
  obtain ⟨-, -, locs, Y, -⟩ := X
  exact OGo.st (fun t k => XS.lloadN Y.here C.1 rfl (hb C.2.2.2.1 hd) hl k) hr
theorem OGo.dload (C : Cx p s m c Z own by0 ml) (X : Sd p l e R s m args below meth c n0 T h cells slots) {k : Nat} {v : UInt64} (hd : decode by0 pc = .ok (.dload k, 2)) (hp : pc + 2 = pc') (hl : Ls[k]? = some (.val (.double v))) (hr : OGo p e below K T (mkF m pc' Ls (.double v :: St))) : OGo p e below K T (mkF m pc Ls (St)) := by
  subst hp
  obtain ⟨-, -, locs, Y, -⟩ := X
  exact OGo.st (fun t k => XS.dload Y.here C.1 rfl (hb C.2.2.2.1 hd) hl k) hr
theorem OGo.dloadN (C : Cx p s m c Z own by0 ml) (X : Sd p l e R s m args below meth c n0 T h cells slots) {k : Fin 4} {v : UInt64} (hd : decode by0 pc = .ok (.dload_n k, 1)) (hp : pc + 1 = pc') (hl : Ls[k.val]? = some (.val (.double v))) (hr : OGo p e below K T (mkF m pc' Ls (.double v :: St))) : OGo p e below K T (mkF m pc Ls (St)) := by
  subst hp
  obtain ⟨-, -, locs, Y, -⟩ := X
  exact OGo.st (fun t k => XS.dloadN Y.here C.1 rfl (hb C.2.2.2.1 hd) hl k) hr
theorem OGo.aload (C : Cx p s m c Z own by0 ml) (X : Sd p l e R s m args below meth c n0 T h cells slots) {k : Nat} {v : Value} (hd : decode by0 pc = .ok (.aload k, 2)) (hp : pc + 2 = pc') (hl : Ls[k]? = some (.val v)) (hv : v.isRef = true) (hr : OGo p e below K T (mkF m pc' Ls (v :: St))) : OGo p e below K T (mkF m pc Ls (St)) := by
  subst hp
  obtain ⟨-, -, locs, Y, -⟩ := X
  exact OGo.st (fun t k => XS.aload Y.here C.1 rfl (hb C.2.2.2.1 hd) hl hv k) hr
theorem OGo.aloadN (C : Cx p s m c Z own by0 ml) (X : Sd p l e R s m args below meth c n0 T h cells slots) {k : Fin 4} {v : Value} (hd : decode by0 pc = .ok (.aload_n k, 1)) (hp : pc + 1 = pc') (hl : Ls[k.val]? = some (.val v)) (hv : v.isRef = true) (hr : OGo p e below K T (mkF m pc' Ls (v :: St))) : OGo p e below K T (mkF m pc Ls (St)) := by
  subst hp
  obtain ⟨-, -, locs, Y, -⟩ := X
  exact OGo.st (fun t k => XS.aloadN Y.here C.1 rfl (hb C.2.2.2.1 hd) hl hv k) hr
theorem OGo.istore (C : Cx p s m c Z own by0 ml) (X : Sd p l e R s m args below meth c n0 T h cells slots) {k : Nat} {x : Int32} {l' : Array Slot} (hd : decode by0 pc = .ok (.istore k, 2)) (hp : pc + 2 = pc') (hl : storeLocals Ls k (.int x) = some l') (hr : OGo p e below K T (mkF m pc' l' (St))) : OGo p e below K T (mkF m pc Ls (.int x :: St)) := by
  subst hp
  obtain ⟨-, -, locs, Y, -⟩ := X
  exact OGo.st (fun t k => XS.istore Y.here C.1 rfl (hb C.2.2.2.1 hd) rfl hl k) hr
theorem OGo.istoreN (C : Cx p s m c Z own by0 ml) (X : Sd p l e R s m args below meth c n0 T h cells slots) {k : Fin 4} {x : Int32} {l' : Array Slot} (hd : decode by0 pc = .ok (.istore_n k, 1)) (hp : pc + 1 = pc') (hl : storeLocals Ls k.val (.int x) = some l') (hr : OGo p e below K T (mkF m pc' l' (St))) : OGo p e below K T (mkF m pc Ls (.int x :: St)) := by
  subst hp
  obtain ⟨-, -, locs, Y, -⟩ := X
  exact OGo.st (fun t k => XS.istoreN Y.here C.1 rfl (hb C.2.2.2.1 hd) rfl hl k) hr
theorem OGo.lstore (C : Cx p s m c Z own by0 ml) (X : Sd p l e R s m args below meth c n0 T h cells slots) {k : Nat} {x : Int64} {l' : Array Slot} (hd : decode by0 pc = .ok (.lstore k, 2)) (hp : pc + 2 = pc') (hl : storeLocals Ls k (.long x) = some l') (hr : OGo p e below K T (mkF m pc' l' (St))) : OGo p e below K T (mkF m pc Ls (.long x :: St)) := by
  subst hp
  obtain ⟨-, -, locs, Y, -⟩ := X
  exact OGo.st (fun t k => XS.lstore Y.here C.1 rfl (hb C.2.2.2.1 hd) rfl hl k) hr
theorem OGo.lstoreN (C : Cx p s m c Z own by0 ml) (X : Sd p l e R s m args below meth c n0 T h cells slots) {k : Fin 4} {x : Int64} {l' : Array Slot} (hd : decode by0 pc = .ok (.lstore_n k, 1)) (hp : pc + 1 = pc') (hl : storeLocals Ls k.val (.long x) = some l') (hr : OGo p e below K T (mkF m pc' l' (St))) : OGo p e below K T (mkF m pc Ls (.long x :: St)) := by
  subst hp
  obtain ⟨-, -, locs, Y, -⟩ := X
  exact OGo.st (fun t k => XS.lstoreN Y.here C.1 rfl (hb C.2.2.2.1 hd) rfl hl k) hr
theorem OGo.dstore (C : Cx p s m c Z own by0 ml) (X : Sd p l e R s m args below meth c n0 T h cells slots) {k : Nat} {x : UInt64} {l' : Array Slot} (hd : decode by0 pc = .ok (.dstore k, 2)) (hp : pc + 2 = pc') (hl : storeLocals Ls k (.double x) = some l') (hr : OGo p e below K T (mkF m pc' l' (St))) : OGo p e below K T (mkF m pc Ls (.double x :: St)) := by
  subst hp
  obtain ⟨-, -, locs, Y, -⟩ := X
  exact OGo.st (fun t k => XS.dstore Y.here C.1 rfl (hb C.2.2.2.1 hd) rfl hl k) hr
theorem OGo.dstoreN (C : Cx p s m c Z own by0 ml) (X : Sd p l e R s m args below meth c n0 T h cells slots) {k : Fin 4} {x : UInt64} {l' : Array Slot} (hd : decode by0 pc = .ok (.dstore_n k, 1)) (hp : pc + 1 = pc') (hl : storeLocals Ls k.val (.double x) = some l') (hr : OGo p e below K T (mkF m pc' l' (St))) : OGo p e below K T (mkF m pc Ls (.double x :: St)) := by
  subst hp
  obtain ⟨-, -, locs, Y, -⟩ := X
  exact OGo.st (fun t k => XS.dstoreN Y.here C.1 rfl (hb C.2.2.2.1 hd) rfl hl k) hr
theorem OGo.astore (C : Cx p s m c Z own by0 ml) (X : Sd p l e R s m args below meth c n0 T h cells slots) {k : Nat} {x : Value} {l' : Array Slot} (hd : decode by0 pc = .ok (.astore k, 2)) (hp : pc + 2 = pc') (hv : x.isRef = true) (hl : storeLocals Ls k x = some l') (hr : OGo p e below K T (mkF m pc' l' (St))) : OGo p e below K T (mkF m pc Ls (x :: St)) := by
  subst hp
  obtain ⟨-, -, locs, Y, -⟩ := X
  exact OGo.st (fun t k => XS.astore Y.here C.1 rfl (hb C.2.2.2.1 hd) rfl hv hl k) hr
theorem OGo.astoreN (C : Cx p s m c Z own by0 ml) (X : Sd p l e R s m args below meth c n0 T h cells slots) {k : Fin 4} {x : Value} {l' : Array Slot} (hd : decode by0 pc = .ok (.astore_n k, 1)) (hp : pc + 1 = pc') (hv : x.isRef = true) (hl : storeLocals Ls k.val x = some l') (hr : OGo p e below K T (mkF m pc' l' (St))) : OGo p e below K T (mkF m pc Ls (x :: St)) := by
  subst hp
  obtain ⟨-, -, locs, Y, -⟩ := X
  exact OGo.st (fun t k => XS.astoreN Y.here C.1 rfl (hb C.2.2.2.1 hd) rfl hv hl k) hr
theorem OGo.iconst (C : Cx p s m c Z own by0 ml) (X : Sd p l e R s m args below meth c n0 T h cells slots) {i : Int} {z : Int32} (hd : decode by0 pc = .ok (.iconst i, 1)) (hp : pc + 1 = pc') (hz : Int32.ofInt i = z) (hr : OGo p e below K T (mkF m pc' Ls (.int z :: St))) : OGo p e below K T (mkF m pc Ls (St)) := by
  subst hp
  subst hz
  obtain ⟨-, -, locs, Y, -⟩ := X
  exact OGo.st (fun t k => XS.iconst Y.here C.1 rfl (hb C.2.2.2.1 hd)  k) hr
theorem OGo.bipush (C : Cx p s m c Z own by0 ml) (X : Sd p l e R s m args below meth c n0 T h cells slots) {i : Int} {z : Int32} (hd : decode by0 pc = .ok (.bipush i, 2)) (hp : pc + 2 = pc') (hz : (Int8.ofInt i).toInt32 = z) (hr : OGo p e below K T (mkF m pc' Ls (.int z :: St))) : OGo p e below K T (mkF m pc Ls (St)) := by
  subst hp
  subst hz
  obtain ⟨-, -, locs, Y, -⟩ := X
  exact OGo.st (fun t k => XS.bipush Y.here C.1 rfl (hb C.2.2.2.1 hd)  k) hr
theorem OGo.sipush (C : Cx p s m c Z own by0 ml) (X : Sd p l e R s m args below meth c n0 T h cells slots) {i : Int} {z : Int32} (hd : decode by0 pc = .ok (.sipush i, 3)) (hp : pc + 3 = pc') (hz : (Int16.ofInt i).toInt32 = z) (hr : OGo p e below K T (mkF m pc' Ls (.int z :: St))) : OGo p e below K T (mkF m pc Ls (St)) := by
  subst hp
  subst hz
  obtain ⟨-, -, locs, Y, -⟩ := X
  exact OGo.st (fun t k => XS.sipush Y.here C.1 rfl (hb C.2.2.2.1 hd)  k) hr
theorem OGo.lconst (C : Cx p s m c Z own by0 ml) (X : Sd p l e R s m args below meth c n0 T h cells slots) {k : Fin 2} {z : Int64} (hd : decode by0 pc = .ok (.lconst k, 1)) (hp : pc + 1 = pc') (hz : Int64.ofNat k = z) (hr : OGo p e below K T (mkF m pc' Ls (.long z :: St))) : OGo p e below K T (mkF m pc Ls (St)) := by
  subst hp
  subst hz
  obtain ⟨-, -, locs, Y, -⟩ := X
  exact OGo.st (fun t k => XS.lconst Y.here C.1 rfl (hb C.2.2.2.1 hd)  k) hr
theorem OGo.dconst0 (C : Cx p s m c Z own by0 ml) (X : Sd p l e R s m args below meth c n0 T h cells slots) {v : UInt64} (hd : decode by0 pc = .ok (.dconst 0, 1)) (hp : pc + 1 = pc') (hz : FP.dconst0 = v) (hr : OGo p e below K T (mkF m pc' Ls (.double v :: St))) : OGo p e below K T (mkF m pc Ls (St)) := by
  subst hp
  obtain ⟨-, -, locs, Y, -⟩ := X
  exact OGo.st (fun t k => XS.dconst0 Y.here C.1 rfl (hb C.2.2.2.1 hd) hz k) hr
theorem OGo.dconst1 (C : Cx p s m c Z own by0 ml) (X : Sd p l e R s m args below meth c n0 T h cells slots) {v : UInt64} (hd : decode by0 pc = .ok (.dconst 1, 1)) (hp : pc + 1 = pc') (hz : FP.dconst1 = v) (hr : OGo p e below K T (mkF m pc' Ls (.double v :: St))) : OGo p e below K T (mkF m pc Ls (St)) := by
  subst hp
  obtain ⟨-, -, locs, Y, -⟩ := X
  exact OGo.st (fun t k => XS.dconst1 Y.here C.1 rfl (hb C.2.2.2.1 hd) hz k) hr
theorem OGo.aconst_null (C : Cx p s m c Z own by0 ml) (X : Sd p l e R s m args below meth c n0 T h cells slots)  (hd : decode by0 pc = .ok (.aconst_null, 1)) (hp : pc + 1 = pc')  (hr : OGo p e below K T (mkF m pc' Ls (.null :: St))) : OGo p e below K T (mkF m pc Ls (St)) := by
  subst hp
  obtain ⟨-, -, locs, Y, -⟩ := X
  exact OGo.st (fun t k => XS.aconstNull Y.here C.1 rfl (hb C.2.2.2.1 hd)  k) hr
theorem OGo.iadd (C : Cx p s m c Z own by0 ml) (X : Sd p l e R s m args below meth c n0 T h cells slots) {x y z : Int32} (hd : decode by0 pc = .ok (.iadd, 1)) (hp : pc + 1 = pc') (hz : x + y = z) (hr : OGo p e below K T (mkF m pc' Ls (.int z :: St))) : OGo p e below K T (mkF m pc Ls (.int y :: .int x :: St)) := by
  subst hp
  subst hz
  obtain ⟨-, -, locs, Y, -⟩ := X
  exact OGo.st (fun t k => XS.iadd Y.here C.1 rfl (hb C.2.2.2.1 hd) rfl k) hr
theorem OGo.isub (C : Cx p s m c Z own by0 ml) (X : Sd p l e R s m args below meth c n0 T h cells slots) {x y z : Int32} (hd : decode by0 pc = .ok (.isub, 1)) (hp : pc + 1 = pc') (hz : x - y = z) (hr : OGo p e below K T (mkF m pc' Ls (.int z :: St))) : OGo p e below K T (mkF m pc Ls (.int y :: .int x :: St)) := by
  subst hp
  subst hz
  obtain ⟨-, -, locs, Y, -⟩ := X
  exact OGo.st (fun t k => XS.isub Y.here C.1 rfl (hb C.2.2.2.1 hd) rfl k) hr
theorem OGo.imul (C : Cx p s m c Z own by0 ml) (X : Sd p l e R s m args below meth c n0 T h cells slots) {x y z : Int32} (hd : decode by0 pc = .ok (.imul, 1)) (hp : pc + 1 = pc') (hz : x * y = z) (hr : OGo p e below K T (mkF m pc' Ls (.int z :: St))) : OGo p e below K T (mkF m pc Ls (.int y :: .int x :: St)) := by
  subst hp
  subst hz
  obtain ⟨-, -, locs, Y, -⟩ := X
  exact OGo.st (fun t k => XS.imul Y.here C.1 rfl (hb C.2.2.2.1 hd) rfl k) hr
theorem OGo.iand (C : Cx p s m c Z own by0 ml) (X : Sd p l e R s m args below meth c n0 T h cells slots) {x y z : Int32} (hd : decode by0 pc = .ok (.iand, 1)) (hp : pc + 1 = pc') (hz : x &&& y = z) (hr : OGo p e below K T (mkF m pc' Ls (.int z :: St))) : OGo p e below K T (mkF m pc Ls (.int y :: .int x :: St)) := by
  subst hp
  subst hz
  obtain ⟨-, -, locs, Y, -⟩ := X
  exact OGo.st (fun t k => XS.iand Y.here C.1 rfl (hb C.2.2.2.1 hd) rfl k) hr
theorem OGo.ior (C : Cx p s m c Z own by0 ml) (X : Sd p l e R s m args below meth c n0 T h cells slots) {x y z : Int32} (hd : decode by0 pc = .ok (.ior, 1)) (hp : pc + 1 = pc') (hz : x ||| y = z) (hr : OGo p e below K T (mkF m pc' Ls (.int z :: St))) : OGo p e below K T (mkF m pc Ls (.int y :: .int x :: St)) := by
  subst hp
  subst hz
  obtain ⟨-, -, locs, Y, -⟩ := X
  exact OGo.st (fun t k => XS.ior Y.here C.1 rfl (hb C.2.2.2.1 hd) rfl k) hr
theorem OGo.ixor (C : Cx p s m c Z own by0 ml) (X : Sd p l e R s m args below meth c n0 T h cells slots) {x y z : Int32} (hd : decode by0 pc = .ok (.ixor, 1)) (hp : pc + 1 = pc') (hz : x ^^^ y = z) (hr : OGo p e below K T (mkF m pc' Ls (.int z :: St))) : OGo p e below K T (mkF m pc Ls (.int y :: .int x :: St)) := by
  subst hp
  subst hz
  obtain ⟨-, -, locs, Y, -⟩ := X
  exact OGo.st (fun t k => XS.ixor Y.here C.1 rfl (hb C.2.2.2.1 hd) rfl k) hr
theorem OGo.ishl (C : Cx p s m c Z own by0 ml) (X : Sd p l e R s m args below meth c n0 T h cells slots) {x y z : Int32} (hd : decode by0 pc = .ok (.ishl, 1)) (hp : pc + 1 = pc') (hz : x <<< (y &&& 31) = z) (hr : OGo p e below K T (mkF m pc' Ls (.int z :: St))) : OGo p e below K T (mkF m pc Ls (.int y :: .int x :: St)) := by
  subst hp
  subst hz
  obtain ⟨-, -, locs, Y, -⟩ := X
  exact OGo.st (fun t k => XS.ishl Y.here C.1 rfl (hb C.2.2.2.1 hd) rfl k) hr
theorem OGo.ishr (C : Cx p s m c Z own by0 ml) (X : Sd p l e R s m args below meth c n0 T h cells slots) {x y z : Int32} (hd : decode by0 pc = .ok (.ishr, 1)) (hp : pc + 1 = pc') (hz : x >>> (y &&& 31) = z) (hr : OGo p e below K T (mkF m pc' Ls (.int z :: St))) : OGo p e below K T (mkF m pc Ls (.int y :: .int x :: St)) := by
  subst hp
  subst hz
  obtain ⟨-, -, locs, Y, -⟩ := X
  exact OGo.st (fun t k => XS.ishr Y.here C.1 rfl (hb C.2.2.2.1 hd) rfl k) hr
theorem OGo.iushr (C : Cx p s m c Z own by0 ml) (X : Sd p l e R s m args below meth c n0 T h cells slots) {x y z : Int32} (hd : decode by0 pc = .ok (.iushr, 1)) (hp : pc + 1 = pc') (hz : (x.toUInt32 >>> (y &&& 31).toUInt32).toInt32 = z) (hr : OGo p e below K T (mkF m pc' Ls (.int z :: St))) : OGo p e below K T (mkF m pc Ls (.int y :: .int x :: St)) := by
  subst hp
  subst hz
  obtain ⟨-, -, locs, Y, -⟩ := X
  exact OGo.st (fun t k => XS.iushr Y.here C.1 rfl (hb C.2.2.2.1 hd) rfl k) hr
theorem OGo.idiv (C : Cx p s m c Z own by0 ml) (X : Sd p l e R s m args below meth c n0 T h cells slots) {x y z : Int32} (hd : decode by0 pc = .ok (.idiv, 1)) (hp : pc + 1 = pc') (hy : y ≠ 0) (hz : x / y = z) (hr : OGo p e below K T (mkF m pc' Ls (.int z :: St))) : OGo p e below K T (mkF m pc Ls (.int y :: .int x :: St)) := by
  subst hp
  subst hz
  obtain ⟨-, -, locs, Y, -⟩ := X
  exact OGo.st (fun t k => XS.idiv Y.here C.1 rfl (hb C.2.2.2.1 hd) rfl hy k) hr
theorem OGo.irem (C : Cx p s m c Z own by0 ml) (X : Sd p l e R s m args below meth c n0 T h cells slots) {x y z : Int32} (hd : decode by0 pc = .ok (.irem, 1)) (hp : pc + 1 = pc') (hy : y ≠ 0) (hz : x % y = z) (hr : OGo p e below K T (mkF m pc' Ls (.int z :: St))) : OGo p e below K T (mkF m pc Ls (.int y :: .int x :: St)) := by
  subst hp
  subst hz
  obtain ⟨-, -, locs, Y, -⟩ := X
  exact OGo.st (fun t k => iremM Y C.1 rfl (hb C.2.2.2.1 hd) rfl hy k) hr
theorem OGo.ineg (C : Cx p s m c Z own by0 ml) (X : Sd p l e R s m args below meth c n0 T h cells slots) {x z : Int32} (hd : decode by0 pc = .ok (.ineg, 1)) (hp : pc + 1 = pc') (hz : -x = z) (hr : OGo p e below K T (mkF m pc' Ls (.int z :: St))) : OGo p e below K T (mkF m pc Ls (.int x :: St)) := by
  subst hp
  subst hz
  obtain ⟨-, -, locs, Y, -⟩ := X
  exact OGo.st (fun t k => XS.ineg Y.here C.1 rfl (hb C.2.2.2.1 hd) rfl k) hr
theorem OGo.iinc (C : Cx p s m c Z own by0 ml) (X : Sd p l e R s m args below meth c n0 T h cells slots) {k : Nat} {cst : Int} {x z : Int32} {l' : Array Slot} (hd : decode by0 pc = .ok (.iinc k cst, 3)) (hp : pc + 3 = pc') (hl : Ls[k]? = some (.val (.int x))) (hz : x + Int32.ofInt cst = z) (hl' : storeLocals Ls k (.int z) = some l') (hr : OGo p e below K T (mkF m pc' l' (St))) : OGo p e below K T (mkF m pc Ls (St)) := by
  subst hp
  subst hz
  obtain ⟨-, -, locs, Y, -⟩ := X
  exact OGo.st (fun t k => XS.iinc Y.here C.1 rfl (hb C.2.2.2.1 hd) hl hl' k) hr
theorem OGo.ladd (C : Cx p s m c Z own by0 ml) (X : Sd p l e R s m args below meth c n0 T h cells slots) {x y z : Int64} (hd : decode by0 pc = .ok (.ladd, 1)) (hp : pc + 1 = pc') (hz : x + y = z) (hr : OGo p e below K T (mkF m pc' Ls (.long z :: St))) : OGo p e below K T (mkF m pc Ls (.long y :: .long x :: St)) := by
  subst hp
  subst hz
  obtain ⟨-, -, locs, Y, -⟩ := X
  exact OGo.st (fun t k => XS.ladd Y.here C.1 rfl (hb C.2.2.2.1 hd) rfl k) hr
theorem OGo.lsub (C : Cx p s m c Z own by0 ml) (X : Sd p l e R s m args below meth c n0 T h cells slots) {x y z : Int64} (hd : decode by0 pc = .ok (.lsub, 1)) (hp : pc + 1 = pc') (hz : x - y = z) (hr : OGo p e below K T (mkF m pc' Ls (.long z :: St))) : OGo p e below K T (mkF m pc Ls (.long y :: .long x :: St)) := by
  subst hp
  subst hz
  obtain ⟨-, -, locs, Y, -⟩ := X
  exact OGo.st (fun t k => XS.lsub Y.here C.1 rfl (hb C.2.2.2.1 hd) rfl k) hr
theorem OGo.lmul (C : Cx p s m c Z own by0 ml) (X : Sd p l e R s m args below meth c n0 T h cells slots) {x y z : Int64} (hd : decode by0 pc = .ok (.lmul, 1)) (hp : pc + 1 = pc') (hz : x * y = z) (hr : OGo p e below K T (mkF m pc' Ls (.long z :: St))) : OGo p e below K T (mkF m pc Ls (.long y :: .long x :: St)) := by
  subst hp
  subst hz
  obtain ⟨-, -, locs, Y, -⟩ := X
  exact OGo.st (fun t k => XS.lmul Y.here C.1 rfl (hb C.2.2.2.1 hd) rfl k) hr
theorem OGo.land (C : Cx p s m c Z own by0 ml) (X : Sd p l e R s m args below meth c n0 T h cells slots) {x y z : Int64} (hd : decode by0 pc = .ok (.land, 1)) (hp : pc + 1 = pc') (hz : x &&& y = z) (hr : OGo p e below K T (mkF m pc' Ls (.long z :: St))) : OGo p e below K T (mkF m pc Ls (.long y :: .long x :: St)) := by
  subst hp
  subst hz
  obtain ⟨-, -, locs, Y, -⟩ := X
  exact OGo.st (fun t k => XS.land Y.here C.1 rfl (hb C.2.2.2.1 hd) rfl k) hr
theorem OGo.lor (C : Cx p s m c Z own by0 ml) (X : Sd p l e R s m args below meth c n0 T h cells slots) {x y z : Int64} (hd : decode by0 pc = .ok (.lor, 1)) (hp : pc + 1 = pc') (hz : x ||| y = z) (hr : OGo p e below K T (mkF m pc' Ls (.long z :: St))) : OGo p e below K T (mkF m pc Ls (.long y :: .long x :: St)) := by
  subst hp
  subst hz
  obtain ⟨-, -, locs, Y, -⟩ := X
  exact OGo.st (fun t k => XS.lor Y.here C.1 rfl (hb C.2.2.2.1 hd) rfl k) hr
theorem OGo.lxor (C : Cx p s m c Z own by0 ml) (X : Sd p l e R s m args below meth c n0 T h cells slots) {x y z : Int64} (hd : decode by0 pc = .ok (.lxor, 1)) (hp : pc + 1 = pc') (hz : x ^^^ y = z) (hr : OGo p e below K T (mkF m pc' Ls (.long z :: St))) : OGo p e below K T (mkF m pc Ls (.long y :: .long x :: St)) := by
  subst hp
  subst hz
  obtain ⟨-, -, locs, Y, -⟩ := X
  exact OGo.st (fun t k => XS.lxor Y.here C.1 rfl (hb C.2.2.2.1 hd) rfl k) hr
theorem OGo.lshl (C : Cx p s m c Z own by0 ml) (X : Sd p l e R s m args below meth c n0 T h cells slots) {x z : Int64} {y : Int32} (hd : decode by0 pc = .ok (.lshl, 1)) (hp : pc + 1 = pc') (hz : x <<< (y &&& 0x3f).toInt64 = z) (hr : OGo p e below K T (mkF m pc' Ls (.long z :: St))) : OGo p e below K T (mkF m pc Ls (.int y :: .long x :: St)) := by
  subst hp
  subst hz
  obtain ⟨-, -, locs, Y, -⟩ := X
  exact OGo.st (fun t k => XS.lshl Y.here C.1 rfl (hb C.2.2.2.1 hd) rfl k) hr
theorem OGo.lshr (C : Cx p s m c Z own by0 ml) (X : Sd p l e R s m args below meth c n0 T h cells slots) {x z : Int64} {y : Int32} (hd : decode by0 pc = .ok (.lshr, 1)) (hp : pc + 1 = pc') (hz : x >>> (y &&& 0x3f).toInt64 = z) (hr : OGo p e below K T (mkF m pc' Ls (.long z :: St))) : OGo p e below K T (mkF m pc Ls (.int y :: .long x :: St)) := by
  subst hp
  subst hz
  obtain ⟨-, -, locs, Y, -⟩ := X
  exact OGo.st (fun t k => XS.lshr Y.here C.1 rfl (hb C.2.2.2.1 hd) rfl k) hr
theorem OGo.lushr (C : Cx p s m c Z own by0 ml) (X : Sd p l e R s m args below meth c n0 T h cells slots) {x z : Int64} {y : Int32} (hd : decode by0 pc = .ok (.lushr, 1)) (hp : pc + 1 = pc') (hz : (x.toUInt64 >>> (y &&& 0x3f).toInt64.toUInt64).toInt64 = z) (hr : OGo p e below K T (mkF m pc' Ls (.long z :: St))) : OGo p e below K T (mkF m pc Ls (.int y :: .long x :: St)) := by
  subst hp
  subst hz
  obtain ⟨-, -, locs, Y, -⟩ := X
  exact OGo.st (fun t k => XS.lushr Y.here C.1 rfl (hb C.2.2.2.1 hd) rfl k) hr
theorem OGo.ldiv (C : Cx p s m c Z own by0 ml) (X : Sd p l e R s m args below meth c n0 T h cells slots) {x y z : Int64} (hd : decode by0 pc = .ok (.ldiv, 1)) (hp : pc + 1 = pc') (hy : y ≠ 0) (hz : x / y = z) (hr : OGo p e below K T (mkF m pc' Ls (.long z :: St))) : OGo p e below K T (mkF m pc Ls (.long y :: .long x :: St)) := by
  subst hp
  subst hz
  obtain ⟨-, -, locs, Y, -⟩ := X
  exact OGo.st (fun t k => XS.ldiv Y.here C.1 rfl (hb C.2.2.2.1 hd) rfl hy k) hr
theorem OGo.lrem (C : Cx p s m c Z own by0 ml) (X : Sd p l e R s m args below meth c n0 T h cells slots) {x y z : Int64} (hd : decode by0 pc = .ok (.lrem, 1)) (hp : pc + 1 = pc') (hy : y ≠ 0) (hz : x - (x / y) * y = z) (hr : OGo p e below K T (mkF m pc' Ls (.long z :: St))) : OGo p e below K T (mkF m pc Ls (.long y :: .long x :: St)) := by
  subst hp
  subst hz
  obtain ⟨-, -, locs, Y, -⟩ := X
  exact OGo.st (fun t k => XS.lrem Y.here C.1 rfl (hb C.2.2.2.1 hd) rfl hy k) hr
theorem OGo.lneg (C : Cx p s m c Z own by0 ml) (X : Sd p l e R s m args below meth c n0 T h cells slots) {x z : Int64} (hd : decode by0 pc = .ok (.lneg, 1)) (hp : pc + 1 = pc') (hz : -x = z) (hr : OGo p e below K T (mkF m pc' Ls (.long z :: St))) : OGo p e below K T (mkF m pc Ls (.long x :: St)) := by
  subst hp
  subst hz
  obtain ⟨-, -, locs, Y, -⟩ := X
  exact OGo.st (fun t k => XS.lneg Y.here C.1 rfl (hb C.2.2.2.1 hd) rfl k) hr
theorem OGo.i2l (C : Cx p s m c Z own by0 ml) (X : Sd p l e R s m args below meth c n0 T h cells slots) {x : Int32} {z : Int64} (hd : decode by0 pc = .ok (.i2l, 1)) (hp : pc + 1 = pc') (hz : x.toInt64 = z) (hr : OGo p e below K T (mkF m pc' Ls (.long z :: St))) : OGo p e below K T (mkF m pc Ls (.int x :: St)) := by
  subst hp
  subst hz
  obtain ⟨-, -, locs, Y, -⟩ := X
  exact OGo.st (fun t k => XS.i2l Y.here C.1 rfl (hb C.2.2.2.1 hd) rfl k) hr
theorem OGo.l2i (C : Cx p s m c Z own by0 ml) (X : Sd p l e R s m args below meth c n0 T h cells slots) {x : Int64} {z : Int32} (hd : decode by0 pc = .ok (.l2i, 1)) (hp : pc + 1 = pc') (hz : x.toInt32 = z) (hr : OGo p e below K T (mkF m pc' Ls (.int z :: St))) : OGo p e below K T (mkF m pc Ls (.long x :: St)) := by
  subst hp
  subst hz
  obtain ⟨-, -, locs, Y, -⟩ := X
  exact OGo.st (fun t k => XS.l2i Y.here C.1 rfl (hb C.2.2.2.1 hd) rfl k) hr
theorem OGo.i2b (C : Cx p s m c Z own by0 ml) (X : Sd p l e R s m args below meth c n0 T h cells slots) {x : Int32} {z : Int32} (hd : decode by0 pc = .ok (.i2b, 1)) (hp : pc + 1 = pc') (hz : x.toInt8.toInt32 = z) (hr : OGo p e below K T (mkF m pc' Ls (.int z :: St))) : OGo p e below K T (mkF m pc Ls (.int x :: St)) := by
  subst hp
  subst hz
  obtain ⟨-, -, locs, Y, -⟩ := X
  exact OGo.st (fun t k => XS.i2b Y.here C.1 rfl (hb C.2.2.2.1 hd) rfl k) hr
theorem OGo.i2c (C : Cx p s m c Z own by0 ml) (X : Sd p l e R s m args below meth c n0 T h cells slots) {x : Int32} {z : Int32} (hd : decode by0 pc = .ok (.i2c, 1)) (hp : pc + 1 = pc') (hz : x.toUInt32.toUInt16.toUInt32.toInt32 = z) (hr : OGo p e below K T (mkF m pc' Ls (.int z :: St))) : OGo p e below K T (mkF m pc Ls (.int x :: St)) := by
  subst hp
  subst hz
  obtain ⟨-, -, locs, Y, -⟩ := X
  exact OGo.st (fun t k => XS.i2c Y.here C.1 rfl (hb C.2.2.2.1 hd) rfl k) hr
theorem OGo.i2s (C : Cx p s m c Z own by0 ml) (X : Sd p l e R s m args below meth c n0 T h cells slots) {x : Int32} {z : Int32} (hd : decode by0 pc = .ok (.i2s, 1)) (hp : pc + 1 = pc') (hz : x.toInt16.toInt32 = z) (hr : OGo p e below K T (mkF m pc' Ls (.int z :: St))) : OGo p e below K T (mkF m pc Ls (.int x :: St)) := by
  subst hp
  subst hz
  obtain ⟨-, -, locs, Y, -⟩ := X
  exact OGo.st (fun t k => XS.i2s Y.here C.1 rfl (hb C.2.2.2.1 hd) rfl k) hr
theorem OGo.lcmp (C : Cx p s m c Z own by0 ml) (X : Sd p l e R s m args below meth c n0 T h cells slots) {x y : Int64} {z : Int32} (hd : decode by0 pc = .ok (.lcmp, 1)) (hp : pc + 1 = pc') (hz : lcmpW x y = z) (hr : OGo p e below K T (mkF m pc' Ls (.int z :: St))) : OGo p e below K T (mkF m pc Ls (.long y :: .long x :: St)) := by
  subst hp
  subst hz
  obtain ⟨-, -, locs, Y, -⟩ := X
  exact OGo.st (fun t k => XS.lcmp Y.here C.1 rfl (hb C.2.2.2.1 hd) rfl k) hr
theorem OGo.i2d (C : Cx p s m c Z own by0 ml) (X : Sd p l e R s m args below meth c n0 T h cells slots) {x : Int32} {v : UInt64} (hd : decode by0 pc = .ok (.i2d, 1)) (hp : pc + 1 = pc') (hz : FP.i2d x = v) (hr : OGo p e below K T (mkF m pc' Ls (.double v :: St))) : OGo p e below K T (mkF m pc Ls (.int x :: St)) := by
  subst hp
  obtain ⟨-, -, locs, Y, -⟩ := X
  exact OGo.st (fun t k => XS.i2dS Y.here C.1 rfl (hb C.2.2.2.1 hd) rfl hz k) hr
theorem OGo.l2d (C : Cx p s m c Z own by0 ml) (X : Sd p l e R s m args below meth c n0 T h cells slots) {x : Int64} {v : UInt64} (hd : decode by0 pc = .ok (.l2d, 1)) (hp : pc + 1 = pc') (hz : FP.l2d x = v) (hr : OGo p e below K T (mkF m pc' Ls (.double v :: St))) : OGo p e below K T (mkF m pc Ls (.long x :: St)) := by
  subst hp
  obtain ⟨-, -, locs, Y, -⟩ := X
  exact OGo.st (fun t k => XS.l2dS Y.here C.1 rfl (hb C.2.2.2.1 hd) rfl hz k) hr
theorem OGo.d2i (C : Cx p s m c Z own by0 ml) (X : Sd p l e R s m args below meth c n0 T h cells slots) {x : UInt64} {v : Int32} (hd : decode by0 pc = .ok (.d2i, 1)) (hp : pc + 1 = pc') (hz : FP.d2i x = v) (hr : OGo p e below K T (mkF m pc' Ls (.int v :: St))) : OGo p e below K T (mkF m pc Ls (.double x :: St)) := by
  subst hp
  obtain ⟨-, -, locs, Y, -⟩ := X
  exact OGo.st (fun t k => XS.d2iS Y.here C.1 rfl (hb C.2.2.2.1 hd) rfl hz k) hr
theorem OGo.d2l (C : Cx p s m c Z own by0 ml) (X : Sd p l e R s m args below meth c n0 T h cells slots) {x : UInt64} {v : Int64} (hd : decode by0 pc = .ok (.d2l, 1)) (hp : pc + 1 = pc') (hz : FP.d2l x = v) (hr : OGo p e below K T (mkF m pc' Ls (.long v :: St))) : OGo p e below K T (mkF m pc Ls (.double x :: St)) := by
  subst hp
  obtain ⟨-, -, locs, Y, -⟩ := X
  exact OGo.st (fun t k => XS.d2lS Y.here C.1 rfl (hb C.2.2.2.1 hd) rfl hz k) hr
theorem OGo.dneg (C : Cx p s m c Z own by0 ml) (X : Sd p l e R s m args below meth c n0 T h cells slots) {x : UInt64} {v : UInt64} (hd : decode by0 pc = .ok (.dneg, 1)) (hp : pc + 1 = pc') (hz : FP.dneg x = v) (hr : OGo p e below K T (mkF m pc' Ls (.double v :: St))) : OGo p e below K T (mkF m pc Ls (.double x :: St)) := by
  subst hp
  obtain ⟨-, -, locs, Y, -⟩ := X
  exact OGo.st (fun t k => XS.dnegS Y.here C.1 rfl (hb C.2.2.2.1 hd) rfl hz k) hr
theorem OGo.dcmp (C : Cx p s m c Z own by0 ml) (X : Sd p l e R s m args below meth c n0 T h cells slots) {o : CmpOp} {x y : UInt64} {v : Int32} (hd : decode by0 pc = .ok (.dcmp o, 1)) (hp : pc + 1 = pc') (hz : cmpValue (FP.dcmp x y) o = v) (hr : OGo p e below K T (mkF m pc' Ls (.int v :: St))) : OGo p e below K T (mkF m pc Ls (.double y :: .double x :: St)) := by
  subst hp
  obtain ⟨-, -, locs, Y, -⟩ := X
  exact OGo.st (fun t k => XS.dcmpS Y.here C.1 rfl (hb C.2.2.2.1 hd) rfl hz k) hr
theorem OGo.dadd (C : Cx p s m c Z own by0 ml) (X : Sd p l e R s m args below meth c n0 T h cells slots) {x y v : UInt64} (hd : decode by0 pc = .ok (.dadd, 1)) (hp : pc + 1 = pc') (hn : Jvm.Free.Fl.NoNaN64 (FP.dadd x y)) (hz : FP.dadd x y = v) (hr : OGo p e below K T (mkF m pc' Ls (.double v :: St))) : OGo p e below K T (mkF m pc Ls (.double y :: .double x :: St)) := by
  subst hp
  obtain ⟨-, -, locs, Y, -⟩ := X
  exact OGo.st (fun t k => XS.daddS Y.here C.1 rfl (hb C.2.2.2.1 hd) rfl hn hz k) hr
theorem OGo.dsub (C : Cx p s m c Z own by0 ml) (X : Sd p l e R s m args below meth c n0 T h cells slots) {x y v : UInt64} (hd : decode by0 pc = .ok (.dsub, 1)) (hp : pc + 1 = pc') (hn : Jvm.Free.Fl.NoNaN64 (FP.dsub x y)) (hz : FP.dsub x y = v) (hr : OGo p e below K T (mkF m pc' Ls (.double v :: St))) : OGo p e below K T (mkF m pc Ls (.double y :: .double x :: St)) := by
  subst hp
  obtain ⟨-, -, locs, Y, -⟩ := X
  exact OGo.st (fun t k => XS.dsubS Y.here C.1 rfl (hb C.2.2.2.1 hd) rfl hn hz k) hr
theorem OGo.dmul (C : Cx p s m c Z own by0 ml) (X : Sd p l e R s m args below meth c n0 T h cells slots) {x y v : UInt64} (hd : decode by0 pc = .ok (.dmul, 1)) (hp : pc + 1 = pc') (hn : Jvm.Free.Fl.NoNaN64 (FP.dmul x y)) (hz : FP.dmul x y = v) (hr : OGo p e below K T (mkF m pc' Ls (.double v :: St))) : OGo p e below K T (mkF m pc Ls (.double y :: .double x :: St)) := by
  subst hp
  obtain ⟨-, -, locs, Y, -⟩ := X
  exact OGo.st (fun t k => XS.dmulS Y.here C.1 rfl (hb C.2.2.2.1 hd) rfl hn hz k) hr
theorem OGo.ddiv (C : Cx p s m c Z own by0 ml) (X : Sd p l e R s m args below meth c n0 T h cells slots) {x y v : UInt64} (hd : decode by0 pc = .ok (.ddiv, 1)) (hp : pc + 1 = pc') (hn : Jvm.Free.Fl.NoNaN64 (FP.ddiv x y)) (hz : FP.ddiv x y = v) (hr : OGo p e below K T (mkF m pc' Ls (.double v :: St))) : OGo p e below K T (mkF m pc Ls (.double y :: .double x :: St)) := by
  subst hp
  obtain ⟨-, -, locs, Y, -⟩ := X
  exact OGo.st (fun t k => XS.ddivS Y.here C.1 rfl (hb C.2.2.2.1 hd) rfl hn hz k) hr
theorem OGo.dup (C : Cx p s m c Z own by0 ml) (X : Sd p l e R s m args below meth c n0 T h cells slots) {x : Value} (hd : decode by0 pc = .ok (.dup, 1)) (hp : pc + 1 = pc') (hc : x.category = 1) (hr : OGo p e below K T (mkF m pc' Ls (x :: x :: St))) : OGo p e below K T (mkF m pc Ls (x :: St)) := by
  subst hp
  obtain ⟨-, -, locs, Y, -⟩ := X
  exact OGo.st (fun t k => XS.dup Y.here C.1 rfl (hb C.2.2.2.1 hd) rfl hc k) hr
theorem OGo.pop (C : Cx p s m c Z own by0 ml) (X : Sd p l e R s m args below meth c n0 T h cells slots) {x : Value} (hd : decode by0 pc = .ok (.pop, 1)) (hp : pc + 1 = pc') (hc : x.category = 1) (hr : OGo p e below K T (mkF m pc' Ls (St))) : OGo p e below K T (mkF m pc Ls (x :: St)) := by
  subst hp
  obtain ⟨-, -, locs, Y, -⟩ := X
  exact OGo.st (fun t k => XS.pop Y.here C.1 rfl (hb C.2.2.2.1 hd) rfl hc k) hr
theorem OGo.dup_x1 (C : Cx p s m c Z own by0 ml) (X : Sd p l e R s m args below meth c n0 T h cells slots) {x y : Value} (hd : decode by0 pc = .ok (.dup_x1, 1)) (hp : pc + 1 = pc') (hc : x.category = 1) (hc' : y.category = 1) (hr : OGo p e below K T (mkF m pc' Ls (x :: y :: x :: St))) : OGo p e below K T (mkF m pc Ls (x :: y :: St)) := by
  subst hp
  obtain ⟨-, -, locs, Y, -⟩ := X
  exact OGo.st (fun t k => XS.dupX1 Y.here C.1 rfl (hb C.2.2.2.1 hd) rfl hc hc' k) hr
theorem OGo.dup2 (C : Cx p s m c Z own by0 ml) (X : Sd p l e R s m args below meth c n0 T h cells slots) {x y : Value} (hd : decode by0 pc = .ok (.dup2, 1)) (hp : pc + 1 = pc') (hc : x.category = 1) (hc' : y.category = 1) (hr : OGo p e below K T (mkF m pc' Ls (x :: y :: x :: y :: St))) : OGo p e below K T (mkF m pc Ls (x :: y :: St)) := by
  subst hp
  obtain ⟨-, -, locs, Y, -⟩ := X
  exact OGo.st (fun t k => XT.dup2 Y.here C.1 rfl (hb C.2.2.2.1 hd) rfl hc hc' k) hr
theorem OGo.goto (C : Cx p s m c Z own by0 ml) (X : Sd p l e R s m args below meth c n0 T h cells slots)  {o : Int} (hd : decode by0 pc = .ok (.goto o, 3))  (ho : 0 ≤ (pc : Int) + o) (hp : ((pc : Int) + o).toNat = pc') (hr : OGo p e below K T (mkF m pc' Ls (St))) : OGo p e below K T (mkF m pc Ls (St)) := by
  obtain ⟨-, -, locs, Y, -⟩ := X
  exact OGo.st (fun t k => XS.goto Y.here C.1 rfl (pc0 := pc) rfl (hb C.2.2.2.1 hd)  ho hp k) hr
theorem OGo.ifYes (C : Cx p s m c Z own by0 ml) (X : Sd p l e R s m args below meth c n0 T h cells slots) {cd : ClassFile.Cond} {x : Int32} {o : Int} (hd : decode by0 pc = .ok (.ifCond cd o, 3)) (hc : if_icmp.holds cd x 0 = true) (ho : 0 ≤ (pc : Int) + o) (hp : ((pc : Int) + o).toNat = pc') (hr : OGo p e below K T (mkF m pc' Ls (St))) : OGo p e below K T (mkF m pc Ls (.int x :: St)) := by
  obtain ⟨-, -, locs, Y, -⟩ := X
  exact OGo.st (fun t k => XS.ifYes Y.here C.1 rfl (pc0 := pc) rfl (hb C.2.2.2.1 hd) rfl ((if0 _ _).trans hc) ho hp k) hr
theorem OGo.ifNo (C : Cx p s m c Z own by0 ml) (X : Sd p l e R s m args below meth c n0 T h cells slots) {cd : ClassFile.Cond} {x : Int32} {o : Int} (hd : decode by0 pc = .ok (.ifCond cd o, 3)) (hp : pc + 3 = pc') (hc : if_icmp.holds cd x 0 = false) (hr : OGo p e below K T (mkF m pc' Ls (St))) : OGo p e below K T (mkF m pc Ls (.int x :: St)) := by
  subst hp
  obtain ⟨-, -, locs, Y, -⟩ := X
  exact OGo.st (fun t k => XS.ifNo Y.here C.1 rfl (hb C.2.2.2.1 hd) rfl ((if0 _ _).trans hc) k) hr
theorem OGo.icmpYes (C : Cx p s m c Z own by0 ml) (X : Sd p l e R s m args below meth c n0 T h cells slots) {cd : ClassFile.Cond} {x y : Int32} {o : Int} (hd : decode by0 pc = .ok (.if_icmp cd o, 3)) (hc : if_icmp.holds cd x y = true) (ho : 0 ≤ (pc : Int) + o) (hp : ((pc : Int) + o).toNat = pc') (hr : OGo p e below K T (mkF m pc' Ls (St))) : OGo p e below K T (mkF m pc Ls (.int y :: .int x :: St)) := by
  obtain ⟨-, -, locs, Y, -⟩ := X
  exact OGo.st (fun t k => XS.icmpYes Y.here C.1 rfl (pc0 := pc) rfl (hb C.2.2.2.1 hd) rfl hc ho hp k) hr
theorem OGo.icmpNo (C : Cx p s m c Z own by0 ml) (X : Sd p l e R s m args below meth c n0 T h cells slots) {cd : ClassFile.Cond} {x y : Int32} {o : Int} (hd : decode by0 pc = .ok (.if_icmp cd o, 3)) (hp : pc + 3 = pc') (hc : if_icmp.holds cd x y = false) (hr : OGo p e below K T (mkF m pc' Ls (St))) : OGo p e below K T (mkF m pc Ls (.int y :: .int x :: St)) := by
  subst hp
  obtain ⟨-, -, locs, Y, -⟩ := X
  exact OGo.st (fun t k => XS.icmpNo Y.here C.1 rfl (hb C.2.2.2.1 hd) rfl hc k) hr
theorem OGo.ifnullYes (C : Cx p s m c Z own by0 ml) (X : Sd p l e R s m args below meth c n0 T h cells slots)  {o : Int} (hd : decode by0 pc = .ok (.ifnull o, 3))  (ho : 0 ≤ (pc : Int) + o) (hp : ((pc : Int) + o).toNat = pc') (hr : OGo p e below K T (mkF m pc' Ls (St))) : OGo p e below K T (mkF m pc Ls (.null :: St)) := by
  obtain ⟨-, -, locs, Y, -⟩ := X
  exact OGo.st (fun t k => XS.ifnullYes Y.here C.1 rfl (pc0 := pc) rfl (hb C.2.2.2.1 hd) rfl ho hp k) hr
theorem OGo.ifnullNo (C : Cx p s m c Z own by0 ml) (X : Sd p l e R s m args below meth c n0 T h cells slots) {b : Addr} {o : Int} (hd : decode by0 pc = .ok (.ifnull o, 3)) (hp : pc + 3 = pc')  (hr : OGo p e below K T (mkF m pc' Ls (St))) : OGo p e below K T (mkF m pc Ls (.ref b :: St)) := by
  subst hp
  obtain ⟨-, -, locs, Y, -⟩ := X
  exact OGo.st (fun t k => XS.ifnullNo Y.here C.1 rfl (hb C.2.2.2.1 hd) rfl k) hr
theorem OGo.ifnonnullYes (C : Cx p s m c Z own by0 ml) (X : Sd p l e R s m args below meth c n0 T h cells slots) {b : Addr} {o : Int} (hd : decode by0 pc = .ok (.ifnonnull o, 3))  (ho : 0 ≤ (pc : Int) + o) (hp : ((pc : Int) + o).toNat = pc') (hr : OGo p e below K T (mkF m pc' Ls (St))) : OGo p e below K T (mkF m pc Ls (.ref b :: St)) := by
  obtain ⟨-, -, locs, Y, -⟩ := X
  exact OGo.st (fun t k => XS.ifnonnullYes Y.here C.1 rfl (pc0 := pc) rfl (hb C.2.2.2.1 hd) rfl ho hp k) hr
theorem OGo.ifnonnullNo (C : Cx p s m c Z own by0 ml) (X : Sd p l e R s m args below meth c n0 T h cells slots)  {o : Int} (hd : decode by0 pc = .ok (.ifnonnull o, 3)) (hp : pc + 3 = pc')  (hr : OGo p e below K T (mkF m pc' Ls (St))) : OGo p e below K T (mkF m pc Ls (.null :: St)) := by
  subst hp
  obtain ⟨-, -, locs, Y, -⟩ := X
  exact OGo.st (fun t k => XS.ifnonnullNo Y.here C.1 rfl (hb C.2.2.2.1 hd) rfl k) hr
theorem OGo.acmp (C : Cx p s m c Z own by0 ml) (X : Sd p l e R s m args below meth c n0 T h cells slots) {cd : ACond} {x y : Value} (h1 : x.isRef = true) (h2 : y.isRef = true) {o : Int} {same : Bool} (hd : decode by0 pc = .ok (.if_acmp cd o, 3)) (hq : decide (x = y) = same) (ho : 0 ≤ (pc : Int) + o) (hp : pc' = if acV cd same = true then ((pc : Int) + o).toNat else pc + 3) (hr : OGo p e below K T (mkF m pc' Ls (St))) : OGo p e below K T (mkF m pc Ls (y :: x :: St)) := by
  obtain ⟨-, -, locs, Y, -⟩ := X
  exact OGo.st (fun t k => RoadKit.acmp Y C.1 rfl h1 h2 (pc0 := pc) rfl (hb C.2.2.2.1 hd) rfl hq ho hp k) hr
theorem OGo.ldcInt (C : Cx p s m c Z own by0 ml) (X : Sd p l e R s m args below meth c n0 T h cells slots) {idx : Nat} {v : Int32} (w : (Jvm.Cond.constant own idx v).before a0 Z = true) (hd : decode by0 pc = .ok (.ldc idx, 2)) (hp : pc + 2 = pc') (hr : OGo p e below K T (mkF m pc' Ls (.int v :: St))) : OGo p e below K T (mkF m pc Ls (St)) := by
  subst hp
  obtain ⟨-, -, locs, Y, -⟩ := X
  exact OGo.st (fun t k => Y.ldcInt C.1 C.2.2.1 (mvT C.2.1 w) (g := mkF m pc Ls St) rfl (hb C.2.2.2.1 hd) t k) hr
theorem OGo.ldc2Long (C : Cx p s m c Z own by0 ml) (X : Sd p l e R s m args below meth c n0 T h cells slots) {idx : Nat} {v : Int64} (w : (Jvm.Cond.constantLong own idx v).before a0 Z = true) (hd : decode by0 pc = .ok (.ldc2_w idx, 3)) (hp : pc + 3 = pc') (hr : OGo p e below K T (mkF m pc' Ls (.long v :: St))) : OGo p e below K T (mkF m pc Ls (St)) := by
  subst hp
  obtain ⟨-, -, locs, Y, -⟩ := X
  exact OGo.st (fun t k => Y.ldc2Long C.1 C.2.2.1 (mvT C.2.1 w) (g := mkF m pc Ls St) rfl (hb C.2.2.2.1 hd) t k) hr
theorem OGo.ldc2Double (C : Cx p s m c Z own by0 ml) (X : Sd p l e R s m args below meth c n0 T h cells slots) {idx : Nat} {v : UInt64} (w : (Jvm.Cond.constantDouble own idx v).before a0 Z = true) (hd : decode by0 pc = .ok (.ldc2_w idx, 3)) (hp : pc + 3 = pc') (hr : OGo p e below K T (mkF m pc' Ls (.double v :: St))) : OGo p e below K T (mkF m pc Ls (St)) := by
  subst hp
  obtain ⟨-, -, locs, Y, -⟩ := X
  exact OGo.st (fun t k => Y.ldc2DoubleC C.1 C.2.2.1 (mvT C.2.1 w) (g := mkF m pc Ls St) rfl (hb C.2.2.2.1 hd) t k) hr
theorem OGo.ldcStr (C : Cx p s m c Z own by0 ml) (X : Sd p l e R s m args below meth c n0 T h cells slots) {idx : Nat} {text : String} {a : Addr} (w : (Jvm.Cond.stringRef own idx text).before a0 Z = true) (L : RoadKit.Lit Z own idx a) (hd : decode by0 pc = .ok (.ldc idx, 2)) (hp : pc + 2 = pc') (hr : OGo p e below K T (mkF m pc' Ls (.ref a :: St))) : OGo p e below K T (mkF m pc Ls (St)) := by
  subst hp
  obtain ⟨-, -, locs, Y, -⟩ := X
  exact OGo.st (fun t k => ldcR Y C.1 C.2.1 C.2.2.1 w L (g := mkF m pc Ls St) rfl (hb C.2.2.2.1 hd) t k) hr
theorem OGo.arraylength (C : Cx p s m c Z own by0 ml) (X : Sd p l e R s m args below meth c n0 T h cells slots) {a : Addr} {k : ClassId} {ty : FieldType} {z : Int32} {vs : List Value} {dv : Value} (V : Arv Z h a k ty z vs dv) (hd : decode by0 pc = .ok (.arraylength, 1)) (hp : pc + 1 = pc') (hr : OGo p e below K T (mkF m pc' Ls (.int z :: St))) : OGo p e below K T (mkF m pc Ls (.ref a :: St)) := by
  subst hp
  obtain ⟨eT, -, locs, Y, -⟩ := X
  obtain ⟨cl, A, -, S, q, -⟩ := V
  refine OGo.st (fun t k => Y.arraylength C.1 (by rw [eT]; exact A.1) (State.isArrayOf_alike C.2.1.alike A.2.1) (g := mkF m pc Ls (.ref a :: St)) rfl rfl (hb C.2.2.2.1 hd) t ?_) hr
  rw [len_of S q]; exact k
theorem OGo.iaload (C : Cx p s m c Z own by0 ml) (X : Sd p l e R s m args below meth c n0 T h cells slots) {a : Addr} {k : ClassId} {z : Int32} {vs : List Value} {dv : Value} (V : Arv Z h a k .int z vs dv) {j : Int32} {v : Int32} (hd : decode by0 pc = .ok (.iaload, 1)) (hp : pc + 1 = pc') (hj : ¬ j < 0 ∧ j < z) (hv : vs.getD j.toNatClampNeg dv = .int v) (hr : OGo p e below K T (mkF m pc' Ls (.int v :: St))) : OGo p e below K T (mkF m pc Ls (.int j :: .ref a :: St)) := by
  subst hp
  obtain ⟨eT, -, locs, Y, -⟩ := X
  obtain ⟨cl, A, -, S, q, H, -⟩ := V
  exact OGo.st (fun t k => Y.iaload C.1 (by rw [eT]; exact A.1) (State.isArrayOf_alike C.2.1.alike A.2.1) A.2.2 (inb_of S hj) (Has.at H (inb_of S hj) hv) (g := mkF m pc Ls (.int j :: .ref a :: St)) rfl rfl (hb C.2.2.2.1 hd) t k) hr
theorem OGo.laload (C : Cx p s m c Z own by0 ml) (X : Sd p l e R s m args below meth c n0 T h cells slots) {a : Addr} {k : ClassId} {z : Int32} {vs : List Value} {dv : Value} (V : Arv Z h a k .long z vs dv) {j : Int32} {v : Int64} (hd : decode by0 pc = .ok (.laload, 1)) (hp : pc + 1 = pc') (hj : ¬ j < 0 ∧ j < z) (hv : vs.getD j.toNatClampNeg dv = .long v) (hr : OGo p e below K T (mkF m pc' Ls (.long v :: St))) : OGo p e below K T (mkF m pc Ls (.int j :: .ref a :: St)) := by
  subst hp
  obtain ⟨eT, -, locs, Y, -⟩ := X
  obtain ⟨cl, A, -, S, q, H, -⟩ := V
  exact OGo.st (fun t k => Y.laload C.1 (by rw [eT]; exact A.1) (State.isArrayOf_alike C.2.1.alike A.2.1) A.2.2 (inb_of S hj) (Has.at H (inb_of S hj) hv) (g := mkF m pc Ls (.int j :: .ref a :: St)) rfl rfl (hb C.2.2.2.1 hd) t k) hr
theorem OGo.daload (C : Cx p s m c Z own by0 ml) (X : Sd p l e R s m args below meth c n0 T h cells slots) {a : Addr} {k : ClassId} {z : Int32} {vs : List Value} {dv : Value} (V : Arv Z h a k .double z vs dv) {j : Int32} {v : UInt64} (hd : decode by0 pc = .ok (.daload, 1)) (hp : pc + 1 = pc') (hj : ¬ j < 0 ∧ j < z) (hv : vs.getD j.toNatClampNeg dv = .double v) (hr : OGo p e below K T (mkF m pc' Ls (.double v :: St))) : OGo p e below K T (mkF m pc Ls (.int j :: .ref a :: St)) := by
  subst hp
  obtain ⟨eT, -, locs, Y, -⟩ := X
  obtain ⟨cl, A, -, S, q, H, -⟩ := V
  exact OGo.st (fun t k => Y.daload C.1 (by rw [eT]; exact A.1) (State.isArrayOf_alike C.2.1.alike A.2.1) A.2.2 (inb_of S hj) (Has.at H (inb_of S hj) hv) (g := mkF m pc Ls (.int j :: .ref a :: St)) rfl rfl (hb C.2.2.2.1 hd) t k) hr
theorem OGo.caload (C : Cx p s m c Z own by0 ml) (X : Sd p l e R s m args below meth c n0 T h cells slots) {a : Addr} {k : ClassId} {z : Int32} {vs : List Value} {dv : Value} (V : Arv Z h a k .char z vs dv) {j : Int32} {v : Int32} (hd : decode by0 pc = .ok (.caload, 1)) (hp : pc + 1 = pc') (hj : ¬ j < 0 ∧ j < z) (hv : vs.getD j.toNatClampNeg dv = .int v) (hr : OGo p e below K T (mkF m pc' Ls (.int v :: St))) : OGo p e below K T (mkF m pc Ls (.int j :: .ref a :: St)) := by
  subst hp
  obtain ⟨eT, -, locs, Y, -⟩ := X
  obtain ⟨cl, A, -, S, q, H, -⟩ := V
  exact OGo.st (fun t k => Y.caload C.1 (by rw [eT]; exact A.1) (State.isArrayOf_alike C.2.1.alike A.2.1) A.2.2 (inb_of S hj) (Has.at H (inb_of S hj) hv) (g := mkF m pc Ls (.int j :: .ref a :: St)) rfl rfl (hb C.2.2.2.1 hd) t k) hr
theorem OGo.baloadB (C : Cx p s m c Z own by0 ml) (X : Sd p l e R s m args below meth c n0 T h cells slots) {a : Addr} {k : ClassId} {z : Int32} {vs : List Value} {dv : Value} (V : Arv Z h a k .byte z vs dv) {j : Int32} {v : Int32} (hd : decode by0 pc = .ok (.baload, 1)) (hp : pc + 1 = pc') (hj : ¬ j < 0 ∧ j < z) (hv : vs.getD j.toNatClampNeg dv = .int v) (hr : OGo p e below K T (mkF m pc' Ls (.int v :: St))) : OGo p e below K T (mkF m pc Ls (.int j :: .ref a :: St)) := by
  subst hp
  obtain ⟨eT, -, locs, Y, -⟩ := X
  obtain ⟨cl, A, -, S, q, H, -⟩ := V
  exact OGo.st (fun t k => Y.baloadBytes C.1 (by rw [eT]; exact A.1) (State.isArrayOf_alike C.2.1.alike A.2.1) A.2.2 (inb_of S hj) (Has.at H (inb_of S hj) hv) (g := mkF m pc Ls (.int j :: .ref a :: St)) rfl rfl (hb C.2.2.2.1 hd) t k) hr
theorem OGo.baloadZ (C : Cx p s m c Z own by0 ml) (X : Sd p l e R s m args below meth c n0 T h cells slots) {a : Addr} {k : ClassId} {z : Int32} {vs : List Value} {dv : Value} (V : Arv Z h a k .boolean z vs dv) {j : Int32} {v : Int32} (hd : decode by0 pc = .ok (.baload, 1)) (hp : pc + 1 = pc') (hj : ¬ j < 0 ∧ j < z) (hv : vs.getD j.toNatClampNeg dv = .int v) (hr : OGo p e below K T (mkF m pc' Ls (.int v :: St))) : OGo p e below K T (mkF m pc Ls (.int j :: .ref a :: St)) := by
  subst hp
  obtain ⟨eT, -, locs, Y, -⟩ := X
  obtain ⟨cl, A, -, S, q, H, -⟩ := V
  exact OGo.st (fun t k => Y.baloadBooleans C.1 (by rw [eT]; exact A.1) (State.isArrayOf_alike C.2.1.alike A.2.1) A.2.2 (inb_of S hj) (Has.at H (inb_of S hj) hv) (g := mkF m pc Ls (.int j :: .ref a :: St)) rfl rfl (hb C.2.2.2.1 hd) t k) hr
theorem OGo.iastore (C : Cx p s m c Z own by0 ml) (X : Sd p l e R s m args below meth c n0 T h cells slots) {a : Addr} {k : ClassId} {z : Int32} {vs : List Value} {dv : Value} (V : Arv Z h a k .int z vs dv) (ga : n0 ≤ a) {j : Int32} {x : Int32} {i : Nat} (hd : decode by0 pc = .ok (.iastore, 1)) (hp : pc + 1 = pc') (hj : ¬ j < 0 ∧ j < z) (hi : j.toNatClampNeg = i) (hl : i < vs.length)
    (hr : ∀ T' h', Sd p l e R s m args below meth c n0 T' h' cells slots → Wr h h' a i (.int x) → Arv Z h' a k .int z (vs.set i (.int x)) dv → OGo p e below K T' (mkF m pc' Ls St)) : OGo p e below K T (mkF m pc Ls (.int x :: .int j :: .ref a :: St)) := by
  subst hp hi
  obtain ⟨eT, hn, locs, Y, N⟩ := X
  obtain ⟨cl, A, q1, S, q, H, Gt⟩ := V
  obtain ⟨T', h', Y', e', W, st⟩ := stI Y C.1 C.2.1 eT A (inb_of S hj) (g := mkF m pc Ls (.int x :: .int j :: .ref a :: St)) rfl rfl (hb C.2.2.2.1 hd)
  exact OGo.st st (hr T' h' ⟨e', by rw [W.size]; exact hn, _, Y', Fr.snoc Y' N ga⟩ W (Arv.set A q1 S q H Gt rfl W _ rfl hl))
theorem OGo.lastore (C : Cx p s m c Z own by0 ml) (X : Sd p l e R s m args below meth c n0 T h cells slots) {a : Addr} {k : ClassId} {z : Int32} {vs : List Value} {dv : Value} (V : Arv Z h a k .long z vs dv) (ga : n0 ≤ a) {j : Int32} {x : Int64} {i : Nat} (hd : decode by0 pc = .ok (.lastore, 1)) (hp : pc + 1 = pc') (hj : ¬ j < 0 ∧ j < z) (hi : j.toNatClampNeg = i) (hl : i < vs.length)
    (hr : ∀ T' h', Sd p l e R s m args below meth c n0 T' h' cells slots → Wr h h' a i (.long x) → Arv Z h' a k .long z (vs.set i (.long x)) dv → OGo p e below K T' (mkF m pc' Ls St)) : OGo p e below K T (mkF m pc Ls (.long x :: .int j :: .ref a :: St)) := by
  subst hp hi
  obtain ⟨eT, hn, locs, Y, N⟩ := X
  obtain ⟨cl, A, q1, S, q, H, Gt⟩ := V
  obtain ⟨T', h', Y', e', W, st⟩ := stJ Y C.1 C.2.1 eT A (inb_of S hj) (g := mkF m pc Ls (.long x :: .int j :: .ref a :: St)) rfl rfl (hb C.2.2.2.1 hd)
  exact OGo.st st (hr T' h' ⟨e', by rw [W.size]; exact hn, _, Y', Fr.snoc Y' N ga⟩ W (Arv.set A q1 S q H Gt rfl W _ rfl hl))
theorem OGo.dastore (C : Cx p s m c Z own by0 ml) (X : Sd p l e R s m args below meth c n0 T h cells slots) {a : Addr} {k : ClassId} {z : Int32} {vs : List Value} {dv : Value} (V : Arv Z h a k .double z vs dv) (ga : n0 ≤ a) {j : Int32} {x : UInt64} {i : Nat} (hd : decode by0 pc = .ok (.dastore, 1)) (hp : pc + 1 = pc') (hj : ¬ j < 0 ∧ j < z) (hi : j.toNatClampNeg = i) (hl : i < vs.length)
    (hr : ∀ T' h', Sd p l e R s m args below meth c n0 T' h' cells slots → Wr h h' a i (.double x) → Arv Z h' a k .double z (vs.set i (.double x)) dv → OGo p e below K T' (mkF m pc' Ls St)) : OGo p e below K T (mkF m pc Ls (.double x :: .int j :: .ref a :: St)) := by
  subst hp hi
  obtain ⟨eT, hn, locs, Y, N⟩ := X
  obtain ⟨cl, A, q1, S, q, H, Gt⟩ := V
  obtain ⟨T', h', Y', e', W, st⟩ := stD Y C.1 C.2.1 eT A (inb_of S hj) (g := mkF m pc Ls (.double x :: .int j :: .ref a :: St)) rfl rfl (hb C.2.2.2.1 hd)
  exact OGo.st st (hr T' h' ⟨e', by rw [W.size]; exact hn, _, Y', Fr.snoc Y' N ga⟩ W (Arv.set A q1 S q H Gt rfl W _ rfl hl))
theorem OGo.castore (C : Cx p s m c Z own by0 ml) (X : Sd p l e R s m args below meth c n0 T h cells slots) {a : Addr} {k : ClassId} {z : Int32} {vs : List Value} {dv : Value} (V : Arv Z h a k .char z vs dv) (ga : n0 ≤ a) {j : Int32} {x : Int32} {i : Nat} (hd : decode by0 pc = .ok (.castore, 1)) (hp : pc + 1 = pc') (hj : ¬ j < 0 ∧ j < z) (hi : j.toNatClampNeg = i) (hl : i < vs.length)
    (hr : ∀ T' h', Sd p l e R s m args below meth c n0 T' h' cells slots → Wr h h' a i (.int (nar .char x)) → Arv Z h' a k .char z (vs.set i (.int (nar .char x))) dv → OGo p e below K T' (mkF m pc' Ls St)) : OGo p e below K T (mkF m pc Ls (.int x :: .int j :: .ref a :: St)) := by
  subst hp hi
  obtain ⟨eT, hn, locs, Y, N⟩ := X
  obtain ⟨cl, A, q1, S, q, H, Gt⟩ := V
  obtain ⟨T', h', Y', e', W, st⟩ := stC Y C.1 C.2.1 eT A (inb_of S hj) (g := mkF m pc Ls (.int x :: .int j :: .ref a :: St)) rfl rfl (hb C.2.2.2.1 hd)
  exact OGo.st st (hr T' h' ⟨e', by rw [W.size]; exact hn, _, Y', Fr.snoc Y' N ga⟩ W (Arv.set A q1 S q H Gt (fits_nar_char x) W _ rfl hl))
theorem OGo.bastoreB (C : Cx p s m c Z own by0 ml) (X : Sd p l e R s m args below meth c n0 T h cells slots) {a : Addr} {k : ClassId} {z : Int32} {vs : List Value} {dv : Value} (V : Arv Z h a k .byte z vs dv) (ga : n0 ≤ a) {j : Int32} {x : Int32} {i : Nat} (hd : decode by0 pc = .ok (.bastore, 1)) (hp : pc + 1 = pc') (hj : ¬ j < 0 ∧ j < z) (hi : j.toNatClampNeg = i) (hl : i < vs.length)
    (hr : ∀ T' h', Sd p l e R s m args below meth c n0 T' h' cells slots → Wr h h' a i (.int (nar .byte x)) → Arv Z h' a k .byte z (vs.set i (.int (nar .byte x))) dv → OGo p e below K T' (mkF m pc' Ls St)) : OGo p e below K T (mkF m pc Ls (.int x :: .int j :: .ref a :: St)) := by
  subst hp hi
  obtain ⟨eT, hn, locs, Y, N⟩ := X
  obtain ⟨cl, A, q1, S, q, H, Gt⟩ := V
  obtain ⟨T', h', Y', e', W, st⟩ := stB Y C.1 C.2.1 eT A (inb_of S hj) (g := mkF m pc Ls (.int x :: .int j :: .ref a :: St)) rfl rfl (hb C.2.2.2.1 hd)
  exact OGo.st st (hr T' h' ⟨e', by rw [W.size]; exact hn, _, Y', Fr.snoc Y' N ga⟩ W (Arv.set A q1 S q H Gt (fits_nar_byte x) W _ rfl hl))
theorem OGo.bastoreZ (C : Cx p s m c Z own by0 ml) (X : Sd p l e R s m args below meth c n0 T h cells slots) {a : Addr} {k : ClassId} {z : Int32} {vs : List Value} {dv : Value} (V : Arv Z h a k .boolean z vs dv) (ga : n0 ≤ a) {j : Int32} {x : Int32} {i : Nat} (hd : decode by0 pc = .ok (.bastore, 1)) (hp : pc + 1 = pc') (hj : ¬ j < 0 ∧ j < z) (hi : j.toNatClampNeg = i) (hl : i < vs.length)
    (hr : ∀ T' h', Sd p l e R s m args below meth c n0 T' h' cells slots → Wr h h' a i (.int (nar .boolean x)) → Arv Z h' a k .boolean z (vs.set i (.int (nar .boolean x))) dv → OGo p e below K T' (mkF m pc' Ls St)) : OGo p e below K T (mkF m pc Ls (.int x :: .int j :: .ref a :: St)) := by
  subst hp hi
  obtain ⟨eT, hn, locs, Y, N⟩ := X
  obtain ⟨cl, A, q1, S, q, H, Gt⟩ := V
  obtain ⟨T', h', Y', e', W, st⟩ := stZ Y C.1 C.2.1 eT A (inb_of S hj) (g := mkF m pc Ls (.int x :: .int j :: .ref a :: St)) rfl rfl (hb C.2.2.2.1 hd)
  exact OGo.st st (hr T' h' ⟨e', by rw [W.size]; exact hn, _, Y', Fr.snoc Y' N ga⟩ W (Arv.set A q1 S q H Gt (fits_nar_bool x) W _ rfl hl))
theorem OGo.newarray (C : Cx p s m c Z own by0 ml) (X : Sd p l e R s m args below meth c n0 T h cells slots) {aty : ArrayType} {ty : FieldType} {n : Int32} {cap : Nat} {d0 : Value} (w : (Jvm.Cond.arrayClass ty).before a0 Z = true) (hty : newarray.typeOf aty = ty) (hd : decode by0 pc = .ok (.newarray aty, 2)) (hp : pc + 2 = pc') (hn : ¬ n < 0) (hcap : n.toNatClampNeg ≤ cap) (hb8 : cap * 8 ≤ 536870912) (hdv : defaultValue ty = d0) (hc' : cells + 1 = cells') (hs' : slots + cap = slots') (hc : cells' ≤ R.cells) (hl : slots' ≤ R.slots)
    (hr : ∀ T' h' a k, Sd p l e R s m args below meth c n0 T' h' cells' slots' → a = h.size → n0 ≤ a → Ext h h' → Arv Z h' a k ty n [] d0 → OGo p e below K T' (mkF m pc' Ls (.ref a :: St))) : OGo p e below K T (mkF m pc Ls (.int n :: St)) := by
  subst hp hc' hs' hty hdv
  obtain ⟨eT, hn0, locs, Y, N⟩ := X
  obtain ⟨T', h', cA, Y', e', E, A, st⟩ := newP Y C.1 C.2.1 w eT (g := mkF m pc Ls (.int n :: St)) rfl (hb C.2.2.2.1 hd) rfl hn hcap hb8 hc hl
  exact OGo.st st (hr T' h' _ cA ⟨e', Nat.le_trans hn0 E.1, _, Y', N⟩ rfl hn0 E (Arv.new A hn))
theorem OGo.newarrayE (C : Cx p s m c Z own by0 ml) (X : Sd p l e R s m args below meth c n0 T h cells slots) {aty : ArrayType} {ty : FieldType} {n : Int32} {cap : Nat} {d0 : Value} {ad : String} (w : (Jvm.Cond.arrayClass ty).before a0 Z = true) (hty : newarray.typeOf aty = ty) (had : "[" ++ ty.toString = ad) (hd : decode by0 pc = .ok (.newarray aty, 2)) (hp : pc + 2 = pc') (hn : ¬ n < 0) (hcap : n.toNatClampNeg ≤ cap) (hb8 : cap * 8 ≤ 536870912) (hdv : defaultValue ty = d0) (hc' : cells + 1 = cells') (hs' : slots + cap = slots') (hc : cells' ≤ R.cells) (hl : slots' ≤ R.slots)
    (hr : ∀ T' h' a k, Sd p l e R s m args below meth c n0 T' h' cells' slots' → a = h.size → n0 ≤ a → Ext h h' → Arv Z h' a k ty n [] d0 → Exa Z h' a ad → OGo p e below K T' (mkF m pc' Ls (.ref a :: St))) : OGo p e below K T (mkF m pc Ls (.int n :: St)) := by
  subst hp hc' hs' hty hdv
  obtain ⟨eT, hn0, locs, Y, N⟩ := X
  obtain ⟨T', h', cA, Y', e', E, A, EE, st⟩ := newPE Y C.1 C.2.1 w eT (g := mkF m pc Ls (.int n :: St)) rfl (hb C.2.2.2.1 hd) rfl hn hcap hb8 hc hl had
  exact OGo.st st (hr T' h' _ cA ⟨e', Nat.le_trans hn0 E.1, _, Y', N⟩ rfl hn0 E (Arv.new A hn) EE)
theorem OGo.new (C : Cx p s m c Z own by0 ml) (X : Sd p l e R s m args below meth c n0 T h cells slots) {Cn : String} {idx n : Nat} (w : (Jvm.Cond.classLink own idx Cn).before a0 Z = true) (wi : (Jvm.Cond.instantiable Cn n).before a0 Z = true) (wz : (Jvm.Cond.initialized Cn).before a0 Z = true) (hd : decode by0 pc = .ok (.new idx, 3)) (hp : pc + 3 = pc') (hc' : cells + 1 = cells') (hs' : slots + n = slots') (hc : cells' ≤ R.cells) (hl : slots' ≤ R.slots)
    (hr : ∀ T' h' a, Sd p l e R s m args below meth c n0 T' h' cells' slots' → a = h.size → n0 ≤ a → Ext h h' → Exa Z h' a Cn → (∀ {O nm d : String} {ty : FieldType}, Laid Z a0 Cn O nm d → parseFieldDescriptor d = some ty → Fld Z h' a O nm d (defaultValue ty)) → Unt h' a → OGo p e below K T' (mkF m pc' Ls (.ref a :: St))) : OGo p e below K T (mkF m pc Ls (St)) := by
  subst hp hc' hs'
  obtain ⟨eT, hn0, locs, Y, N⟩ := X
  obtain ⟨T', h', Y', e', E, A, D, U, st⟩ := newO Y C.1 C.2.1 C.2.2.1 w wi wz eT (g := mkF m pc Ls St) rfl (hb C.2.2.2.1 hd) hc hl
  exact OGo.st st (hr T' h' _ ⟨e', Nat.le_trans hn0 E.1, _, Y', N⟩ rfl hn0 E A D U)
theorem OGo.getfield (C : Cx p s m c Z own by0 ml) (X : Sd p l e R s m args below meth c n0 T h cells slots) {R0 O n d host : String} {idx : Nat} {a : Addr} {v : Value} (w : (Jvm.Cond.fieldLink own idx R0 n d).before a0 Z = true ∨ (Jvm.Cond.fieldLinkNest own idx R0 n d host).before a0 Z = true) (via : Via Z R0 O n d) (F : Fld Z h a O n d v) (hd : decode by0 pc = .ok (.getfield idx, 3)) (hp : pc + 3 = pc')
    (hr : ∀ T', Sd p l e R s m args below meth c n0 T' h cells slots → OGo p e below K T' (mkF m pc' Ls (v :: St))) : OGo p e below K T (mkF m pc Ls (.ref a :: St)) := by
  subst hp
  obtain ⟨eT, hn0, locs, Y, N⟩ := X
  obtain ⟨T', Y', e', st⟩ := getF Y C.1 C.2.1 C.2.2.1 w via eT F (g := mkF m pc Ls (.ref a :: St)) rfl rfl (hb C.2.2.2.1 hd)
  exact OGo.st st (hr T' ⟨e', hn0, _, Y', N⟩)
theorem OGo.putfield (C : Cx p s m c Z own by0 ml) (X : Sd p l e R s m args below meth c n0 T h cells slots) {R0 O n d host Cn : String} {idx kk : Nat} {ty : FieldType} {a : Addr} {v old : Value} (w : (Jvm.Cond.fieldLink own idx R0 n d).before a0 Z = true ∨ (Jvm.Cond.fieldLinkNest own idx R0 n d host).before a0 Z = true) (via : Via Z R0 O n d) (F : Fld Z h a O n d old) (E : Exa Z h a Cn) (ga : n0 ≤ a)
    (L : (Jvm.Cond.lays Cn O n d).before a0 Z = true ∨ ((Jvm.Cond.laysFinal Cn O n d).before a0 Z = true ∧ own = O ∧ meth.name = "<init>")) (wi : (Jvm.Cond.instantiable Cn kk).before a0 Z = true) (hty : parseFieldDescriptor d = some ty) (hnn : narrow ty v = v) (hf : fits ty v = true) (hd : decode by0 pc = .ok (.putfield idx, 3)) (hp : pc + 3 = pc')
    (hr : ∀ T' h', Sd p l e R s m args below meth c n0 T' h' cells slots → Wr h h' a (RoadKit.slotOf Z O n d) v → Fld Z h' a O n d v → OGo p e below K T' (mkF m pc' Ls St)) : OGo p e below K T (mkF m pc Ls (v :: .ref a :: St)) := by
  subst hp
  obtain ⟨eT, hn0, locs, Y, N⟩ := X
  obtain ⟨T', h', Y', e', W, st⟩ := putF Y C.1 C.2.1 C.2.2.1 w via eT F E L wi hty hnn hf (g := mkF m pc Ls (v :: .ref a :: St)) rfl rfl (hb C.2.2.2.1 hd)
  exact OGo.st st (hr T' h' ⟨e', by rw [W.size]; exact hn0, _, Y', Fr.snoc Y' N ga⟩ W (F.same W))
theorem OGo.putfieldN (C : Cx p s m c Z own by0 ml) (X : Sd p l e R s m args below meth c n0 T h cells slots) {R0 O n d Cn : String} {idx kk : Nat} {ty : FieldType} {a : Addr} {v v' old : Value} (w : (Jvm.Cond.fieldLink own idx R0 n d).before a0 Z = true) (via : Via Z R0 O n d) (F : Fld Z h a O n d old) (E : Exa Z h a Cn) (ga : n0 ≤ a)
    (L : (Jvm.Cond.lays Cn O n d).before a0 Z = true ∨ ((Jvm.Cond.laysFinal Cn O n d).before a0 Z = true ∧ own = O ∧ meth.name = "<init>")) (wi : (Jvm.Cond.instantiable Cn kk).before a0 Z = true) (hty : parseFieldDescriptor d = some ty) (hnn : narrow ty v = v') (hf : fits ty v' = true) (hd : decode by0 pc = .ok (.putfield idx, 3)) (hp : pc + 3 = pc')
    (hr : ∀ T' h', Sd p l e R s m args below meth c n0 T' h' cells slots → Wr h h' a (RoadKit.slotOf Z O n d) v' → Fld Z h' a O n d v' → OGo p e below K T' (mkF m pc' Ls St)) : OGo p e below K T (mkF m pc Ls (v :: .ref a :: St)) := by
  subst hp
  obtain ⟨eT, hn0, locs, Y, N⟩ := X
  obtain ⟨T', h', Y', e', W, st⟩ := putFN Y C.1 C.2.1 C.2.2.1 w via eT F E L wi hty hnn hf (g := mkF m pc Ls (v :: .ref a :: St)) rfl rfl (hb C.2.2.2.1 hd)
  exact OGo.st st (hr T' h' ⟨e', by rw [W.size]; exact hn0, _, Y', Fr.snoc Y' N ga⟩ W (F.same W))
theorem OGo.getstatic (C : Cx p s m c Z own by0 ml) (X : Sd p l e R s m args below meth c n0 T h cells slots) {R0 O n d host : String} {idx : Nat} {v : Value} (w : (Jvm.Cond.fieldLink own idx R0 n d).before a0 Z = true ∨ (Jvm.Cond.fieldLinkNest own idx R0 n d host).before a0 Z = true) (via : Via Z R0 O n d) (F : Sta Z h O n d v) (hd : decode by0 pc = .ok (.getstatic idx, 3)) (hp : pc + 3 = pc')
    (hr : ∀ T', Sd p l e R s m args below meth c n0 T' h cells slots → OGo p e below K T' (mkF m pc' Ls (v :: St))) : OGo p e below K T (mkF m pc Ls (St)) := by
  subst hp
  obtain ⟨eT, hn0, locs, Y, N⟩ := X
  obtain ⟨T', Y', e', st⟩ := getS2 Y C.1 C.2.1 C.2.2.1 w via eT F (g := mkF m pc Ls St) rfl (hb C.2.2.2.1 hd)
  exact OGo.st st (hr T' ⟨e', hn0, _, Y', N⟩)
theorem OGo.checkcast (C : Cx p s m c Z own by0 ml) (X : Sd p l e R s m args below meth c n0 T h cells slots) {Kn : String} {idx : Nat} {a : Addr} (w : (Jvm.Cond.classLink own idx Kn).before a0 Z = true) (F : Ins Z h a Kn true) (hd : decode by0 pc = .ok (.checkcast idx, 3)) (hp : pc + 3 = pc')
    (hr : ∀ T', Sd p l e R s m args below meth c n0 T' h cells slots → OGo p e below K T' (mkF m pc' Ls (.ref a :: St))) : OGo p e below K T (mkF m pc Ls (.ref a :: St)) := by
  subst hp
  obtain ⟨eT, hn0, locs, Y, N⟩ := X
  obtain ⟨T', Y', e', st⟩ := castY Y C.1 C.2.1 C.2.2.1 w eT F (g := mkF m pc Ls (.ref a :: St)) rfl rfl (hb C.2.2.2.1 hd)
  exact OGo.st st (hr T' ⟨e', hn0, _, Y', N⟩)
theorem OGo.instYes (C : Cx p s m c Z own by0 ml) (X : Sd p l e R s m args below meth c n0 T h cells slots) {Kn : String} {idx : Nat} {a : Addr} (w : (Jvm.Cond.classLink own idx Kn).before a0 Z = true) (F : Ins Z h a Kn true) (hd : decode by0 pc = .ok (.instanceof idx, 3)) (hp : pc + 3 = pc')
    (hr : ∀ T', Sd p l e R s m args below meth c n0 T' h cells slots → OGo p e below K T' (mkF m pc' Ls (.int 1 :: St))) : OGo p e below K T (mkF m pc Ls (.ref a :: St)) := by
  subst hp
  obtain ⟨eT, hn0, locs, Y, N⟩ := X
  obtain ⟨T', Y', e', st⟩ := instY Y C.1 C.2.1 C.2.2.1 w eT F (g := mkF m pc Ls (.ref a :: St)) rfl rfl (hb C.2.2.2.1 hd)
  exact OGo.st st (hr T' ⟨e', hn0, _, Y', N⟩)
theorem OGo.instNo (C : Cx p s m c Z own by0 ml) (X : Sd p l e R s m args below meth c n0 T h cells slots) {Kn Cn : String} {idx : Nat} {a : Addr} (w : (Jvm.Cond.classLink own idx Kn).before a0 Z = true) (E : Exa Z h a Cn) (F : ∃ c t, Z.vm.findClass Cn = some c ∧ Z.vm.findClass Kn = some t ∧ Z.vm.assignable c t = false) (hd : decode by0 pc = .ok (.instanceof idx, 3)) (hp : pc + 3 = pc')
    (hr : ∀ T', Sd p l e R s m args below meth c n0 T' h cells slots → OGo p e below K T' (mkF m pc' Ls (.int 0 :: St))) : OGo p e below K T (mkF m pc Ls (.ref a :: St)) := by
  subst hp
  obtain ⟨eT, hn0, locs, Y, N⟩ := X
  obtain ⟨T', Y', e', st⟩ := RoadKit.instNo Y C.1 C.2.1 C.2.2.1 w eT E F (g := mkF m pc Ls (.ref a :: St)) rfl rfl (hb C.2.2.2.1 hd)
  exact OGo.st st (hr T' ⟨e', hn0, _, Y', N⟩)
theorem OGo.initObj (C : Cx p s m c Z own by0 ml) (X : Sd p l e R s m args below meth c n0 T h cells slots) {idx : Nat} {a : Addr} (w1 : (Jvm.Cond.methodLink own idx Lib.objectInit).before a0 Z = true) (w2 : (Jvm.Cond.instanceMethod Lib.objectInit).before a0 Z = true) (w3 : (Jvm.Cond.code Lib.objectInit ⟨#[0xb1]⟩ 1 none).before a0 Z = true) (hd : decode by0 pc = .ok (.invokespecial idx, 3)) (hp : pc + 3 = pc') (hsz : Ls.size = ml) (hf : 1 ≤ R.frames) (hl : (St.map fun v => v.category).sum + 12 ≤ R.locals)
    (hr : ∀ T', Sd p l e R s m args below meth c n0 T' h cells slots → OGo p e below K T' (mkF m pc' Ls St)) : OGo p e below K T (mkF m pc Ls (.ref a :: St)) := by
  subst hp
  obtain ⟨eT, hn0, locs, Y, N⟩ := X
  obtain ⟨T', Y', e', st⟩ := initO Y C.1 C.2.1 C.2.2.1 w1 w2 w3 eT (g := mkF m pc Ls (.ref a :: St)) rfl (by rw [C.2.2.2.2]; exact hsz) rfl (hb C.2.2.2.1 hd) hf (W := (St.map fun v => v.category).sum) (by show 2 * 0 + _ ≤ _; omega) hl
  exact OGo.st st (hr T' ⟨e', hn0, _, Y', N⟩)
theorem OGo.ret (C : Cx p s m c Z own by0 ml) (X : Sd p l e R s m args below meth c n0 T h cells slots)  {Q : Option Value → Heap → Prop} {nc ns : Nat} (hd : decode by0 pc = .ok (.return_, 1)) (hret : meth.sig.returnType = none) (hlk : meth.locks = false) (hQ : Q (none) h) (hc : cells ≤ nc) (hs : slots ≤ ns) : OGo p e below (Kk s below n0 Q nc ns) T (mkF m pc Ls ([])) := by
  obtain ⟨eT, hn0, locs, Y, N⟩ := X
  obtain ⟨fs, hr, hrun, hended, hW, hsame⟩ := Y.leave (v := none) (fun hh => by rfl) hlk
  exact ⟨_, _, Y.returnOut C.1 hret (hb C.2.2.2.1 hd) hr, hrun, hended, _, locs, rfl, ⟨by show Q _ T.heap; rw [eT]; exact hQ, N⟩, ⟨_, rfl⟩, hW, hsame.mono hc hs⟩
theorem OGo.retInt (C : Cx p s m c Z own by0 ml) (X : Sd p l e R s m args below meth c n0 T h cells slots) {z : Int32} {rest : List Value} {Q : Option Value → Heap → Prop} {nc ns : Nat} (hd : decode by0 pc = .ok (.ireturn, 1)) (hret : meth.sig.returnType = some .int) (hlk : meth.locks = false) (hQ : Q (some (.int z)) h) (hc : cells ≤ nc) (hs : slots ≤ ns) : OGo p e below (Kk s below n0 Q nc ns) T (mkF m pc Ls (.int z :: rest)) := by
  obtain ⟨eT, hn0, locs, Y, N⟩ := X
  obtain ⟨fs, hr, hrun, hended, hW, hsame⟩ := Y.leave (v := some (.int z)) (fun hh => by rw [hret] at hh; cases hh) hlk
  exact ⟨_, _, retOut Y C.1 (i := .ireturn) hret rfl (Or.inl ⟨rfl, Or.inl rfl, _, rfl⟩) (hb C.2.2.2.1 hd) hr, hrun, hended, _, locs, rfl, ⟨by show Q _ T.heap; rw [eT]; exact hQ, N⟩, ⟨_, rfl⟩, hW, hsame.mono hc hs⟩
theorem OGo.retN (C : Cx p s m c Z own by0 ml) (X : Sd p l e R s m args below meth c n0 T h cells slots) {z z' : Int32} {rest : List Value} {t : FieldType} {Q : Option Value → Heap → Prop} {nc ns : Nat} (hd : decode by0 pc = .ok (.ireturn, 1)) (hret : meth.sig.returnType = some t) (ht : t = .boolean ∨ t = .byte ∨ t = .char ∨ t = .short) (hz : nar t z = z') (hlk : meth.locks = false) (hQ : Q (some (.int z')) h) (hc : cells ≤ nc) (hs : slots ≤ ns) : OGo p e below (Kk s below n0 Q nc ns) T (mkF m pc Ls (.int z :: rest)) := by
  subst hz
  obtain ⟨eT, hn0, locs, Y, N⟩ := X
  obtain ⟨fs, hr, hrun, hended, hW, hsame⟩ := Y.leave (v := some (.int (nar t z))) (fun hh => by rw [hret] at hh; cases hh) hlk
  exact ⟨_, _, RoadKit.retN Y C.1 hret ht (hb C.2.2.2.1 hd) hr, hrun, hended, _, locs, rfl, ⟨by show Q _ T.heap; rw [eT]; exact hQ, N⟩, ⟨_, rfl⟩, hW, hsame.mono hc hs⟩
theorem OGo.retD (C : Cx p s m c Z own by0 ml) (X : Sd p l e R s m args below meth c n0 T h cells slots) {z : UInt64} {rest : List Value} {Q : Option Value → Heap → Prop} {nc ns : Nat} (hd : decode by0 pc = .ok (.dreturn, 1)) (hret : meth.sig.returnType = some .double) (hlk : meth.locks = false) (hQ : Q (some (.double z)) h) (hc : cells ≤ nc) (hs : slots ≤ ns) : OGo p e below (Kk s below n0 Q nc ns) T (mkF m pc Ls (.double z :: rest)) := by
  obtain ⟨eT, hn0, locs, Y, N⟩ := X
  obtain ⟨fs, hr, hrun, hended, hW, hsame⟩ := Y.leave (v := some (.double z)) (fun hh => by rw [hret] at hh; cases hh) hlk
  exact ⟨_, _, retOut Y C.1 (i := .dreturn) hret rfl (Or.inr (Or.inr (Or.inl ⟨rfl, rfl, _, rfl⟩))) (hb C.2.2.2.1 hd) hr, hrun, hended, _, locs, rfl, ⟨by show Q _ T.heap; rw [eT]; exact hQ, N⟩, ⟨_, rfl⟩, hW, hsame.mono hc hs⟩
theorem OGo.retL (C : Cx p s m c Z own by0 ml) (X : Sd p l e R s m args below meth c n0 T h cells slots) {z : Int64} {rest : List Value} {Q : Option Value → Heap → Prop} {nc ns : Nat} (hd : decode by0 pc = .ok (.lreturn, 1)) (hret : meth.sig.returnType = some .long) (hlk : meth.locks = false) (hQ : Q (some (.long z)) h) (hc : cells ≤ nc) (hs : slots ≤ ns) : OGo p e below (Kk s below n0 Q nc ns) T (mkF m pc Ls (.long z :: rest)) := by
  obtain ⟨eT, hn0, locs, Y, N⟩ := X
  obtain ⟨fs, hr, hrun, hended, hW, hsame⟩ := Y.leave (v := some (.long z)) (fun hh => by rw [hret] at hh; cases hh) hlk
  exact ⟨_, _, retOut Y C.1 (i := .lreturn) hret rfl (Or.inr (Or.inl ⟨rfl, rfl, _, rfl⟩)) (hb C.2.2.2.1 hd) hr, hrun, hended, _, locs, rfl, ⟨by show Q _ T.heap; rw [eT]; exact hQ, N⟩, ⟨_, rfl⟩, hW, hsame.mono hc hs⟩
theorem OGo.retA (C : Cx p s m c Z own by0 ml) (X : Sd p l e R s m args below meth c n0 T h cells slots) {z : Value} {rest : List Value} {t : FieldType} {Q : Option Value → Heap → Prop} {nc ns : Nat} (hd : decode by0 pc = .ok (.areturn, 1)) (hret : meth.sig.returnType = some t) (ht : t.isReference = true) (hz : z.isRef = true) (hlk : meth.locks = false) (hQ : Q (some z) h) (hc : cells ≤ nc) (hs : slots ≤ ns) : OGo p e below (Kk s below n0 Q nc ns) T (mkF m pc Ls (z :: rest)) := by
  obtain ⟨eT, hn0, locs, Y, N⟩ := X
  obtain ⟨fs, hr, hrun, hended, hW, hsame⟩ := Y.leave (v := some z) (fun hh => by rw [hret] at hh; cases hh) hlk
  exact ⟨_, _, retOut Y C.1 (i := .areturn) hret (by rcases ref_cases hz with rfl | ⟨b, rfl⟩ <;> cases t <;> first | rfl | cases ht) (Or.inr (Or.inr (Or.inr (Or.inr ⟨rfl, ht, hz⟩)))) (hb C.2.2.2.1 hd) hr, hrun, hended, _, locs, rfl, ⟨by show Q _ T.heap; rw [eT]; exact hQ, N⟩, ⟨_, rfl⟩, hW, hsame.mono hc hs⟩
theorem backC {y : MethodName} {cb : ByteArray} {cml : Nat} {ret : Option FieldType} {rm : Room} {as' : Array Value} {Q : Option Value → Heap → Prop} {len W : Nat} (hM : Ctr l Z y cb cml ret rm n0 as' h Q) (hZ : Z.Warmed39 s.vm) (wc : (Jvm.Cond.code y cb cml ret).before a0 Z = true) (wz : (Jvm.Cond.initialized y.cls).before a0 Z = true) (hf : rm.frames + 1 ≤ R.frames) (hl : W + (cml + 11) + rm.locals ≤ R.locals) :
    Back l R p e below s args y len W (fun A a => a = as' ∧ A.U.heap = h ∧ A.cells + rm.cells ≤ R.cells ∧ A.slots + rm.slots ≤ R.slots) (fun A _ v B => ∃ L, ((Q v B.U.heap ∧ h.size ≤ B.U.heap.size) ∧ Fr n0 L) ∧ B.locs = A.locs ++ L ∧ B.cells = A.cells + rm.cells ∧ B.slots = A.slots + rm.slots) :=
  backOf (Q := fun v h' L => (Q v h' ∧ h.size ≤ h'.size) ∧ Fr n0 L) (hM []) hZ wc wz hf hl
theorem OGo.callS (C : Cx p s m c Z own by0 ml) (X : Sd p l e R s m args below meth c n0 T h cells slots) {y : MethodName} {cb : ByteArray} {cml : Nat} {ret : Option FieldType} {rm : Room} {as' : Array Value} {Q : Option Value → Heap → Prop} {idx : Nat}  (w1 : (Jvm.Cond.methodLink own idx y).before a0 Z = true) (w2 : (Jvm.Cond.static y).before a0 Z = true) (hy : y.cls ≠ "java/lang/invoke/MethodHandle" ∧ y.cls ≠ "java/lang/invoke/VarHandle") (w4 : (Jvm.Cond.code y cb cml ret).before a0 Z = true) (w5 : (Jvm.Cond.initialized y.cls).before a0 Z = true) (hM : Ctr l Z y cb cml ret rm n0 as' h Q) {argsL : List Value} (hlen : ∀ sig, parseMethodDescriptor y.desc = some sig → argsL.length = sig.parameters.length) (has : argsL.toArray = as') (hd : decode by0 pc = .ok (.invokestatic idx, 3)) (hp : pc + 3 = pc') (hsz : Ls.size = ml) (hf : rm.frames + 1 ≤ R.frames) (hl : (St.map fun v => v.category).sum + (cml + 11) + rm.locals ≤ R.locals) (hc' : cells + rm.cells = cells') (hs' : slots + rm.slots = slots') (hc : cells' ≤ R.cells) (hs : slots' ≤ R.slots)
    (hr : ∀ v T' h', Q v h' → Sd p l e R s m args below meth c n0 T' h' cells' slots' → h.size ≤ h'.size → OGo p e below K T' (mkF m pc' Ls (v.toList ++ St))) : OGo p e below K T (mkF m pc Ls (argsL.reverse ++ St)) := by
  subst hp hc' hs' has
  obtain ⟨eT, hn0, locs, Y, N⟩ := X
  have hK := backC (args := args) (p := p) (e := e) (below := below) (R := R) (len := 3) (W := (St.map fun v => v.category).sum) hM C.2.1 w4 w5 hf hl
  obtain ⟨v, _, ⟨B, L2, k2, n2⟩, -, Y', ⟨L, hQ, l1, y1, z1⟩, st⟩ := Jvm.LawKit.callS Y C.1 (y := y) C.2.2.1 (mvT C.2.1 w1) (mvT C.2.1 w2) (mvT C.2.1 w5) (mvT C.2.1 w4) hy hK (g := mkF m pc Ls (argsL.reverse ++ St)) rfl (by rw [C.2.2.2.2]; exact hsz) (argsL := argsL) (rest := St) hlen rfl (by show 2 * 0 + _ ≤ _; omega) (hb C.2.2.2.1 hd) (fun _ _ => ⟨rfl, eT, hc, hs⟩)
  dsimp only [Pt.U, Pt.locs, Pt.cells, Pt.slots] at Y' l1 y1 z1 st hQ
  subst l1 y1 z1
  obtain ⟨⟨hQ, hge⟩, hF⟩ := hQ
  exact OGo.st st (hr v B B.heap hQ ⟨rfl, Nat.le_trans hn0 hge, _, Y', N.app hF⟩ hge)
theorem OGo.callInit (C : Cx p s m c Z own by0 ml) (X : Sd p l e R s m args below meth c n0 T h cells slots) {y : MethodName} {cb : ByteArray} {cml : Nat} {ret : Option FieldType} {rm : Room} {as' : Array Value} {Q : Option Value → Heap → Prop} {idx : Nat} {a : Addr} (hy1 : y.name = "<init>") (hrn : ret = none) (w1 : (Jvm.Cond.methodLink own idx y).before a0 Z = true) (w2 : (Jvm.Cond.instanceMethod y).before a0 Z = true) (hy : y.cls ≠ "java/lang/invoke/MethodHandle" ∧ y.cls ≠ "java/lang/invoke/VarHandle") (w4 : (Jvm.Cond.code y cb cml ret).before a0 Z = true) (w5 : (Jvm.Cond.initialized y.cls).before a0 Z = true) (hM : Ctr l Z y cb cml ret rm n0 as' h Q) {argsL : List Value} (hlen : ∀ sig, parseMethodDescriptor y.desc = some sig → argsL.length = sig.parameters.length) (has : (Value.ref a :: argsL).toArray = as') (hd : decode by0 pc = .ok (.invokespecial idx, 3)) (hp : pc + 3 = pc') (hsz : Ls.size = ml) (hf : rm.frames + 1 ≤ R.frames) (hl : (St.map fun v => v.category).sum + (cml + 11) + rm.locals ≤ R.locals) (hc' : cells + rm.cells = cells') (hs' : slots + rm.slots = slots') (hc : cells' ≤ R.cells) (hs : slots' ≤ R.slots)
    (hr : ∀ v T' h', Q v h' → Sd p l e R s m args below meth c n0 T' h' cells' slots' → h.size ≤ h'.size → OGo p e below K T' (mkF m pc' Ls (v.toList ++ St))) : OGo p e below K T (mkF m pc Ls (argsL.reverse ++ Value.ref a :: St)) := by
  subst hp hc' hs' has
  obtain ⟨eT, hn0, locs, Y, N⟩ := X
  have hK := backC (args := args) (p := p) (e := e) (below := below) (R := R) (len := 3) (W := (St.map fun v => v.category).sum) hM C.2.1 w4 w5 hf hl
  obtain ⟨v, _, ⟨B, L2, k2, n2⟩, -, Y', ⟨L, hQ, l1, y1, z1⟩, st⟩ := Y.specialBack C.1 (y := y) hy1 C.2.2.1 (mvT C.2.1 w1) (mvT C.2.1 w2) (mvT C.2.1 (hrn ▸ w4)) hy hK (g := mkF m pc Ls (argsL.reverse ++ Value.ref a :: St)) rfl (by rw [C.2.2.2.2]; exact hsz) (Steps.refl _) (a := a) (argsL := argsL) (rest := St) hlen rfl (by show 2 * 0 + _ ≤ _; omega) (hb C.2.2.2.1 hd) (fun _ _ => ⟨rfl, eT, hc, hs⟩)
  dsimp only [Pt.U, Pt.locs, Pt.cells, Pt.slots] at Y' l1 y1 z1 st hQ
  subst l1 y1 z1
  obtain ⟨⟨hQ, hge⟩, hF⟩ := hQ
  exact OGo.tr st (hr v B B.heap hQ ⟨rfl, Nat.le_trans hn0 hge, _, Y', N.app hF⟩ hge)
theorem OGo.callV (C : Cx p s m c Z own by0 ml) (X : Sd p l e R s m args below meth c n0 T h cells slots) {y : MethodName} {cb : ByteArray} {cml : Nat} {ret : Option FieldType} {rm : Room} {as' : Array Value} {Q : Option Value → Heap → Prop} {idx : Nat} {a : Addr} {Cn : String} (w1 : (Jvm.Cond.methodLink own idx y).before a0 Z = true) (w2 : (Jvm.Cond.declares y).before a0 Z = true) (w3 : (Jvm.Cond.selects Cn y y).before a0 Z = true) (w6 : (Jvm.Cond.instanceMethod y).before a0 Z = true) (hy : y.cls ≠ "java/lang/invoke/MethodHandle" ∧ y.cls ≠ "java/lang/invoke/VarHandle") (E : Exa Z h a Cn) (w4 : (Jvm.Cond.code y cb cml ret).before a0 Z = true) (w5 : (Jvm.Cond.initialized y.cls).before a0 Z = true) (hM : Ctr l Z y cb cml ret rm n0 as' h Q) {argsL : List Value} (hlen : ∀ sig, parseMethodDescriptor y.desc = some sig → argsL.length = sig.parameters.length) (has : (Value.ref a :: argsL).toArray = as') (hd : decode by0 pc = .ok (.invokevirtual idx, 3)) (hp : pc + 3 = pc') (hsz : Ls.size = ml) (hf : rm.frames + 1 ≤ R.frames) (hl : (St.map fun v => v.category).sum + (cml + 11) + rm.locals ≤ R.locals) (hc' : cells + rm.cells = cells') (hs' : slots + rm.slots = slots') (hc : cells' ≤ R.cells) (hs : slots' ≤ R.slots)
    (hr : ∀ v T' h', Q v h' → Sd p l e R s m args below meth c n0 T' h' cells' slots' → h.size ≤ h'.size → OGo p e below K T' (mkF m pc' Ls (v.toList ++ St))) : OGo p e below K T (mkF m pc Ls (argsL.reverse ++ Value.ref a :: St)) := by
  subst hp hc' hs' has
  obtain ⟨eT, hn0, locs, Y, N⟩ := X
  have hK := backC (args := args) (p := p) (e := e) (below := below) (R := R) (len := 3) (W := (St.map fun v => v.category).sum) hM C.2.1 w4 w5 hf hl
  obtain ⟨v, _, ⟨B, L2, k2, n2⟩, -, Y', ⟨L, hQ, l1, y1, z1⟩, st⟩ := (let ⟨_, _, q1, _, q3⟩ := isOf C.2.1 eT E; Y.virtualBack C.1 (y := y) (z := y) C.2.2.1 (mvT C.2.1 w1) (mvT C.2.1 w2) (notFace_of_selects (args := #[]) (mvT C.2.1 w3)) (mvT C.2.1 w3) (mvT C.2.1 w6) hy hK q1 q3 (g := mkF m pc Ls (argsL.reverse ++ Value.ref a :: St)) rfl (by rw [C.2.2.2.2]; exact hsz) (Steps.refl _) (argsL := argsL) (rest := St) hlen rfl (by show 2 * 0 + _ ≤ _; omega) (hb C.2.2.2.1 hd) (fun _ _ => ⟨rfl, eT, hc, hs⟩))
  dsimp only [Pt.U, Pt.locs, Pt.cells, Pt.slots] at Y' l1 y1 z1 st hQ
  subst l1 y1 z1
  obtain ⟨⟨hQ, hge⟩, hF⟩ := hQ
  exact OGo.tr st (hr v B B.heap hQ ⟨rfl, Nat.le_trans hn0 hge, _, Y', N.app hF⟩ hge)
theorem OGo.callV2 (C : Cx p s m c Z own by0 ml) (X : Sd p l e R s m args below meth c n0 T h cells slots) {y : MethodName} {cb : ByteArray} {cml : Nat} {ret : Option FieldType} {rm : Room} {as' : Array Value} {Q : Option Value → Heap → Prop} {idx : Nat} {yr : MethodName} {a : Addr} {Cn : String} (w1 : (Jvm.Cond.methodLink own idx yr).before a0 Z = true) (w2 : (Jvm.Cond.declares yr).before a0 Z = true) (hnf : NotFace s yr) (w3 : (Jvm.Cond.selects Cn yr y).before a0 Z = true) (w6 : (Jvm.Cond.instanceMethod y).before a0 Z = true) (hy : yr.cls ≠ "java/lang/invoke/MethodHandle" ∧ yr.cls ≠ "java/lang/invoke/VarHandle") (hds : yr.desc = y.desc) (E : Exa Z h a Cn) (w4 : (Jvm.Cond.code y cb cml ret).before a0 Z = true) (w5 : (Jvm.Cond.initialized y.cls).before a0 Z = true) (hM : Ctr l Z y cb cml ret rm n0 as' h Q) {argsL : List Value} (hlen : ∀ sig, parseMethodDescriptor y.desc = some sig → argsL.length = sig.parameters.length) (has : (Value.ref a :: argsL).toArray = as') (hd : decode by0 pc = .ok (.invokevirtual idx, 3)) (hp : pc + 3 = pc') (hsz : Ls.size = ml) (hf : rm.frames + 1 ≤ R.frames) (hl : (St.map fun v => v.category).sum + (cml + 11) + rm.locals ≤ R.locals) (hc' : cells + rm.cells = cells') (hs' : slots + rm.slots = slots') (hc : cells' ≤ R.cells) (hs : slots' ≤ R.slots)
    (hr : ∀ v T' h', Q v h' → Sd p l e R s m args below meth c n0 T' h' cells' slots' → h.size ≤ h'.size → OGo p e below K T' (mkF m pc' Ls (v.toList ++ St))) : OGo p e below K T (mkF m pc Ls (argsL.reverse ++ Value.ref a :: St)) := by
  subst hp hc' hs' has
  obtain ⟨eT, hn0, locs, Y, N⟩ := X
  have hK := backC (args := args) (p := p) (e := e) (below := below) (R := R) (len := 3) (W := (St.map fun v => v.category).sum) hM C.2.1 w4 w5 hf hl
  obtain ⟨v, _, ⟨B, L2, k2, n2⟩, -, Y', ⟨L, hQ, l1, y1, z1⟩, st⟩ := (let ⟨_, _, q1, _, q3⟩ := isOf C.2.1 eT E; Y.virtualBack C.1 (y := yr) (z := y) C.2.2.1 (mvT C.2.1 w1) (mvT C.2.1 w2) hnf (mvT C.2.1 w3) (mvT C.2.1 w6) hy hK q1 q3 (g := mkF m pc Ls (argsL.reverse ++ Value.ref a :: St)) rfl (by rw [C.2.2.2.2]; exact hsz) (Steps.refl _) (argsL := argsL) (rest := St) (hds ▸ hlen) rfl (by show 2 * 0 + _ ≤ _; omega) (hb C.2.2.2.1 hd) (fun _ _ => ⟨rfl, eT, hc, hs⟩))
  dsimp only [Pt.U, Pt.locs, Pt.cells, Pt.slots] at Y' l1 y1 z1 st hQ
  subst l1 y1 z1
  obtain ⟨⟨hQ, hge⟩, hF⟩ := hQ
  exact OGo.tr st (hr v B B.heap hQ ⟨rfl, Nat.le_trans hn0 hge, _, Y', N.app hF⟩ hge)
theorem OGo.clone (C : Cx p s m c Z own by0 ml) (X : Sd p l e R s m args below meth c n0 T h cells slots) {ad : String} {idx : Nat} {a : Addr} {k : ClassId} {ty : FieldType} {z : Int32} {vs : List Value} {dv : Value} {cap : Nat} (w1 : (Jvm.Cond.methodLink own idx ⟨ad, "clone", "()Ljava/lang/Object;"⟩).before a0 Z = true) (w2 : (Jvm.Cond.sameMethod ad "java/lang/Object" "clone" "()Ljava/lang/Object;").before a0 Z = true) (w3 : (Jvm.Cond.native ⟨"java/lang/Object", "clone", "()Ljava/lang/Object;"⟩).before a0 Z = true)
    (w4 : (Jvm.Cond.instanceMethod ⟨"java/lang/Object", "clone", "()Ljava/lang/Object;"⟩).before a0 Z = true) (w5 : (Jvm.Cond.selects ad ⟨ad, "clone", "()Ljava/lang/Object;"⟩ ⟨"java/lang/Object", "clone", "()Ljava/lang/Object;"⟩).before a0 Z = true) (w6 : (Jvm.Cond.castable ad "java/lang/Cloneable").before a0 Z = true) (V : Arv Z h a k ty z vs dv) (E : Exa Z h a ad)
    (hd : decode by0 pc = .ok (.invokevirtual idx, 3)) (hp : pc + 3 = pc') (hsz : Ls.size = ml) (hf : 1 ≤ R.frames) (hl : (St.map fun v => v.category).sum + 14 ≤ R.locals) (hcap : z.toNatClampNeg ≤ cap) (hc' : cells + 1 = cells') (hs' : slots + cap = slots') (hc : cells' ≤ R.cells) (hs : slots' ≤ R.slots)
    (hr : ∀ T' h' b, Sd p l e R s m args below meth c n0 T' h' cells' slots' → b = h.size → n0 ≤ b → Ext h h' → Arv Z h' b k ty z vs dv → Exa Z h' b ad → OGo p e below K T' (mkF m pc' Ls (.ref b :: St))) : OGo p e below K T (mkF m pc Ls (.ref a :: St)) := by
  subst hp hc' hs'
  obtain ⟨eT, hn0, locs, Y, N⟩ := X
  obtain ⟨T', h', Y', e', Ex, A, EE, st⟩ := cloneH Y C.1 C.2.1 C.2.2.1 w1 w2 w3 w4 w5 w6 eT (Arv.arh V) E (g := mkF m pc Ls (.ref a :: St)) rfl (by rw [C.2.2.2.2]; exact hsz) rfl (hb C.2.2.2.1 hd) hf (W := (St.map fun v => v.category).sum) (by show 2 * 0 + _ ≤ _; omega) hl hcap hc hs
  exact OGo.st st (hr T' h' _ ⟨e', Nat.le_trans hn0 Ex.1, _, Y', N⟩ rfl hn0 Ex A EE)
theorem priv_selects {y : MethodName} {k : Nat} (hZ : Z.Warmed39 s.vm) (w2 : (Jvm.Cond.instanceMethod y).before a0 Z = true) (w3 : (Jvm.Cond.privateMethod y).before a0 Z = true) (wi : (Jvm.Cond.instantiable y.cls k).before a0 Z = true) (hy : y.cls ≠ "java/lang/invoke/MethodHandle" ∧ y.cls ≠ "java/lang/invoke/VarHandle") : (Jvm.Cond.selects y.cls y y).before args s = true := by
  obtain ⟨c, k, h1, h2, -, h4, -⟩ := Cond.instantiable_spec (show (Jvm.Cond.instantiable y.cls k).before args s = true from mvT hZ wi)
  have h5 : k.isInterface = false := by
    cases hq : k.isInterface
    · rfl
    · rw [hq] at h4; cases h4
  exact selects_self_of_private h1 h2 h5 (Cond.privateMethod_at (mvP hZ w3 (args := #[]))) (mvT hZ w2) hy
theorem OGo.callPriv (C : Cx p s m c Z own by0 ml) (X : Sd p l e R s m args below meth c n0 T h cells slots) {y : MethodName} {cb : ByteArray} {cml : Nat} {ret : Option FieldType} {rm : Room} {as' : Array Value} {Q : Option Value → Heap → Prop} {idx : Nat} {a : Addr} {Cn : String} {kk : Nat} (w1 : (Jvm.Cond.methodLink own idx y).before a0 Z = true) (w2 : (Jvm.Cond.instanceMethod y).before a0 Z = true) (w3 : (Jvm.Cond.privateMethod y).before a0 Z = true) (wi : (Jvm.Cond.instantiable y.cls kk).before a0 Z = true) (hy : y.cls ≠ "java/lang/invoke/MethodHandle" ∧ y.cls ≠ "java/lang/invoke/VarHandle") (E : Exa Z h a Cn) (w4 : (Jvm.Cond.code y cb cml ret).before a0 Z = true) (w5 : (Jvm.Cond.initialized y.cls).before a0 Z = true) (hM : Ctr l Z y cb cml ret rm n0 as' h Q) {argsL : List Value} (hlen : ∀ sig, parseMethodDescriptor y.desc = some sig → argsL.length = sig.parameters.length) (has : (Value.ref a :: argsL).toArray = as') (hd : decode by0 pc = .ok (.invokevirtual idx, 3)) (hp : pc + 3 = pc') (hsz : Ls.size = ml) (hf : rm.frames + 1 ≤ R.frames) (hl : (St.map fun v => v.category).sum + (cml + 11) + rm.locals ≤ R.locals) (hc' : cells + rm.cells = cells') (hs' : slots + rm.slots = slots') (hc : cells' ≤ R.cells) (hs : slots' ≤ R.slots)
    (hr : ∀ v T' h', Q v h' → Sd p l e R s m args below meth c n0 T' h' cells' slots' → h.size ≤ h'.size → OGo p e below K T' (mkF m pc' Ls (v.toList ++ St))) : OGo p e below K T (mkF m pc Ls (argsL.reverse ++ Value.ref a :: St)) := by
  subst hp hc' hs' has
  obtain ⟨eT, hn0, locs, Y, N⟩ := X
  have hK := backC (args := args) (p := p) (e := e) (below := below) (R := R) (len := 3) (W := (St.map fun v => v.category).sum) hM C.2.1 w4 w5 hf hl
  obtain ⟨v, _, ⟨B, L2, k2, n2⟩, -, Y', ⟨L, hQ, l1, y1, z1⟩, st⟩ := (let ⟨_, q1, q2⟩ := E.cell; Y.privateBack C.1 (y := y) C.2.2.1 (mvT C.2.1 w1) (mvT C.2.1 w2) (priv_selects C.2.1 w2 w3 wi hy) (Cond.privateMethod_at (mvP C.2.1 w3 (args := #[]))) (mvT C.2.1 w4) hy hK (g := mkF m pc Ls (argsL.reverse ++ Value.ref a :: St)) rfl (by rw [C.2.2.2.2]; exact hsz) (Steps.refl _) (a := a) (by rw [eT]; exact q1) q2 (argsL := argsL) (rest := St) hlen rfl (by show 2 * 0 + _ ≤ _; omega) (hb C.2.2.2.1 hd) (fun _ _ => ⟨rfl, eT, hc, hs⟩))
  dsimp only [Pt.U, Pt.locs, Pt.cells, Pt.slots] at Y' l1 y1 z1 st hQ
  subst l1 y1 z1
  obtain ⟨⟨hQ, hge⟩, hF⟩ := hQ
  exact OGo.tr st (hr v B B.heap hQ ⟨rfl, Nat.le_trans hn0 hge, _, Y', N.app hF⟩ hge)
theorem OGo.natS (C : Cx p s m c Z own by0 ml) (X : Sd p l e R s m args below meth c n0 T h cells slots) {y : MethodName} {cb : ByteArray} {cml : Nat} {rt : Option FieldType} {idx : Nat} {val : Value} {F : Array Value → Prop} (w1 : (Jvm.Cond.methodLink own idx y).before a0 Z = true) (w2 : (Jvm.Cond.static y).before a0 Z = true) (w3 : (Jvm.Cond.initialized y.cls).before a0 Z = true) (w4 : (Jvm.Cond.code y cb cml rt).before a0 Z = true) (hy : y.cls ≠ "java/lang/invoke/MethodHandle" ∧ y.cls ≠ "java/lang/invoke/VarHandle")
    {argsL : List Value} (hlen : ∀ sig, parseMethodDescriptor y.desc = some sig → argsL.length = sig.parameters.length) (hd : decode by0 pc = .ok (.invokestatic idx, 3)) (hp : pc + 3 = pc') (hsz : Ls.size = ml) (hc : cells ≤ R.cells) (hs : slots ≤ R.slots)
    (hK : (Jvm.Cond.code y cb cml rt).before args s = true → Back l R p e below s args y 3 ((St.map fun v => v.category).sum) (fun A a' => A.cells ≤ R.cells ∧ A.slots ≤ R.slots ∧ F a') (fun A _ v B => v = some val ∧ B = A)) (hF : F argsL.toArray)
    (hr : ∀ T', Sd p l e R s m args below meth c n0 T' h cells slots → OGo p e below K T' (mkF m pc' Ls (val :: St))) : OGo p e below K T (mkF m pc Ls (argsL.reverse ++ St)) := by
  subst hp
  obtain ⟨eT, hn0, locs, Y, N⟩ := X
  obtain ⟨T', Y', e', st⟩ := RoadKit.natS Y C.1 C.2.1 C.2.2.1 w1 w2 w3 w4 hy eT hK (g := mkF m pc Ls (argsL.reverse ++ St)) rfl (by rw [C.2.2.2.2]; exact hsz) hlen rfl (by show 2 * 0 + _ ≤ _; omega) (hb C.2.2.2.1 hd) hc hs hF rfl
  exact OGo.st st (hr T' ⟨e', hn0, _, Y', N⟩)
end OwnGo
end Jvm.Pilot.@@N@@
namespace Jvm.Pilot.@@N@@
open Jvm Jvm.ClassFile Sem Op Lib Jvm.Free Jvm.Stand Jvm.LawKit Jvm.RoadKit Jvm.Free.Fl Jvm.FP Bundle Jvm.Pilot.@@N@@.Jvm.D
abbrev HW (a0 : Array Value) (Z : State) : Prop := ∀ d ∈ tables_1, d.before a0 Z = true
theorem wd0 {a0 : Array Value} {Z : State} (hw : HW a0 Z) : ((Jvm.Cond.constant "com/example/first_from_joins/firstfromjoins/engine/BindingOfMatchPinLaw" (7 : Nat) (65535 : Int32))).before a0 Z = true := hw _ (List.mem_of_getElem? (i := 0) rfl)
theorem wd1 {a0 : Array Value} {Z : State} (hw : HW a0 Z) : ((Jvm.Cond.constant "com/example/first_from_joins/firstfromjoins/engine/BindingOfMatchPinLaw" (8 : Nat) (2147483647 : Int32))).before a0 Z = true := hw _ (List.mem_of_getElem? (i := 1) rfl)
theorem wd2 {a0 : Array Value} {Z : State} (hw : HW a0 Z) : ((Jvm.Cond.arrayClass Jvm.ClassFile.FieldType.int)).before a0 Z = true := hw _ (List.mem_of_getElem? (i := 2) rfl)
theorem wd3 {a0 : Array Value} {Z : State} (hw : HW a0 Z) : ((Jvm.Cond.methodLink "com/example/first_from_joins/firstfromjoins/engine/BindingOfMatchPinLaw" (9 : Nat) ({ cls := "com/example/first_from_joins/firstfromjoins/engine/Binding", name := "ofMatch", desc := "([IIIID)Lcom/example/first_from_joins/firstfromjoins/engine/Binding;" } : Jvm.MethodName))).before a0 Z = true := hw _ (List.mem_of_getElem? (i := 3) rfl)
theorem wd4 {a0 : Array Value} {Z : State} (hw : HW a0 Z) : ((Jvm.Cond.static ({ cls := "com/example/first_from_joins/firstfromjoins/engine/Binding", name := "ofMatch", desc := "([IIIID)Lcom/example/first_from_joins/firstfromjoins/engine/Binding;" } : Jvm.MethodName))).before a0 Z = true := hw _ (List.mem_of_getElem? (i := 4) rfl)
theorem wd5 {a0 : Array Value} {Z : State} (hw : HW a0 Z) : ((Jvm.Cond.initialized "com/example/first_from_joins/firstfromjoins/engine/Binding")).before a0 Z = true := hw _ (List.mem_of_getElem? (i := 5) rfl)
theorem wd6 {a0 : Array Value} {Z : State} (hw : HW a0 Z) : ((Jvm.Cond.code ({ cls := "com/example/first_from_joins/firstfromjoins/engine/Binding", name := "ofMatch", desc := "([IIIID)Lcom/example/first_from_joins/firstfromjoins/engine/Binding;" } : Jvm.MethodName) prog_4_method_2_code (8 : Nat) (Option.some (Jvm.ClassFile.FieldType.object "com/example/first_from_joins/firstfromjoins/engine/Binding")))).before a0 Z = true := hw _ (List.mem_of_getElem? (i := 6) rfl)
theorem wd7 {a0 : Array Value} {Z : State} (hw : HW a0 Z) : ((Jvm.Cond.methodLink "com/example/first_from_joins/firstfromjoins/engine/Binding" (24 : Nat) ({ cls := "java/util/Arrays", name := "fill", desc := "([II)V" } : Jvm.MethodName))).before a0 Z = true := hw _ (List.mem_of_getElem? (i := 7) rfl)
theorem wd8 {a0 : Array Value} {Z : State} (hw : HW a0 Z) : ((Jvm.Cond.static ({ cls := "java/util/Arrays", name := "fill", desc := "([II)V" } : Jvm.MethodName))).before a0 Z = true := hw _ (List.mem_of_getElem? (i := 8) rfl)
theorem wd9 {a0 : Array Value} {Z : State} (hw : HW a0 Z) : ((Jvm.Cond.initialized "java/util/Arrays")).before a0 Z = true := hw _ (List.mem_of_getElem? (i := 9) rfl)
theorem wd10 {a0 : Array Value} {Z : State} (hw : HW a0 Z) : ((Jvm.Cond.code ({ cls := "java/util/Arrays", name := "fill", desc := "([II)V" } : Jvm.MethodName) jdk_65_method_103_code (4 : Nat) (Option.none : Option Jvm.ClassFile.FieldType))).before a0 Z = true := hw _ (List.mem_of_getElem? (i := 10) rfl)
theorem wd11 {a0 : Array Value} {Z : State} (hw : HW a0 Z) : ((Jvm.Cond.arrayClass Jvm.ClassFile.FieldType.double)).before a0 Z = true := hw _ (List.mem_of_getElem? (i := 11) rfl)
theorem wd12 {a0 : Array Value} {Z : State} (hw : HW a0 Z) : ((Jvm.Cond.classLink "com/example/first_from_joins/firstfromjoins/engine/Binding" (8 : Nat) "com/example/first_from_joins/firstfromjoins/engine/Binding")).before a0 Z = true := hw _ (List.mem_of_getElem? (i := 12) rfl)
theorem wd13 {a0 : Array Value} {Z : State} (hw : HW a0 Z) : ((Jvm.Cond.instantiable "com/example/first_from_joins/firstfromjoins/engine/Binding" (4 : Nat))).before a0 Z = true := hw _ (List.mem_of_getElem? (i := 13) rfl)
theorem wd14 {a0 : Array Value} {Z : State} (hw : HW a0 Z) : ((Jvm.Cond.methodLink "com/example/first_from_joins/firstfromjoins/engine/Binding" (30 : Nat) ({ cls := "[I", name := "clone", desc := "()Ljava/lang/Object;" } : Jvm.MethodName))).before a0 Z = true := hw _ (List.mem_of_getElem? (i := 14) rfl)
theorem wd15 {a0 : Array Value} {Z : State} (hw : HW a0 Z) : ((Jvm.Cond.sameMethod "[I" "java/lang/Object" "clone" "()Ljava/lang/Object;")).before a0 Z = true := hw _ (List.mem_of_getElem? (i := 15) rfl)
theorem wd17 {a0 : Array Value} {Z : State} (hw : HW a0 Z) : ((Jvm.Cond.instanceMethod ({ cls := "java/lang/Object", name := "clone", desc := "()Ljava/lang/Object;" } : Jvm.MethodName))).before a0 Z = true := hw _ (List.mem_of_getElem? (i := 17) rfl)
theorem wd18 {a0 : Array Value} {Z : State} (hw : HW a0 Z) : ((Jvm.Cond.selects "[I" ({ cls := "[I", name := "clone", desc := "()Ljava/lang/Object;" } : Jvm.MethodName) ({ cls := "java/lang/Object", name := "clone", desc := "()Ljava/lang/Object;" } : Jvm.MethodName))).before a0 Z = true := hw _ (List.mem_of_getElem? (i := 18) rfl)
theorem wd19 {a0 : Array Value} {Z : State} (hw : HW a0 Z) : ((Jvm.Cond.native ({ cls := "java/lang/Object", name := "clone", desc := "()Ljava/lang/Object;" } : Jvm.MethodName))).before a0 Z = true := hw _ (List.mem_of_getElem? (i := 19) rfl)
theorem wd20 {a0 : Array Value} {Z : State} (hw : HW a0 Z) : ((Jvm.Cond.castable "[I" "java/lang/Cloneable")).before a0 Z = true := hw _ (List.mem_of_getElem? (i := 20) rfl)
theorem wd21 {a0 : Array Value} {Z : State} (hw : HW a0 Z) : ((Jvm.Cond.classLink "com/example/first_from_joins/firstfromjoins/engine/Binding" (31 : Nat) "[I")).before a0 Z = true := hw _ (List.mem_of_getElem? (i := 21) rfl)
theorem wd23 {a0 : Array Value} {Z : State} (hw : HW a0 Z) : ((Jvm.Cond.methodLink "com/example/first_from_joins/firstfromjoins/engine/Binding" (35 : Nat) ({ cls := "com/example/first_from_joins/firstfromjoins/engine/Binding", name := "<init>", desc := "([I[I[DD)V" } : Jvm.MethodName))).before a0 Z = true := hw _ (List.mem_of_getElem? (i := 23) rfl)
theorem wd24 {a0 : Array Value} {Z : State} (hw : HW a0 Z) : ((Jvm.Cond.instanceMethod ({ cls := "com/example/first_from_joins/firstfromjoins/engine/Binding", name := "<init>", desc := "([I[I[DD)V" } : Jvm.MethodName))).before a0 Z = true := hw _ (List.mem_of_getElem? (i := 24) rfl)
theorem wd25 {a0 : Array Value} {Z : State} (hw : HW a0 Z) : ((Jvm.Cond.code ({ cls := "com/example/first_from_joins/firstfromjoins/engine/Binding", name := "<init>", desc := "([I[I[DD)V" } : Jvm.MethodName) prog_4_method_1_code (6 : Nat) (Option.none : Option Jvm.ClassFile.FieldType))).before a0 Z = true := hw _ (List.mem_of_getElem? (i := 25) rfl)
theorem wd26 {a0 : Array Value} {Z : State} (hw : HW a0 Z) : ((Jvm.Cond.methodLink "com/example/first_from_joins/firstfromjoins/engine/Binding" (1 : Nat) ({ cls := "java/lang/Object", name := "<init>", desc := "()V" } : Jvm.MethodName))).before a0 Z = true := hw _ (List.mem_of_getElem? (i := 26) rfl)
theorem wd27 {a0 : Array Value} {Z : State} (hw : HW a0 Z) : ((Jvm.Cond.instanceMethod ({ cls := "java/lang/Object", name := "<init>", desc := "()V" } : Jvm.MethodName))).before a0 Z = true := hw _ (List.mem_of_getElem? (i := 27) rfl)
theorem wd28 {a0 : Array Value} {Z : State} (hw : HW a0 Z) : ((Jvm.Cond.code ({ cls := "java/lang/Object", name := "<init>", desc := "()V" } : Jvm.MethodName) object_method_1_code (1 : Nat) (Option.none : Option Jvm.ClassFile.FieldType))).before a0 Z = true := hw _ (List.mem_of_getElem? (i := 28) rfl)
theorem wd29 {a0 : Array Value} {Z : State} (hw : HW a0 Z) : ((Jvm.Cond.fieldLink "com/example/first_from_joins/firstfromjoins/engine/Binding" (7 : Nat) "com/example/first_from_joins/firstfromjoins/engine/Binding" "terms" "[I")).before a0 Z = true := hw _ (List.mem_of_getElem? (i := 29) rfl)
theorem wd30 {a0 : Array Value} {Z : State} (hw : HW a0 Z) : ((Jvm.Cond.laysFinal "com/example/first_from_joins/firstfromjoins/engine/Binding" "com/example/first_from_joins/firstfromjoins/engine/Binding" "terms" "[I")).before a0 Z = true := hw _ (List.mem_of_getElem? (i := 30) rfl)
theorem wd31 {a0 : Array Value} {Z : State} (hw : HW a0 Z) : ((Jvm.Cond.fieldLink "com/example/first_from_joins/firstfromjoins/engine/Binding" (13 : Nat) "com/example/first_from_joins/firstfromjoins/engine/Binding" "facts" "[I")).before a0 Z = true := hw _ (List.mem_of_getElem? (i := 31) rfl)
theorem wd32 {a0 : Array Value} {Z : State} (hw : HW a0 Z) : ((Jvm.Cond.laysFinal "com/example/first_from_joins/firstfromjoins/engine/Binding" "com/example/first_from_joins/firstfromjoins/engine/Binding" "facts" "[I")).before a0 Z = true := hw _ (List.mem_of_getElem? (i := 32) rfl)
theorem wd33 {a0 : Array Value} {Z : State} (hw : HW a0 Z) : ((Jvm.Cond.fieldLink "com/example/first_from_joins/firstfromjoins/engine/Binding" (16 : Nat) "com/example/first_from_joins/firstfromjoins/engine/Binding" "parts" "[D")).before a0 Z = true := hw _ (List.mem_of_getElem? (i := 33) rfl)
theorem wd34 {a0 : Array Value} {Z : State} (hw : HW a0 Z) : ((Jvm.Cond.laysFinal "com/example/first_from_joins/firstfromjoins/engine/Binding" "com/example/first_from_joins/firstfromjoins/engine/Binding" "parts" "[D")).before a0 Z = true := hw _ (List.mem_of_getElem? (i := 34) rfl)
theorem wd35 {a0 : Array Value} {Z : State} (hw : HW a0 Z) : ((Jvm.Cond.fieldLink "com/example/first_from_joins/firstfromjoins/engine/Binding" (20 : Nat) "com/example/first_from_joins/firstfromjoins/engine/Binding" "score" "D")).before a0 Z = true := hw _ (List.mem_of_getElem? (i := 35) rfl)
theorem wd36 {a0 : Array Value} {Z : State} (hw : HW a0 Z) : ((Jvm.Cond.laysFinal "com/example/first_from_joins/firstfromjoins/engine/Binding" "com/example/first_from_joins/firstfromjoins/engine/Binding" "score" "D")).before a0 Z = true := hw _ (List.mem_of_getElem? (i := 36) rfl)
theorem wd37 {a0 : Array Value} {Z : State} (hw : HW a0 Z) : ((Jvm.Cond.methodLink "com/example/first_from_joins/firstfromjoins/engine/BindingOfMatchPinLaw" (15 : Nat) ({ cls := "com/example/first_from_joins/firstfromjoins/engine/Binding", name := "term", desc := "(I)I" } : Jvm.MethodName))).before a0 Z = true := hw _ (List.mem_of_getElem? (i := 37) rfl)
theorem wd38 {a0 : Array Value} {Z : State} (hw : HW a0 Z) : ((Jvm.Cond.declares ({ cls := "com/example/first_from_joins/firstfromjoins/engine/Binding", name := "term", desc := "(I)I" } : Jvm.MethodName))).before a0 Z = true := hw _ (List.mem_of_getElem? (i := 38) rfl)
theorem wd39 {a0 : Array Value} {Z : State} (hw : HW a0 Z) : ((Jvm.Cond.instanceMethod ({ cls := "com/example/first_from_joins/firstfromjoins/engine/Binding", name := "term", desc := "(I)I" } : Jvm.MethodName))).before a0 Z = true := hw _ (List.mem_of_getElem? (i := 39) rfl)
theorem wd40 {a0 : Array Value} {Z : State} (hw : HW a0 Z) : ((Jvm.Cond.selects "com/example/first_from_joins/firstfromjoins/engine/Binding" ({ cls := "com/example/first_from_joins/firstfromjoins/engine/Binding", name := "term", desc := "(I)I" } : Jvm.MethodName) ({ cls := "com/example/first_from_joins/firstfromjoins/engine/Binding", name := "term", desc := "(I)I" } : Jvm.MethodName))).before a0 Z = true := hw _ (List.mem_of_getElem? (i := 40) rfl)
theorem wd41 {a0 : Array Value} {Z : State} (hw : HW a0 Z) : ((Jvm.Cond.code ({ cls := "com/example/first_from_joins/firstfromjoins/engine/Binding", name := "term", desc := "(I)I" } : Jvm.MethodName) prog_4_method_3_code (2 : Nat) (Option.some Jvm.ClassFile.FieldType.int))).before a0 Z = true := hw _ (List.mem_of_getElem? (i := 41) rfl)
theorem wd42 {a0 : Array Value} {Z : State} (hw : HW a0 Z) : ((Jvm.Cond.methodLink "com/example/first_from_joins/firstfromjoins/engine/BindingOfMatchPinLaw" (19 : Nat) ({ cls := "com/example/first_from_joins/firstfromjoins/engine/Binding", name := "score", desc := "()D" } : Jvm.MethodName))).before a0 Z = true := hw _ (List.mem_of_getElem? (i := 42) rfl)
theorem wd43 {a0 : Array Value} {Z : State} (hw : HW a0 Z) : ((Jvm.Cond.declares ({ cls := "com/example/first_from_joins/firstfromjoins/engine/Binding", name := "score", desc := "()D" } : Jvm.MethodName))).before a0 Z = true := hw _ (List.mem_of_getElem? (i := 43) rfl)
theorem wd44 {a0 : Array Value} {Z : State} (hw : HW a0 Z) : ((Jvm.Cond.instanceMethod ({ cls := "com/example/first_from_joins/firstfromjoins/engine/Binding", name := "score", desc := "()D" } : Jvm.MethodName))).before a0 Z = true := hw _ (List.mem_of_getElem? (i := 44) rfl)
theorem wd45 {a0 : Array Value} {Z : State} (hw : HW a0 Z) : ((Jvm.Cond.selects "com/example/first_from_joins/firstfromjoins/engine/Binding" ({ cls := "com/example/first_from_joins/firstfromjoins/engine/Binding", name := "score", desc := "()D" } : Jvm.MethodName) ({ cls := "com/example/first_from_joins/firstfromjoins/engine/Binding", name := "score", desc := "()D" } : Jvm.MethodName))).before a0 Z = true := hw _ (List.mem_of_getElem? (i := 45) rfl)
theorem wd46 {a0 : Array Value} {Z : State} (hw : HW a0 Z) : ((Jvm.Cond.code ({ cls := "com/example/first_from_joins/firstfromjoins/engine/Binding", name := "score", desc := "()D" } : Jvm.MethodName) prog_4_method_4_code (1 : Nat) (Option.some Jvm.ClassFile.FieldType.double))).before a0 Z = true := hw _ (List.mem_of_getElem? (i := 46) rfl)
theorem wd47 {a0 : Array Value} {Z : State} (hw : HW a0 Z) : ((Jvm.Cond.methodLink "com/example/first_from_joins/firstfromjoins/engine/BindingOfMatchPinLaw" (23 : Nat) ({ cls := "com/example/first_from_joins/firstfromjoins/engine/Binding", name := "fact", desc := "(I)I" } : Jvm.MethodName))).before a0 Z = true := hw _ (List.mem_of_getElem? (i := 47) rfl)
theorem wd48 {a0 : Array Value} {Z : State} (hw : HW a0 Z) : ((Jvm.Cond.declares ({ cls := "com/example/first_from_joins/firstfromjoins/engine/Binding", name := "fact", desc := "(I)I" } : Jvm.MethodName))).before a0 Z = true := hw _ (List.mem_of_getElem? (i := 48) rfl)
theorem wd49 {a0 : Array Value} {Z : State} (hw : HW a0 Z) : ((Jvm.Cond.instanceMethod ({ cls := "com/example/first_from_joins/firstfromjoins/engine/Binding", name := "fact", desc := "(I)I" } : Jvm.MethodName))).before a0 Z = true := hw _ (List.mem_of_getElem? (i := 49) rfl)
theorem wd50 {a0 : Array Value} {Z : State} (hw : HW a0 Z) : ((Jvm.Cond.selects "com/example/first_from_joins/firstfromjoins/engine/Binding" ({ cls := "com/example/first_from_joins/firstfromjoins/engine/Binding", name := "fact", desc := "(I)I" } : Jvm.MethodName) ({ cls := "com/example/first_from_joins/firstfromjoins/engine/Binding", name := "fact", desc := "(I)I" } : Jvm.MethodName))).before a0 Z = true := hw _ (List.mem_of_getElem? (i := 50) rfl)
theorem wd51 {a0 : Array Value} {Z : State} (hw : HW a0 Z) : ((Jvm.Cond.code ({ cls := "com/example/first_from_joins/firstfromjoins/engine/Binding", name := "fact", desc := "(I)I" } : Jvm.MethodName) prog_4_method_5_code (2 : Nat) (Option.some Jvm.ClassFile.FieldType.int))).before a0 Z = true := hw _ (List.mem_of_getElem? (i := 51) rfl)
theorem wd52 {a0 : Array Value} {Z : State} (hw : HW a0 Z) : ((Jvm.Cond.methodLink "com/example/first_from_joins/firstfromjoins/engine/BindingOfMatchPinLaw" (26 : Nat) ({ cls := "com/example/first_from_joins/firstfromjoins/engine/Binding", name := "part", desc := "(I)D" } : Jvm.MethodName))).before a0 Z = true := hw _ (List.mem_of_getElem? (i := 52) rfl)
theorem wd53 {a0 : Array Value} {Z : State} (hw : HW a0 Z) : ((Jvm.Cond.declares ({ cls := "com/example/first_from_joins/firstfromjoins/engine/Binding", name := "part", desc := "(I)D" } : Jvm.MethodName))).before a0 Z = true := hw _ (List.mem_of_getElem? (i := 53) rfl)
theorem wd54 {a0 : Array Value} {Z : State} (hw : HW a0 Z) : ((Jvm.Cond.instanceMethod ({ cls := "com/example/first_from_joins/firstfromjoins/engine/Binding", name := "part", desc := "(I)D" } : Jvm.MethodName))).before a0 Z = true := hw _ (List.mem_of_getElem? (i := 54) rfl)
theorem wd55 {a0 : Array Value} {Z : State} (hw : HW a0 Z) : ((Jvm.Cond.selects "com/example/first_from_joins/firstfromjoins/engine/Binding" ({ cls := "com/example/first_from_joins/firstfromjoins/engine/Binding", name := "part", desc := "(I)D" } : Jvm.MethodName) ({ cls := "com/example/first_from_joins/firstfromjoins/engine/Binding", name := "part", desc := "(I)D" } : Jvm.MethodName))).before a0 Z = true := hw _ (List.mem_of_getElem? (i := 55) rfl)
theorem wd56 {a0 : Array Value} {Z : State} (hw : HW a0 Z) : ((Jvm.Cond.code ({ cls := "com/example/first_from_joins/firstfromjoins/engine/Binding", name := "part", desc := "(I)D" } : Jvm.MethodName) prog_4_method_6_code (2 : Nat) (Option.some Jvm.ClassFile.FieldType.double))).before a0 Z = true := hw _ (List.mem_of_getElem? (i := 56) rfl)
theorem d1_0 : decode prog_4_method_2_code 0 = .ok (.iload_n 2, 1) := by decide +kernel
theorem d1_1 : decode prog_4_method_2_code 1 = .ok (.newarray .int, 2) := by decide +kernel
theorem d1_3 : decode prog_4_method_2_code 3 = .ok (.astore 6, 2) := by decide +kernel
theorem d1_5 : decode prog_4_method_2_code 5 = .ok (.aload 6, 2) := by decide +kernel
theorem d1_7 : decode prog_4_method_2_code 7 = .ok (.iconst (-1), 1) := by decide +kernel
theorem d1_8 : decode prog_4_method_2_code 8 = .ok (.invokestatic 24, 3) := by decide +kernel
theorem d1_11 : decode prog_4_method_2_code 11 = .ok (.aload 6, 2) := by decide +kernel
theorem d1_13 : decode prog_4_method_2_code 13 = .ok (.iload_n 1, 1) := by decide +kernel
theorem d1_14 : decode prog_4_method_2_code 14 = .ok (.iload_n 3, 1) := by decide +kernel
theorem d1_15 : decode prog_4_method_2_code 15 = .ok (.iastore, 1) := by decide +kernel
theorem d1_16 : decode prog_4_method_2_code 16 = .ok (.iload_n 2, 1) := by decide +kernel
theorem d1_17 : decode prog_4_method_2_code 17 = .ok (.newarray .double, 2) := by decide +kernel
theorem d1_19 : decode prog_4_method_2_code 19 = .ok (.astore 7, 2) := by decide +kernel
theorem d1_21 : decode prog_4_method_2_code 21 = .ok (.aload 7, 2) := by decide +kernel
theorem d1_23 : decode prog_4_method_2_code 23 = .ok (.iload_n 1, 1) := by decide +kernel
theorem d1_24 : decode prog_4_method_2_code 24 = .ok (.dload 4, 2) := by decide +kernel
theorem d1_26 : decode prog_4_method_2_code 26 = .ok (.dastore, 1) := by decide +kernel
theorem d1_27 : decode prog_4_method_2_code 27 = .ok (.new 8, 3) := by decide +kernel
theorem d1_30 : decode prog_4_method_2_code 30 = .ok (.dup, 1) := by decide +kernel
theorem d1_31 : decode prog_4_method_2_code 31 = .ok (.aload_n 0, 1) := by decide +kernel
theorem d1_32 : decode prog_4_method_2_code 32 = .ok (.invokevirtual 30, 3) := by decide +kernel
theorem d1_35 : decode prog_4_method_2_code 35 = .ok (.checkcast 31, 3) := by decide +kernel
theorem d1_38 : decode prog_4_method_2_code 38 = .ok (.aload 6, 2) := by decide +kernel
theorem d1_40 : decode prog_4_method_2_code 40 = .ok (.aload 7, 2) := by decide +kernel
theorem d1_42 : decode prog_4_method_2_code 42 = .ok (.dload 4, 2) := by decide +kernel
theorem d1_44 : decode prog_4_method_2_code 44 = .ok (.invokespecial 35, 3) := by decide +kernel
theorem d1_47 : decode prog_4_method_2_code 47 = .ok (.areturn, 1) := by decide +kernel
theorem d2_0 : decode jdk_65_method_103_code 0 = .ok (.iconst 0, 1) := by decide +kernel
theorem d2_1 : decode jdk_65_method_103_code 1 = .ok (.istore_n 2, 1) := by decide +kernel
theorem d2_2 : decode jdk_65_method_103_code 2 = .ok (.aload_n 0, 1) := by decide +kernel
theorem d2_3 : decode jdk_65_method_103_code 3 = .ok (.arraylength, 1) := by decide +kernel
theorem d2_4 : decode jdk_65_method_103_code 4 = .ok (.istore_n 3, 1) := by decide +kernel
theorem d2_5 : decode jdk_65_method_103_code 5 = .ok (.iload_n 2, 1) := by decide +kernel
theorem d2_6 : decode jdk_65_method_103_code 6 = .ok (.iload_n 3, 1) := by decide +kernel
theorem d2_7 : decode jdk_65_method_103_code 7 = .ok (.if_icmp .ge 13, 3) := by decide +kernel
theorem d2_10 : decode jdk_65_method_103_code 10 = .ok (.aload_n 0, 1) := by decide +kernel
theorem d2_11 : decode jdk_65_method_103_code 11 = .ok (.iload_n 2, 1) := by decide +kernel
theorem d2_12 : decode jdk_65_method_103_code 12 = .ok (.iload_n 1, 1) := by decide +kernel
theorem d2_13 : decode jdk_65_method_103_code 13 = .ok (.iastore, 1) := by decide +kernel
theorem d2_14 : decode jdk_65_method_103_code 14 = .ok (.iinc 2 1, 3) := by decide +kernel
theorem d2_17 : decode jdk_65_method_103_code 17 = .ok (.goto (-12), 3) := by decide +kernel
theorem d2_20 : decode jdk_65_method_103_code 20 = .ok (.return_, 1) := by decide +kernel
theorem d3_0 : decode prog_4_method_1_code 0 = .ok (.aload_n 0, 1) := by decide +kernel
theorem d3_1 : decode prog_4_method_1_code 1 = .ok (.invokespecial 1, 3) := by decide +kernel
theorem d3_4 : decode prog_4_method_1_code 4 = .ok (.aload_n 0, 1) := by decide +kernel
theorem d3_5 : decode prog_4_method_1_code 5 = .ok (.aload_n 1, 1) := by decide +kernel
theorem d3_6 : decode prog_4_method_1_code 6 = .ok (.putfield 7, 3) := by decide +kernel
theorem d3_9 : decode prog_4_method_1_code 9 = .ok (.aload_n 0, 1) := by decide +kernel
theorem d3_10 : decode prog_4_method_1_code 10 = .ok (.aload_n 2, 1) := by decide +kernel
theorem d3_11 : decode prog_4_method_1_code 11 = .ok (.putfield 13, 3) := by decide +kernel
theorem d3_14 : decode prog_4_method_1_code 14 = .ok (.aload_n 0, 1) := by decide +kernel
theorem d3_15 : decode prog_4_method_1_code 15 = .ok (.aload_n 3, 1) := by decide +kernel
theorem d3_16 : decode prog_4_method_1_code 16 = .ok (.putfield 16, 3) := by decide +kernel
theorem d3_19 : decode prog_4_method_1_code 19 = .ok (.aload_n 0, 1) := by decide +kernel
theorem d3_20 : decode prog_4_method_1_code 20 = .ok (.dload 4, 2) := by decide +kernel
theorem d3_22 : decode prog_4_method_1_code 22 = .ok (.putfield 20, 3) := by decide +kernel
theorem d3_25 : decode prog_4_method_1_code 25 = .ok (.return_, 1) := by decide +kernel
theorem d5_0 : decode prog_4_method_3_code 0 = .ok (.aload_n 0, 1) := by decide +kernel
theorem d5_1 : decode prog_4_method_3_code 1 = .ok (.getfield 7, 3) := by decide +kernel
theorem d5_4 : decode prog_4_method_3_code 4 = .ok (.iload_n 1, 1) := by decide +kernel
theorem d5_5 : decode prog_4_method_3_code 5 = .ok (.iaload, 1) := by decide +kernel
theorem d5_6 : decode prog_4_method_3_code 6 = .ok (.ireturn, 1) := by decide +kernel
theorem d6_0 : decode prog_4_method_4_code 0 = .ok (.aload_n 0, 1) := by decide +kernel
theorem d6_1 : decode prog_4_method_4_code 1 = .ok (.getfield 20, 3) := by decide +kernel
theorem d6_4 : decode prog_4_method_4_code 4 = .ok (.dreturn, 1) := by decide +kernel
theorem d7_0 : decode prog_4_method_5_code 0 = .ok (.aload_n 0, 1) := by decide +kernel
theorem d7_1 : decode prog_4_method_5_code 1 = .ok (.getfield 13, 3) := by decide +kernel
theorem d7_4 : decode prog_4_method_5_code 4 = .ok (.iload_n 1, 1) := by decide +kernel
theorem d7_5 : decode prog_4_method_5_code 5 = .ok (.iaload, 1) := by decide +kernel
theorem d7_6 : decode prog_4_method_5_code 6 = .ok (.ireturn, 1) := by decide +kernel
theorem d8_0 : decode prog_4_method_6_code 0 = .ok (.aload_n 0, 1) := by decide +kernel
theorem d8_1 : decode prog_4_method_6_code 1 = .ok (.getfield 16, 3) := by decide +kernel
theorem d8_4 : decode prog_4_method_6_code 4 = .ok (.iload_n 1, 1) := by decide +kernel
theorem d8_5 : decode prog_4_method_6_code 5 = .ok (.daload, 1) := by decide +kernel
theorem d8_6 : decode prog_4_method_6_code 6 = .ok (.dreturn, 1) := by decide +kernel
theorem pd0 : parseMethodDescriptor "([II)V" = some ⟨[(.array .int), .int], none⟩ := by decide +kernel
theorem pd1 : parseMethodDescriptor "([I[I[DD)V" = some ⟨[(.array .int), (.array .int), (.array .double), .double], none⟩ := by decide +kernel
theorem pd2 : parseMethodDescriptor "([IIIID)Lcom/example/first_from_joins/firstfromjoins/engine/Binding;" = some ⟨[(.array .int), .int, .int, .int, .double], some (.object "com/example/first_from_joins/firstfromjoins/engine/Binding")⟩ := by decide +kernel
theorem pd3 : parseMethodDescriptor "(I)I" = some ⟨[.int], some .int⟩ := by decide +kernel
theorem pd4 : parseMethodDescriptor "()D" = some ⟨[], some .double⟩ := by decide +kernel
theorem pd5 : parseMethodDescriptor "(I)D" = some ⟨[.int], some .double⟩ := by decide +kernel
theorem pn0 : plainName "java/util/Arrays" = true := by first | (simp [plainName, overriddenIn]; done) | decide +kernel
theorem pn1 : plainName "com/example/first_from_joins/firstfromjoins/engine/Binding" = true := by first | (simp [plainName, overriddenIn]; done) | decide +kernel
theorem pn2 : plainName "com/example/first_from_joins/firstfromjoins/engine/BindingOfMatchPinLaw" = true := by first | (simp [plainName, overriddenIn]; done) | decide +kernel
section OwnTab
/-- the list of F 0 .. F (n - 1) -/
def own_tab (n : Nat) (F : Int32 → Value) : List Value := (List.range n).map fun i => F (Int32.ofNat i)
theorem own_tab_len (n : Nat) (F : Int32 → Value) : (own_tab n F).length = n := by simp [own_tab]
theorem own_ofnat {j : Int32} (h : ¬ j < 0) : Int32.ofNat j.toNatClampNeg = j := (back32 h).1
theorem own_tab_get {n : Nat} {F : Int32 → Value} {d : Value} {j : Int32} (h0 : ¬ j < 0) (hj : j.toNatClampNeg < n) : (own_tab n F).getD j.toNatClampNeg d = F j := by
  simp [own_tab, List.getD, hj, own_ofnat h0]
theorem own_nc_ofnat {i : Nat} (h : i < 2147483648) : (Int32.ofNat i).toNatClampNeg = i := by
  have := Int32.toInt_ofNat_small (n := i) (by omega)
  simp only [Int32.toNatClampNeg, this]; omega
theorem own_tab_set {n : Nat} {F : Int32 → Value} {v : Value} {j : Int32} (h0 : ¬ j < 0) (hn : n ≤ 2147483648) : (own_tab n F).set j.toNatClampNeg v = own_tab n (fun k => if k = j then v else F k) := by
  apply List.ext_getElem
  · simp [own_tab]
  · intro i h1 h2
    have hi : i < n := by simpa [own_tab] using h2
    rw [List.getElem_set]
    simp only [own_tab, List.getElem_map, List.getElem_range]
    by_cases e : j.toNatClampNeg = i
    · subst e; simp [own_ofnat h0]
    · have : Int32.ofNat i ≠ j := fun z => e (by rw [← z]; exact own_nc_ofnat (by omega))
      simp [e, this]
theorem own_tab_const (n : Nat) (d : Value) : ∀ i, (own_tab n fun _ => d).getD i d = ([] : List Value).getD i d := by
  intro i
  simp only [own_tab, List.getD]
  by_cases h : i < n <;> simp [h]
theorem own_nc_lt {j m : Int32} (h0 : ¬ j < 0) (h : j < m) : j.toNatClampNeg < m.toNatClampNeg := by
  simp only [Int32.lt_iff_toInt_lt, Int32.toNatClampNeg, Int32.reduceToInt] at *; omega
theorem own_nc_le (m : Int32) : m.toNatClampNeg ≤ 2147483648 := by
  have := Int32.toInt_lt m
  simp only [Int32.toNatClampNeg]; omega
theorem own_nc_cap {m : Int32} {k : Nat} (h : m.toInt ≤ k) : m.toNatClampNeg ≤ k := by simp only [Int32.toNatClampNeg]; omega
end OwnTab
def own_B (Z : State) (h : Heap) (lo : Nat) (b : Addr) (n t0 t1 : Int32) (fs ps : List Value) (sc : UInt64) : Prop :=
  Exa Z h b "com/example/first_from_joins/firstfromjoins/engine/Binding" ∧ ∃ (tb fb pb : Addr) (kt kf kp : ClassId), Fld Z h b "com/example/first_from_joins/firstfromjoins/engine/Binding" "terms" "[I" (.ref tb) ∧ Fld Z h b "com/example/first_from_joins/firstfromjoins/engine/Binding" "facts" "[I" (.ref fb) ∧ Fld Z h b "com/example/first_from_joins/firstfromjoins/engine/Binding" "parts" "[D" (.ref pb) ∧ Fld Z h b "com/example/first_from_joins/firstfromjoins/engine/Binding" "score" "D" (.double sc) ∧
    Arv Z h tb kt .int (2 : Int32) [(.int t0), (.int t1)] (.int (0 : Int32)) ∧ Arv Z h fb kf .int n fs (.int (0 : Int32)) ∧ Arv Z h pb kp .double n ps (.double (0 : UInt64)) ∧ lo ≤ b ∧ lo ≤ tb ∧ lo ≤ fb ∧ lo ≤ pb
theorem own_B_wr {Z : State} {h h' : Heap} {lo : Nat} {b : Addr} {n t0 t1 : Int32} {fs ps : List Value} {sc : UInt64} {a : Addr} {sl : Nat} {v : Value} (B : own_B Z h lo b n t0 t1 fs ps sc) (W : Wr h h' a sl v) (ha : a < lo) : own_B Z h' lo b n t0 t1 fs ps sc := by
  obtain ⟨E, tb, fb, pb, kt, kf, kp, F1, F2, F3, F4, V1, V2, V3, l1, l2, l3, l4⟩ := B
  have en : ∀ x : Addr, lo ≤ x → x ≠ a := fun x hx z => Nat.lt_irrefl lo (Nat.lt_of_le_of_lt (z ▸ hx) ha)
  have e1 : b ≠ a := en b l1
  exact ⟨E.wr W, tb, fb, pb, kt, kf, kp, F1.other W (Or.inl e1), F2.other W (Or.inl e1), F3.other W (Or.inl e1), F4.other W (Or.inl e1), V1.other W (en _ l2), V2.other W (en _ l3), V3.other W (en _ l4), l1, l2, l3, l4⟩
theorem own_setget_eq {vs : List Value} {d x : Value} {j : Nat} (h : j < vs.length) : (vs.set j x).getD j d = x := by simp [List.getD, h]
theorem own_setget_ne {vs : List Value} {d x : Value} {i j : Nat} (h : i ≠ j) : (vs.set i x).getD j d = vs.getD j d := by simp [List.getD, List.getElem?_set, h]
theorem own_rep {n : Nat} {x d : Value} {j : Nat} (h : j < n) : (List.replicate n x).getD j d = x := by simp [List.getD, h]
theorem own_nc_ne {i j : Int32} (hi : ¬ i < 0) (hj : ¬ j < 0) (h : ¬ i = j) : i.toNatClampNeg ≠ j.toNatClampNeg := fun z => h (by rw [← own_ofnat hi, ← own_ofnat hj, z])

theorem ef2 (m : MethodId) (x0 : Addr) : entryFrame m #[(.ref x0), (.int (-1 : Int32))] 4 = mkF m 0 #[.val (.ref x0), .val (.int (-1 : Int32)), .unset, .unset] [] := by first | (simp [entryFrame, mkF, argsToLocals, Value.category]; done) | rfl
set_option maxRecDepth 65536 in
set_option maxHeartbeats 40000000 in
theorem ctF1 {l : Launch} {Z : State} {a0 : Array Value} (hw : HW a0 Z) {n0 : Nat} {h0 : Heap} (hn0 : n0 ≤ h0.size) (a1 : Addr) (k1 : ClassId) (V1 : Arv Z h0 a1 k1 .int (1 : Int32) [(.int (0 : Int32))] (.int (0 : Int32))) (ga : n0 ≤ a1) :
    Ctr l Z (⟨"java/util/Arrays", "fill", "([II)V"⟩ : MethodName) jdk_65_method_103_code 4 none ({ frames := 0, cells := 0, slots := 0, locals := 0 } : Room) n0 #[(.ref a1), (.int (-1 : Int32))] h0 (fun v h => v = none ∧ Keep h0 h [a1] ∧ Arv Z h a1 k1 .int (1 : Int32) [(.int (-1 : Int32))] (.int (0 : Int32))) := by
  refine Ctr.of (plainFor_of_name pn0) hn0 ?_
  intro p e s m below meth c T0 C hnm hret hlk X0
  rw [ef2 m a1]
  refine OGo.iconst (pc' := 1) (z := (0 : Int32)) C X0 d2_0 rfl (by decide) ?_
  refine OGo.istoreN (pc' := 2) C X0 d2_1 rfl (l' := #[.val (.ref a1), .val (.int (-1 : Int32)), .val (.int (0 : Int32)), .unset]) rfl ?_
  refine OGo.aloadN (pc' := 3) C X0 d2_2 rfl rfl rfl ?_
  refine OGo.arraylength (pc' := 4) C X0 V1 d2_3 rfl ?_
  refine OGo.istoreN (pc' := 5) C X0 d2_4 rfl (l' := #[.val (.ref a1), .val (.int (-1 : Int32)), .val (.int (0 : Int32)), .val (.int (1 : Int32))]) rfl ?_
  refine OGo.iloadN (pc' := 6) C X0 d2_5 rfl rfl ?_
  refine OGo.iloadN (pc' := 7) C X0 d2_6 rfl rfl ?_
  refine OGo.icmpNo (pc' := 10) C X0 d2_7 rfl (tlt (by decide : (0 : Int32) < (1 : Int32))).2.1 ?_
  refine OGo.aloadN (pc' := 11) C X0 d2_10 rfl rfl rfl ?_
  refine OGo.iloadN (pc' := 12) C X0 d2_11 rfl rfl ?_
  refine OGo.iloadN (pc' := 13) C X0 d2_12 rfl rfl ?_
  refine OGo.iastore (pc' := 14) C X0 V1 ga (i := 0) d2_13 rfl ⟨by decide, by decide⟩ (by decide) (Nat.le_of_ble_eq_true rfl) (fun T1 h1 X1 W1 V1 => ?_)
  replace V1 : Arv Z h1 a1 k1 .int (1 : Int32) [(.int (-1 : Int32))] (.int (0 : Int32)) := V1
  have K2 : Keep h0 h1 [a1] := (Keep.refl h0 [a1]).wr W1 (Or.inl (List.mem_of_getElem? (i := 0) rfl))
  refine OGo.iinc (pc' := 17) C X1 d2_14 rfl rfl (z := (1 : Int32)) (by decide) (l' := #[.val (.ref a1), .val (.int (-1 : Int32)), .val (.int (1 : Int32)), .val (.int (1 : Int32))]) rfl ?_
  refine OGo.goto (pc' := 5) C X1 d2_17 (by decide) (by decide) ?_
  refine OGo.iloadN (pc' := 6) C X1 d2_5 rfl rfl ?_
  refine OGo.iloadN (pc' := 7) C X1 d2_6 rfl rfl ?_
  refine OGo.icmpYes (pc' := 20) C X1 d2_7 (flt (by decide : ¬ (1 : Int32) < (1 : Int32))).2.1 (by decide) (by decide) ?_
  exact OGo.ret C X1 d2_20 hret hlk (⟨rfl, K2, V1⟩) (by decide) (by decide)
set_option maxRecDepth 65536 in
set_option maxHeartbeats 40000000 in
theorem ctF2 {l : Launch} {Z : State} {a0 : Array Value} (hw : HW a0 Z) {n0 : Nat} {h0 : Heap} (hn0 : n0 ≤ h0.size) (a1 : Addr) (k1 : ClassId) (V1 : Arv Z h0 a1 k1 .int (2 : Int32) [(.int (0 : Int32)), (.int (0 : Int32))] (.int (0 : Int32))) (ga : n0 ≤ a1) :
    Ctr l Z (⟨"java/util/Arrays", "fill", "([II)V"⟩ : MethodName) jdk_65_method_103_code 4 none ({ frames := 0, cells := 0, slots := 0, locals := 0 } : Room) n0 #[(.ref a1), (.int (-1 : Int32))] h0 (fun v h => v = none ∧ Keep h0 h [a1] ∧ Arv Z h a1 k1 .int (2 : Int32) [(.int (-1 : Int32)), (.int (-1 : Int32))] (.int (0 : Int32))) := by
  refine Ctr.of (plainFor_of_name pn0) hn0 ?_
  intro p e s m below meth c T0 C hnm hret hlk X0
  rw [ef2 m a1]
  refine OGo.iconst (pc' := 1) (z := (0 : Int32)) C X0 d2_0 rfl (by decide) ?_
  refine OGo.istoreN (pc' := 2) C X0 d2_1 rfl (l' := #[.val (.ref a1), .val (.int (-1 : Int32)), .val (.int (0 : Int32)), .unset]) rfl ?_
  refine OGo.aloadN (pc' := 3) C X0 d2_2 rfl rfl rfl ?_
  refine OGo.arraylength (pc' := 4) C X0 V1 d2_3 rfl ?_
  refine OGo.istoreN (pc' := 5) C X0 d2_4 rfl (l' := #[.val (.ref a1), .val (.int (-1 : Int32)), .val (.int (0 : Int32)), .val (.int (2 : Int32))]) rfl ?_
  refine OGo.iloadN (pc' := 6) C X0 d2_5 rfl rfl ?_
  refine OGo.iloadN (pc' := 7) C X0 d2_6 rfl rfl ?_
  refine OGo.icmpNo (pc' := 10) C X0 d2_7 rfl (tlt (by decide : (0 : Int32) < (2 : Int32))).2.1 ?_
  refine OGo.aloadN (pc' := 11) C X0 d2_10 rfl rfl rfl ?_
  refine OGo.iloadN (pc' := 12) C X0 d2_11 rfl rfl ?_
  refine OGo.iloadN (pc' := 13) C X0 d2_12 rfl rfl ?_
  refine OGo.iastore (pc' := 14) C X0 V1 ga (i := 0) d2_13 rfl ⟨by decide, by decide⟩ (by decide) (Nat.le_of_ble_eq_true rfl) (fun T1 h1 X1 W1 V1 => ?_)
  replace V1 : Arv Z h1 a1 k1 .int (2 : Int32) [(.int (-1 : Int32)), (.int (0 : Int32))] (.int (0 : Int32)) := V1
  have K2 : Keep h0 h1 [a1] := (Keep.refl h0 [a1]).wr W1 (Or.inl (List.mem_of_getElem? (i := 0) rfl))
  refine OGo.iinc (pc' := 17) C X1 d2_14 rfl rfl (z := (1 : Int32)) (by decide) (l' := #[.val (.ref a1), .val (.int (-1 : Int32)), .val (.int (1 : Int32)), .val (.int (2 : Int32))]) rfl ?_
  refine OGo.goto (pc' := 5) C X1 d2_17 (by decide) (by decide) ?_
  refine OGo.iloadN (pc' := 6) C X1 d2_5 rfl rfl ?_
  refine OGo.iloadN (pc' := 7) C X1 d2_6 rfl rfl ?_
  refine OGo.icmpNo (pc' := 10) C X1 d2_7 rfl (tlt (by decide : (1 : Int32) < (2 : Int32))).2.1 ?_
  refine OGo.aloadN (pc' := 11) C X1 d2_10 rfl rfl rfl ?_
  refine OGo.iloadN (pc' := 12) C X1 d2_11 rfl rfl ?_
  refine OGo.iloadN (pc' := 13) C X1 d2_12 rfl rfl ?_
  refine OGo.iastore (pc' := 14) C X1 V1 ga (i := 1) d2_13 rfl ⟨by decide, by decide⟩ (by decide) (Nat.le_of_ble_eq_true rfl) (fun T3 h3 X3 W3 V3 => ?_)
  replace V3 : Arv Z h3 a1 k1 .int (2 : Int32) [(.int (-1 : Int32)), (.int (-1 : Int32))] (.int (0 : Int32)) := V3
  have K4 : Keep h0 h3 [a1] := K2.wr W3 (Or.inl (List.mem_of_getElem? (i := 0) rfl))
  refine OGo.iinc (pc' := 17) C X3 d2_14 rfl rfl (z := (2 : Int32)) (by decide) (l' := #[.val (.ref a1), .val (.int (-1 : Int32)), .val (.int (2 : Int32)), .val (.int (2 : Int32))]) rfl ?_
  refine OGo.goto (pc' := 5) C X3 d2_17 (by decide) (by decide) ?_
  refine OGo.iloadN (pc' := 6) C X3 d2_5 rfl rfl ?_
  refine OGo.iloadN (pc' := 7) C X3 d2_6 rfl rfl ?_
  refine OGo.icmpYes (pc' := 20) C X3 d2_7 (flt (by decide : ¬ (2 : Int32) < (2 : Int32))).2.1 (by decide) (by decide) ?_
  exact OGo.ret C X3 d2_20 hret hlk (⟨rfl, K4, V3⟩) (by decide) (by decide)
set_option maxRecDepth 65536 in
set_option maxHeartbeats 40000000 in
theorem ctF3 {l : Launch} {Z : State} {a0 : Array Value} (hw : HW a0 Z) {n0 : Nat} {h0 : Heap} (hn0 : n0 ≤ h0.size) (a1 : Addr) (k1 : ClassId) (V1 : Arv Z h0 a1 k1 .int (3 : Int32) [(.int (0 : Int32)), (.int (0 : Int32)), (.int (0 : Int32))] (.int (0 : Int32))) (ga : n0 ≤ a1) :
    Ctr l Z (⟨"java/util/Arrays", "fill", "([II)V"⟩ : MethodName) jdk_65_method_103_code 4 none ({ frames := 0, cells := 0, slots := 0, locals := 0 } : Room) n0 #[(.ref a1), (.int (-1 : Int32))] h0 (fun v h => v = none ∧ Keep h0 h [a1] ∧ Arv Z h a1 k1 .int (3 : Int32) [(.int (-1 : Int32)), (.int (-1 : Int32)), (.int (-1 : Int32))] (.int (0 : Int32))) := by
  refine Ctr.of (plainFor_of_name pn0) hn0 ?_
  intro p e s m below meth c T0 C hnm hret hlk X0
  rw [ef2 m a1]
  refine OGo.iconst (pc' := 1) (z := (0 : Int32)) C X0 d2_0 rfl (by decide) ?_
  refine OGo.istoreN (pc' := 2) C X0 d2_1 rfl (l' := #[.val (.ref a1), .val (.int (-1 : Int32)), .val (.int (0 : Int32)), .unset]) rfl ?_
  refine OGo.aloadN (pc' := 3) C X0 d2_2 rfl rfl rfl ?_
  refine OGo.arraylength (pc' := 4) C X0 V1 d2_3 rfl ?_
  refine OGo.istoreN (pc' := 5) C X0 d2_4 rfl (l' := #[.val (.ref a1), .val (.int (-1 : Int32)), .val (.int (0 : Int32)), .val (.int (3 : Int32))]) rfl ?_
  refine OGo.iloadN (pc' := 6) C X0 d2_5 rfl rfl ?_
  refine OGo.iloadN (pc' := 7) C X0 d2_6 rfl rfl ?_
  refine OGo.icmpNo (pc' := 10) C X0 d2_7 rfl (tlt (by decide : (0 : Int32) < (3 : Int32))).2.1 ?_
  refine OGo.aloadN (pc' := 11) C X0 d2_10 rfl rfl rfl ?_
  refine OGo.iloadN (pc' := 12) C X0 d2_11 rfl rfl ?_
  refine OGo.iloadN (pc' := 13) C X0 d2_12 rfl rfl ?_
  refine OGo.iastore (pc' := 14) C X0 V1 ga (i := 0) d2_13 rfl ⟨by decide, by decide⟩ (by decide) (Nat.le_of_ble_eq_true rfl) (fun T1 h1 X1 W1 V1 => ?_)
  replace V1 : Arv Z h1 a1 k1 .int (3 : Int32) [(.int (-1 : Int32)), (.int (0 : Int32)), (.int (0 : Int32))] (.int (0 : Int32)) := V1
  have K2 : Keep h0 h1 [a1] := (Keep.refl h0 [a1]).wr W1 (Or.inl (List.mem_of_getElem? (i := 0) rfl))
  refine OGo.iinc (pc' := 17) C X1 d2_14 rfl rfl (z := (1 : Int32)) (by decide) (l' := #[.val (.ref a1), .val (.int (-1 : Int32)), .val (.int (1 : Int32)), .val (.int (3 : Int32))]) rfl ?_
  refine OGo.goto (pc' := 5) C X1 d2_17 (by decide) (by decide) ?_
  refine OGo.iloadN (pc' := 6) C X1 d2_5 rfl rfl ?_
  refine OGo.iloadN (pc' := 7) C X1 d2_6 rfl rfl ?_
  refine OGo.icmpNo (pc' := 10) C X1 d2_7 rfl (tlt (by decide : (1 : Int32) < (3 : Int32))).2.1 ?_
  refine OGo.aloadN (pc' := 11) C X1 d2_10 rfl rfl rfl ?_
  refine OGo.iloadN (pc' := 12) C X1 d2_11 rfl rfl ?_
  refine OGo.iloadN (pc' := 13) C X1 d2_12 rfl rfl ?_
  refine OGo.iastore (pc' := 14) C X1 V1 ga (i := 1) d2_13 rfl ⟨by decide, by decide⟩ (by decide) (Nat.le_of_ble_eq_true rfl) (fun T3 h3 X3 W3 V3 => ?_)
  replace V3 : Arv Z h3 a1 k1 .int (3 : Int32) [(.int (-1 : Int32)), (.int (-1 : Int32)), (.int (0 : Int32))] (.int (0 : Int32)) := V3
  have K4 : Keep h0 h3 [a1] := K2.wr W3 (Or.inl (List.mem_of_getElem? (i := 0) rfl))
  refine OGo.iinc (pc' := 17) C X3 d2_14 rfl rfl (z := (2 : Int32)) (by decide) (l' := #[.val (.ref a1), .val (.int (-1 : Int32)), .val (.int (2 : Int32)), .val (.int (3 : Int32))]) rfl ?_
  refine OGo.goto (pc' := 5) C X3 d2_17 (by decide) (by decide) ?_
  refine OGo.iloadN (pc' := 6) C X3 d2_5 rfl rfl ?_
  refine OGo.iloadN (pc' := 7) C X3 d2_6 rfl rfl ?_
  refine OGo.icmpNo (pc' := 10) C X3 d2_7 rfl (tlt (by decide : (2 : Int32) < (3 : Int32))).2.1 ?_
  refine OGo.aloadN (pc' := 11) C X3 d2_10 rfl rfl rfl ?_
  refine OGo.iloadN (pc' := 12) C X3 d2_11 rfl rfl ?_
  refine OGo.iloadN (pc' := 13) C X3 d2_12 rfl rfl ?_
  refine OGo.iastore (pc' := 14) C X3 V3 ga (i := 2) d2_13 rfl ⟨by decide, by decide⟩ (by decide) (Nat.le_of_ble_eq_true rfl) (fun T5 h5 X5 W5 V5 => ?_)
  replace V5 : Arv Z h5 a1 k1 .int (3 : Int32) [(.int (-1 : Int32)), (.int (-1 : Int32)), (.int (-1 : Int32))] (.int (0 : Int32)) := V5
  have K6 : Keep h0 h5 [a1] := K4.wr W5 (Or.inl (List.mem_of_getElem? (i := 0) rfl))
  refine OGo.iinc (pc' := 17) C X5 d2_14 rfl rfl (z := (3 : Int32)) (by decide) (l' := #[.val (.ref a1), .val (.int (-1 : Int32)), .val (.int (3 : Int32)), .val (.int (3 : Int32))]) rfl ?_
  refine OGo.goto (pc' := 5) C X5 d2_17 (by decide) (by decide) ?_
  refine OGo.iloadN (pc' := 6) C X5 d2_5 rfl rfl ?_
  refine OGo.iloadN (pc' := 7) C X5 d2_6 rfl rfl ?_
  refine OGo.icmpYes (pc' := 20) C X5 d2_7 (flt (by decide : ¬ (3 : Int32) < (3 : Int32))).2.1 (by decide) (by decide) ?_
  exact OGo.ret C X5 d2_20 hret hlk (⟨rfl, K6, V5⟩) (by decide) (by decide)
set_option maxRecDepth 65536 in
set_option maxHeartbeats 40000000 in
theorem ctF4 {l : Launch} {Z : State} {a0 : Array Value} (hw : HW a0 Z) {n0 : Nat} {h0 : Heap} (hn0 : n0 ≤ h0.size) (a1 : Addr) (k1 : ClassId) (V1 : Arv Z h0 a1 k1 .int (4 : Int32) [(.int (0 : Int32)), (.int (0 : Int32)), (.int (0 : Int32)), (.int (0 : Int32))] (.int (0 : Int32))) (ga : n0 ≤ a1) :
    Ctr l Z (⟨"java/util/Arrays", "fill", "([II)V"⟩ : MethodName) jdk_65_method_103_code 4 none ({ frames := 0, cells := 0, slots := 0, locals := 0 } : Room) n0 #[(.ref a1), (.int (-1 : Int32))] h0 (fun v h => v = none ∧ Keep h0 h [a1] ∧ Arv Z h a1 k1 .int (4 : Int32) [(.int (-1 : Int32)), (.int (-1 : Int32)), (.int (-1 : Int32)), (.int (-1 : Int32))] (.int (0 : Int32))) := by
  refine Ctr.of (plainFor_of_name pn0) hn0 ?_
  intro p e s m below meth c T0 C hnm hret hlk X0
  rw [ef2 m a1]
  refine OGo.iconst (pc' := 1) (z := (0 : Int32)) C X0 d2_0 rfl (by decide) ?_
  refine OGo.istoreN (pc' := 2) C X0 d2_1 rfl (l' := #[.val (.ref a1), .val (.int (-1 : Int32)), .val (.int (0 : Int32)), .unset]) rfl ?_
  refine OGo.aloadN (pc' := 3) C X0 d2_2 rfl rfl rfl ?_
  refine OGo.arraylength (pc' := 4) C X0 V1 d2_3 rfl ?_
  refine OGo.istoreN (pc' := 5) C X0 d2_4 rfl (l' := #[.val (.ref a1), .val (.int (-1 : Int32)), .val (.int (0 : Int32)), .val (.int (4 : Int32))]) rfl ?_
  refine OGo.iloadN (pc' := 6) C X0 d2_5 rfl rfl ?_
  refine OGo.iloadN (pc' := 7) C X0 d2_6 rfl rfl ?_
  refine OGo.icmpNo (pc' := 10) C X0 d2_7 rfl (tlt (by decide : (0 : Int32) < (4 : Int32))).2.1 ?_
  refine OGo.aloadN (pc' := 11) C X0 d2_10 rfl rfl rfl ?_
  refine OGo.iloadN (pc' := 12) C X0 d2_11 rfl rfl ?_
  refine OGo.iloadN (pc' := 13) C X0 d2_12 rfl rfl ?_
  refine OGo.iastore (pc' := 14) C X0 V1 ga (i := 0) d2_13 rfl ⟨by decide, by decide⟩ (by decide) (Nat.le_of_ble_eq_true rfl) (fun T1 h1 X1 W1 V1 => ?_)
  replace V1 : Arv Z h1 a1 k1 .int (4 : Int32) [(.int (-1 : Int32)), (.int (0 : Int32)), (.int (0 : Int32)), (.int (0 : Int32))] (.int (0 : Int32)) := V1
  have K2 : Keep h0 h1 [a1] := (Keep.refl h0 [a1]).wr W1 (Or.inl (List.mem_of_getElem? (i := 0) rfl))
  refine OGo.iinc (pc' := 17) C X1 d2_14 rfl rfl (z := (1 : Int32)) (by decide) (l' := #[.val (.ref a1), .val (.int (-1 : Int32)), .val (.int (1 : Int32)), .val (.int (4 : Int32))]) rfl ?_
  refine OGo.goto (pc' := 5) C X1 d2_17 (by decide) (by decide) ?_
  refine OGo.iloadN (pc' := 6) C X1 d2_5 rfl rfl ?_
  refine OGo.iloadN (pc' := 7) C X1 d2_6 rfl rfl ?_
  refine OGo.icmpNo (pc' := 10) C X1 d2_7 rfl (tlt (by decide : (1 : Int32) < (4 : Int32))).2.1 ?_
  refine OGo.aloadN (pc' := 11) C X1 d2_10 rfl rfl rfl ?_
  refine OGo.iloadN (pc' := 12) C X1 d2_11 rfl rfl ?_
  refine OGo.iloadN (pc' := 13) C X1 d2_12 rfl rfl ?_
  refine OGo.iastore (pc' := 14) C X1 V1 ga (i := 1) d2_13 rfl ⟨by decide, by decide⟩ (by decide) (Nat.le_of_ble_eq_true rfl) (fun T3 h3 X3 W3 V3 => ?_)
  replace V3 : Arv Z h3 a1 k1 .int (4 : Int32) [(.int (-1 : Int32)), (.int (-1 : Int32)), (.int (0 : Int32)), (.int (0 : Int32))] (.int (0 : Int32)) := V3
  have K4 : Keep h0 h3 [a1] := K2.wr W3 (Or.inl (List.mem_of_getElem? (i := 0) rfl))
  refine OGo.iinc (pc' := 17) C X3 d2_14 rfl rfl (z := (2 : Int32)) (by decide) (l' := #[.val (.ref a1), .val (.int (-1 : Int32)), .val (.int (2 : Int32)), .val (.int (4 : Int32))]) rfl ?_
  refine OGo.goto (pc' := 5) C X3 d2_17 (by decide) (by decide) ?_
  refine OGo.iloadN (pc' := 6) C X3 d2_5 rfl rfl ?_
  refine OGo.iloadN (pc' := 7) C X3 d2_6 rfl rfl ?_
  refine OGo.icmpNo (pc' := 10) C X3 d2_7 rfl (tlt (by decide : (2 : Int32) < (4 : Int32))).2.1 ?_
  refine OGo.aloadN (pc' := 11) C X3 d2_10 rfl rfl rfl ?_
  refine OGo.iloadN (pc' := 12) C X3 d2_11 rfl rfl ?_
  refine OGo.iloadN (pc' := 13) C X3 d2_12 rfl rfl ?_
  refine OGo.iastore (pc' := 14) C X3 V3 ga (i := 2) d2_13 rfl ⟨by decide, by decide⟩ (by decide) (Nat.le_of_ble_eq_true rfl) (fun T5 h5 X5 W5 V5 => ?_)
  replace V5 : Arv Z h5 a1 k1 .int (4 : Int32) [(.int (-1 : Int32)), (.int (-1 : Int32)), (.int (-1 : Int32)), (.int (0 : Int32))] (.int (0 : Int32)) := V5
  have K6 : Keep h0 h5 [a1] := K4.wr W5 (Or.inl (List.mem_of_getElem? (i := 0) rfl))
  refine OGo.iinc (pc' := 17) C X5 d2_14 rfl rfl (z := (3 : Int32)) (by decide) (l' := #[.val (.ref a1), .val (.int (-1 : Int32)), .val (.int (3 : Int32)), .val (.int (4 : Int32))]) rfl ?_
  refine OGo.goto (pc' := 5) C X5 d2_17 (by decide) (by decide) ?_
  refine OGo.iloadN (pc' := 6) C X5 d2_5 rfl rfl ?_
  refine OGo.iloadN (pc' := 7) C X5 d2_6 rfl rfl ?_
  refine OGo.icmpNo (pc' := 10) C X5 d2_7 rfl (tlt (by decide : (3 : Int32) < (4 : Int32))).2.1 ?_
  refine OGo.aloadN (pc' := 11) C X5 d2_10 rfl rfl rfl ?_
  refine OGo.iloadN (pc' := 12) C X5 d2_11 rfl rfl ?_
  refine OGo.iloadN (pc' := 13) C X5 d2_12 rfl rfl ?_
  refine OGo.iastore (pc' := 14) C X5 V5 ga (i := 3) d2_13 rfl ⟨by decide, by decide⟩ (by decide) (Nat.le_of_ble_eq_true rfl) (fun T7 h7 X7 W7 V7 => ?_)
  replace V7 : Arv Z h7 a1 k1 .int (4 : Int32) [(.int (-1 : Int32)), (.int (-1 : Int32)), (.int (-1 : Int32)), (.int (-1 : Int32))] (.int (0 : Int32)) := V7
  have K8 : Keep h0 h7 [a1] := K6.wr W7 (Or.inl (List.mem_of_getElem? (i := 0) rfl))
  refine OGo.iinc (pc' := 17) C X7 d2_14 rfl rfl (z := (4 : Int32)) (by decide) (l' := #[.val (.ref a1), .val (.int (-1 : Int32)), .val (.int (4 : Int32)), .val (.int (4 : Int32))]) rfl ?_
  refine OGo.goto (pc' := 5) C X7 d2_17 (by decide) (by decide) ?_
  refine OGo.iloadN (pc' := 6) C X7 d2_5 rfl rfl ?_
  refine OGo.iloadN (pc' := 7) C X7 d2_6 rfl rfl ?_
  refine OGo.icmpYes (pc' := 20) C X7 d2_7 (flt (by decide : ¬ (4 : Int32) < (4 : Int32))).2.1 (by decide) (by decide) ?_
  exact OGo.ret C X7 d2_20 hret hlk (⟨rfl, K8, V7⟩) (by decide) (by decide)
theorem ef3 (m : MethodId) (x0 : Addr) (x1 : Addr) (x2 : Addr) (x3 : Addr) (x4 : UInt64) : entryFrame m #[(.ref x0), (.ref x1), (.ref x2), (.ref x3), (.double x4)] 6 = mkF m 0 #[.val (.ref x0), .val (.ref x1), .val (.ref x2), .val (.ref x3), .val (.double x4), .second] [] := by first | (simp [entryFrame, mkF, argsToLocals, Value.category]; done) | rfl
set_option maxRecDepth 65536 in
set_option maxHeartbeats 40000000 in
theorem ct3 {l : Launch} {Z : State} {a0 : Array Value} (hw : HW a0 Z) {n0 : Nat} {h0 : Heap} (hn0 : n0 ≤ h0.size) (a1 tb fb pb : Addr) (sc : UInt64) (E1 : Exa Z h0 a1 "com/example/first_from_joins/firstfromjoins/engine/Binding") (F_terms : Fld Z h0 a1 "com/example/first_from_joins/firstfromjoins/engine/Binding" "terms" "[I" .null) (F_facts : Fld Z h0 a1 "com/example/first_from_joins/firstfromjoins/engine/Binding" "facts" "[I" .null) (F_parts : Fld Z h0 a1 "com/example/first_from_joins/firstfromjoins/engine/Binding" "parts" "[D" .null) (F_score : Fld Z h0 a1 "com/example/first_from_joins/firstfromjoins/engine/Binding" "score" "D" (.double (0 : UInt64))) (ga : n0 ≤ a1) :
    Ctr l Z (⟨"com/example/first_from_joins/firstfromjoins/engine/Binding", "<init>", "([I[I[DD)V"⟩ : MethodName) prog_4_method_1_code 6 none ({ frames := 1, cells := 0, slots := 0, locals := 12 } : Room) n0 #[(.ref a1), (.ref tb), (.ref fb), (.ref pb), (.double sc)] h0 (fun v h => v = none ∧ Keep h0 h [a1] ∧ Exa Z h a1 "com/example/first_from_joins/firstfromjoins/engine/Binding" ∧ Fld Z h a1 "com/example/first_from_joins/firstfromjoins/engine/Binding" "terms" "[I" (.ref tb) ∧ Fld Z h a1 "com/example/first_from_joins/firstfromjoins/engine/Binding" "facts" "[I" (.ref fb) ∧ Fld Z h a1 "com/example/first_from_joins/firstfromjoins/engine/Binding" "parts" "[D" (.ref pb) ∧ Fld Z h a1 "com/example/first_from_joins/firstfromjoins/engine/Binding" "score" "D" (.double sc)) := by
  refine Ctr.of (plainFor_of_name pn1) hn0 ?_
  intro p e s m below meth c T0 C hnm hret hlk X0
  rw [ef3 m a1 tb fb pb sc]
  refine OGo.aloadN (pc' := 1) C X0 d3_0 rfl rfl rfl ?_
  refine OGo.initObj (pc' := 4) C X0 (wd26 hw) (wd27 hw) (wd28 hw) d3_1 rfl rfl (by decide) (Nat.le_of_ble_eq_true rfl) (fun T1 X1 => ?_)
  refine OGo.aloadN (pc' := 5) C X1 d3_4 rfl rfl rfl ?_
  refine OGo.aloadN (pc' := 6) C X1 d3_5 rfl rfl rfl ?_
  refine OGo.putfield (pc' := 9) C X1 (host := "") (Or.inl (wd29 hw)) Via.refl F_terms E1 ga (Or.inr ⟨(wd30 hw), rfl, hnm⟩) (wd13 hw) (ty := (.array .int)) (by decide) rfl rfl d3_6 rfl (fun T2 h2 X2 W2 F2 => ?_)
  have K3 : Keep h0 h2 [a1] := (Keep.refl h0 [a1]).wr W2 (Or.inl (List.mem_of_getElem? (i := 0) rfl))
  refine OGo.aloadN (pc' := 10) C X2 d3_9 rfl rfl rfl ?_
  refine OGo.aloadN (pc' := 11) C X2 d3_10 rfl rfl rfl ?_
  have f4 := (F_facts.other W2 (Or.inr (slot_ne (Or.inr (wd32 hw)) (Or.inr (wd30 hw)) (by decide) (t := (.array .int)) (t' := (.array .int)) (by decide) (by decide))))
  have f5 := (E1.wr W2)
  refine OGo.putfield (pc' := 14) C X2 (host := "") (Or.inl (wd31 hw)) Via.refl f4 f5 ga (Or.inr ⟨(wd32 hw), rfl, hnm⟩) (wd13 hw) (ty := (.array .int)) (by decide) rfl rfl d3_11 rfl (fun T6 h6 X6 W6 F6 => ?_)
  have K7 : Keep h0 h6 [a1] := K3.wr W6 (Or.inl (List.mem_of_getElem? (i := 0) rfl))
  refine OGo.aloadN (pc' := 15) C X6 d3_14 rfl rfl rfl ?_
  refine OGo.aloadN (pc' := 16) C X6 d3_15 rfl rfl rfl ?_
  have f8 := ((F_parts.other W2 (Or.inr (slot_ne (Or.inr (wd34 hw)) (Or.inr (wd30 hw)) (by decide) (t := (.array .double)) (t' := (.array .int)) (by decide) (by decide)))).other W6 (Or.inr (slot_ne (Or.inr (wd34 hw)) (Or.inr (wd32 hw)) (by decide) (t := (.array .double)) (t' := (.array .int)) (by decide) (by decide))))
  have f9 := (f5.wr W6)
  refine OGo.putfield (pc' := 19) C X6 (host := "") (Or.inl (wd33 hw)) Via.refl f8 f9 ga (Or.inr ⟨(wd34 hw), rfl, hnm⟩) (wd13 hw) (ty := (.array .double)) (by decide) rfl rfl d3_16 rfl (fun T10 h10 X10 W10 F10 => ?_)
  have K11 : Keep h0 h10 [a1] := K7.wr W10 (Or.inl (List.mem_of_getElem? (i := 0) rfl))
  refine OGo.aloadN (pc' := 20) C X10 d3_19 rfl rfl rfl ?_
  refine OGo.dload (pc' := 22) C X10 d3_20 rfl rfl ?_
  have f12 := (((F_score.other W2 (Or.inr (slot_ne (Or.inr (wd36 hw)) (Or.inr (wd30 hw)) (by decide) (t := .double) (t' := (.array .int)) (by decide) (by decide)))).other W6 (Or.inr (slot_ne (Or.inr (wd36 hw)) (Or.inr (wd32 hw)) (by decide) (t := .double) (t' := (.array .int)) (by decide) (by decide)))).other W10 (Or.inr (slot_ne (Or.inr (wd36 hw)) (Or.inr (wd34 hw)) (by decide) (t := .double) (t' := (.array .double)) (by decide) (by decide))))
  have f13 := (f9.wr W10)
  refine OGo.putfield (pc' := 25) C X10 (host := "") (Or.inl (wd35 hw)) Via.refl f12 f13 ga (Or.inr ⟨(wd36 hw), rfl, hnm⟩) (wd13 hw) (ty := .double) (by decide) rfl rfl d3_22 rfl (fun T14 h14 X14 W14 F14 => ?_)
  have K15 : Keep h0 h14 [a1] := K11.wr W14 (Or.inl (List.mem_of_getElem? (i := 0) rfl))
  have f16 := (f13.wr W14)
  have f17 := (((F2.other W6 (Or.inr (slot_ne (Or.inr (wd30 hw)) (Or.inr (wd32 hw)) (by decide) (t := (.array .int)) (t' := (.array .int)) (by decide) (by decide)))).other W10 (Or.inr (slot_ne (Or.inr (wd30 hw)) (Or.inr (wd34 hw)) (by decide) (t := (.array .int)) (t' := (.array .double)) (by decide) (by decide)))).other W14 (Or.inr (slot_ne (Or.inr (wd30 hw)) (Or.inr (wd36 hw)) (by decide) (t := (.array .int)) (t' := .double) (by decide) (by decide))))
  have f18 := ((F6.other W10 (Or.inr (slot_ne (Or.inr (wd32 hw)) (Or.inr (wd34 hw)) (by decide) (t := (.array .int)) (t' := (.array .double)) (by decide) (by decide)))).other W14 (Or.inr (slot_ne (Or.inr (wd32 hw)) (Or.inr (wd36 hw)) (by decide) (t := (.array .int)) (t' := .double) (by decide) (by decide))))
  have f19 := (F10.other W14 (Or.inr (slot_ne (Or.inr (wd34 hw)) (Or.inr (wd36 hw)) (by decide) (t := (.array .double)) (t' := .double) (by decide) (by decide))))
  exact OGo.ret C X14 d3_25 hret hlk (⟨rfl, K15, f16, f17, f18, f19, F14⟩) (by decide) (by decide)
theorem ef1_1 (m : MethodId) (x0 : Addr) (x1 x3 : Int32) (x4 : UInt64) : entryFrame m #[(.ref x0), (.int x1), (.int (1 : Int32)), (.int x3), (.double x4)] 8 = mkF m 0 #[.val (.ref x0), .val (.int x1), .val (.int (1 : Int32)), .val (.int x3), .val (.double x4), .second, .unset, .unset] [] := by first | (simp [entryFrame, mkF, argsToLocals, Value.category]; done) | rfl
set_option maxRecDepth 65536 in
set_option maxHeartbeats 40000000 in
theorem ctO1 {l : Launch} {Z : State} {a0 : Array Value} (hw : HW a0 Z) {n0 : Nat} {h0 : Heap} (hn0 : n0 ≤ h0.size) (ts : Addr) (kt : ClassId) (t0 t1 pl fact : Int32) (sc : UInt64) (Vt : Arv Z h0 ts kt .int (2 : Int32) [(.int t0), (.int t1)] (.int (0 : Int32))) (Et : Exa Z h0 ts "[I") (hp : ¬ pl < 0 ∧ pl < (1 : Int32)) :
    Ctr l Z (⟨"com/example/first_from_joins/firstfromjoins/engine/Binding", "ofMatch", "([IIIID)Lcom/example/first_from_joins/firstfromjoins/engine/Binding;"⟩ : MethodName) prog_4_method_2_code 8 (some (.object "com/example/first_from_joins/firstfromjoins/engine/Binding")) ({ frames := 2, cells := 4, slots := 8, locals := 48 } : Room) n0 #[(.ref ts), (.int pl), (.int (1 : Int32)), (.int fact), (.double sc)] h0 (fun v h => ∃ b, v = some (.ref b) ∧ Keep h0 h [] ∧ own_B Z h h0.size b (1 : Int32) t0 t1 ([(.int (-1 : Int32))].set pl.toNatClampNeg (.int fact)) ([(.double (0 : UInt64))].set pl.toNatClampNeg (.double sc)) sc) := by
  refine Ctr.of (plainFor_of_name pn1) hn0 ?_
  intro p e s m below meth c T0 C hnm hret hlk X0
  rw [ef1_1 m ts pl fact sc]
  refine OGo.iloadN (pc' := 1) C X0 d1_0 rfl rfl ?_
  refine OGo.newarray (pc' := 3) (cap := 1) (d0 := (.int (0 : Int32))) (cells' := 1) (slots' := 1) C X0 (wd2 hw) rfl d1_1 rfl (by decide) (by decide) (by decide) rfl rfl rfl (by decide) (by decide) (fun T1 h1 a1 k1 X1 g1 q1 E1 V1 => ?_)
  have ne2 : ts ≠ a1 := Nat.ne_of_lt (Nat.lt_of_lt_of_eq Vt.lt g1.symm)
  have sz3 : h0.size ≤ a1 := Nat.le_trans (Keep.refl h0 []).1 (Nat.le_of_eq g1.symm)
  have K4 : Keep h0 h1 [] := (Keep.refl h0 []).ext E1
  replace V1 : Arv Z h1 a1 k1 .int (1 : Int32) [(.int (0 : Int32))] (.int (0 : Int32)) := V1.pad (pad_rep [] (.int (0 : Int32)) 1)
  refine OGo.astore (pc' := 5) C X1 d1_3 rfl rfl (l' := #[.val (.ref ts), .val (.int pl), .val (.int (1 : Int32)), .val (.int fact), .val (.double sc), .second, .val (.ref a1), .unset]) rfl ?_
  refine OGo.aload (pc' := 7) C X1 d1_5 rfl rfl rfl ?_
  refine OGo.iconst (pc' := 8) (z := (-1 : Int32)) C X1 d1_7 rfl (by decide) ?_
  refine OGo.callS (pc' := 11) (cells' := 1) (slots' := 1) (argsL := [(.ref a1), (.int (-1 : Int32))]) (St := []) C X1 (wd7 hw) (wd8 hw) (by decide) (wd10 hw) (wd9 hw) (ctF1 hw X1.2.1 a1 k1 V1 q1) (lenOf pd0 rfl) rfl d1_8 rfl rfl (by decide) (Nat.le_of_ble_eq_true rfl) rfl rfl (by decide) (by decide) (fun v5 T5 h5 Q5 X5 z5 => ?_)
  obtain ⟨hv5, K5, V5a⟩ := Q5
  subst hv5
  have K6 : Keep h0 h5 [] := K4.trans K5 (allS (Or.inr sz3) all0)
  show OGo p e below _ T5 (mkF m 11 #[.val (.ref ts), .val (.int pl), .val (.int (1 : Int32)), .val (.int fact), .val (.double sc), .second, .val (.ref a1), .unset] [])
  refine OGo.aload (pc' := 13) C X5 d1_11 rfl rfl rfl ?_
  refine OGo.iloadN (pc' := 14) C X5 d1_13 rfl rfl ?_
  refine OGo.iloadN (pc' := 15) C X5 d1_14 rfl rfl ?_
  refine OGo.iastore (pc' := 16) C X5 V5a q1 (i := pl.toNatClampNeg) d1_15 rfl hp rfl (Nat.lt_of_lt_of_eq (own_nc_lt hp.1 hp.2) (by decide)) (fun T7 h7 X7 W7 V7 => ?_)
  have K8 : Keep h0 h7 [] := K6.wr W7 (Or.inr sz3)
  refine OGo.iloadN (pc' := 17) C X7 d1_16 rfl rfl ?_
  refine OGo.newarray (pc' := 19) (cap := 1) (d0 := (.double (0 : UInt64))) (cells' := 2) (slots' := 2) C X7 (wd11 hw) rfl d1_17 rfl (by decide) (by decide) (by decide) rfl rfl rfl (by decide) (by decide) (fun T9 h9 a9 k9 X9 g9 q9 E9 V9 => ?_)
  have f11 := (((Vt.ext E1).keep K5 (ninS ne2 nin0)).other W7 ne2)
  have ne10 : ts ≠ a9 := Nat.ne_of_lt (Nat.lt_of_lt_of_eq f11.lt g9.symm)
  have ne12 : a1 ≠ a9 := Nat.ne_of_lt (Nat.lt_of_lt_of_eq V7.lt g9.symm)
  have sz13 : h0.size ≤ a9 := Nat.le_trans K8.1 (Nat.le_of_eq g9.symm)
  have K14 : Keep h0 h9 [] := K8.ext E9
  replace V9 : Arv Z h9 a9 k9 .double (1 : Int32) [(.double (0 : UInt64))] (.double (0 : UInt64)) := V9.pad (pad_rep [] (.double (0 : UInt64)) 1)
  refine OGo.astore (pc' := 21) C X9 d1_19 rfl rfl (l' := #[.val (.ref ts), .val (.int pl), .val (.int (1 : Int32)), .val (.int fact), .val (.double sc), .second, .val (.ref a1), .val (.ref a9)]) rfl ?_
  refine OGo.aload (pc' := 23) C X9 d1_21 rfl rfl rfl ?_
  refine OGo.iloadN (pc' := 24) C X9 d1_23 rfl rfl ?_
  refine OGo.dload (pc' := 26) C X9 d1_24 rfl rfl ?_
  refine OGo.dastore (pc' := 27) C X9 V9 q9 (i := pl.toNatClampNeg) d1_26 rfl hp rfl (Nat.lt_of_lt_of_eq (own_nc_lt hp.1 hp.2) (by decide)) (fun T15 h15 X15 W15 V15 => ?_)
  have K16 : Keep h0 h15 [] := K14.wr W15 (Or.inr sz13)
  refine OGo.new (pc' := 30) (cells' := 3) (slots' := 6) C X15 (wd12 hw) (wd13 hw) (wd5 hw) d1_27 rfl rfl rfl (by decide) (by decide) (fun T17 h17 a17 X17 g17 q17 E17 A17 D17 U17 => ?_)
  have f19 := ((f11.ext E9).other W15 ne10)
  have ne18 : ts ≠ a17 := Nat.ne_of_lt (Nat.lt_of_lt_of_eq f19.lt g17.symm)
  have f21 := ((V7.ext E9).other W15 ne12)
  have ne20 : a1 ≠ a17 := Nat.ne_of_lt (Nat.lt_of_lt_of_eq f21.lt g17.symm)
  have ne22 : a9 ≠ a17 := Nat.ne_of_lt (Nat.lt_of_lt_of_eq V15.lt g17.symm)
  have sz23 : h0.size ≤ a17 := Nat.le_trans K16.1 (Nat.le_of_eq g17.symm)
  have K24 : Keep h0 h17 [] := K16.ext E17
  have F17_terms : Fld Z h17 a17 "com/example/first_from_joins/firstfromjoins/engine/Binding" "terms" "[I" .null := D17 (Or.inr (wd30 hw)) (ty := (.array .int)) (by decide)
  have F17_facts : Fld Z h17 a17 "com/example/first_from_joins/firstfromjoins/engine/Binding" "facts" "[I" .null := D17 (Or.inr (wd32 hw)) (ty := (.array .int)) (by decide)
  have F17_parts : Fld Z h17 a17 "com/example/first_from_joins/firstfromjoins/engine/Binding" "parts" "[D" .null := D17 (Or.inr (wd34 hw)) (ty := (.array .double)) (by decide)
  have F17_score : Fld Z h17 a17 "com/example/first_from_joins/firstfromjoins/engine/Binding" "score" "D" (.double (0 : UInt64)) := D17 (Or.inr (wd36 hw)) (ty := .double) (by decide)
  refine OGo.dup (pc' := 31) C X17 d1_30 rfl rfl ?_
  refine OGo.aloadN (pc' := 32) C X17 d1_31 rfl rfl rfl ?_
  have f26 := (f19.ext E17)
  have f27 := ((((((Et.ext E1).keep K5).wr W7).ext E9).wr W15).ext E17)
  refine OGo.clone (pc' := 35) (cap := 2) (cells' := 4) (slots' := 8) C X17 (wd14 hw) (wd15 hw) (wd19 hw) (wd17 hw) (wd18 hw) (wd20 hw) f26 f27 d1_32 rfl rfl (by decide) (Nat.le_of_ble_eq_true rfl) (by decide) rfl rfl (by decide) (by decide) (fun T25 h25 b25 X25 g25 q25 E25 V25 A25 => ?_)
  have ne28 : ts ≠ b25 := Nat.ne_of_lt (Nat.lt_of_lt_of_eq f26.lt g25.symm)
  have f30 := (f21.ext E17)
  have ne29 : a1 ≠ b25 := Nat.ne_of_lt (Nat.lt_of_lt_of_eq f30.lt g25.symm)
  have f32 := (V15.ext E17)
  have ne31 : a9 ≠ b25 := Nat.ne_of_lt (Nat.lt_of_lt_of_eq f32.lt g25.symm)
  have ne33 : a17 ≠ b25 := Nat.ne_of_lt (Nat.lt_of_lt_of_eq A17.lt g25.symm)
  have sz34 : h0.size ≤ b25 := Nat.le_trans K24.1 (Nat.le_of_eq g25.symm)
  have K35 : Keep h0 h25 [] := K24.ext E25
  refine OGo.checkcast (pc' := 38) C X25 (wd21 hw) (Ins.self A25) d1_35 rfl (fun T36 X36 => ?_)
  refine OGo.aload (pc' := 40) C X36 d1_38 rfl rfl rfl ?_
  refine OGo.aload (pc' := 42) C X36 d1_40 rfl rfl rfl ?_
  refine OGo.dload (pc' := 44) C X36 d1_42 rfl rfl ?_
  have f37 := (A17.ext E25)
  have f38 := (F17_terms.ext E25)
  have f39 := (F17_facts.ext E25)
  have f40 := (F17_parts.ext E25)
  have f41 := (F17_score.ext E25)
  refine OGo.callInit (pc' := 47) (cells' := 4) (slots' := 8) (argsL := [(.ref b25), (.ref a1), (.ref a9), (.double sc)]) (St := [(.ref a17)]) C X36 rfl rfl (wd23 hw) (wd24 hw) (by decide) (wd25 hw) (wd5 hw) (ct3 hw X36.2.1 a17 b25 a1 a9 sc f37 f38 f39 f40 f41 q17) (lenOf pd1 rfl) rfl d1_44 rfl rfl (by decide) (Nat.le_of_ble_eq_true rfl) rfl rfl (by decide) (by decide) (fun v42 T42 h42 Q42 X42 z42 => ?_)
  obtain ⟨hv42, K42, E42a, F42_terms, F42_facts, F42_parts, F42_score⟩ := Q42
  subst hv42
  have K43 : Keep h0 h42 [] := K35.trans K42 (allS (Or.inr sz23) all0)
  show OGo p e below _ T42 (mkF m 47 #[.val (.ref ts), .val (.int pl), .val (.int (1 : Int32)), .val (.int fact), .val (.double sc), .second, .val (.ref a1), .val (.ref a9)] [(.ref a17)])
  have f44 := (V25.keep K42 (ninS (Ne.symm ne33) nin0))
  have f45 := ((f30.ext E25).keep K42 (ninS ne20 nin0))
  have f46 := ((f32.ext E25).keep K42 (ninS ne22 nin0))
  exact OGo.retA C X42 d1_47 hret rfl rfl hlk (⟨a17, rfl, K43, E42a, b25, a1, a9, kt, k1, k9, F42_terms, F42_facts, F42_parts, F42_score, f44, f45, f46, sz23, sz34, sz3, sz13⟩) (by decide) (by decide)
theorem ef1_2 (m : MethodId) (x0 : Addr) (x1 x3 : Int32) (x4 : UInt64) : entryFrame m #[(.ref x0), (.int x1), (.int (2 : Int32)), (.int x3), (.double x4)] 8 = mkF m 0 #[.val (.ref x0), .val (.int x1), .val (.int (2 : Int32)), .val (.int x3), .val (.double x4), .second, .unset, .unset] [] := by first | (simp [entryFrame, mkF, argsToLocals, Value.category]; done) | rfl
set_option maxRecDepth 65536 in
set_option maxHeartbeats 40000000 in
theorem ctO2 {l : Launch} {Z : State} {a0 : Array Value} (hw : HW a0 Z) {n0 : Nat} {h0 : Heap} (hn0 : n0 ≤ h0.size) (ts : Addr) (kt : ClassId) (t0 t1 pl fact : Int32) (sc : UInt64) (Vt : Arv Z h0 ts kt .int (2 : Int32) [(.int t0), (.int t1)] (.int (0 : Int32))) (Et : Exa Z h0 ts "[I") (hp : ¬ pl < 0 ∧ pl < (2 : Int32)) :
    Ctr l Z (⟨"com/example/first_from_joins/firstfromjoins/engine/Binding", "ofMatch", "([IIIID)Lcom/example/first_from_joins/firstfromjoins/engine/Binding;"⟩ : MethodName) prog_4_method_2_code 8 (some (.object "com/example/first_from_joins/firstfromjoins/engine/Binding")) ({ frames := 2, cells := 4, slots := 10, locals := 48 } : Room) n0 #[(.ref ts), (.int pl), (.int (2 : Int32)), (.int fact), (.double sc)] h0 (fun v h => ∃ b, v = some (.ref b) ∧ Keep h0 h [] ∧ own_B Z h h0.size b (2 : Int32) t0 t1 ([(.int (-1 : Int32)), (.int (-1 : Int32))].set pl.toNatClampNeg (.int fact)) ([(.double (0 : UInt64)), (.double (0 : UInt64))].set pl.toNatClampNeg (.double sc)) sc) := by
  refine Ctr.of (plainFor_of_name pn1) hn0 ?_
  intro p e s m below meth c T0 C hnm hret hlk X0
  rw [ef1_2 m ts pl fact sc]
  refine OGo.iloadN (pc' := 1) C X0 d1_0 rfl rfl ?_
  refine OGo.newarray (pc' := 3) (cap := 2) (d0 := (.int (0 : Int32))) (cells' := 1) (slots' := 2) C X0 (wd2 hw) rfl d1_1 rfl (by decide) (by decide) (by decide) rfl rfl rfl (by decide) (by decide) (fun T1 h1 a1 k1 X1 g1 q1 E1 V1 => ?_)
  have ne2 : ts ≠ a1 := Nat.ne_of_lt (Nat.lt_of_lt_of_eq Vt.lt g1.symm)
  have sz3 : h0.size ≤ a1 := Nat.le_trans (Keep.refl h0 []).1 (Nat.le_of_eq g1.symm)
  have K4 : Keep h0 h1 [] := (Keep.refl h0 []).ext E1
  replace V1 : Arv Z h1 a1 k1 .int (2 : Int32) [(.int (0 : Int32)), (.int (0 : Int32))] (.int (0 : Int32)) := V1.pad (pad_rep [] (.int (0 : Int32)) 2)
  refine OGo.astore (pc' := 5) C X1 d1_3 rfl rfl (l' := #[.val (.ref ts), .val (.int pl), .val (.int (2 : Int32)), .val (.int fact), .val (.double sc), .second, .val (.ref a1), .unset]) rfl ?_
  refine OGo.aload (pc' := 7) C X1 d1_5 rfl rfl rfl ?_
  refine OGo.iconst (pc' := 8) (z := (-1 : Int32)) C X1 d1_7 rfl (by decide) ?_
  refine OGo.callS (pc' := 11) (cells' := 1) (slots' := 2) (argsL := [(.ref a1), (.int (-1 : Int32))]) (St := []) C X1 (wd7 hw) (wd8 hw) (by decide) (wd10 hw) (wd9 hw) (ctF2 hw X1.2.1 a1 k1 V1 q1) (lenOf pd0 rfl) rfl d1_8 rfl rfl (by decide) (Nat.le_of_ble_eq_true rfl) rfl rfl (by decide) (by decide) (fun v5 T5 h5 Q5 X5 z5 => ?_)
  obtain ⟨hv5, K5, V5a⟩ := Q5
  subst hv5
  have K6 : Keep h0 h5 [] := K4.trans K5 (allS (Or.inr sz3) all0)
  show OGo p e below _ T5 (mkF m 11 #[.val (.ref ts), .val (.int pl), .val (.int (2 : Int32)), .val (.int fact), .val (.double sc), .second, .val (.ref a1), .unset] [])
  refine OGo.aload (pc' := 13) C X5 d1_11 rfl rfl rfl ?_
  refine OGo.iloadN (pc' := 14) C X5 d1_13 rfl rfl ?_
  refine OGo.iloadN (pc' := 15) C X5 d1_14 rfl rfl ?_
  refine OGo.iastore (pc' := 16) C X5 V5a q1 (i := pl.toNatClampNeg) d1_15 rfl hp rfl (Nat.lt_of_lt_of_eq (own_nc_lt hp.1 hp.2) (by decide)) (fun T7 h7 X7 W7 V7 => ?_)
  have K8 : Keep h0 h7 [] := K6.wr W7 (Or.inr sz3)
  refine OGo.iloadN (pc' := 17) C X7 d1_16 rfl rfl ?_
  refine OGo.newarray (pc' := 19) (cap := 2) (d0 := (.double (0 : UInt64))) (cells' := 2) (slots' := 4) C X7 (wd11 hw) rfl d1_17 rfl (by decide) (by decide) (by decide) rfl rfl rfl (by decide) (by decide) (fun T9 h9 a9 k9 X9 g9 q9 E9 V9 => ?_)
  have f11 := (((Vt.ext E1).keep K5 (ninS ne2 nin0)).other W7 ne2)
  have ne10 : ts ≠ a9 := Nat.ne_of_lt (Nat.lt_of_lt_of_eq f11.lt g9.symm)
  have ne12 : a1 ≠ a9 := Nat.ne_of_lt (Nat.lt_of_lt_of_eq V7.lt g9.symm)
  have sz13 : h0.size ≤ a9 := Nat.le_trans K8.1 (Nat.le_of_eq g9.symm)
  have K14 : Keep h0 h9 [] := K8.ext E9
  replace V9 : Arv Z h9 a9 k9 .double (2 : Int32) [(.double (0 : UInt64)), (.double (0 : UInt64))] (.double (0 : UInt64)) := V9.pad (pad_rep [] (.double (0 : UInt64)) 2)
  refine OGo.astore (pc' := 21) C X9 d1_19 rfl rfl (l' := #[.val (.ref ts), .val (.int pl), .val (.int (2 : Int32)), .val (.int fact), .val (.double sc), .second, .val (.ref a1), .val (.ref a9)]) rfl ?_
  refine OGo.aload (pc' := 23) C X9 d1_21 rfl rfl rfl ?_
  refine OGo.iloadN (pc' := 24) C X9 d1_23 rfl rfl ?_
  refine OGo.dload (pc' := 26) C X9 d1_24 rfl rfl ?_
  refine OGo.dastore (pc' := 27) C X9 V9 q9 (i := pl.toNatClampNeg) d1_26 rfl hp rfl (Nat.lt_of_lt_of_eq (own_nc_lt hp.1 hp.2) (by decide)) (fun T15 h15 X15 W15 V15 => ?_)
  have K16 : Keep h0 h15 [] := K14.wr W15 (Or.inr sz13)
  refine OGo.new (pc' := 30) (cells' := 3) (slots' := 8) C X15 (wd12 hw) (wd13 hw) (wd5 hw) d1_27 rfl rfl rfl (by decide) (by decide) (fun T17 h17 a17 X17 g17 q17 E17 A17 D17 U17 => ?_)
  have f19 := ((f11.ext E9).other W15 ne10)
  have ne18 : ts ≠ a17 := Nat.ne_of_lt (Nat.lt_of_lt_of_eq f19.lt g17.symm)
  have f21 := ((V7.ext E9).other W15 ne12)
  have ne20 : a1 ≠ a17 := Nat.ne_of_lt (Nat.lt_of_lt_of_eq f21.lt g17.symm)
  have ne22 : a9 ≠ a17 := Nat.ne_of_lt (Nat.lt_of_lt_of_eq V15.lt g17.symm)
  have sz23 : h0.size ≤ a17 := Nat.le_trans K16.1 (Nat.le_of_eq g17.symm)
  have K24 : Keep h0 h17 [] := K16.ext E17
  have F17_terms : Fld Z h17 a17 "com/example/first_from_joins/firstfromjoins/engine/Binding" "terms" "[I" .null := D17 (Or.inr (wd30 hw)) (ty := (.array .int)) (by decide)
  have F17_facts : Fld Z h17 a17 "com/example/first_from_joins/firstfromjoins/engine/Binding" "facts" "[I" .null := D17 (Or.inr (wd32 hw)) (ty := (.array .int)) (by decide)
  have F17_parts : Fld Z h17 a17 "com/example/first_from_joins/firstfromjoins/engine/Binding" "parts" "[D" .null := D17 (Or.inr (wd34 hw)) (ty := (.array .double)) (by decide)
  have F17_score : Fld Z h17 a17 "com/example/first_from_joins/firstfromjoins/engine/Binding" "score" "D" (.double (0 : UInt64)) := D17 (Or.inr (wd36 hw)) (ty := .double) (by decide)
  refine OGo.dup (pc' := 31) C X17 d1_30 rfl rfl ?_
  refine OGo.aloadN (pc' := 32) C X17 d1_31 rfl rfl rfl ?_
  have f26 := (f19.ext E17)
  have f27 := ((((((Et.ext E1).keep K5).wr W7).ext E9).wr W15).ext E17)
  refine OGo.clone (pc' := 35) (cap := 2) (cells' := 4) (slots' := 10) C X17 (wd14 hw) (wd15 hw) (wd19 hw) (wd17 hw) (wd18 hw) (wd20 hw) f26 f27 d1_32 rfl rfl (by decide) (Nat.le_of_ble_eq_true rfl) (by decide) rfl rfl (by decide) (by decide) (fun T25 h25 b25 X25 g25 q25 E25 V25 A25 => ?_)
  have ne28 : ts ≠ b25 := Nat.ne_of_lt (Nat.lt_of_lt_of_eq f26.lt g25.symm)
  have f30 := (f21.ext E17)
  have ne29 : a1 ≠ b25 := Nat.ne_of_lt (Nat.lt_of_lt_of_eq f30.lt g25.symm)
  have f32 := (V15.ext E17)
  have ne31 : a9 ≠ b25 := Nat.ne_of_lt (Nat.lt_of_lt_of_eq f32.lt g25.symm)
  have ne33 : a17 ≠ b25 := Nat.ne_of_lt (Nat.lt_of_lt_of_eq A17.lt g25.symm)
  have sz34 : h0.size ≤ b25 := Nat.le_trans K24.1 (Nat.le_of_eq g25.symm)
  have K35 : Keep h0 h25 [] := K24.ext E25
  refine OGo.checkcast (pc' := 38) C X25 (wd21 hw) (Ins.self A25) d1_35 rfl (fun T36 X36 => ?_)
  refine OGo.aload (pc' := 40) C X36 d1_38 rfl rfl rfl ?_
  refine OGo.aload (pc' := 42) C X36 d1_40 rfl rfl rfl ?_
  refine OGo.dload (pc' := 44) C X36 d1_42 rfl rfl ?_
  have f37 := (A17.ext E25)
  have f38 := (F17_terms.ext E25)
  have f39 := (F17_facts.ext E25)
  have f40 := (F17_parts.ext E25)
  have f41 := (F17_score.ext E25)
  refine OGo.callInit (pc' := 47) (cells' := 4) (slots' := 10) (argsL := [(.ref b25), (.ref a1), (.ref a9), (.double sc)]) (St := [(.ref a17)]) C X36 rfl rfl (wd23 hw) (wd24 hw) (by decide) (wd25 hw) (wd5 hw) (ct3 hw X36.2.1 a17 b25 a1 a9 sc f37 f38 f39 f40 f41 q17) (lenOf pd1 rfl) rfl d1_44 rfl rfl (by decide) (Nat.le_of_ble_eq_true rfl) rfl rfl (by decide) (by decide) (fun v42 T42 h42 Q42 X42 z42 => ?_)
  obtain ⟨hv42, K42, E42a, F42_terms, F42_facts, F42_parts, F42_score⟩ := Q42
  subst hv42
  have K43 : Keep h0 h42 [] := K35.trans K42 (allS (Or.inr sz23) all0)
  show OGo p e below _ T42 (mkF m 47 #[.val (.ref ts), .val (.int pl), .val (.int (2 : Int32)), .val (.int fact), .val (.double sc), .second, .val (.ref a1), .val (.ref a9)] [(.ref a17)])
  have f44 := (V25.keep K42 (ninS (Ne.symm ne33) nin0))
  have f45 := ((f30.ext E25).keep K42 (ninS ne20 nin0))
  have f46 := ((f32.ext E25).keep K42 (ninS ne22 nin0))
  exact OGo.retA C X42 d1_47 hret rfl rfl hlk (⟨a17, rfl, K43, E42a, b25, a1, a9, kt, k1, k9, F42_terms, F42_facts, F42_parts, F42_score, f44, f45, f46, sz23, sz34, sz3, sz13⟩) (by decide) (by decide)
theorem ef1_3 (m : MethodId) (x0 : Addr) (x1 x3 : Int32) (x4 : UInt64) : entryFrame m #[(.ref x0), (.int x1), (.int (3 : Int32)), (.int x3), (.double x4)] 8 = mkF m 0 #[.val (.ref x0), .val (.int x1), .val (.int (3 : Int32)), .val (.int x3), .val (.double x4), .second, .unset, .unset] [] := by first | (simp [entryFrame, mkF, argsToLocals, Value.category]; done) | rfl
set_option maxRecDepth 65536 in
set_option maxHeartbeats 40000000 in
theorem ctO3 {l : Launch} {Z : State} {a0 : Array Value} (hw : HW a0 Z) {n0 : Nat} {h0 : Heap} (hn0 : n0 ≤ h0.size) (ts : Addr) (kt : ClassId) (t0 t1 pl fact : Int32) (sc : UInt64) (Vt : Arv Z h0 ts kt .int (2 : Int32) [(.int t0), (.int t1)] (.int (0 : Int32))) (Et : Exa Z h0 ts "[I") (hp : ¬ pl < 0 ∧ pl < (3 : Int32)) :
    Ctr l Z (⟨"com/example/first_from_joins/firstfromjoins/engine/Binding", "ofMatch", "([IIIID)Lcom/example/first_from_joins/firstfromjoins/engine/Binding;"⟩ : MethodName) prog_4_method_2_code 8 (some (.object "com/example/first_from_joins/firstfromjoins/engine/Binding")) ({ frames := 2, cells := 4, slots := 12, locals := 48 } : Room) n0 #[(.ref ts), (.int pl), (.int (3 : Int32)), (.int fact), (.double sc)] h0 (fun v h => ∃ b, v = some (.ref b) ∧ Keep h0 h [] ∧ own_B Z h h0.size b (3 : Int32) t0 t1 ([(.int (-1 : Int32)), (.int (-1 : Int32)), (.int (-1 : Int32))].set pl.toNatClampNeg (.int fact)) ([(.double (0 : UInt64)), (.double (0 : UInt64)), (.double (0 : UInt64))].set pl.toNatClampNeg (.double sc)) sc) := by
  refine Ctr.of (plainFor_of_name pn1) hn0 ?_
  intro p e s m below meth c T0 C hnm hret hlk X0
  rw [ef1_3 m ts pl fact sc]
  refine OGo.iloadN (pc' := 1) C X0 d1_0 rfl rfl ?_
  refine OGo.newarray (pc' := 3) (cap := 3) (d0 := (.int (0 : Int32))) (cells' := 1) (slots' := 3) C X0 (wd2 hw) rfl d1_1 rfl (by decide) (by decide) (by decide) rfl rfl rfl (by decide) (by decide) (fun T1 h1 a1 k1 X1 g1 q1 E1 V1 => ?_)
  have ne2 : ts ≠ a1 := Nat.ne_of_lt (Nat.lt_of_lt_of_eq Vt.lt g1.symm)
  have sz3 : h0.size ≤ a1 := Nat.le_trans (Keep.refl h0 []).1 (Nat.le_of_eq g1.symm)
  have K4 : Keep h0 h1 [] := (Keep.refl h0 []).ext E1
  replace V1 : Arv Z h1 a1 k1 .int (3 : Int32) [(.int (0 : Int32)), (.int (0 : Int32)), (.int (0 : Int32))] (.int (0 : Int32)) := V1.pad (pad_rep [] (.int (0 : Int32)) 3)
  refine OGo.astore (pc' := 5) C X1 d1_3 rfl rfl (l' := #[.val (.ref ts), .val (.int pl), .val (.int (3 : Int32)), .val (.int fact), .val (.double sc), .second, .val (.ref a1), .unset]) rfl ?_
  refine OGo.aload (pc' := 7) C X1 d1_5 rfl rfl rfl ?_
  refine OGo.iconst (pc' := 8) (z := (-1 : Int32)) C X1 d1_7 rfl (by decide) ?_
  refine OGo.callS (pc' := 11) (cells' := 1) (slots' := 3) (argsL := [(.ref a1), (.int (-1 : Int32))]) (St := []) C X1 (wd7 hw) (wd8 hw) (by decide) (wd10 hw) (wd9 hw) (ctF3 hw X1.2.1 a1 k1 V1 q1) (lenOf pd0 rfl) rfl d1_8 rfl rfl (by decide) (Nat.le_of_ble_eq_true rfl) rfl rfl (by decide) (by decide) (fun v5 T5 h5 Q5 X5 z5 => ?_)
  obtain ⟨hv5, K5, V5a⟩ := Q5
  subst hv5
  have K6 : Keep h0 h5 [] := K4.trans K5 (allS (Or.inr sz3) all0)
  show OGo p e below _ T5 (mkF m 11 #[.val (.ref ts), .val (.int pl), .val (.int (3 : Int32)), .val (.int fact), .val (.double sc), .second, .val (.ref a1), .unset] [])
  refine OGo.aload (pc' := 13) C X5 d1_11 rfl rfl rfl ?_
  refine OGo.iloadN (pc' := 14) C X5 d1_13 rfl rfl ?_
  refine OGo.iloadN (pc' := 15) C X5 d1_14 rfl rfl ?_
  refine OGo.iastore (pc' := 16) C X5 V5a q1 (i := pl.toNatClampNeg) d1_15 rfl hp rfl (Nat.lt_of_lt_of_eq (own_nc_lt hp.1 hp.2) (by decide)) (fun T7 h7 X7 W7 V7 => ?_)
  have K8 : Keep h0 h7 [] := K6.wr W7 (Or.inr sz3)
  refine OGo.iloadN (pc' := 17) C X7 d1_16 rfl rfl ?_
  refine OGo.newarray (pc' := 19) (cap := 3) (d0 := (.double (0 : UInt64))) (cells' := 2) (slots' := 6) C X7 (wd11 hw) rfl d1_17 rfl (by decide) (by decide) (by decide) rfl rfl rfl (by decide) (by decide) (fun T9 h9 a9 k9 X9 g9 q9 E9 V9 => ?_)
  have f11 := (((Vt.ext E1).keep K5 (ninS ne2 nin0)).other W7 ne2)
  have ne10 : ts ≠ a9 := Nat.ne_of_lt (Nat.lt_of_lt_of_eq f11.lt g9.symm)
  have ne12 : a1 ≠ a9 := Nat.ne_of_lt (Nat.lt_of_lt_of_eq V7.lt g9.symm)
  have sz13 : h0.size ≤ a9 := Nat.le_trans K8.1 (Nat.le_of_eq g9.symm)
  have K14 : Keep h0 h9 [] := K8.ext E9
  replace V9 : Arv Z h9 a9 k9 .double (3 : Int32) [(.double (0 : UInt64)), (.double (0 : UInt64)), (.double (0 : UInt64))] (.double (0 : UInt64)) := V9.pad (pad_rep [] (.double (0 : UInt64)) 3)
  refine OGo.astore (pc' := 21) C X9 d1_19 rfl rfl (l' := #[.val (.ref ts), .val (.int pl), .val (.int (3 : Int32)), .val (.int fact), .val (.double sc), .second, .val (.ref a1), .val (.ref a9)]) rfl ?_
  refine OGo.aload (pc' := 23) C X9 d1_21 rfl rfl rfl ?_
  refine OGo.iloadN (pc' := 24) C X9 d1_23 rfl rfl ?_
  refine OGo.dload (pc' := 26) C X9 d1_24 rfl rfl ?_
  refine OGo.dastore (pc' := 27) C X9 V9 q9 (i := pl.toNatClampNeg) d1_26 rfl hp rfl (Nat.lt_of_lt_of_eq (own_nc_lt hp.1 hp.2) (by decide)) (fun T15 h15 X15 W15 V15 => ?_)
  have K16 : Keep h0 h15 [] := K14.wr W15 (Or.inr sz13)
  refine OGo.new (pc' := 30) (cells' := 3) (slots' := 10) C X15 (wd12 hw) (wd13 hw) (wd5 hw) d1_27 rfl rfl rfl (by decide) (by decide) (fun T17 h17 a17 X17 g17 q17 E17 A17 D17 U17 => ?_)
  have f19 := ((f11.ext E9).other W15 ne10)
  have ne18 : ts ≠ a17 := Nat.ne_of_lt (Nat.lt_of_lt_of_eq f19.lt g17.symm)
  have f21 := ((V7.ext E9).other W15 ne12)
  have ne20 : a1 ≠ a17 := Nat.ne_of_lt (Nat.lt_of_lt_of_eq f21.lt g17.symm)
  have ne22 : a9 ≠ a17 := Nat.ne_of_lt (Nat.lt_of_lt_of_eq V15.lt g17.symm)
  have sz23 : h0.size ≤ a17 := Nat.le_trans K16.1 (Nat.le_of_eq g17.symm)
  have K24 : Keep h0 h17 [] := K16.ext E17
  have F17_terms : Fld Z h17 a17 "com/example/first_from_joins/firstfromjoins/engine/Binding" "terms" "[I" .null := D17 (Or.inr (wd30 hw)) (ty := (.array .int)) (by decide)
  have F17_facts : Fld Z h17 a17 "com/example/first_from_joins/firstfromjoins/engine/Binding" "facts" "[I" .null := D17 (Or.inr (wd32 hw)) (ty := (.array .int)) (by decide)
  have F17_parts : Fld Z h17 a17 "com/example/first_from_joins/firstfromjoins/engine/Binding" "parts" "[D" .null := D17 (Or.inr (wd34 hw)) (ty := (.array .double)) (by decide)
  have F17_score : Fld Z h17 a17 "com/example/first_from_joins/firstfromjoins/engine/Binding" "score" "D" (.double (0 : UInt64)) := D17 (Or.inr (wd36 hw)) (ty := .double) (by decide)
  refine OGo.dup (pc' := 31) C X17 d1_30 rfl rfl ?_
  refine OGo.aloadN (pc' := 32) C X17 d1_31 rfl rfl rfl ?_
  have f26 := (f19.ext E17)
  have f27 := ((((((Et.ext E1).keep K5).wr W7).ext E9).wr W15).ext E17)
  refine OGo.clone (pc' := 35) (cap := 2) (cells' := 4) (slots' := 12) C X17 (wd14 hw) (wd15 hw) (wd19 hw) (wd17 hw) (wd18 hw) (wd20 hw) f26 f27 d1_32 rfl rfl (by decide) (Nat.le_of_ble_eq_true rfl) (by decide) rfl rfl (by decide) (by decide) (fun T25 h25 b25 X25 g25 q25 E25 V25 A25 => ?_)
  have ne28 : ts ≠ b25 := Nat.ne_of_lt (Nat.lt_of_lt_of_eq f26.lt g25.symm)
  have f30 := (f21.ext E17)
  have ne29 : a1 ≠ b25 := Nat.ne_of_lt (Nat.lt_of_lt_of_eq f30.lt g25.symm)
  have f32 := (V15.ext E17)
  have ne31 : a9 ≠ b25 := Nat.ne_of_lt (Nat.lt_of_lt_of_eq f32.lt g25.symm)
  have ne33 : a17 ≠ b25 := Nat.ne_of_lt (Nat.lt_of_lt_of_eq A17.lt g25.symm)
  have sz34 : h0.size ≤ b25 := Nat.le_trans K24.1 (Nat.le_of_eq g25.symm)
  have K35 : Keep h0 h25 [] := K24.ext E25
  refine OGo.checkcast (pc' := 38) C X25 (wd21 hw) (Ins.self A25) d1_35 rfl (fun T36 X36 => ?_)
  refine OGo.aload (pc' := 40) C X36 d1_38 rfl rfl rfl ?_
  refine OGo.aload (pc' := 42) C X36 d1_40 rfl rfl rfl ?_
  refine OGo.dload (pc' := 44) C X36 d1_42 rfl rfl ?_
  have f37 := (A17.ext E25)
  have f38 := (F17_terms.ext E25)
  have f39 := (F17_facts.ext E25)
  have f40 := (F17_parts.ext E25)
  have f41 := (F17_score.ext E25)
  refine OGo.callInit (pc' := 47) (cells' := 4) (slots' := 12) (argsL := [(.ref b25), (.ref a1), (.ref a9), (.double sc)]) (St := [(.ref a17)]) C X36 rfl rfl (wd23 hw) (wd24 hw) (by decide) (wd25 hw) (wd5 hw) (ct3 hw X36.2.1 a17 b25 a1 a9 sc f37 f38 f39 f40 f41 q17) (lenOf pd1 rfl) rfl d1_44 rfl rfl (by decide) (Nat.le_of_ble_eq_true rfl) rfl rfl (by decide) (by decide) (fun v42 T42 h42 Q42 X42 z42 => ?_)
  obtain ⟨hv42, K42, E42a, F42_terms, F42_facts, F42_parts, F42_score⟩ := Q42
  subst hv42
  have K43 : Keep h0 h42 [] := K35.trans K42 (allS (Or.inr sz23) all0)
  show OGo p e below _ T42 (mkF m 47 #[.val (.ref ts), .val (.int pl), .val (.int (3 : Int32)), .val (.int fact), .val (.double sc), .second, .val (.ref a1), .val (.ref a9)] [(.ref a17)])
  have f44 := (V25.keep K42 (ninS (Ne.symm ne33) nin0))
  have f45 := ((f30.ext E25).keep K42 (ninS ne20 nin0))
  have f46 := ((f32.ext E25).keep K42 (ninS ne22 nin0))
  exact OGo.retA C X42 d1_47 hret rfl rfl hlk (⟨a17, rfl, K43, E42a, b25, a1, a9, kt, k1, k9, F42_terms, F42_facts, F42_parts, F42_score, f44, f45, f46, sz23, sz34, sz3, sz13⟩) (by decide) (by decide)
theorem ef1_4 (m : MethodId) (x0 : Addr) (x1 x3 : Int32) (x4 : UInt64) : entryFrame m #[(.ref x0), (.int x1), (.int (4 : Int32)), (.int x3), (.double x4)] 8 = mkF m 0 #[.val (.ref x0), .val (.int x1), .val (.int (4 : Int32)), .val (.int x3), .val (.double x4), .second, .unset, .unset] [] := by first | (simp [entryFrame, mkF, argsToLocals, Value.category]; done) | rfl
set_option maxRecDepth 65536 in
set_option maxHeartbeats 40000000 in
theorem ctO4 {l : Launch} {Z : State} {a0 : Array Value} (hw : HW a0 Z) {n0 : Nat} {h0 : Heap} (hn0 : n0 ≤ h0.size) (ts : Addr) (kt : ClassId) (t0 t1 pl fact : Int32) (sc : UInt64) (Vt : Arv Z h0 ts kt .int (2 : Int32) [(.int t0), (.int t1)] (.int (0 : Int32))) (Et : Exa Z h0 ts "[I") (hp : ¬ pl < 0 ∧ pl < (4 : Int32)) :
    Ctr l Z (⟨"com/example/first_from_joins/firstfromjoins/engine/Binding", "ofMatch", "([IIIID)Lcom/example/first_from_joins/firstfromjoins/engine/Binding;"⟩ : MethodName) prog_4_method_2_code 8 (some (.object "com/example/first_from_joins/firstfromjoins/engine/Binding")) ({ frames := 2, cells := 4, slots := 14, locals := 48 } : Room) n0 #[(.ref ts), (.int pl), (.int (4 : Int32)), (.int fact), (.double sc)] h0 (fun v h => ∃ b, v = some (.ref b) ∧ Keep h0 h [] ∧ own_B Z h h0.size b (4 : Int32) t0 t1 ([(.int (-1 : Int32)), (.int (-1 : Int32)), (.int (-1 : Int32)), (.int (-1 : Int32))].set pl.toNatClampNeg (.int fact)) ([(.double (0 : UInt64)), (.double (0 : UInt64)), (.double (0 : UInt64)), (.double (0 : UInt64))].set pl.toNatClampNeg (.double sc)) sc) := by
  refine Ctr.of (plainFor_of_name pn1) hn0 ?_
  intro p e s m below meth c T0 C hnm hret hlk X0
  rw [ef1_4 m ts pl fact sc]
  refine OGo.iloadN (pc' := 1) C X0 d1_0 rfl rfl ?_
  refine OGo.newarray (pc' := 3) (cap := 4) (d0 := (.int (0 : Int32))) (cells' := 1) (slots' := 4) C X0 (wd2 hw) rfl d1_1 rfl (by decide) (by decide) (by decide) rfl rfl rfl (by decide) (by decide) (fun T1 h1 a1 k1 X1 g1 q1 E1 V1 => ?_)
  have ne2 : ts ≠ a1 := Nat.ne_of_lt (Nat.lt_of_lt_of_eq Vt.lt g1.symm)
  have sz3 : h0.size ≤ a1 := Nat.le_trans (Keep.refl h0 []).1 (Nat.le_of_eq g1.symm)
  have K4 : Keep h0 h1 [] := (Keep.refl h0 []).ext E1
  replace V1 : Arv Z h1 a1 k1 .int (4 : Int32) [(.int (0 : Int32)), (.int (0 : Int32)), (.int (0 : Int32)), (.int (0 : Int32))] (.int (0 : Int32)) := V1.pad (pad_rep [] (.int (0 : Int32)) 4)
  refine OGo.astore (pc' := 5) C X1 d1_3 rfl rfl (l' := #[.val (.ref ts), .val (.int pl), .val (.int (4 : Int32)), .val (.int fact), .val (.double sc), .second, .val (.ref a1), .unset]) rfl ?_
  refine OGo.aload (pc' := 7) C X1 d1_5 rfl rfl rfl ?_
  refine OGo.iconst (pc' := 8) (z := (-1 : Int32)) C X1 d1_7 rfl (by decide) ?_
  refine OGo.callS (pc' := 11) (cells' := 1) (slots' := 4) (argsL := [(.ref a1), (.int (-1 : Int32))]) (St := []) C X1 (wd7 hw) (wd8 hw) (by decide) (wd10 hw) (wd9 hw) (ctF4 hw X1.2.1 a1 k1 V1 q1) (lenOf pd0 rfl) rfl d1_8 rfl rfl (by decide) (Nat.le_of_ble_eq_true rfl) rfl rfl (by decide) (by decide) (fun v5 T5 h5 Q5 X5 z5 => ?_)
  obtain ⟨hv5, K5, V5a⟩ := Q5
  subst hv5
  have K6 : Keep h0 h5 [] := K4.trans K5 (allS (Or.inr sz3) all0)
  show OGo p e below _ T5 (mkF m 11 #[.val (.ref ts), .val (.int pl), .val (.int (4 : Int32)), .val (.int fact), .val (.double sc), .second, .val (.ref a1), .unset] [])
  refine OGo.aload (pc' := 13) C X5 d1_11 rfl rfl rfl ?_
  refine OGo.iloadN (pc' := 14) C X5 d1_13 rfl rfl ?_
  refine OGo.iloadN (pc' := 15) C X5 d1_14 rfl rfl ?_
  refine OGo.iastore (pc' := 16) C X5 V5a q1 (i := pl.toNatClampNeg) d1_15 rfl hp rfl (Nat.lt_of_lt_of_eq (own_nc_lt hp.1 hp.2) (by decide)) (fun T7 h7 X7 W7 V7 => ?_)
  have K8 : Keep h0 h7 [] := K6.wr W7 (Or.inr sz3)
  refine OGo.iloadN (pc' := 17) C X7 d1_16 rfl rfl ?_
  refine OGo.newarray (pc' := 19) (cap := 4) (d0 := (.double (0 : UInt64))) (cells' := 2) (slots' := 8) C X7 (wd11 hw) rfl d1_17 rfl (by decide) (by decide) (by decide) rfl rfl rfl (by decide) (by decide) (fun T9 h9 a9 k9 X9 g9 q9 E9 V9 => ?_)
  have f11 := (((Vt.ext E1).keep K5 (ninS ne2 nin0)).other W7 ne2)
  have ne10 : ts ≠ a9 := Nat.ne_of_lt (Nat.lt_of_lt_of_eq f11.lt g9.symm)
  have ne12 : a1 ≠ a9 := Nat.ne_of_lt (Nat.lt_of_lt_of_eq V7.lt g9.symm)
  have sz13 : h0.size ≤ a9 := Nat.le_trans K8.1 (Nat.le_of_eq g9.symm)
  have K14 : Keep h0 h9 [] := K8.ext E9
  replace V9 : Arv Z h9 a9 k9 .double (4 : Int32) [(.double (0 : UInt64)), (.double (0 : UInt64)), (.double (0 : UInt64)), (.double (0 : UInt64))] (.double (0 : UInt64)) := V9.pad (pad_rep [] (.double (0 : UInt64)) 4)
  refine OGo.astore (pc' := 21) C X9 d1_19 rfl rfl (l' := #[.val (.ref ts), .val (.int pl), .val (.int (4 : Int32)), .val (.int fact), .val (.double sc), .second, .val (.ref a1), .val (.ref a9)]) rfl ?_
  refine OGo.aload (pc' := 23) C X9 d1_21 rfl rfl rfl ?_
  refine OGo.iloadN (pc' := 24) C X9 d1_23 rfl rfl ?_
  refine OGo.dload (pc' := 26) C X9 d1_24 rfl rfl ?_
  refine OGo.dastore (pc' := 27) C X9 V9 q9 (i := pl.toNatClampNeg) d1_26 rfl hp rfl (Nat.lt_of_lt_of_eq (own_nc_lt hp.1 hp.2) (by decide)) (fun T15 h15 X15 W15 V15 => ?_)
  have K16 : Keep h0 h15 [] := K14.wr W15 (Or.inr sz13)
  refine OGo.new (pc' := 30) (cells' := 3) (slots' := 12) C X15 (wd12 hw) (wd13 hw) (wd5 hw) d1_27 rfl rfl rfl (by decide) (by decide) (fun T17 h17 a17 X17 g17 q17 E17 A17 D17 U17 => ?_)
  have f19 := ((f11.ext E9).other W15 ne10)
  have ne18 : ts ≠ a17 := Nat.ne_of_lt (Nat.lt_of_lt_of_eq f19.lt g17.symm)
  have f21 := ((V7.ext E9).other W15 ne12)
  have ne20 : a1 ≠ a17 := Nat.ne_of_lt (Nat.lt_of_lt_of_eq f21.lt g17.symm)
  have ne22 : a9 ≠ a17 := Nat.ne_of_lt (Nat.lt_of_lt_of_eq V15.lt g17.symm)
  have sz23 : h0.size ≤ a17 := Nat.le_trans K16.1 (Nat.le_of_eq g17.symm)
  have K24 : Keep h0 h17 [] := K16.ext E17
  have F17_terms : Fld Z h17 a17 "com/example/first_from_joins/firstfromjoins/engine/Binding" "terms" "[I" .null := D17 (Or.inr (wd30 hw)) (ty := (.array .int)) (by decide)
  have F17_facts : Fld Z h17 a17 "com/example/first_from_joins/firstfromjoins/engine/Binding" "facts" "[I" .null := D17 (Or.inr (wd32 hw)) (ty := (.array .int)) (by decide)
  have F17_parts : Fld Z h17 a17 "com/example/first_from_joins/firstfromjoins/engine/Binding" "parts" "[D" .null := D17 (Or.inr (wd34 hw)) (ty := (.array .double)) (by decide)
  have F17_score : Fld Z h17 a17 "com/example/first_from_joins/firstfromjoins/engine/Binding" "score" "D" (.double (0 : UInt64)) := D17 (Or.inr (wd36 hw)) (ty := .double) (by decide)
  refine OGo.dup (pc' := 31) C X17 d1_30 rfl rfl ?_
  refine OGo.aloadN (pc' := 32) C X17 d1_31 rfl rfl rfl ?_
  have f26 := (f19.ext E17)
  have f27 := ((((((Et.ext E1).keep K5).wr W7).ext E9).wr W15).ext E17)
  refine OGo.clone (pc' := 35) (cap := 2) (cells' := 4) (slots' := 14) C X17 (wd14 hw) (wd15 hw) (wd19 hw) (wd17 hw) (wd18 hw) (wd20 hw) f26 f27 d1_32 rfl rfl (by decide) (Nat.le_of_ble_eq_true rfl) (by decide) rfl rfl (by decide) (by decide) (fun T25 h25 b25 X25 g25 q25 E25 V25 A25 => ?_)
  have ne28 : ts ≠ b25 := Nat.ne_of_lt (Nat.lt_of_lt_of_eq f26.lt g25.symm)
  have f30 := (f21.ext E17)
  have ne29 : a1 ≠ b25 := Nat.ne_of_lt (Nat.lt_of_lt_of_eq f30.lt g25.symm)
  have f32 := (V15.ext E17)
  have ne31 : a9 ≠ b25 := Nat.ne_of_lt (Nat.lt_of_lt_of_eq f32.lt g25.symm)
  have ne33 : a17 ≠ b25 := Nat.ne_of_lt (Nat.lt_of_lt_of_eq A17.lt g25.symm)
  have sz34 : h0.size ≤ b25 := Nat.le_trans K24.1 (Nat.le_of_eq g25.symm)
  have K35 : Keep h0 h25 [] := K24.ext E25
  refine OGo.checkcast (pc' := 38) C X25 (wd21 hw) (Ins.self A25) d1_35 rfl (fun T36 X36 => ?_)
  refine OGo.aload (pc' := 40) C X36 d1_38 rfl rfl rfl ?_
  refine OGo.aload (pc' := 42) C X36 d1_40 rfl rfl rfl ?_
  refine OGo.dload (pc' := 44) C X36 d1_42 rfl rfl ?_
  have f37 := (A17.ext E25)
  have f38 := (F17_terms.ext E25)
  have f39 := (F17_facts.ext E25)
  have f40 := (F17_parts.ext E25)
  have f41 := (F17_score.ext E25)
  refine OGo.callInit (pc' := 47) (cells' := 4) (slots' := 14) (argsL := [(.ref b25), (.ref a1), (.ref a9), (.double sc)]) (St := [(.ref a17)]) C X36 rfl rfl (wd23 hw) (wd24 hw) (by decide) (wd25 hw) (wd5 hw) (ct3 hw X36.2.1 a17 b25 a1 a9 sc f37 f38 f39 f40 f41 q17) (lenOf pd1 rfl) rfl d1_44 rfl rfl (by decide) (Nat.le_of_ble_eq_true rfl) rfl rfl (by decide) (by decide) (fun v42 T42 h42 Q42 X42 z42 => ?_)
  obtain ⟨hv42, K42, E42a, F42_terms, F42_facts, F42_parts, F42_score⟩ := Q42
  subst hv42
  have K43 : Keep h0 h42 [] := K35.trans K42 (allS (Or.inr sz23) all0)
  show OGo p e below _ T42 (mkF m 47 #[.val (.ref ts), .val (.int pl), .val (.int (4 : Int32)), .val (.int fact), .val (.double sc), .second, .val (.ref a1), .val (.ref a9)] [(.ref a17)])
  have f44 := (V25.keep K42 (ninS (Ne.symm ne33) nin0))
  have f45 := ((f30.ext E25).keep K42 (ninS ne20 nin0))
  have f46 := ((f32.ext E25).keep K42 (ninS ne22 nin0))
  exact OGo.retA C X42 d1_47 hret rfl rfl hlk (⟨a17, rfl, K43, E42a, b25, a1, a9, kt, k1, k9, F42_terms, F42_facts, F42_parts, F42_score, f44, f45, f46, sz23, sz34, sz3, sz13⟩) (by decide) (by decide)
theorem efT0 (m : MethodId) (x0 : Addr) : entryFrame m #[(.ref x0), (.int (0 : Int32))] 2 = mkF m 0 #[.val (.ref x0), .val (.int (0 : Int32))] [] := by first | (simp [entryFrame, mkF, argsToLocals, Value.category]; done) | rfl
set_option maxRecDepth 65536 in
set_option maxHeartbeats 40000000 in
theorem ctT0 {l : Launch} {Z : State} {a0 : Array Value} (hw : HW a0 Z) {n0 : Nat} {h0 : Heap} (hn0 : n0 ≤ h0.size) (b : Addr) (lo : Nat) (n t0 t1 : Int32) (fs ps : List Value) (sc : UInt64) (B : own_B Z h0 lo b n t0 t1 fs ps sc) :
    Ctr l Z (⟨"com/example/first_from_joins/firstfromjoins/engine/Binding", "term", "(I)I"⟩ : MethodName) prog_4_method_3_code 2 (some .int) ({ frames := 0, cells := 0, slots := 0, locals := 0 } : Room) n0 #[(.ref b), (.int (0 : Int32))] h0 (fun v h => v = some (.int t0) ∧ h = h0) := by
  refine Ctr.of (plainFor_of_name pn1) hn0 ?_
  intro p e s m below meth c T0 C hnm hret hlk X0
  rw [efT0 m b]
  obtain ⟨E, tb, fb, pb, kt, kf, kp, F1, F2, F3, F4, V1, V2, V3, l1, l2, l3, l4⟩ := B
  refine OGo.aloadN (pc' := 1) C X0 d5_0 rfl rfl rfl ?_
  refine OGo.getfield (pc' := 4) C X0 (host := "") (Or.inl (wd29 hw)) Via.refl F1 d5_1 rfl (fun T1 X1 => ?_)
  refine OGo.iloadN (pc' := 5) C X1 d5_4 rfl rfl ?_
  refine OGo.iaload (pc' := 6) C X1 V1 d5_5 rfl ⟨by decide, by decide⟩ (v := t0) rfl ?_
  exact OGo.retInt C X1 d5_6 hret hlk (⟨rfl, rfl⟩) (by decide) (by decide)
theorem efT1 (m : MethodId) (x0 : Addr) : entryFrame m #[(.ref x0), (.int (1 : Int32))] 2 = mkF m 0 #[.val (.ref x0), .val (.int (1 : Int32))] [] := by first | (simp [entryFrame, mkF, argsToLocals, Value.category]; done) | rfl
set_option maxRecDepth 65536 in
set_option maxHeartbeats 40000000 in
theorem ctT1 {l : Launch} {Z : State} {a0 : Array Value} (hw : HW a0 Z) {n0 : Nat} {h0 : Heap} (hn0 : n0 ≤ h0.size) (b : Addr) (lo : Nat) (n t0 t1 : Int32) (fs ps : List Value) (sc : UInt64) (B : own_B Z h0 lo b n t0 t1 fs ps sc) :
    Ctr l Z (⟨"com/example/first_from_joins/firstfromjoins/engine/Binding", "term", "(I)I"⟩ : MethodName) prog_4_method_3_code 2 (some .int) ({ frames := 0, cells := 0, slots := 0, locals := 0 } : Room) n0 #[(.ref b), (.int (1 : Int32))] h0 (fun v h => v = some (.int t1) ∧ h = h0) := by
  refine Ctr.of (plainFor_of_name pn1) hn0 ?_
  intro p e s m below meth c T0 C hnm hret hlk X0
  rw [efT1 m b]
  obtain ⟨E, tb, fb, pb, kt, kf, kp, F1, F2, F3, F4, V1, V2, V3, l1, l2, l3, l4⟩ := B
  refine OGo.aloadN (pc' := 1) C X0 d5_0 rfl rfl rfl ?_
  refine OGo.getfield (pc' := 4) C X0 (host := "") (Or.inl (wd29 hw)) Via.refl F1 d5_1 rfl (fun T1 X1 => ?_)
  refine OGo.iloadN (pc' := 5) C X1 d5_4 rfl rfl ?_
  refine OGo.iaload (pc' := 6) C X1 V1 d5_5 rfl ⟨by decide, by decide⟩ (v := t1) rfl ?_
  exact OGo.retInt C X1 d5_6 hret hlk (⟨rfl, rfl⟩) (by decide) (by decide)
theorem ef6 (m : MethodId) (x0 : Addr) : entryFrame m #[(.ref x0)] 1 = mkF m 0 #[.val (.ref x0)] [] := by first | (simp [entryFrame, mkF, argsToLocals, Value.category]; done) | rfl
set_option maxRecDepth 65536 in
set_option maxHeartbeats 40000000 in
theorem ct6 {l : Launch} {Z : State} {a0 : Array Value} (hw : HW a0 Z) {n0 : Nat} {h0 : Heap} (hn0 : n0 ≤ h0.size) (b : Addr) (lo : Nat) (n t0 t1 : Int32) (fs ps : List Value) (sc : UInt64) (B : own_B Z h0 lo b n t0 t1 fs ps sc) :
    Ctr l Z (⟨"com/example/first_from_joins/firstfromjoins/engine/Binding", "score", "()D"⟩ : MethodName) prog_4_method_4_code 1 (some .double) ({ frames := 0, cells := 0, slots := 0, locals := 0 } : Room) n0 #[(.ref b)] h0 (fun v h => v = some (.double sc) ∧ h = h0) := by
  refine Ctr.of (plainFor_of_name pn1) hn0 ?_
  intro p e s m below meth c T0 C hnm hret hlk X0
  rw [ef6 m b]
  obtain ⟨E, tb, fb, pb, kt, kf, kp, F1, F2, F3, F4, V1, V2, V3, l1, l2, l3, l4⟩ := B
  refine OGo.aloadN (pc' := 1) C X0 d6_0 rfl rfl rfl ?_
  refine OGo.getfield (pc' := 4) C X0 (host := "") (Or.inl (wd35 hw)) Via.refl F4 d6_1 rfl (fun T1 X1 => ?_)
  exact OGo.retD C X1 d6_4 hret hlk (⟨rfl, rfl⟩) (by decide) (by decide)
theorem ef7 (m : MethodId) (x0 : Addr) (x1 : Int32) : entryFrame m #[(.ref x0), (.int x1)] 2 = mkF m 0 #[.val (.ref x0), .val (.int x1)] [] := by first | (simp [entryFrame, mkF, argsToLocals, Value.category]; done) | rfl
set_option maxRecDepth 65536 in
set_option maxHeartbeats 40000000 in
theorem ct7 {l : Launch} {Z : State} {a0 : Array Value} (hw : HW a0 Z) {n0 : Nat} {h0 : Heap} (hn0 : n0 ≤ h0.size) (b : Addr) (lo : Nat) (n t0 t1 : Int32) (fs ps : List Value) (sc : UInt64) (j z : Int32) (B : own_B Z h0 lo b n t0 t1 fs ps sc) (hj : ¬ j < 0 ∧ j < n) (hz : fs.getD j.toNatClampNeg (.int (0 : Int32)) = .int z) :
    Ctr l Z (⟨"com/example/first_from_joins/firstfromjoins/engine/Binding", "fact", "(I)I"⟩ : MethodName) prog_4_method_5_code 2 (some .int) ({ frames := 0, cells := 0, slots := 0, locals := 0 } : Room) n0 #[(.ref b), (.int j)] h0 (fun v h => v = some (.int z) ∧ h = h0) := by
  refine Ctr.of (plainFor_of_name pn1) hn0 ?_
  intro p e s m below meth c T0 C hnm hret hlk X0
  rw [ef7 m b j]
  obtain ⟨E, tb, fb, pb, kt, kf, kp, F1, F2, F3, F4, V1, V2, V3, l1, l2, l3, l4⟩ := B
  refine OGo.aloadN (pc' := 1) C X0 d7_0 rfl rfl rfl ?_
  refine OGo.getfield (pc' := 4) C X0 (host := "") (Or.inl (wd31 hw)) Via.refl F2 d7_1 rfl (fun T1 X1 => ?_)
  refine OGo.iloadN (pc' := 5) C X1 d7_4 rfl rfl ?_
  refine OGo.iaload (pc' := 6) C X1 V2 d7_5 rfl hj (v := z) hz ?_
  exact OGo.retInt C X1 d7_6 hret hlk (⟨rfl, rfl⟩) (by decide) (by decide)
theorem ef8 (m : MethodId) (x0 : Addr) (x1 : Int32) : entryFrame m #[(.ref x0), (.int x1)] 2 = mkF m 0 #[.val (.ref x0), .val (.int x1)] [] := by first | (simp [entryFrame, mkF, argsToLocals, Value.category]; done) | rfl
set_option maxRecDepth 65536 in
set_option maxHeartbeats 40000000 in
theorem ct8 {l : Launch} {Z : State} {a0 : Array Value} (hw : HW a0 Z) {n0 : Nat} {h0 : Heap} (hn0 : n0 ≤ h0.size) (b : Addr) (lo : Nat) (n t0 t1 : Int32) (fs ps : List Value) (sc : UInt64) (j : Int32) (z : UInt64) (B : own_B Z h0 lo b n t0 t1 fs ps sc) (hj : ¬ j < 0 ∧ j < n) (hz : ps.getD j.toNatClampNeg (.double (0 : UInt64)) = .double z) :
    Ctr l Z (⟨"com/example/first_from_joins/firstfromjoins/engine/Binding", "part", "(I)D"⟩ : MethodName) prog_4_method_6_code 2 (some .double) ({ frames := 0, cells := 0, slots := 0, locals := 0 } : Room) n0 #[(.ref b), (.int j)] h0 (fun v h => v = some (.double z) ∧ h = h0) := by
  refine Ctr.of (plainFor_of_name pn1) hn0 ?_
  intro p e s m below meth c T0 C hnm hret hlk X0
  rw [ef8 m b j]
  obtain ⟨E, tb, fb, pb, kt, kf, kp, F1, F2, F3, F4, V1, V2, V3, l1, l2, l3, l4⟩ := B
  refine OGo.aloadN (pc' := 1) C X0 d8_0 rfl rfl rfl ?_
  refine OGo.getfield (pc' := 4) C X0 (host := "") (Or.inl (wd33 hw)) Via.refl F3 d8_1 rfl (fun T1 X1 => ?_)
  refine OGo.iloadN (pc' := 5) C X1 d8_4 rfl rfl ?_
  refine OGo.daload (pc' := 6) C X1 V3 d8_5 rfl hj (v := z) hz ?_
  exact OGo.retD C X1 d8_6 hret hlk (⟨rfl, rfl⟩) (by decide) (by decide)
theorem ef0 (m : MethodId) (x0 : Int32) (x1 : Int32) (x2 : Int32) (x3 : Int32) (x4 : Int32) (x5 : Int32) : entryFrame m #[(.int x0), (.int x1), (.int x2), (.int x3), (.int x4), (.int x5)] maxLocals = mkF m 0 #[.val (.int x0), .val (.int x1), .val (.int x2), .val (.int x3), .val (.int x4), .val (.int x5), .unset, .unset, .unset, .unset, .unset, .unset, .unset, .unset, .unset, .unset, .unset] [] := by first | (simp [entryFrame, mkF, argsToLocals, Value.category, maxLocals]; done) | rfl
set_option maxRecDepth 65536 in
set_option maxHeartbeats 40000000 in
theorem ct0 {l : Launch} {Z : State} {a0 : Array Value} (hw : HW a0 Z) {n0 : Nat} {h0 : Heap} (hn0 : n0 ≤ h0.size) (i0 : Int32) (i1 : Int32) (i2 : Int32) (i3 : Int32) (i4 : Int32) (i5 : Int32)  :
    Ctr l Z x code maxLocals ret room_1 n0 #[(.int i0), (.int i1), (.int i2), (.int i3), (.int i4), (.int i5)] h0 (fun v h => v = some (.int 1)) := by
  refine Ctr.of (plainFor_of_name pn2) hn0 ?_
  intro p e s m below meth c T0 C hnm hret hlk X0
  rw [ef0 m i0 i1 i2 i3 i4 i5]
  refine OGo.iconst (pc' := 1) (z := (1 : Int32)) C X0 at_0 rfl (by decide) ?_
  refine OGo.iloadN (pc' := 2) C X0 at_1 rfl rfl ?_
  refine OGo.iconst (pc' := 3) (z := (3 : Int32)) C X0 at_2 rfl (by decide) ?_
  refine OGo.iand (pc' := 4) (z := (i2 &&& (3 : Int32))) C X0 at_3 rfl rfl ?_
  obtain ⟨pt, h_pt⟩ : ∃ z : Int32, (1 : Int32) + (i2 &&& (3 : Int32)) = z := ⟨_, rfl⟩
  refine OGo.iadd (pc' := 5) (z := pt) C X0 at_4 rfl h_pt ?_
  refine OGo.istore (pc' := 7) C X0 at_5 rfl (l' := #[.val (.int i0), .val (.int i1), .val (.int i2), .val (.int i3), .val (.int i4), .val (.int i5), .val (.int pt), .unset, .unset, .unset, .unset, .unset, .unset, .unset, .unset, .unset, .unset]) rfl ?_
  have hpt : pt = 1 ∨ pt = 2 ∨ pt = 3 ∨ pt = 4 := by
    have q := c_mask i2 3 2 (by decide) (by decide)
    have q2 := c_iadd 1 (i2 &&& 3)
    rw [h_pt] at q2; have e1 : (1 : Int32).toInt = 1 := by decide
    have := rng32 pt
    have h5 : pt.toInt = 1 ∨ pt.toInt = 2 ∨ pt.toInt = 3 ∨ pt.toInt = 4 := by omega
    rcases h5 with h | h | h | h
    · exact Or.inl (Int32.toInt_inj.mp h)
    · exact Or.inr (Or.inl (Int32.toInt_inj.mp h))
    · exact Or.inr (Or.inr (Or.inl (Int32.toInt_inj.mp h)))
    · exact Or.inr (Or.inr (Or.inr (Int32.toInt_inj.mp h)))
  rcases hpt with rfl | rfl | rfl | rfl
  · refine OGo.iloadN (pc' := 8) C X0 at_7 rfl rfl ?_
    refine OGo.iconst (pc' := 9) (z := (2 : Int32)) C X0 at_8 rfl (by decide) ?_
    refine OGo.iushr (pc' := 10) (z := ((i2.toUInt32 >>> ((2 : Int32) &&& 31).toUInt32).toInt32)) C X0 at_9 rfl rfl ?_
    refine OGo.ldcInt (pc' := 12) C X0 (wd0 hw) at_10 rfl ?_
    obtain ⟨pm, h_pm⟩ : ∃ z : Int32, ((i2.toUInt32 >>> ((2 : Int32) &&& 31).toUInt32).toInt32) &&& (65535 : Int32) = z := ⟨_, rfl⟩
    refine OGo.iand (pc' := 13) (z := pm) C X0 at_12 rfl h_pm ?_
    refine OGo.iload (pc' := 15) C X0 at_13 rfl rfl ?_
    obtain ⟨pl, h_pl⟩ : ∃ z : Int32, pm % (1 : Int32) = z := ⟨_, rfl⟩
    refine OGo.irem (pc' := 16) (z := pl) C X0 at_15 rfl (by decide) h_pl ?_
    refine OGo.istore (pc' := 18) C X0 at_16 rfl (l' := #[.val (.int i0), .val (.int i1), .val (.int i2), .val (.int i3), .val (.int i4), .val (.int i5), .val (.int (1 : Int32)), .val (.int pl), .unset, .unset, .unset, .unset, .unset, .unset, .unset, .unset, .unset]) rfl ?_
    have hp : ¬ pl < 0 ∧ pl < (1 : Int32) := by
      have e0 : (0 : Int32).toInt = 0 := by decide
      have en : (1 : Int32).toInt = 1 := by decide
      have q := (c_iremV pm (1 : Int32)).1 (by rw [← h_pm]; exact (c_and _ _ (by decide)).1) (by omega)
      rw [h_pl] at q
      rw [Int32.lt_iff_toInt_lt, Int32.lt_iff_toInt_lt, e0]; omega
    refine OGo.iload (pc' := 20) C X0 at_18 rfl rfl ?_
    refine OGo.ldcInt (pc' := 22) C X0 (wd1 hw) at_20 rfl ?_
    obtain ⟨om, h_om⟩ : ∃ z : Int32, i5 &&& (2147483647 : Int32) = z := ⟨_, rfl⟩
    refine OGo.iand (pc' := 23) (z := om) C X0 at_22 rfl h_om ?_
    refine OGo.iload (pc' := 25) C X0 at_23 rfl rfl ?_
    obtain ⟨ot, h_ot⟩ : ∃ z : Int32, om % (1 : Int32) = z := ⟨_, rfl⟩
    refine OGo.irem (pc' := 26) (z := ot) C X0 at_25 rfl (by decide) h_ot ?_
    refine OGo.istore (pc' := 28) C X0 at_26 rfl (l' := #[.val (.int i0), .val (.int i1), .val (.int i2), .val (.int i3), .val (.int i4), .val (.int i5), .val (.int (1 : Int32)), .val (.int pl), .val (.int ot), .unset, .unset, .unset, .unset, .unset, .unset, .unset, .unset]) rfl ?_
    have ho : ¬ ot < 0 ∧ ot < (1 : Int32) := by
      have e0 : (0 : Int32).toInt = 0 := by decide
      have en : (1 : Int32).toInt = 1 := by decide
      have q := (c_iremV om (1 : Int32)).1 (by rw [← h_om]; exact (c_and _ _ (by decide)).1) (by omega)
      rw [h_ot] at q
      rw [Int32.lt_iff_toInt_lt, Int32.lt_iff_toInt_lt, e0]; omega
    refine OGo.iload (pc' := 30) C X0 at_28 rfl rfl ?_
    obtain ⟨sc, h_sc⟩ : ∃ z : UInt64, FP.i2d i4 = z := ⟨_, rfl⟩
    refine OGo.i2d (pc' := 31) (v := sc) C X0 at_30 rfl h_sc ?_
    refine OGo.dstore (pc' := 33) C X0 at_31 rfl (l' := #[.val (.int i0), .val (.int i1), .val (.int i2), .val (.int i3), .val (.int i4), .val (.int i5), .val (.int (1 : Int32)), .val (.int pl), .val (.int ot), .val (.double sc), .second, .unset, .unset, .unset, .unset, .unset, .unset]) rfl ?_
    refine OGo.iconst (pc' := 34) (z := (2 : Int32)) C X0 at_33 rfl (by decide) ?_
    refine OGo.newarrayE (pc' := 36) (cap := 2) (d0 := (.int (0 : Int32))) (cells' := 1) (slots' := 2) C X0 (wd2 hw) rfl (ad := "[I") (by decide) at_34 rfl (by decide) (by decide) (by decide) rfl rfl rfl (by decide) (by decide) (fun T1 h1 a1 k1 X1 g1 q1 E1 V1 A1 => ?_)
    replace V1 : Arv Z h1 a1 k1 .int (2 : Int32) [(.int (0 : Int32)), (.int (0 : Int32))] (.int (0 : Int32)) := V1.pad (pad_rep [] (.int (0 : Int32)) 2)
    refine OGo.astore (pc' := 38) C X1 at_36 rfl rfl (l' := #[.val (.int i0), .val (.int i1), .val (.int i2), .val (.int i3), .val (.int i4), .val (.int i5), .val (.int (1 : Int32)), .val (.int pl), .val (.int ot), .val (.double sc), .second, .val (.ref a1), .unset, .unset, .unset, .unset, .unset]) rfl ?_
    refine OGo.aload (pc' := 40) C X1 at_38 rfl rfl rfl ?_
    refine OGo.iconst (pc' := 41) (z := (0 : Int32)) C X1 at_40 rfl (by decide) ?_
    refine OGo.iloadN (pc' := 42) C X1 at_41 rfl rfl ?_
    refine OGo.iastore (pc' := 43) C X1 V1 q1 (i := 0) at_42 rfl ⟨by decide, by decide⟩ (by decide) (Nat.le_of_ble_eq_true rfl) (fun T2 h2 X2 W2 V2 => ?_)
    replace V2 : Arv Z h2 a1 k1 .int (2 : Int32) [(.int i0), (.int (0 : Int32))] (.int (0 : Int32)) := V2
    refine OGo.aload (pc' := 45) C X2 at_43 rfl rfl rfl ?_
    refine OGo.iconst (pc' := 46) (z := (1 : Int32)) C X2 at_45 rfl (by decide) ?_
    refine OGo.iloadN (pc' := 47) C X2 at_46 rfl rfl ?_
    refine OGo.iastore (pc' := 48) C X2 V2 q1 (i := 1) at_47 rfl ⟨by decide, by decide⟩ (by decide) (Nat.le_of_ble_eq_true rfl) (fun T3 h3 X3 W3 V3 => ?_)
    replace V3 : Arv Z h3 a1 k1 .int (2 : Int32) [(.int i0), (.int i1)] (.int (0 : Int32)) := V3
    refine OGo.aload (pc' := 50) C X3 at_48 rfl rfl rfl ?_
    refine OGo.iload (pc' := 52) C X3 at_50 rfl rfl ?_
    refine OGo.iload (pc' := 54) C X3 at_52 rfl rfl ?_
    refine OGo.iloadN (pc' := 55) C X3 at_54 rfl rfl ?_
    refine OGo.dload (pc' := 57) C X3 at_55 rfl rfl ?_
    have hlt := V3.lt
    have f4 := ((A1.wr W2).wr W3)
    refine OGo.callS (pc' := 60) (cells' := 5) (slots' := 10) (argsL := [(.ref a1), (.int pl), (.int (1 : Int32)), (.int i3), (.double sc)]) (St := []) C X3 (wd3 hw) (wd4 hw) (by decide) (wd6 hw) (wd5 hw) (ctO1 hw X3.2.1 a1 k1 i0 i1 pl i3 sc V3 f4 hp) (lenOf pd2 rfl) rfl at_57 rfl rfl (by decide) (Nat.le_of_ble_eq_true rfl) rfl rfl (by decide) (by decide) (fun v5 T5 h5 Q5 X5 z5 => ?_)
    obtain ⟨b5, hv5, K5, B5⟩ := Q5
    subst hv5
    show OGo p e below _ T5 (mkF m 60 #[.val (.int i0), .val (.int i1), .val (.int i2), .val (.int i3), .val (.int i4), .val (.int i5), .val (.int (1 : Int32)), .val (.int pl), .val (.int ot), .val (.double sc), .second, .val (.ref a1), .unset, .unset, .unset, .unset, .unset] [(.ref b5)])
    refine OGo.astore (pc' := 62) C X5 at_60 rfl rfl (l' := #[.val (.int i0), .val (.int i1), .val (.int i2), .val (.int i3), .val (.int i4), .val (.int i5), .val (.int (1 : Int32)), .val (.int pl), .val (.int ot), .val (.double sc), .second, .val (.ref a1), .val (.ref b5), .unset, .unset, .unset, .unset]) rfl ?_
    refine OGo.aload (pc' := 64) C X5 at_62 rfl rfl rfl ?_
    refine OGo.iconst (pc' := 65) (z := (0 : Int32)) C X5 at_64 rfl (by decide) ?_
    refine OGo.iloadN (pc' := 66) C X5 at_65 rfl rfl ?_
    refine OGo.iconst (pc' := 67) (z := (-1 : Int32)) C X5 at_66 rfl (by decide) ?_
    refine OGo.ixor (pc' := 68) (z := (i0 ^^^ (-1 : Int32))) C X5 at_67 rfl rfl ?_
    have f6 := (V3.keep K5 nin0)
    refine OGo.iastore (pc' := 69) C X5 f6 q1 (i := 0) at_68 rfl ⟨by decide, by decide⟩ (by decide) (Nat.le_of_ble_eq_true rfl) (fun T7 h7 X7 W7 V7 => ?_)
    replace V7 : Arv Z h7 a1 k1 .int (2 : Int32) [(.int (i0 ^^^ (-1 : Int32))), (.int i1)] (.int (0 : Int32)) := V7
    refine OGo.aload (pc' := 71) C X7 at_69 rfl rfl rfl ?_
    refine OGo.iconst (pc' := 72) (z := (1 : Int32)) C X7 at_71 rfl (by decide) ?_
    refine OGo.iloadN (pc' := 73) C X7 at_72 rfl rfl ?_
    refine OGo.iconst (pc' := 74) (z := (-1 : Int32)) C X7 at_73 rfl (by decide) ?_
    refine OGo.ixor (pc' := 75) (z := (i1 ^^^ (-1 : Int32))) C X7 at_74 rfl rfl ?_
    refine OGo.iastore (pc' := 76) C X7 V7 q1 (i := 1) at_75 rfl ⟨by decide, by decide⟩ (by decide) (Nat.le_of_ble_eq_true rfl) (fun T8 h8 X8 W8 V8 => ?_)
    replace V8 : Arv Z h8 a1 k1 .int (2 : Int32) [(.int (i0 ^^^ (-1 : Int32))), (.int (i1 ^^^ (-1 : Int32)))] (.int (0 : Int32)) := V8
    refine OGo.aload (pc' := 78) C X8 at_76 rfl rfl rfl ?_
    refine OGo.iconst (pc' := 79) (z := (0 : Int32)) C X8 at_78 rfl (by decide) ?_
    have f9 := (own_B_wr (own_B_wr B5 W7 hlt) W8 hlt)
    have f11 := ((B5.1.wr W7).wr W8)
    refine OGo.callV (pc' := 82) (cells' := 5) (slots' := 10) (argsL := [(.int (0 : Int32))]) (St := []) C X8 (wd37 hw) (wd38 hw) (wd40 hw) (wd39 hw) (by decide) f11 (wd41 hw) (wd5 hw) (ctT0 hw X8.2.1 b5 h3.size (1 : Int32) i0 i1 ([(.int (-1 : Int32))].set pl.toNatClampNeg (.int i3)) ([(.double (0 : UInt64))].set pl.toNatClampNeg (.double sc)) sc f9) (lenOf pd3 rfl) rfl at_79 rfl rfl (by decide) (Nat.le_of_ble_eq_true rfl) rfl rfl (by decide) (by decide) (fun v10 T10 h10 Q10 X10 z10 => ?_)
    obtain ⟨hv10, hh10⟩ := Q10
    subst hv10; rw [hh10] at X10
    show OGo p e below _ T10 (mkF m 82 #[.val (.int i0), .val (.int i1), .val (.int i2), .val (.int i3), .val (.int i4), .val (.int i5), .val (.int (1 : Int32)), .val (.int pl), .val (.int ot), .val (.double sc), .second, .val (.ref a1), .val (.ref b5), .unset, .unset, .unset, .unset] [(.int i0)])
    refine OGo.iloadN (pc' := 83) C X10 at_82 rfl rfl ?_
    refine OGo.icmpNo (pc' := 86) C X10 at_83 rfl (teq rfl).2 ?_
    refine OGo.aload (pc' := 88) C X10 at_86 rfl rfl rfl ?_
    refine OGo.iconst (pc' := 89) (z := (1 : Int32)) C X10 at_88 rfl (by decide) ?_
    refine OGo.callV (pc' := 92) (cells' := 5) (slots' := 10) (argsL := [(.int (1 : Int32))]) (St := []) C X10 (wd37 hw) (wd38 hw) (wd40 hw) (wd39 hw) (by decide) f11 (wd41 hw) (wd5 hw) (ctT1 hw X10.2.1 b5 h3.size (1 : Int32) i0 i1 ([(.int (-1 : Int32))].set pl.toNatClampNeg (.int i3)) ([(.double (0 : UInt64))].set pl.toNatClampNeg (.double sc)) sc f9) (lenOf pd3 rfl) rfl at_89 rfl rfl (by decide) (Nat.le_of_ble_eq_true rfl) rfl rfl (by decide) (by decide) (fun v12 T12 h12 Q12 X12 z12 => ?_)
    obtain ⟨hv12, hh12⟩ := Q12
    subst hv12; rw [hh12] at X12
    show OGo p e below _ T12 (mkF m 92 #[.val (.int i0), .val (.int i1), .val (.int i2), .val (.int i3), .val (.int i4), .val (.int i5), .val (.int (1 : Int32)), .val (.int pl), .val (.int ot), .val (.double sc), .second, .val (.ref a1), .val (.ref b5), .unset, .unset, .unset, .unset] [(.int i1)])
    refine OGo.iloadN (pc' := 93) C X12 at_92 rfl rfl ?_
    refine OGo.icmpNo (pc' := 96) C X12 at_93 rfl (teq rfl).2 ?_
    refine OGo.aload (pc' := 98) C X12 at_96 rfl rfl rfl ?_
    refine OGo.callV (pc' := 101) (cells' := 5) (slots' := 10) (argsL := []) (St := []) C X12 (wd42 hw) (wd43 hw) (wd45 hw) (wd44 hw) (by decide) f11 (wd46 hw) (wd5 hw) (ct6 hw X12.2.1 b5 h3.size (1 : Int32) i0 i1 ([(.int (-1 : Int32))].set pl.toNatClampNeg (.int i3)) ([(.double (0 : UInt64))].set pl.toNatClampNeg (.double sc)) sc f9) (lenOf pd4 rfl) rfl at_98 rfl rfl (by decide) (Nat.le_of_ble_eq_true rfl) rfl rfl (by decide) (by decide) (fun v13 T13 h13 Q13 X13 z13 => ?_)
    obtain ⟨hv13, hh13⟩ := Q13
    subst hv13; rw [hh13] at X13
    show OGo p e below _ T13 (mkF m 101 #[.val (.int i0), .val (.int i1), .val (.int i2), .val (.int i3), .val (.int i4), .val (.int i5), .val (.int (1 : Int32)), .val (.int pl), .val (.int ot), .val (.double sc), .second, .val (.ref a1), .val (.ref b5), .unset, .unset, .unset, .unset] [(.double sc)])
    refine OGo.dload (pc' := 103) C X13 at_101 rfl rfl ?_
    refine OGo.dcmp (pc' := 104) (v := (0 : Int32)) C X13 at_103 rfl (dcmpV_self (h_sc ▸ (i2d_fin _).noNaN) .l) ?_
    refine OGo.ifNo (pc' := 107) C X13 at_104 rfl (teq (by decide : (0 : Int32) = (0 : Int32))).2 ?_
    refine OGo.aload (pc' := 109) C X13 at_107 rfl rfl rfl ?_
    refine OGo.iload (pc' := 111) C X13 at_109 rfl rfl ?_
    refine OGo.callV (pc' := 114) (cells' := 5) (slots' := 10) (argsL := [(.int pl)]) (St := []) C X13 (wd47 hw) (wd48 hw) (wd50 hw) (wd49 hw) (by decide) f11 (wd51 hw) (wd5 hw) (ct7 hw X13.2.1 b5 h3.size (1 : Int32) i0 i1 ([(.int (-1 : Int32))].set pl.toNatClampNeg (.int i3)) ([(.double (0 : UInt64))].set pl.toNatClampNeg (.double sc)) sc pl i3 f9 hp (by exact (own_setget_eq (Nat.lt_of_lt_of_eq (own_nc_lt hp.1 hp.2) (by decide))))) (lenOf pd3 rfl) rfl at_111 rfl rfl (by decide) (Nat.le_of_ble_eq_true rfl) rfl rfl (by decide) (by decide) (fun v14 T14 h14 Q14 X14 z14 => ?_)
    obtain ⟨hv14, hh14⟩ := Q14
    subst hv14; rw [hh14] at X14
    show OGo p e below _ T14 (mkF m 114 #[.val (.int i0), .val (.int i1), .val (.int i2), .val (.int i3), .val (.int i4), .val (.int i5), .val (.int (1 : Int32)), .val (.int pl), .val (.int ot), .val (.double sc), .second, .val (.ref a1), .val (.ref b5), .unset, .unset, .unset, .unset] [(.int i3)])
    refine OGo.iloadN (pc' := 115) C X14 at_114 rfl rfl ?_
    refine OGo.icmpNo (pc' := 118) C X14 at_115 rfl (teq rfl).2 ?_
    refine OGo.aload (pc' := 120) C X14 at_118 rfl rfl rfl ?_
    refine OGo.iload (pc' := 122) C X14 at_120 rfl rfl ?_
    refine OGo.callV (pc' := 125) (cells' := 5) (slots' := 10) (argsL := [(.int pl)]) (St := []) C X14 (wd52 hw) (wd53 hw) (wd55 hw) (wd54 hw) (by decide) f11 (wd56 hw) (wd5 hw) (ct8 hw X14.2.1 b5 h3.size (1 : Int32) i0 i1 ([(.int (-1 : Int32))].set pl.toNatClampNeg (.int i3)) ([(.double (0 : UInt64))].set pl.toNatClampNeg (.double sc)) sc pl sc f9 hp (by exact (own_setget_eq (Nat.lt_of_lt_of_eq (own_nc_lt hp.1 hp.2) (by decide))))) (lenOf pd5 rfl) rfl at_122 rfl rfl (by decide) (Nat.le_of_ble_eq_true rfl) rfl rfl (by decide) (by decide) (fun v15 T15 h15 Q15 X15 z15 => ?_)
    obtain ⟨hv15, hh15⟩ := Q15
    subst hv15; rw [hh15] at X15
    show OGo p e below _ T15 (mkF m 125 #[.val (.int i0), .val (.int i1), .val (.int i2), .val (.int i3), .val (.int i4), .val (.int i5), .val (.int (1 : Int32)), .val (.int pl), .val (.int ot), .val (.double sc), .second, .val (.ref a1), .val (.ref b5), .unset, .unset, .unset, .unset] [(.double sc)])
    refine OGo.dload (pc' := 127) C X15 at_125 rfl rfl ?_
    refine OGo.dcmp (pc' := 128) (v := (0 : Int32)) C X15 at_127 rfl (dcmpV_self (h_sc ▸ (i2d_fin _).noNaN) .l) ?_
    refine OGo.ifNo (pc' := 131) C X15 at_128 rfl (teq (by decide : (0 : Int32) = (0 : Int32))).2 ?_
    refine OGo.iconst (pc' := 132) (z := (1 : Int32)) C X15 at_131 rfl (by decide) ?_
    refine OGo.goto (pc' := 136) C X15 at_132 (by decide) (by decide) ?_
    refine OGo.istore (pc' := 138) C X15 at_136 rfl (l' := #[.val (.int i0), .val (.int i1), .val (.int i2), .val (.int i3), .val (.int i4), .val (.int i5), .val (.int (1 : Int32)), .val (.int pl), .val (.int ot), .val (.double sc), .second, .val (.ref a1), .val (.ref b5), .val (.int (1 : Int32)), .unset, .unset, .unset]) rfl ?_
    refine OGo.iload (pc' := 140) C X15 at_138 rfl rfl ?_
    refine OGo.iload (pc' := 142) C X15 at_140 rfl rfl ?_
    by_cases eop : ot = pl
    · refine OGo.icmpNo (pc' := 145) C X15 at_142 rfl (teq eop).2 ?_
      refine OGo.iloadN (pc' := 146) C X15 at_145 rfl rfl ?_
      refine OGo.goto (pc' := 150) C X15 at_146 (by decide) (by decide) ?_
      refine OGo.istore (pc' := 152) C X15 at_150 rfl (l' := #[.val (.int i0), .val (.int i1), .val (.int i2), .val (.int i3), .val (.int i4), .val (.int i5), .val (.int (1 : Int32)), .val (.int pl), .val (.int ot), .val (.double sc), .second, .val (.ref a1), .val (.ref b5), .val (.int (1 : Int32)), .val (.int i3), .unset, .unset]) rfl ?_
      refine OGo.iload (pc' := 154) C X15 at_152 rfl rfl ?_
      refine OGo.iload (pc' := 156) C X15 at_154 rfl rfl ?_
      refine OGo.icmpNo (pc' := 159) C X15 at_156 rfl (teq eop).2 ?_
      refine OGo.dload (pc' := 161) C X15 at_159 rfl rfl ?_
      refine OGo.goto (pc' := 165) C X15 at_161 (by decide) (by decide) ?_
      refine OGo.dstore (pc' := 167) C X15 at_165 rfl (l' := #[.val (.int i0), .val (.int i1), .val (.int i2), .val (.int i3), .val (.int i4), .val (.int i5), .val (.int (1 : Int32)), .val (.int pl), .val (.int ot), .val (.double sc), .second, .val (.ref a1), .val (.ref b5), .val (.int (1 : Int32)), .val (.int i3), .val (.double sc), .second]) rfl ?_
      refine OGo.iload (pc' := 169) C X15 at_167 rfl rfl ?_
      refine OGo.ifNo (pc' := 172) C X15 at_169 rfl (feq (by decide : ¬ (1 : Int32) = (0 : Int32))).1 ?_
      refine OGo.aload (pc' := 174) C X15 at_172 rfl rfl rfl ?_
      refine OGo.iload (pc' := 176) C X15 at_174 rfl rfl ?_
      refine OGo.callV (pc' := 179) (cells' := 5) (slots' := 10) (argsL := [(.int ot)]) (St := []) C X15 (wd47 hw) (wd48 hw) (wd50 hw) (wd49 hw) (by decide) f11 (wd51 hw) (wd5 hw) (ct7 hw X15.2.1 b5 h3.size (1 : Int32) i0 i1 ([(.int (-1 : Int32))].set pl.toNatClampNeg (.int i3)) ([(.double (0 : UInt64))].set pl.toNatClampNeg (.double sc)) sc ot i3 f9 ho (by exact (by rw [eop]; exact own_setget_eq (Nat.lt_of_lt_of_eq (own_nc_lt hp.1 hp.2) (by decide))))) (lenOf pd3 rfl) rfl at_176 rfl rfl (by decide) (Nat.le_of_ble_eq_true rfl) rfl rfl (by decide) (by decide) (fun v17 T17 h17 Q17 X17 z17 => ?_)
      obtain ⟨hv17, hh17⟩ := Q17
      subst hv17; rw [hh17] at X17
      show OGo p e below _ T17 (mkF m 179 #[.val (.int i0), .val (.int i1), .val (.int i2), .val (.int i3), .val (.int i4), .val (.int i5), .val (.int (1 : Int32)), .val (.int pl), .val (.int ot), .val (.double sc), .second, .val (.ref a1), .val (.ref b5), .val (.int (1 : Int32)), .val (.int i3), .val (.double sc), .second] [(.int i3)])
      refine OGo.iload (pc' := 181) C X17 at_179 rfl rfl ?_
      refine OGo.icmpNo (pc' := 184) C X17 at_181 rfl (teq rfl).2 ?_
      refine OGo.aload (pc' := 186) C X17 at_184 rfl rfl rfl ?_
      refine OGo.iload (pc' := 188) C X17 at_186 rfl rfl ?_
      refine OGo.callV (pc' := 191) (cells' := 5) (slots' := 10) (argsL := [(.int ot)]) (St := []) C X17 (wd52 hw) (wd53 hw) (wd55 hw) (wd54 hw) (by decide) f11 (wd56 hw) (wd5 hw) (ct8 hw X17.2.1 b5 h3.size (1 : Int32) i0 i1 ([(.int (-1 : Int32))].set pl.toNatClampNeg (.int i3)) ([(.double (0 : UInt64))].set pl.toNatClampNeg (.double sc)) sc ot sc f9 ho (by exact (by rw [eop]; exact own_setget_eq (Nat.lt_of_lt_of_eq (own_nc_lt hp.1 hp.2) (by decide))))) (lenOf pd5 rfl) rfl at_188 rfl rfl (by decide) (Nat.le_of_ble_eq_true rfl) rfl rfl (by decide) (by decide) (fun v18 T18 h18 Q18 X18 z18 => ?_)
      obtain ⟨hv18, hh18⟩ := Q18
      subst hv18; rw [hh18] at X18
      show OGo p e below _ T18 (mkF m 191 #[.val (.int i0), .val (.int i1), .val (.int i2), .val (.int i3), .val (.int i4), .val (.int i5), .val (.int (1 : Int32)), .val (.int pl), .val (.int ot), .val (.double sc), .second, .val (.ref a1), .val (.ref b5), .val (.int (1 : Int32)), .val (.int i3), .val (.double sc), .second] [(.double sc)])
      refine OGo.dload (pc' := 193) C X18 at_191 rfl rfl ?_
      refine OGo.dcmp (pc' := 194) (v := (0 : Int32)) C X18 at_193 rfl (dcmpV_self (h_sc ▸ (i2d_fin _).noNaN) .l) ?_
      refine OGo.ifNo (pc' := 197) C X18 at_194 rfl (teq (by decide : (0 : Int32) = (0 : Int32))).2 ?_
      refine OGo.iconst (pc' := 198) (z := (1 : Int32)) C X18 at_197 rfl (by decide) ?_
      refine OGo.goto (pc' := 202) C X18 at_198 (by decide) (by decide) ?_
      exact OGo.retN C X18 at_202 hret (by simp) (z' := (1 : Int32)) (by decide) hlk (rfl) (by decide) (by decide)
    · refine OGo.icmpYes (pc' := 149) C X15 at_142 (feq eop).2 (by decide) (by decide) ?_
      refine OGo.iconst (pc' := 150) (z := (-1 : Int32)) C X15 at_149 rfl (by decide) ?_
      refine OGo.istore (pc' := 152) C X15 at_150 rfl (l' := #[.val (.int i0), .val (.int i1), .val (.int i2), .val (.int i3), .val (.int i4), .val (.int i5), .val (.int (1 : Int32)), .val (.int pl), .val (.int ot), .val (.double sc), .second, .val (.ref a1), .val (.ref b5), .val (.int (1 : Int32)), .val (.int (-1 : Int32)), .unset, .unset]) rfl ?_
      refine OGo.iload (pc' := 154) C X15 at_152 rfl rfl ?_
      refine OGo.iload (pc' := 156) C X15 at_154 rfl rfl ?_
      refine OGo.icmpYes (pc' := 164) C X15 at_156 (feq eop).2 (by decide) (by decide) ?_
      refine OGo.dconst0 (pc' := 165) (v := (FP.dconst0)) C X15 at_164 rfl rfl ?_
      refine OGo.dstore (pc' := 167) C X15 at_165 rfl (l' := #[.val (.int i0), .val (.int i1), .val (.int i2), .val (.int i3), .val (.int i4), .val (.int i5), .val (.int (1 : Int32)), .val (.int pl), .val (.int ot), .val (.double sc), .second, .val (.ref a1), .val (.ref b5), .val (.int (1 : Int32)), .val (.int (-1 : Int32)), .val (.double (FP.dconst0)), .second]) rfl ?_
      refine OGo.iload (pc' := 169) C X15 at_167 rfl rfl ?_
      refine OGo.ifNo (pc' := 172) C X15 at_169 rfl (feq (by decide : ¬ (1 : Int32) = (0 : Int32))).1 ?_
      refine OGo.aload (pc' := 174) C X15 at_172 rfl rfl rfl ?_
      refine OGo.iload (pc' := 176) C X15 at_174 rfl rfl ?_
      refine OGo.callV (pc' := 179) (cells' := 5) (slots' := 10) (argsL := [(.int ot)]) (St := []) C X15 (wd47 hw) (wd48 hw) (wd50 hw) (wd49 hw) (by decide) f11 (wd51 hw) (wd5 hw) (ct7 hw X15.2.1 b5 h3.size (1 : Int32) i0 i1 ([(.int (-1 : Int32))].set pl.toNatClampNeg (.int i3)) ([(.double (0 : UInt64))].set pl.toNatClampNeg (.double sc)) sc ot (-1 : Int32) f9 ho (by exact ((own_setget_ne (vs := List.replicate 1 (.int (-1 : Int32))) (own_nc_ne hp.1 ho.1 (Ne.symm eop))).trans (own_rep (n := 1) (Nat.lt_of_lt_of_eq (own_nc_lt ho.1 ho.2) (by decide)))))) (lenOf pd3 rfl) rfl at_176 rfl rfl (by decide) (Nat.le_of_ble_eq_true rfl) rfl rfl (by decide) (by decide) (fun v19 T19 h19 Q19 X19 z19 => ?_)
      obtain ⟨hv19, hh19⟩ := Q19
      subst hv19; rw [hh19] at X19
      show OGo p e below _ T19 (mkF m 179 #[.val (.int i0), .val (.int i1), .val (.int i2), .val (.int i3), .val (.int i4), .val (.int i5), .val (.int (1 : Int32)), .val (.int pl), .val (.int ot), .val (.double sc), .second, .val (.ref a1), .val (.ref b5), .val (.int (1 : Int32)), .val (.int (-1 : Int32)), .val (.double (FP.dconst0)), .second] [(.int (-1 : Int32))])
      refine OGo.iload (pc' := 181) C X19 at_179 rfl rfl ?_
      refine OGo.icmpNo (pc' := 184) C X19 at_181 rfl (teq (by decide : (-1 : Int32) = (-1 : Int32))).2 ?_
      refine OGo.aload (pc' := 186) C X19 at_184 rfl rfl rfl ?_
      refine OGo.iload (pc' := 188) C X19 at_186 rfl rfl ?_
      refine OGo.callV (pc' := 191) (cells' := 5) (slots' := 10) (argsL := [(.int ot)]) (St := []) C X19 (wd52 hw) (wd53 hw) (wd55 hw) (wd54 hw) (by decide) f11 (wd56 hw) (wd5 hw) (ct8 hw X19.2.1 b5 h3.size (1 : Int32) i0 i1 ([(.int (-1 : Int32))].set pl.toNatClampNeg (.int i3)) ([(.double (0 : UInt64))].set pl.toNatClampNeg (.double sc)) sc ot (0 : UInt64) f9 ho (by exact ((own_setget_ne (vs := List.replicate 1 (.double (0 : UInt64))) (own_nc_ne hp.1 ho.1 (Ne.symm eop))).trans (own_rep (n := 1) (Nat.lt_of_lt_of_eq (own_nc_lt ho.1 ho.2) (by decide)))))) (lenOf pd5 rfl) rfl at_188 rfl rfl (by decide) (Nat.le_of_ble_eq_true rfl) rfl rfl (by decide) (by decide) (fun v20 T20 h20 Q20 X20 z20 => ?_)
      obtain ⟨hv20, hh20⟩ := Q20
      subst hv20; rw [hh20] at X20
      show OGo p e below _ T20 (mkF m 191 #[.val (.int i0), .val (.int i1), .val (.int i2), .val (.int i3), .val (.int i4), .val (.int i5), .val (.int (1 : Int32)), .val (.int pl), .val (.int ot), .val (.double sc), .second, .val (.ref a1), .val (.ref b5), .val (.int (1 : Int32)), .val (.int (-1 : Int32)), .val (.double (FP.dconst0)), .second] [(.double (0 : UInt64))])
      refine OGo.dload (pc' := 193) C X20 at_191 rfl rfl ?_
      refine OGo.dcmp (pc' := 194) (v := (0 : Int32)) C X20 at_193 rfl (by decide +kernel) ?_
      refine OGo.ifNo (pc' := 197) C X20 at_194 rfl (teq (by decide : (0 : Int32) = (0 : Int32))).2 ?_
      refine OGo.iconst (pc' := 198) (z := (1 : Int32)) C X20 at_197 rfl (by decide) ?_
      refine OGo.goto (pc' := 202) C X20 at_198 (by decide) (by decide) ?_
      exact OGo.retN C X20 at_202 hret (by simp) (z' := (1 : Int32)) (by decide) hlk (rfl) (by decide) (by decide)
  · refine OGo.iloadN (pc' := 8) C X0 at_7 rfl rfl ?_
    refine OGo.iconst (pc' := 9) (z := (2 : Int32)) C X0 at_8 rfl (by decide) ?_
    refine OGo.iushr (pc' := 10) (z := ((i2.toUInt32 >>> ((2 : Int32) &&& 31).toUInt32).toInt32)) C X0 at_9 rfl rfl ?_
    refine OGo.ldcInt (pc' := 12) C X0 (wd0 hw) at_10 rfl ?_
    obtain ⟨pm, h_pm⟩ : ∃ z : Int32, ((i2.toUInt32 >>> ((2 : Int32) &&& 31).toUInt32).toInt32) &&& (65535 : Int32) = z := ⟨_, rfl⟩
    refine OGo.iand (pc' := 13) (z := pm) C X0 at_12 rfl h_pm ?_
    refine OGo.iload (pc' := 15) C X0 at_13 rfl rfl ?_
    obtain ⟨pl, h_pl⟩ : ∃ z : Int32, pm % (2 : Int32) = z := ⟨_, rfl⟩
    refine OGo.irem (pc' := 16) (z := pl) C X0 at_15 rfl (by decide) h_pl ?_
    refine OGo.istore (pc' := 18) C X0 at_16 rfl (l' := #[.val (.int i0), .val (.int i1), .val (.int i2), .val (.int i3), .val (.int i4), .val (.int i5), .val (.int (2 : Int32)), .val (.int pl), .unset, .unset, .unset, .unset, .unset, .unset, .unset, .unset, .unset]) rfl ?_
    have hp : ¬ pl < 0 ∧ pl < (2 : Int32) := by
      have e0 : (0 : Int32).toInt = 0 := by decide
      have en : (2 : Int32).toInt = 2 := by decide
      have q := (c_iremV pm (2 : Int32)).1 (by rw [← h_pm]; exact (c_and _ _ (by decide)).1) (by omega)
      rw [h_pl] at q
      rw [Int32.lt_iff_toInt_lt, Int32.lt_iff_toInt_lt, e0]; omega
    refine OGo.iload (pc' := 20) C X0 at_18 rfl rfl ?_
    refine OGo.ldcInt (pc' := 22) C X0 (wd1 hw) at_20 rfl ?_
    obtain ⟨om, h_om⟩ : ∃ z : Int32, i5 &&& (2147483647 : Int32) = z := ⟨_, rfl⟩
    refine OGo.iand (pc' := 23) (z := om) C X0 at_22 rfl h_om ?_
    refine OGo.iload (pc' := 25) C X0 at_23 rfl rfl ?_
    obtain ⟨ot, h_ot⟩ : ∃ z : Int32, om % (2 : Int32) = z := ⟨_, rfl⟩
    refine OGo.irem (pc' := 26) (z := ot) C X0 at_25 rfl (by decide) h_ot ?_
    refine OGo.istore (pc' := 28) C X0 at_26 rfl (l' := #[.val (.int i0), .val (.int i1), .val (.int i2), .val (.int i3), .val (.int i4), .val (.int i5), .val (.int (2 : Int32)), .val (.int pl), .val (.int ot), .unset, .unset, .unset, .unset, .unset, .unset, .unset, .unset]) rfl ?_
    have ho : ¬ ot < 0 ∧ ot < (2 : Int32) := by
      have e0 : (0 : Int32).toInt = 0 := by decide
      have en : (2 : Int32).toInt = 2 := by decide
      have q := (c_iremV om (2 : Int32)).1 (by rw [← h_om]; exact (c_and _ _ (by decide)).1) (by omega)
      rw [h_ot] at q
      rw [Int32.lt_iff_toInt_lt, Int32.lt_iff_toInt_lt, e0]; omega
    refine OGo.iload (pc' := 30) C X0 at_28 rfl rfl ?_
    obtain ⟨sc, h_sc⟩ : ∃ z : UInt64, FP.i2d i4 = z := ⟨_, rfl⟩
    refine OGo.i2d (pc' := 31) (v := sc) C X0 at_30 rfl h_sc ?_
    refine OGo.dstore (pc' := 33) C X0 at_31 rfl (l' := #[.val (.int i0), .val (.int i1), .val (.int i2), .val (.int i3), .val (.int i4), .val (.int i5), .val (.int (2 : Int32)), .val (.int pl), .val (.int ot), .val (.double sc), .second, .unset, .unset, .unset, .unset, .unset, .unset]) rfl ?_
    refine OGo.iconst (pc' := 34) (z := (2 : Int32)) C X0 at_33 rfl (by decide) ?_
    refine OGo.newarrayE (pc' := 36) (cap := 2) (d0 := (.int (0 : Int32))) (cells' := 1) (slots' := 2) C X0 (wd2 hw) rfl (ad := "[I") (by decide) at_34 rfl (by decide) (by decide) (by decide) rfl rfl rfl (by decide) (by decide) (fun T21 h21 a21 k21 X21 g21 q21 E21 V21 A21 => ?_)
    replace V21 : Arv Z h21 a21 k21 .int (2 : Int32) [(.int (0 : Int32)), (.int (0 : Int32))] (.int (0 : Int32)) := V21.pad (pad_rep [] (.int (0 : Int32)) 2)
    refine OGo.astore (pc' := 38) C X21 at_36 rfl rfl (l' := #[.val (.int i0), .val (.int i1), .val (.int i2), .val (.int i3), .val (.int i4), .val (.int i5), .val (.int (2 : Int32)), .val (.int pl), .val (.int ot), .val (.double sc), .second, .val (.ref a21), .unset, .unset, .unset, .unset, .unset]) rfl ?_
    refine OGo.aload (pc' := 40) C X21 at_38 rfl rfl rfl ?_
    refine OGo.iconst (pc' := 41) (z := (0 : Int32)) C X21 at_40 rfl (by decide) ?_
    refine OGo.iloadN (pc' := 42) C X21 at_41 rfl rfl ?_
    refine OGo.iastore (pc' := 43) C X21 V21 q21 (i := 0) at_42 rfl ⟨by decide, by decide⟩ (by decide) (Nat.le_of_ble_eq_true rfl) (fun T22 h22 X22 W22 V22 => ?_)
    replace V22 : Arv Z h22 a21 k21 .int (2 : Int32) [(.int i0), (.int (0 : Int32))] (.int (0 : Int32)) := V22
    refine OGo.aload (pc' := 45) C X22 at_43 rfl rfl rfl ?_
    refine OGo.iconst (pc' := 46) (z := (1 : Int32)) C X22 at_45 rfl (by decide) ?_
    refine OGo.iloadN (pc' := 47) C X22 at_46 rfl rfl ?_
    refine OGo.iastore (pc' := 48) C X22 V22 q21 (i := 1) at_47 rfl ⟨by decide, by decide⟩ (by decide) (Nat.le_of_ble_eq_true rfl) (fun T23 h23 X23 W23 V23 => ?_)
    replace V23 : Arv Z h23 a21 k21 .int (2 : Int32) [(.int i0), (.int i1)] (.int (0 : Int32)) := V23
    refine OGo.aload (pc' := 50) C X23 at_48 rfl rfl rfl ?_
    refine OGo.iload (pc' := 52) C X23 at_50 rfl rfl ?_
    refine OGo.iload (pc' := 54) C X23 at_52 rfl rfl ?_
    refine OGo.iloadN (pc' := 55) C X23 at_54 rfl rfl ?_
    refine OGo.dload (pc' := 57) C X23 at_55 rfl rfl ?_
    have hlt := V23.lt
    have f24 := ((A21.wr W22).wr W23)
    refine OGo.callS (pc' := 60) (cells' := 5) (slots' := 12) (argsL := [(.ref a21), (.int pl), (.int (2 : Int32)), (.int i3), (.double sc)]) (St := []) C X23 (wd3 hw) (wd4 hw) (by decide) (wd6 hw) (wd5 hw) (ctO2 hw X23.2.1 a21 k21 i0 i1 pl i3 sc V23 f24 hp) (lenOf pd2 rfl) rfl at_57 rfl rfl (by decide) (Nat.le_of_ble_eq_true rfl) rfl rfl (by decide) (by decide) (fun v25 T25 h25 Q25 X25 z25 => ?_)
    obtain ⟨b25, hv25, K25, B25⟩ := Q25
    subst hv25
    show OGo p e below _ T25 (mkF m 60 #[.val (.int i0), .val (.int i1), .val (.int i2), .val (.int i3), .val (.int i4), .val (.int i5), .val (.int (2 : Int32)), .val (.int pl), .val (.int ot), .val (.double sc), .second, .val (.ref a21), .unset, .unset, .unset, .unset, .unset] [(.ref b25)])
    refine OGo.astore (pc' := 62) C X25 at_60 rfl rfl (l' := #[.val (.int i0), .val (.int i1), .val (.int i2), .val (.int i3), .val (.int i4), .val (.int i5), .val (.int (2 : Int32)), .val (.int pl), .val (.int ot), .val (.double sc), .second, .val (.ref a21), .val (.ref b25), .unset, .unset, .unset, .unset]) rfl ?_
    refine OGo.aload (pc' := 64) C X25 at_62 rfl rfl rfl ?_
    refine OGo.iconst (pc' := 65) (z := (0 : Int32)) C X25 at_64 rfl (by decide) ?_
    refine OGo.iloadN (pc' := 66) C X25 at_65 rfl rfl ?_
    refine OGo.iconst (pc' := 67) (z := (-1 : Int32)) C X25 at_66 rfl (by decide) ?_
    refine OGo.ixor (pc' := 68) (z := (i0 ^^^ (-1 : Int32))) C X25 at_67 rfl rfl ?_
    have f26 := (V23.keep K25 nin0)
    refine OGo.iastore (pc' := 69) C X25 f26 q21 (i := 0) at_68 rfl ⟨by decide, by decide⟩ (by decide) (Nat.le_of_ble_eq_true rfl) (fun T27 h27 X27 W27 V27 => ?_)
    replace V27 : Arv Z h27 a21 k21 .int (2 : Int32) [(.int (i0 ^^^ (-1 : Int32))), (.int i1)] (.int (0 : Int32)) := V27
    refine OGo.aload (pc' := 71) C X27 at_69 rfl rfl rfl ?_
    refine OGo.iconst (pc' := 72) (z := (1 : Int32)) C X27 at_71 rfl (by decide) ?_
    refine OGo.iloadN (pc' := 73) C X27 at_72 rfl rfl ?_
    refine OGo.iconst (pc' := 74) (z := (-1 : Int32)) C X27 at_73 rfl (by decide) ?_
    refine OGo.ixor (pc' := 75) (z := (i1 ^^^ (-1 : Int32))) C X27 at_74 rfl rfl ?_
    refine OGo.iastore (pc' := 76) C X27 V27 q21 (i := 1) at_75 rfl ⟨by decide, by decide⟩ (by decide) (Nat.le_of_ble_eq_true rfl) (fun T28 h28 X28 W28 V28 => ?_)
    replace V28 : Arv Z h28 a21 k21 .int (2 : Int32) [(.int (i0 ^^^ (-1 : Int32))), (.int (i1 ^^^ (-1 : Int32)))] (.int (0 : Int32)) := V28
    refine OGo.aload (pc' := 78) C X28 at_76 rfl rfl rfl ?_
    refine OGo.iconst (pc' := 79) (z := (0 : Int32)) C X28 at_78 rfl (by decide) ?_
    have f29 := (own_B_wr (own_B_wr B25 W27 hlt) W28 hlt)
    have f31 := ((B25.1.wr W27).wr W28)
    refine OGo.callV (pc' := 82) (cells' := 5) (slots' := 12) (argsL := [(.int (0 : Int32))]) (St := []) C X28 (wd37 hw) (wd38 hw) (wd40 hw) (wd39 hw) (by decide) f31 (wd41 hw) (wd5 hw) (ctT0 hw X28.2.1 b25 h23.size (2 : Int32) i0 i1 ([(.int (-1 : Int32)), (.int (-1 : Int32))].set pl.toNatClampNeg (.int i3)) ([(.double (0 : UInt64)), (.double (0 : UInt64))].set pl.toNatClampNeg (.double sc)) sc f29) (lenOf pd3 rfl) rfl at_79 rfl rfl (by decide) (Nat.le_of_ble_eq_true rfl) rfl rfl (by decide) (by decide) (fun v30 T30 h30 Q30 X30 z30 => ?_)
    obtain ⟨hv30, hh30⟩ := Q30
    subst hv30; rw [hh30] at X30
    show OGo p e below _ T30 (mkF m 82 #[.val (.int i0), .val (.int i1), .val (.int i2), .val (.int i3), .val (.int i4), .val (.int i5), .val (.int (2 : Int32)), .val (.int pl), .val (.int ot), .val (.double sc), .second, .val (.ref a21), .val (.ref b25), .unset, .unset, .unset, .unset] [(.int i0)])
    refine OGo.iloadN (pc' := 83) C X30 at_82 rfl rfl ?_
    refine OGo.icmpNo (pc' := 86) C X30 at_83 rfl (teq rfl).2 ?_
    refine OGo.aload (pc' := 88) C X30 at_86 rfl rfl rfl ?_
    refine OGo.iconst (pc' := 89) (z := (1 : Int32)) C X30 at_88 rfl (by decide) ?_
    refine OGo.callV (pc' := 92) (cells' := 5) (slots' := 12) (argsL := [(.int (1 : Int32))]) (St := []) C X30 (wd37 hw) (wd38 hw) (wd40 hw) (wd39 hw) (by decide) f31 (wd41 hw) (wd5 hw) (ctT1 hw X30.2.1 b25 h23.size (2 : Int32) i0 i1 ([(.int (-1 : Int32)), (.int (-1 : Int32))].set pl.toNatClampNeg (.int i3)) ([(.double (0 : UInt64)), (.double (0 : UInt64))].set pl.toNatClampNeg (.double sc)) sc f29) (lenOf pd3 rfl) rfl at_89 rfl rfl (by decide) (Nat.le_of_ble_eq_true rfl) rfl rfl (by decide) (by decide) (fun v32 T32 h32 Q32 X32 z32 => ?_)
    obtain ⟨hv32, hh32⟩ := Q32
    subst hv32; rw [hh32] at X32
    show OGo p e below _ T32 (mkF m 92 #[.val (.int i0), .val (.int i1), .val (.int i2), .val (.int i3), .val (.int i4), .val (.int i5), .val (.int (2 : Int32)), .val (.int pl), .val (.int ot), .val (.double sc), .second, .val (.ref a21), .val (.ref b25), .unset, .unset, .unset, .unset] [(.int i1)])
    refine OGo.iloadN (pc' := 93) C X32 at_92 rfl rfl ?_
    refine OGo.icmpNo (pc' := 96) C X32 at_93 rfl (teq rfl).2 ?_
    refine OGo.aload (pc' := 98) C X32 at_96 rfl rfl rfl ?_
    refine OGo.callV (pc' := 101) (cells' := 5) (slots' := 12) (argsL := []) (St := []) C X32 (wd42 hw) (wd43 hw) (wd45 hw) (wd44 hw) (by decide) f31 (wd46 hw) (wd5 hw) (ct6 hw X32.2.1 b25 h23.size (2 : Int32) i0 i1 ([(.int (-1 : Int32)), (.int (-1 : Int32))].set pl.toNatClampNeg (.int i3)) ([(.double (0 : UInt64)), (.double (0 : UInt64))].set pl.toNatClampNeg (.double sc)) sc f29) (lenOf pd4 rfl) rfl at_98 rfl rfl (by decide) (Nat.le_of_ble_eq_true rfl) rfl rfl (by decide) (by decide) (fun v33 T33 h33 Q33 X33 z33 => ?_)
    obtain ⟨hv33, hh33⟩ := Q33
    subst hv33; rw [hh33] at X33
    show OGo p e below _ T33 (mkF m 101 #[.val (.int i0), .val (.int i1), .val (.int i2), .val (.int i3), .val (.int i4), .val (.int i5), .val (.int (2 : Int32)), .val (.int pl), .val (.int ot), .val (.double sc), .second, .val (.ref a21), .val (.ref b25), .unset, .unset, .unset, .unset] [(.double sc)])
    refine OGo.dload (pc' := 103) C X33 at_101 rfl rfl ?_
    refine OGo.dcmp (pc' := 104) (v := (0 : Int32)) C X33 at_103 rfl (dcmpV_self (h_sc ▸ (i2d_fin _).noNaN) .l) ?_
    refine OGo.ifNo (pc' := 107) C X33 at_104 rfl (teq (by decide : (0 : Int32) = (0 : Int32))).2 ?_
    refine OGo.aload (pc' := 109) C X33 at_107 rfl rfl rfl ?_
    refine OGo.iload (pc' := 111) C X33 at_109 rfl rfl ?_
    refine OGo.callV (pc' := 114) (cells' := 5) (slots' := 12) (argsL := [(.int pl)]) (St := []) C X33 (wd47 hw) (wd48 hw) (wd50 hw) (wd49 hw) (by decide) f31 (wd51 hw) (wd5 hw) (ct7 hw X33.2.1 b25 h23.size (2 : Int32) i0 i1 ([(.int (-1 : Int32)), (.int (-1 : Int32))].set pl.toNatClampNeg (.int i3)) ([(.double (0 : UInt64)), (.double (0 : UInt64))].set pl.toNatClampNeg (.double sc)) sc pl i3 f29 hp (by exact (own_setget_eq (Nat.lt_of_lt_of_eq (own_nc_lt hp.1 hp.2) (by decide))))) (lenOf pd3 rfl) rfl at_111 rfl rfl (by decide) (Nat.le_of_ble_eq_true rfl) rfl rfl (by decide) (by decide) (fun v34 T34 h34 Q34 X34 z34 => ?_)
    obtain ⟨hv34, hh34⟩ := Q34
    subst hv34; rw [hh34] at X34
    show OGo p e below _ T34 (mkF m 114 #[.val (.int i0), .val (.int i1), .val (.int i2), .val (.int i3), .val (.int i4), .val (.int i5), .val (.int (2 : Int32)), .val (.int pl), .val (.int ot), .val (.double sc), .second, .val (.ref a21), .val (.ref b25), .unset, .unset, .unset, .unset] [(.int i3)])
    refine OGo.iloadN (pc' := 115) C X34 at_114 rfl rfl ?_
    refine OGo.icmpNo (pc' := 118) C X34 at_115 rfl (teq rfl).2 ?_
    refine OGo.aload (pc' := 120) C X34 at_118 rfl rfl rfl ?_
    refine OGo.iload (pc' := 122) C X34 at_120 rfl rfl ?_
    refine OGo.callV (pc' := 125) (cells' := 5) (slots' := 12) (argsL := [(.int pl)]) (St := []) C X34 (wd52 hw) (wd53 hw) (wd55 hw) (wd54 hw) (by decide) f31 (wd56 hw) (wd5 hw) (ct8 hw X34.2.1 b25 h23.size (2 : Int32) i0 i1 ([(.int (-1 : Int32)), (.int (-1 : Int32))].set pl.toNatClampNeg (.int i3)) ([(.double (0 : UInt64)), (.double (0 : UInt64))].set pl.toNatClampNeg (.double sc)) sc pl sc f29 hp (by exact (own_setget_eq (Nat.lt_of_lt_of_eq (own_nc_lt hp.1 hp.2) (by decide))))) (lenOf pd5 rfl) rfl at_122 rfl rfl (by decide) (Nat.le_of_ble_eq_true rfl) rfl rfl (by decide) (by decide) (fun v35 T35 h35 Q35 X35 z35 => ?_)
    obtain ⟨hv35, hh35⟩ := Q35
    subst hv35; rw [hh35] at X35
    show OGo p e below _ T35 (mkF m 125 #[.val (.int i0), .val (.int i1), .val (.int i2), .val (.int i3), .val (.int i4), .val (.int i5), .val (.int (2 : Int32)), .val (.int pl), .val (.int ot), .val (.double sc), .second, .val (.ref a21), .val (.ref b25), .unset, .unset, .unset, .unset] [(.double sc)])
    refine OGo.dload (pc' := 127) C X35 at_125 rfl rfl ?_
    refine OGo.dcmp (pc' := 128) (v := (0 : Int32)) C X35 at_127 rfl (dcmpV_self (h_sc ▸ (i2d_fin _).noNaN) .l) ?_
    refine OGo.ifNo (pc' := 131) C X35 at_128 rfl (teq (by decide : (0 : Int32) = (0 : Int32))).2 ?_
    refine OGo.iconst (pc' := 132) (z := (1 : Int32)) C X35 at_131 rfl (by decide) ?_
    refine OGo.goto (pc' := 136) C X35 at_132 (by decide) (by decide) ?_
    refine OGo.istore (pc' := 138) C X35 at_136 rfl (l' := #[.val (.int i0), .val (.int i1), .val (.int i2), .val (.int i3), .val (.int i4), .val (.int i5), .val (.int (2 : Int32)), .val (.int pl), .val (.int ot), .val (.double sc), .second, .val (.ref a21), .val (.ref b25), .val (.int (1 : Int32)), .unset, .unset, .unset]) rfl ?_
    refine OGo.iload (pc' := 140) C X35 at_138 rfl rfl ?_
    refine OGo.iload (pc' := 142) C X35 at_140 rfl rfl ?_
    by_cases eop : ot = pl
    · refine OGo.icmpNo (pc' := 145) C X35 at_142 rfl (teq eop).2 ?_
      refine OGo.iloadN (pc' := 146) C X35 at_145 rfl rfl ?_
      refine OGo.goto (pc' := 150) C X35 at_146 (by decide) (by decide) ?_
      refine OGo.istore (pc' := 152) C X35 at_150 rfl (l' := #[.val (.int i0), .val (.int i1), .val (.int i2), .val (.int i3), .val (.int i4), .val (.int i5), .val (.int (2 : Int32)), .val (.int pl), .val (.int ot), .val (.double sc), .second, .val (.ref a21), .val (.ref b25), .val (.int (1 : Int32)), .val (.int i3), .unset, .unset]) rfl ?_
      refine OGo.iload (pc' := 154) C X35 at_152 rfl rfl ?_
      refine OGo.iload (pc' := 156) C X35 at_154 rfl rfl ?_
      refine OGo.icmpNo (pc' := 159) C X35 at_156 rfl (teq eop).2 ?_
      refine OGo.dload (pc' := 161) C X35 at_159 rfl rfl ?_
      refine OGo.goto (pc' := 165) C X35 at_161 (by decide) (by decide) ?_
      refine OGo.dstore (pc' := 167) C X35 at_165 rfl (l' := #[.val (.int i0), .val (.int i1), .val (.int i2), .val (.int i3), .val (.int i4), .val (.int i5), .val (.int (2 : Int32)), .val (.int pl), .val (.int ot), .val (.double sc), .second, .val (.ref a21), .val (.ref b25), .val (.int (1 : Int32)), .val (.int i3), .val (.double sc), .second]) rfl ?_
      refine OGo.iload (pc' := 169) C X35 at_167 rfl rfl ?_
      refine OGo.ifNo (pc' := 172) C X35 at_169 rfl (feq (by decide : ¬ (1 : Int32) = (0 : Int32))).1 ?_
      refine OGo.aload (pc' := 174) C X35 at_172 rfl rfl rfl ?_
      refine OGo.iload (pc' := 176) C X35 at_174 rfl rfl ?_
      refine OGo.callV (pc' := 179) (cells' := 5) (slots' := 12) (argsL := [(.int ot)]) (St := []) C X35 (wd47 hw) (wd48 hw) (wd50 hw) (wd49 hw) (by decide) f31 (wd51 hw) (wd5 hw) (ct7 hw X35.2.1 b25 h23.size (2 : Int32) i0 i1 ([(.int (-1 : Int32)), (.int (-1 : Int32))].set pl.toNatClampNeg (.int i3)) ([(.double (0 : UInt64)), (.double (0 : UInt64))].set pl.toNatClampNeg (.double sc)) sc ot i3 f29 ho (by exact (by rw [eop]; exact own_setget_eq (Nat.lt_of_lt_of_eq (own_nc_lt hp.1 hp.2) (by decide))))) (lenOf pd3 rfl) rfl at_176 rfl rfl (by decide) (Nat.le_of_ble_eq_true rfl) rfl rfl (by decide) (by decide) (fun v37 T37 h37 Q37 X37 z37 => ?_)
      obtain ⟨hv37, hh37⟩ := Q37
      subst hv37; rw [hh37] at X37
      show OGo p e below _ T37 (mkF m 179 #[.val (.int i0), .val (.int i1), .val (.int i2), .val (.int i3), .val (.int i4), .val (.int i5), .val (.int (2 : Int32)), .val (.int pl), .val (.int ot), .val (.double sc), .second, .val (.ref a21), .val (.ref b25), .val (.int (1 : Int32)), .val (.int i3), .val (.double sc), .second] [(.int i3)])
      refine OGo.iload (pc' := 181) C X37 at_179 rfl rfl ?_
      refine OGo.icmpNo (pc' := 184) C X37 at_181 rfl (teq rfl).2 ?_
      refine OGo.aload (pc' := 186) C X37 at_184 rfl rfl rfl ?_
      refine OGo.iload (pc' := 188) C X37 at_186 rfl rfl ?_
      refine OGo.callV (pc' := 191) (cells' := 5) (slots' := 12) (argsL := [(.int ot)]) (St := []) C X37 (wd52 hw) (wd53 hw) (wd55 hw) (wd54 hw) (by decide) f31 (wd56 hw) (wd5 hw) (ct8 hw X37.2.1 b25 h23.size (2 : Int32) i0 i1 ([(.int (-1 : Int32)), (.int (-1 : Int32))].set pl.toNatClampNeg (.int i3)) ([(.double (0 : UInt64)), (.double (0 : UInt64))].set pl.toNatClampNeg (.double sc)) sc ot sc f29 ho (by exact (by rw [eop]; exact own_setget_eq (Nat.lt_of_lt_of_eq (own_nc_lt hp.1 hp.2) (by decide))))) (lenOf pd5 rfl) rfl at_188 rfl rfl (by decide) (Nat.le_of_ble_eq_true rfl) rfl rfl (by decide) (by decide) (fun v38 T38 h38 Q38 X38 z38 => ?_)
      obtain ⟨hv38, hh38⟩ := Q38
      subst hv38; rw [hh38] at X38
      show OGo p e below _ T38 (mkF m 191 #[.val (.int i0), .val (.int i1), .val (.int i2), .val (.int i3), .val (.int i4), .val (.int i5), .val (.int (2 : Int32)), .val (.int pl), .val (.int ot), .val (.double sc), .second, .val (.ref a21), .val (.ref b25), .val (.int (1 : Int32)), .val (.int i3), .val (.double sc), .second] [(.double sc)])
      refine OGo.dload (pc' := 193) C X38 at_191 rfl rfl ?_
      refine OGo.dcmp (pc' := 194) (v := (0 : Int32)) C X38 at_193 rfl (dcmpV_self (h_sc ▸ (i2d_fin _).noNaN) .l) ?_
      refine OGo.ifNo (pc' := 197) C X38 at_194 rfl (teq (by decide : (0 : Int32) = (0 : Int32))).2 ?_
      refine OGo.iconst (pc' := 198) (z := (1 : Int32)) C X38 at_197 rfl (by decide) ?_
      refine OGo.goto (pc' := 202) C X38 at_198 (by decide) (by decide) ?_
      exact OGo.retN C X38 at_202 hret (by simp) (z' := (1 : Int32)) (by decide) hlk (rfl) (by decide) (by decide)
    · refine OGo.icmpYes (pc' := 149) C X35 at_142 (feq eop).2 (by decide) (by decide) ?_
      refine OGo.iconst (pc' := 150) (z := (-1 : Int32)) C X35 at_149 rfl (by decide) ?_
      refine OGo.istore (pc' := 152) C X35 at_150 rfl (l' := #[.val (.int i0), .val (.int i1), .val (.int i2), .val (.int i3), .val (.int i4), .val (.int i5), .val (.int (2 : Int32)), .val (.int pl), .val (.int ot), .val (.double sc), .second, .val (.ref a21), .val (.ref b25), .val (.int (1 : Int32)), .val (.int (-1 : Int32)), .unset, .unset]) rfl ?_
      refine OGo.iload (pc' := 154) C X35 at_152 rfl rfl ?_
      refine OGo.iload (pc' := 156) C X35 at_154 rfl rfl ?_
      refine OGo.icmpYes (pc' := 164) C X35 at_156 (feq eop).2 (by decide) (by decide) ?_
      refine OGo.dconst0 (pc' := 165) (v := (FP.dconst0)) C X35 at_164 rfl rfl ?_
      refine OGo.dstore (pc' := 167) C X35 at_165 rfl (l' := #[.val (.int i0), .val (.int i1), .val (.int i2), .val (.int i3), .val (.int i4), .val (.int i5), .val (.int (2 : Int32)), .val (.int pl), .val (.int ot), .val (.double sc), .second, .val (.ref a21), .val (.ref b25), .val (.int (1 : Int32)), .val (.int (-1 : Int32)), .val (.double (FP.dconst0)), .second]) rfl ?_
      refine OGo.iload (pc' := 169) C X35 at_167 rfl rfl ?_
      refine OGo.ifNo (pc' := 172) C X35 at_169 rfl (feq (by decide : ¬ (1 : Int32) = (0 : Int32))).1 ?_
      refine OGo.aload (pc' := 174) C X35 at_172 rfl rfl rfl ?_
      refine OGo.iload (pc' := 176) C X35 at_174 rfl rfl ?_
      refine OGo.callV (pc' := 179) (cells' := 5) (slots' := 12) (argsL := [(.int ot)]) (St := []) C X35 (wd47 hw) (wd48 hw) (wd50 hw) (wd49 hw) (by decide) f31 (wd51 hw) (wd5 hw) (ct7 hw X35.2.1 b25 h23.size (2 : Int32) i0 i1 ([(.int (-1 : Int32)), (.int (-1 : Int32))].set pl.toNatClampNeg (.int i3)) ([(.double (0 : UInt64)), (.double (0 : UInt64))].set pl.toNatClampNeg (.double sc)) sc ot (-1 : Int32) f29 ho (by exact ((own_setget_ne (vs := List.replicate 2 (.int (-1 : Int32))) (own_nc_ne hp.1 ho.1 (Ne.symm eop))).trans (own_rep (n := 2) (Nat.lt_of_lt_of_eq (own_nc_lt ho.1 ho.2) (by decide)))))) (lenOf pd3 rfl) rfl at_176 rfl rfl (by decide) (Nat.le_of_ble_eq_true rfl) rfl rfl (by decide) (by decide) (fun v39 T39 h39 Q39 X39 z39 => ?_)
      obtain ⟨hv39, hh39⟩ := Q39
      subst hv39; rw [hh39] at X39
      show OGo p e below _ T39 (mkF m 179 #[.val (.int i0), .val (.int i1), .val (.int i2), .val (.int i3), .val (.int i4), .val (.int i5), .val (.int (2 : Int32)), .val (.int pl), .val (.int ot), .val (.double sc), .second, .val (.ref a21), .val (.ref b25), .val (.int (1 : Int32)), .val (.int (-1 : Int32)), .val (.double (FP.dconst0)), .second] [(.int (-1 : Int32))])
      refine OGo.iload (pc' := 181) C X39 at_179 rfl rfl ?_
      refine OGo.icmpNo (pc' := 184) C X39 at_181 rfl (teq (by decide : (-1 : Int32) = (-1 : Int32))).2 ?_
      refine OGo.aload (pc' := 186) C X39 at_184 rfl rfl rfl ?_
      refine OGo.iload (pc' := 188) C X39 at_186 rfl rfl ?_
      refine OGo.callV (pc' := 191) (cells' := 5) (slots' := 12) (argsL := [(.int ot)]) (St := []) C X39 (wd52 hw) (wd53 hw) (wd55 hw) (wd54 hw) (by decide) f31 (wd56 hw) (wd5 hw) (ct8 hw X39.2.1 b25 h23.size (2 : Int32) i0 i1 ([(.int (-1 : Int32)), (.int (-1 : Int32))].set pl.toNatClampNeg (.int i3)) ([(.double (0 : UInt64)), (.double (0 : UInt64))].set pl.toNatClampNeg (.double sc)) sc ot (0 : UInt64) f29 ho (by exact ((own_setget_ne (vs := List.replicate 2 (.double (0 : UInt64))) (own_nc_ne hp.1 ho.1 (Ne.symm eop))).trans (own_rep (n := 2) (Nat.lt_of_lt_of_eq (own_nc_lt ho.1 ho.2) (by decide)))))) (lenOf pd5 rfl) rfl at_188 rfl rfl (by decide) (Nat.le_of_ble_eq_true rfl) rfl rfl (by decide) (by decide) (fun v40 T40 h40 Q40 X40 z40 => ?_)
      obtain ⟨hv40, hh40⟩ := Q40
      subst hv40; rw [hh40] at X40
      show OGo p e below _ T40 (mkF m 191 #[.val (.int i0), .val (.int i1), .val (.int i2), .val (.int i3), .val (.int i4), .val (.int i5), .val (.int (2 : Int32)), .val (.int pl), .val (.int ot), .val (.double sc), .second, .val (.ref a21), .val (.ref b25), .val (.int (1 : Int32)), .val (.int (-1 : Int32)), .val (.double (FP.dconst0)), .second] [(.double (0 : UInt64))])
      refine OGo.dload (pc' := 193) C X40 at_191 rfl rfl ?_
      refine OGo.dcmp (pc' := 194) (v := (0 : Int32)) C X40 at_193 rfl (by decide +kernel) ?_
      refine OGo.ifNo (pc' := 197) C X40 at_194 rfl (teq (by decide : (0 : Int32) = (0 : Int32))).2 ?_
      refine OGo.iconst (pc' := 198) (z := (1 : Int32)) C X40 at_197 rfl (by decide) ?_
      refine OGo.goto (pc' := 202) C X40 at_198 (by decide) (by decide) ?_
      exact OGo.retN C X40 at_202 hret (by simp) (z' := (1 : Int32)) (by decide) hlk (rfl) (by decide) (by decide)
  · refine OGo.iloadN (pc' := 8) C X0 at_7 rfl rfl ?_
    refine OGo.iconst (pc' := 9) (z := (2 : Int32)) C X0 at_8 rfl (by decide) ?_
    refine OGo.iushr (pc' := 10) (z := ((i2.toUInt32 >>> ((2 : Int32) &&& 31).toUInt32).toInt32)) C X0 at_9 rfl rfl ?_
    refine OGo.ldcInt (pc' := 12) C X0 (wd0 hw) at_10 rfl ?_
    obtain ⟨pm, h_pm⟩ : ∃ z : Int32, ((i2.toUInt32 >>> ((2 : Int32) &&& 31).toUInt32).toInt32) &&& (65535 : Int32) = z := ⟨_, rfl⟩
    refine OGo.iand (pc' := 13) (z := pm) C X0 at_12 rfl h_pm ?_
    refine OGo.iload (pc' := 15) C X0 at_13 rfl rfl ?_
    obtain ⟨pl, h_pl⟩ : ∃ z : Int32, pm % (3 : Int32) = z := ⟨_, rfl⟩
    refine OGo.irem (pc' := 16) (z := pl) C X0 at_15 rfl (by decide) h_pl ?_
    refine OGo.istore (pc' := 18) C X0 at_16 rfl (l' := #[.val (.int i0), .val (.int i1), .val (.int i2), .val (.int i3), .val (.int i4), .val (.int i5), .val (.int (3 : Int32)), .val (.int pl), .unset, .unset, .unset, .unset, .unset, .unset, .unset, .unset, .unset]) rfl ?_
    have hp : ¬ pl < 0 ∧ pl < (3 : Int32) := by
      have e0 : (0 : Int32).toInt = 0 := by decide
      have en : (3 : Int32).toInt = 3 := by decide
      have q := (c_iremV pm (3 : Int32)).1 (by rw [← h_pm]; exact (c_and _ _ (by decide)).1) (by omega)
      rw [h_pl] at q
      rw [Int32.lt_iff_toInt_lt, Int32.lt_iff_toInt_lt, e0]; omega
    refine OGo.iload (pc' := 20) C X0 at_18 rfl rfl ?_
    refine OGo.ldcInt (pc' := 22) C X0 (wd1 hw) at_20 rfl ?_
    obtain ⟨om, h_om⟩ : ∃ z : Int32, i5 &&& (2147483647 : Int32) = z := ⟨_, rfl⟩
    refine OGo.iand (pc' := 23) (z := om) C X0 at_22 rfl h_om ?_
    refine OGo.iload (pc' := 25) C X0 at_23 rfl rfl ?_
    obtain ⟨ot, h_ot⟩ : ∃ z : Int32, om % (3 : Int32) = z := ⟨_, rfl⟩
    refine OGo.irem (pc' := 26) (z := ot) C X0 at_25 rfl (by decide) h_ot ?_
    refine OGo.istore (pc' := 28) C X0 at_26 rfl (l' := #[.val (.int i0), .val (.int i1), .val (.int i2), .val (.int i3), .val (.int i4), .val (.int i5), .val (.int (3 : Int32)), .val (.int pl), .val (.int ot), .unset, .unset, .unset, .unset, .unset, .unset, .unset, .unset]) rfl ?_
    have ho : ¬ ot < 0 ∧ ot < (3 : Int32) := by
      have e0 : (0 : Int32).toInt = 0 := by decide
      have en : (3 : Int32).toInt = 3 := by decide
      have q := (c_iremV om (3 : Int32)).1 (by rw [← h_om]; exact (c_and _ _ (by decide)).1) (by omega)
      rw [h_ot] at q
      rw [Int32.lt_iff_toInt_lt, Int32.lt_iff_toInt_lt, e0]; omega
    refine OGo.iload (pc' := 30) C X0 at_28 rfl rfl ?_
    obtain ⟨sc, h_sc⟩ : ∃ z : UInt64, FP.i2d i4 = z := ⟨_, rfl⟩
    refine OGo.i2d (pc' := 31) (v := sc) C X0 at_30 rfl h_sc ?_
    refine OGo.dstore (pc' := 33) C X0 at_31 rfl (l' := #[.val (.int i0), .val (.int i1), .val (.int i2), .val (.int i3), .val (.int i4), .val (.int i5), .val (.int (3 : Int32)), .val (.int pl), .val (.int ot), .val (.double sc), .second, .unset, .unset, .unset, .unset, .unset, .unset]) rfl ?_
    refine OGo.iconst (pc' := 34) (z := (2 : Int32)) C X0 at_33 rfl (by decide) ?_
    refine OGo.newarrayE (pc' := 36) (cap := 2) (d0 := (.int (0 : Int32))) (cells' := 1) (slots' := 2) C X0 (wd2 hw) rfl (ad := "[I") (by decide) at_34 rfl (by decide) (by decide) (by decide) rfl rfl rfl (by decide) (by decide) (fun T41 h41 a41 k41 X41 g41 q41 E41 V41 A41 => ?_)
    replace V41 : Arv Z h41 a41 k41 .int (2 : Int32) [(.int (0 : Int32)), (.int (0 : Int32))] (.int (0 : Int32)) := V41.pad (pad_rep [] (.int (0 : Int32)) 2)
    refine OGo.astore (pc' := 38) C X41 at_36 rfl rfl (l' := #[.val (.int i0), .val (.int i1), .val (.int i2), .val (.int i3), .val (.int i4), .val (.int i5), .val (.int (3 : Int32)), .val (.int pl), .val (.int ot), .val (.double sc), .second, .val (.ref a41), .unset, .unset, .unset, .unset, .unset]) rfl ?_
    refine OGo.aload (pc' := 40) C X41 at_38 rfl rfl rfl ?_
    refine OGo.iconst (pc' := 41) (z := (0 : Int32)) C X41 at_40 rfl (by decide) ?_
    refine OGo.iloadN (pc' := 42) C X41 at_41 rfl rfl ?_
    refine OGo.iastore (pc' := 43) C X41 V41 q41 (i := 0) at_42 rfl ⟨by decide, by decide⟩ (by decide) (Nat.le_of_ble_eq_true rfl) (fun T42 h42 X42 W42 V42 => ?_)
    replace V42 : Arv Z h42 a41 k41 .int (2 : Int32) [(.int i0), (.int (0 : Int32))] (.int (0 : Int32)) := V42
    refine OGo.aload (pc' := 45) C X42 at_43 rfl rfl rfl ?_
    refine OGo.iconst (pc' := 46) (z := (1 : Int32)) C X42 at_45 rfl (by decide) ?_
    refine OGo.iloadN (pc' := 47) C X42 at_46 rfl rfl ?_
    refine OGo.iastore (pc' := 48) C X42 V42 q41 (i := 1) at_47 rfl ⟨by decide, by decide⟩ (by decide) (Nat.le_of_ble_eq_true rfl) (fun T43 h43 X43 W43 V43 => ?_)
    replace V43 : Arv Z h43 a41 k41 .int (2 : Int32) [(.int i0), (.int i1)] (.int (0 : Int32)) := V43
    refine OGo.aload (pc' := 50) C X43 at_48 rfl rfl rfl ?_
    refine OGo.iload (pc' := 52) C X43 at_50 rfl rfl ?_
    refine OGo.iload (pc' := 54) C X43 at_52 rfl rfl ?_
    refine OGo.iloadN (pc' := 55) C X43 at_54 rfl rfl ?_
    refine OGo.dload (pc' := 57) C X43 at_55 rfl rfl ?_
    have hlt := V43.lt
    have f44 := ((A41.wr W42).wr W43)
    refine OGo.callS (pc' := 60) (cells' := 5) (slots' := 14) (argsL := [(.ref a41), (.int pl), (.int (3 : Int32)), (.int i3), (.double sc)]) (St := []) C X43 (wd3 hw) (wd4 hw) (by decide) (wd6 hw) (wd5 hw) (ctO3 hw X43.2.1 a41 k41 i0 i1 pl i3 sc V43 f44 hp) (lenOf pd2 rfl) rfl at_57 rfl rfl (by decide) (Nat.le_of_ble_eq_true rfl) rfl rfl (by decide) (by decide) (fun v45 T45 h45 Q45 X45 z45 => ?_)
    obtain ⟨b45, hv45, K45, B45⟩ := Q45
    subst hv45
    show OGo p e below _ T45 (mkF m 60 #[.val (.int i0), .val (.int i1), .val (.int i2), .val (.int i3), .val (.int i4), .val (.int i5), .val (.int (3 : Int32)), .val (.int pl), .val (.int ot), .val (.double sc), .second, .val (.ref a41), .unset, .unset, .unset, .unset, .unset] [(.ref b45)])
    refine OGo.astore (pc' := 62) C X45 at_60 rfl rfl (l' := #[.val (.int i0), .val (.int i1), .val (.int i2), .val (.int i3), .val (.int i4), .val (.int i5), .val (.int (3 : Int32)), .val (.int pl), .val (.int ot), .val (.double sc), .second, .val (.ref a41), .val (.ref b45), .unset, .unset, .unset, .unset]) rfl ?_
    refine OGo.aload (pc' := 64) C X45 at_62 rfl rfl rfl ?_
    refine OGo.iconst (pc' := 65) (z := (0 : Int32)) C X45 at_64 rfl (by decide) ?_
    refine OGo.iloadN (pc' := 66) C X45 at_65 rfl rfl ?_
    refine OGo.iconst (pc' := 67) (z := (-1 : Int32)) C X45 at_66 rfl (by decide) ?_
    refine OGo.ixor (pc' := 68) (z := (i0 ^^^ (-1 : Int32))) C X45 at_67 rfl rfl ?_
    have f46 := (V43.keep K45 nin0)
    refine OGo.iastore (pc' := 69) C X45 f46 q41 (i := 0) at_68 rfl ⟨by decide, by decide⟩ (by decide) (Nat.le_of_ble_eq_true rfl) (fun T47 h47 X47 W47 V47 => ?_)
    replace V47 : Arv Z h47 a41 k41 .int (2 : Int32) [(.int (i0 ^^^ (-1 : Int32))), (.int i1)] (.int (0 : Int32)) := V47
    refine OGo.aload (pc' := 71) C X47 at_69 rfl rfl rfl ?_
    refine OGo.iconst (pc' := 72) (z := (1 : Int32)) C X47 at_71 rfl (by decide) ?_
    refine OGo.iloadN (pc' := 73) C X47 at_72 rfl rfl ?_
    refine OGo.iconst (pc' := 74) (z := (-1 : Int32)) C X47 at_73 rfl (by decide) ?_
    refine OGo.ixor (pc' := 75) (z := (i1 ^^^ (-1 : Int32))) C X47 at_74 rfl rfl ?_
    refine OGo.iastore (pc' := 76) C X47 V47 q41 (i := 1) at_75 rfl ⟨by decide, by decide⟩ (by decide) (Nat.le_of_ble_eq_true rfl) (fun T48 h48 X48 W48 V48 => ?_)
    replace V48 : Arv Z h48 a41 k41 .int (2 : Int32) [(.int (i0 ^^^ (-1 : Int32))), (.int (i1 ^^^ (-1 : Int32)))] (.int (0 : Int32)) := V48
    refine OGo.aload (pc' := 78) C X48 at_76 rfl rfl rfl ?_
    refine OGo.iconst (pc' := 79) (z := (0 : Int32)) C X48 at_78 rfl (by decide) ?_
    have f49 := (own_B_wr (own_B_wr B45 W47 hlt) W48 hlt)
    have f51 := ((B45.1.wr W47).wr W48)
    refine OGo.callV (pc' := 82) (cells' := 5) (slots' := 14) (argsL := [(.int (0 : Int32))]) (St := []) C X48 (wd37 hw) (wd38 hw) (wd40 hw) (wd39 hw) (by decide) f51 (wd41 hw) (wd5 hw) (ctT0 hw X48.2.1 b45 h43.size (3 : Int32) i0 i1 ([(.int (-1 : Int32)), (.int (-1 : Int32)), (.int (-1 : Int32))].set pl.toNatClampNeg (.int i3)) ([(.double (0 : UInt64)), (.double (0 : UInt64)), (.double (0 : UInt64))].set pl.toNatClampNeg (.double sc)) sc f49) (lenOf pd3 rfl) rfl at_79 rfl rfl (by decide) (Nat.le_of_ble_eq_true rfl) rfl rfl (by decide) (by decide) (fun v50 T50 h50 Q50 X50 z50 => ?_)
    obtain ⟨hv50, hh50⟩ := Q50
    subst hv50; rw [hh50] at X50
    show OGo p e below _ T50 (mkF m 82 #[.val (.int i0), .val (.int i1), .val (.int i2), .val (.int i3), .val (.int i4), .val (.int i5), .val (.int (3 : Int32)), .val (.int pl), .val (.int ot), .val (.double sc), .second, .val (.ref a41), .val (.ref b45), .unset, .unset, .unset, .unset] [(.int i0)])
    refine OGo.iloadN (pc' := 83) C X50 at_82 rfl rfl ?_
    refine OGo.icmpNo (pc' := 86) C X50 at_83 rfl (teq rfl).2 ?_
    refine OGo.aload (pc' := 88) C X50 at_86 rfl rfl rfl ?_
    refine OGo.iconst (pc' := 89) (z := (1 : Int32)) C X50 at_88 rfl (by decide) ?_
    refine OGo.callV (pc' := 92) (cells' := 5) (slots' := 14) (argsL := [(.int (1 : Int32))]) (St := []) C X50 (wd37 hw) (wd38 hw) (wd40 hw) (wd39 hw) (by decide) f51 (wd41 hw) (wd5 hw) (ctT1 hw X50.2.1 b45 h43.size (3 : Int32) i0 i1 ([(.int (-1 : Int32)), (.int (-1 : Int32)), (.int (-1 : Int32))].set pl.toNatClampNeg (.int i3)) ([(.double (0 : UInt64)), (.double (0 : UInt64)), (.double (0 : UInt64))].set pl.toNatClampNeg (.double sc)) sc f49) (lenOf pd3 rfl) rfl at_89 rfl rfl (by decide) (Nat.le_of_ble_eq_true rfl) rfl rfl (by decide) (by decide) (fun v52 T52 h52 Q52 X52 z52 => ?_)
    obtain ⟨hv52, hh52⟩ := Q52
    subst hv52; rw [hh52] at X52
    show OGo p e below _ T52 (mkF m 92 #[.val (.int i0), .val (.int i1), .val (.int i2), .val (.int i3), .val (.int i4), .val (.int i5), .val (.int (3 : Int32)), .val (.int pl), .val (.int ot), .val (.double sc), .second, .val (.ref a41), .val (.ref b45), .unset, .unset, .unset, .unset] [(.int i1)])
    refine OGo.iloadN (pc' := 93) C X52 at_92 rfl rfl ?_
    refine OGo.icmpNo (pc' := 96) C X52 at_93 rfl (teq rfl).2 ?_
    refine OGo.aload (pc' := 98) C X52 at_96 rfl rfl rfl ?_
    refine OGo.callV (pc' := 101) (cells' := 5) (slots' := 14) (argsL := []) (St := []) C X52 (wd42 hw) (wd43 hw) (wd45 hw) (wd44 hw) (by decide) f51 (wd46 hw) (wd5 hw) (ct6 hw X52.2.1 b45 h43.size (3 : Int32) i0 i1 ([(.int (-1 : Int32)), (.int (-1 : Int32)), (.int (-1 : Int32))].set pl.toNatClampNeg (.int i3)) ([(.double (0 : UInt64)), (.double (0 : UInt64)), (.double (0 : UInt64))].set pl.toNatClampNeg (.double sc)) sc f49) (lenOf pd4 rfl) rfl at_98 rfl rfl (by decide) (Nat.le_of_ble_eq_true rfl) rfl rfl (by decide) (by decide) (fun v53 T53 h53 Q53 X53 z53 => ?_)
    obtain ⟨hv53, hh53⟩ := Q53
    subst hv53; rw [hh53] at X53
    show OGo p e below _ T53 (mkF m 101 #[.val (.int i0), .val (.int i1), .val (.int i2), .val (.int i3), .val (.int i4), .val (.int i5), .val (.int (3 : Int32)), .val (.int pl), .val (.int ot), .val (.double sc), .second, .val (.ref a41), .val (.ref b45), .unset, .unset, .unset, .unset] [(.double sc)])
    refine OGo.dload (pc' := 103) C X53 at_101 rfl rfl ?_
    refine OGo.dcmp (pc' := 104) (v := (0 : Int32)) C X53 at_103 rfl (dcmpV_self (h_sc ▸ (i2d_fin _).noNaN) .l) ?_
    refine OGo.ifNo (pc' := 107) C X53 at_104 rfl (teq (by decide : (0 : Int32) = (0 : Int32))).2 ?_
    refine OGo.aload (pc' := 109) C X53 at_107 rfl rfl rfl ?_
    refine OGo.iload (pc' := 111) C X53 at_109 rfl rfl ?_
    refine OGo.callV (pc' := 114) (cells' := 5) (slots' := 14) (argsL := [(.int pl)]) (St := []) C X53 (wd47 hw) (wd48 hw) (wd50 hw) (wd49 hw) (by decide) f51 (wd51 hw) (wd5 hw) (ct7 hw X53.2.1 b45 h43.size (3 : Int32) i0 i1 ([(.int (-1 : Int32)), (.int (-1 : Int32)), (.int (-1 : Int32))].set pl.toNatClampNeg (.int i3)) ([(.double (0 : UInt64)), (.double (0 : UInt64)), (.double (0 : UInt64))].set pl.toNatClampNeg (.double sc)) sc pl i3 f49 hp (by exact (own_setget_eq (Nat.lt_of_lt_of_eq (own_nc_lt hp.1 hp.2) (by decide))))) (lenOf pd3 rfl) rfl at_111 rfl rfl (by decide) (Nat.le_of_ble_eq_true rfl) rfl rfl (by decide) (by decide) (fun v54 T54 h54 Q54 X54 z54 => ?_)
    obtain ⟨hv54, hh54⟩ := Q54
    subst hv54; rw [hh54] at X54
    show OGo p e below _ T54 (mkF m 114 #[.val (.int i0), .val (.int i1), .val (.int i2), .val (.int i3), .val (.int i4), .val (.int i5), .val (.int (3 : Int32)), .val (.int pl), .val (.int ot), .val (.double sc), .second, .val (.ref a41), .val (.ref b45), .unset, .unset, .unset, .unset] [(.int i3)])
    refine OGo.iloadN (pc' := 115) C X54 at_114 rfl rfl ?_
    refine OGo.icmpNo (pc' := 118) C X54 at_115 rfl (teq rfl).2 ?_
    refine OGo.aload (pc' := 120) C X54 at_118 rfl rfl rfl ?_
    refine OGo.iload (pc' := 122) C X54 at_120 rfl rfl ?_
    refine OGo.callV (pc' := 125) (cells' := 5) (slots' := 14) (argsL := [(.int pl)]) (St := []) C X54 (wd52 hw) (wd53 hw) (wd55 hw) (wd54 hw) (by decide) f51 (wd56 hw) (wd5 hw) (ct8 hw X54.2.1 b45 h43.size (3 : Int32) i0 i1 ([(.int (-1 : Int32)), (.int (-1 : Int32)), (.int (-1 : Int32))].set pl.toNatClampNeg (.int i3)) ([(.double (0 : UInt64)), (.double (0 : UInt64)), (.double (0 : UInt64))].set pl.toNatClampNeg (.double sc)) sc pl sc f49 hp (by exact (own_setget_eq (Nat.lt_of_lt_of_eq (own_nc_lt hp.1 hp.2) (by decide))))) (lenOf pd5 rfl) rfl at_122 rfl rfl (by decide) (Nat.le_of_ble_eq_true rfl) rfl rfl (by decide) (by decide) (fun v55 T55 h55 Q55 X55 z55 => ?_)
    obtain ⟨hv55, hh55⟩ := Q55
    subst hv55; rw [hh55] at X55
    show OGo p e below _ T55 (mkF m 125 #[.val (.int i0), .val (.int i1), .val (.int i2), .val (.int i3), .val (.int i4), .val (.int i5), .val (.int (3 : Int32)), .val (.int pl), .val (.int ot), .val (.double sc), .second, .val (.ref a41), .val (.ref b45), .unset, .unset, .unset, .unset] [(.double sc)])
    refine OGo.dload (pc' := 127) C X55 at_125 rfl rfl ?_
    refine OGo.dcmp (pc' := 128) (v := (0 : Int32)) C X55 at_127 rfl (dcmpV_self (h_sc ▸ (i2d_fin _).noNaN) .l) ?_
    refine OGo.ifNo (pc' := 131) C X55 at_128 rfl (teq (by decide : (0 : Int32) = (0 : Int32))).2 ?_
    refine OGo.iconst (pc' := 132) (z := (1 : Int32)) C X55 at_131 rfl (by decide) ?_
    refine OGo.goto (pc' := 136) C X55 at_132 (by decide) (by decide) ?_
    refine OGo.istore (pc' := 138) C X55 at_136 rfl (l' := #[.val (.int i0), .val (.int i1), .val (.int i2), .val (.int i3), .val (.int i4), .val (.int i5), .val (.int (3 : Int32)), .val (.int pl), .val (.int ot), .val (.double sc), .second, .val (.ref a41), .val (.ref b45), .val (.int (1 : Int32)), .unset, .unset, .unset]) rfl ?_
    refine OGo.iload (pc' := 140) C X55 at_138 rfl rfl ?_
    refine OGo.iload (pc' := 142) C X55 at_140 rfl rfl ?_
    by_cases eop : ot = pl
    · refine OGo.icmpNo (pc' := 145) C X55 at_142 rfl (teq eop).2 ?_
      refine OGo.iloadN (pc' := 146) C X55 at_145 rfl rfl ?_
      refine OGo.goto (pc' := 150) C X55 at_146 (by decide) (by decide) ?_
      refine OGo.istore (pc' := 152) C X55 at_150 rfl (l' := #[.val (.int i0), .val (.int i1), .val (.int i2), .val (.int i3), .val (.int i4), .val (.int i5), .val (.int (3 : Int32)), .val (.int pl), .val (.int ot), .val (.double sc), .second, .val (.ref a41), .val (.ref b45), .val (.int (1 : Int32)), .val (.int i3), .unset, .unset]) rfl ?_
      refine OGo.iload (pc' := 154) C X55 at_152 rfl rfl ?_
      refine OGo.iload (pc' := 156) C X55 at_154 rfl rfl ?_
      refine OGo.icmpNo (pc' := 159) C X55 at_156 rfl (teq eop).2 ?_
      refine OGo.dload (pc' := 161) C X55 at_159 rfl rfl ?_
      refine OGo.goto (pc' := 165) C X55 at_161 (by decide) (by decide) ?_
      refine OGo.dstore (pc' := 167) C X55 at_165 rfl (l' := #[.val (.int i0), .val (.int i1), .val (.int i2), .val (.int i3), .val (.int i4), .val (.int i5), .val (.int (3 : Int32)), .val (.int pl), .val (.int ot), .val (.double sc), .second, .val (.ref a41), .val (.ref b45), .val (.int (1 : Int32)), .val (.int i3), .val (.double sc), .second]) rfl ?_
      refine OGo.iload (pc' := 169) C X55 at_167 rfl rfl ?_
      refine OGo.ifNo (pc' := 172) C X55 at_169 rfl (feq (by decide : ¬ (1 : Int32) = (0 : Int32))).1 ?_
      refine OGo.aload (pc' := 174) C X55 at_172 rfl rfl rfl ?_
      refine OGo.iload (pc' := 176) C X55 at_174 rfl rfl ?_
      refine OGo.callV (pc' := 179) (cells' := 5) (slots' := 14) (argsL := [(.int ot)]) (St := []) C X55 (wd47 hw) (wd48 hw) (wd50 hw) (wd49 hw) (by decide) f51 (wd51 hw) (wd5 hw) (ct7 hw X55.2.1 b45 h43.size (3 : Int32) i0 i1 ([(.int (-1 : Int32)), (.int (-1 : Int32)), (.int (-1 : Int32))].set pl.toNatClampNeg (.int i3)) ([(.double (0 : UInt64)), (.double (0 : UInt64)), (.double (0 : UInt64))].set pl.toNatClampNeg (.double sc)) sc ot i3 f49 ho (by exact (by rw [eop]; exact own_setget_eq (Nat.lt_of_lt_of_eq (own_nc_lt hp.1 hp.2) (by decide))))) (lenOf pd3 rfl) rfl at_176 rfl rfl (by decide) (Nat.le_of_ble_eq_true rfl) rfl rfl (by decide) (by decide) (fun v57 T57 h57 Q57 X57 z57 => ?_)
      obtain ⟨hv57, hh57⟩ := Q57
      subst hv57; rw [hh57] at X57
      show OGo p e below _ T57 (mkF m 179 #[.val (.int i0), .val (.int i1), .val (.int i2), .val (.int i3), .val (.int i4), .val (.int i5), .val (.int (3 : Int32)), .val (.int pl), .val (.int ot), .val (.double sc), .second, .val (.ref a41), .val (.ref b45), .val (.int (1 : Int32)), .val (.int i3), .val (.double sc), .second] [(.int i3)])
      refine OGo.iload (pc' := 181) C X57 at_179 rfl rfl ?_
      refine OGo.icmpNo (pc' := 184) C X57 at_181 rfl (teq rfl).2 ?_
      refine OGo.aload (pc' := 186) C X57 at_184 rfl rfl rfl ?_
      refine OGo.iload (pc' := 188) C X57 at_186 rfl rfl ?_
      refine OGo.callV (pc' := 191) (cells' := 5) (slots' := 14) (argsL := [(.int ot)]) (St := []) C X57 (wd52 hw) (wd53 hw) (wd55 hw) (wd54 hw) (by decide) f51 (wd56 hw) (wd5 hw) (ct8 hw X57.2.1 b45 h43.size (3 : Int32) i0 i1 ([(.int (-1 : Int32)), (.int (-1 : Int32)), (.int (-1 : Int32))].set pl.toNatClampNeg (.int i3)) ([(.double (0 : UInt64)), (.double (0 : UInt64)), (.double (0 : UInt64))].set pl.toNatClampNeg (.double sc)) sc ot sc f49 ho (by exact (by rw [eop]; exact own_setget_eq (Nat.lt_of_lt_of_eq (own_nc_lt hp.1 hp.2) (by decide))))) (lenOf pd5 rfl) rfl at_188 rfl rfl (by decide) (Nat.le_of_ble_eq_true rfl) rfl rfl (by decide) (by decide) (fun v58 T58 h58 Q58 X58 z58 => ?_)
      obtain ⟨hv58, hh58⟩ := Q58
      subst hv58; rw [hh58] at X58
      show OGo p e below _ T58 (mkF m 191 #[.val (.int i0), .val (.int i1), .val (.int i2), .val (.int i3), .val (.int i4), .val (.int i5), .val (.int (3 : Int32)), .val (.int pl), .val (.int ot), .val (.double sc), .second, .val (.ref a41), .val (.ref b45), .val (.int (1 : Int32)), .val (.int i3), .val (.double sc), .second] [(.double sc)])
      refine OGo.dload (pc' := 193) C X58 at_191 rfl rfl ?_
      refine OGo.dcmp (pc' := 194) (v := (0 : Int32)) C X58 at_193 rfl (dcmpV_self (h_sc ▸ (i2d_fin _).noNaN) .l) ?_
      refine OGo.ifNo (pc' := 197) C X58 at_194 rfl (teq (by decide : (0 : Int32) = (0 : Int32))).2 ?_
      refine OGo.iconst (pc' := 198) (z := (1 : Int32)) C X58 at_197 rfl (by decide) ?_
      refine OGo.goto (pc' := 202) C X58 at_198 (by decide) (by decide) ?_
      exact OGo.retN C X58 at_202 hret (by simp) (z' := (1 : Int32)) (by decide) hlk (rfl) (by decide) (by decide)
    · refine OGo.icmpYes (pc' := 149) C X55 at_142 (feq eop).2 (by decide) (by decide) ?_
      refine OGo.iconst (pc' := 150) (z := (-1 : Int32)) C X55 at_149 rfl (by decide) ?_
      refine OGo.istore (pc' := 152) C X55 at_150 rfl (l' := #[.val (.int i0), .val (.int i1), .val (.int i2), .val (.int i3), .val (.int i4), .val (.int i5), .val (.int (3 : Int32)), .val (.int pl), .val (.int ot), .val (.double sc), .second, .val (.ref a41), .val (.ref b45), .val (.int (1 : Int32)), .val (.int (-1 : Int32)), .unset, .unset]) rfl ?_
      refine OGo.iload (pc' := 154) C X55 at_152 rfl rfl ?_
      refine OGo.iload (pc' := 156) C X55 at_154 rfl rfl ?_
      refine OGo.icmpYes (pc' := 164) C X55 at_156 (feq eop).2 (by decide) (by decide) ?_
      refine OGo.dconst0 (pc' := 165) (v := (FP.dconst0)) C X55 at_164 rfl rfl ?_
      refine OGo.dstore (pc' := 167) C X55 at_165 rfl (l' := #[.val (.int i0), .val (.int i1), .val (.int i2), .val (.int i3), .val (.int i4), .val (.int i5), .val (.int (3 : Int32)), .val (.int pl), .val (.int ot), .val (.double sc), .second, .val (.ref a41), .val (.ref b45), .val (.int (1 : Int32)), .val (.int (-1 : Int32)), .val (.double (FP.dconst0)), .second]) rfl ?_
      refine OGo.iload (pc' := 169) C X55 at_167 rfl rfl ?_
      refine OGo.ifNo (pc' := 172) C X55 at_169 rfl (feq (by decide : ¬ (1 : Int32) = (0 : Int32))).1 ?_
      refine OGo.aload (pc' := 174) C X55 at_172 rfl rfl rfl ?_
      refine OGo.iload (pc' := 176) C X55 at_174 rfl rfl ?_
      refine OGo.callV (pc' := 179) (cells' := 5) (slots' := 14) (argsL := [(.int ot)]) (St := []) C X55 (wd47 hw) (wd48 hw) (wd50 hw) (wd49 hw) (by decide) f51 (wd51 hw) (wd5 hw) (ct7 hw X55.2.1 b45 h43.size (3 : Int32) i0 i1 ([(.int (-1 : Int32)), (.int (-1 : Int32)), (.int (-1 : Int32))].set pl.toNatClampNeg (.int i3)) ([(.double (0 : UInt64)), (.double (0 : UInt64)), (.double (0 : UInt64))].set pl.toNatClampNeg (.double sc)) sc ot (-1 : Int32) f49 ho (by exact ((own_setget_ne (vs := List.replicate 3 (.int (-1 : Int32))) (own_nc_ne hp.1 ho.1 (Ne.symm eop))).trans (own_rep (n := 3) (Nat.lt_of_lt_of_eq (own_nc_lt ho.1 ho.2) (by decide)))))) (lenOf pd3 rfl) rfl at_176 rfl rfl (by decide) (Nat.le_of_ble_eq_true rfl) rfl rfl (by decide) (by decide) (fun v59 T59 h59 Q59 X59 z59 => ?_)
      obtain ⟨hv59, hh59⟩ := Q59
      subst hv59; rw [hh59] at X59
      show OGo p e below _ T59 (mkF m 179 #[.val (.int i0), .val (.int i1), .val (.int i2), .val (.int i3), .val (.int i4), .val (.int i5), .val (.int (3 : Int32)), .val (.int pl), .val (.int ot), .val (.double sc), .second, .val (.ref a41), .val (.ref b45), .val (.int (1 : Int32)), .val (.int (-1 : Int32)), .val (.double (FP.dconst0)), .second] [(.int (-1 : Int32))])
      refine OGo.iload (pc' := 181) C X59 at_179 rfl rfl ?_
      refine OGo.icmpNo (pc' := 184) C X59 at_181 rfl (teq (by decide : (-1 : Int32) = (-1 : Int32))).2 ?_
      refine OGo.aload (pc' := 186) C X59 at_184 rfl rfl rfl ?_
      refine OGo.iload (pc' := 188) C X59 at_186 rfl rfl ?_
      refine OGo.callV (pc' := 191) (cells' := 5) (slots' := 14) (argsL := [(.int ot)]) (St := []) C X59 (wd52 hw) (wd53 hw) (wd55 hw) (wd54 hw) (by decide) f51 (wd56 hw) (wd5 hw) (ct8 hw X59.2.1 b45 h43.size (3 : Int32) i0 i1 ([(.int (-1 : Int32)), (.int (-1 : Int32)), (.int (-1 : Int32))].set pl.toNatClampNeg (.int i3)) ([(.double (0 : UInt64)), (.double (0 : UInt64)), (.double (0 : UInt64))].set pl.toNatClampNeg (.double sc)) sc ot (0 : UInt64) f49 ho (by exact ((own_setget_ne (vs := List.replicate 3 (.double (0 : UInt64))) (own_nc_ne hp.1 ho.1 (Ne.symm eop))).trans (own_rep (n := 3) (Nat.lt_of_lt_of_eq (own_nc_lt ho.1 ho.2) (by decide)))))) (lenOf pd5 rfl) rfl at_188 rfl rfl (by decide) (Nat.le_of_ble_eq_true rfl) rfl rfl (by decide) (by decide) (fun v60 T60 h60 Q60 X60 z60 => ?_)
      obtain ⟨hv60, hh60⟩ := Q60
      subst hv60; rw [hh60] at X60
      show OGo p e below _ T60 (mkF m 191 #[.val (.int i0), .val (.int i1), .val (.int i2), .val (.int i3), .val (.int i4), .val (.int i5), .val (.int (3 : Int32)), .val (.int pl), .val (.int ot), .val (.double sc), .second, .val (.ref a41), .val (.ref b45), .val (.int (1 : Int32)), .val (.int (-1 : Int32)), .val (.double (FP.dconst0)), .second] [(.double (0 : UInt64))])
      refine OGo.dload (pc' := 193) C X60 at_191 rfl rfl ?_
      refine OGo.dcmp (pc' := 194) (v := (0 : Int32)) C X60 at_193 rfl (by decide +kernel) ?_
      refine OGo.ifNo (pc' := 197) C X60 at_194 rfl (teq (by decide : (0 : Int32) = (0 : Int32))).2 ?_
      refine OGo.iconst (pc' := 198) (z := (1 : Int32)) C X60 at_197 rfl (by decide) ?_
      refine OGo.goto (pc' := 202) C X60 at_198 (by decide) (by decide) ?_
      exact OGo.retN C X60 at_202 hret (by simp) (z' := (1 : Int32)) (by decide) hlk (rfl) (by decide) (by decide)
  · refine OGo.iloadN (pc' := 8) C X0 at_7 rfl rfl ?_
    refine OGo.iconst (pc' := 9) (z := (2 : Int32)) C X0 at_8 rfl (by decide) ?_
    refine OGo.iushr (pc' := 10) (z := ((i2.toUInt32 >>> ((2 : Int32) &&& 31).toUInt32).toInt32)) C X0 at_9 rfl rfl ?_
    refine OGo.ldcInt (pc' := 12) C X0 (wd0 hw) at_10 rfl ?_
    obtain ⟨pm, h_pm⟩ : ∃ z : Int32, ((i2.toUInt32 >>> ((2 : Int32) &&& 31).toUInt32).toInt32) &&& (65535 : Int32) = z := ⟨_, rfl⟩
    refine OGo.iand (pc' := 13) (z := pm) C X0 at_12 rfl h_pm ?_
    refine OGo.iload (pc' := 15) C X0 at_13 rfl rfl ?_
    obtain ⟨pl, h_pl⟩ : ∃ z : Int32, pm % (4 : Int32) = z := ⟨_, rfl⟩
    refine OGo.irem (pc' := 16) (z := pl) C X0 at_15 rfl (by decide) h_pl ?_
    refine OGo.istore (pc' := 18) C X0 at_16 rfl (l' := #[.val (.int i0), .val (.int i1), .val (.int i2), .val (.int i3), .val (.int i4), .val (.int i5), .val (.int (4 : Int32)), .val (.int pl), .unset, .unset, .unset, .unset, .unset, .unset, .unset, .unset, .unset]) rfl ?_
    have hp : ¬ pl < 0 ∧ pl < (4 : Int32) := by
      have e0 : (0 : Int32).toInt = 0 := by decide
      have en : (4 : Int32).toInt = 4 := by decide
      have q := (c_iremV pm (4 : Int32)).1 (by rw [← h_pm]; exact (c_and _ _ (by decide)).1) (by omega)
      rw [h_pl] at q
      rw [Int32.lt_iff_toInt_lt, Int32.lt_iff_toInt_lt, e0]; omega
    refine OGo.iload (pc' := 20) C X0 at_18 rfl rfl ?_
    refine OGo.ldcInt (pc' := 22) C X0 (wd1 hw) at_20 rfl ?_
    obtain ⟨om, h_om⟩ : ∃ z : Int32, i5 &&& (2147483647 : Int32) = z := ⟨_, rfl⟩
    refine OGo.iand (pc' := 23) (z := om) C X0 at_22 rfl h_om ?_
    refine OGo.iload (pc' := 25) C X0 at_23 rfl rfl ?_
    obtain ⟨ot, h_ot⟩ : ∃ z : Int32, om % (4 : Int32) = z := ⟨_, rfl⟩
    refine OGo.irem (pc' := 26) (z := ot) C X0 at_25 rfl (by decide) h_ot ?_
    refine OGo.istore (pc' := 28) C X0 at_26 rfl (l' := #[.val (.int i0), .val (.int i1), .val (.int i2), .val (.int i3), .val (.int i4), .val (.int i5), .val (.int (4 : Int32)), .val (.int pl), .val (.int ot), .unset, .unset, .unset, .unset, .unset, .unset, .unset, .unset]) rfl ?_
    have ho : ¬ ot < 0 ∧ ot < (4 : Int32) := by
      have e0 : (0 : Int32).toInt = 0 := by decide
      have en : (4 : Int32).toInt = 4 := by decide
      have q := (c_iremV om (4 : Int32)).1 (by rw [← h_om]; exact (c_and _ _ (by decide)).1) (by omega)
      rw [h_ot] at q
      rw [Int32.lt_iff_toInt_lt, Int32.lt_iff_toInt_lt, e0]; omega
    refine OGo.iload (pc' := 30) C X0 at_28 rfl rfl ?_
    obtain ⟨sc, h_sc⟩ : ∃ z : UInt64, FP.i2d i4 = z := ⟨_, rfl⟩
    refine OGo.i2d (pc' := 31) (v := sc) C X0 at_30 rfl h_sc ?_
    refine OGo.dstore (pc' := 33) C X0 at_31 rfl (l' := #[.val (.int i0), .val (.int i1), .val (.int i2), .val (.int i3), .val (.int i4), .val (.int i5), .val (.int (4 : Int32)), .val (.int pl), .val (.int ot), .val (.double sc), .second, .unset, .unset, .unset, .unset, .unset, .unset]) rfl ?_
    refine OGo.iconst (pc' := 34) (z := (2 : Int32)) C X0 at_33 rfl (by decide) ?_
    refine OGo.newarrayE (pc' := 36) (cap := 2) (d0 := (.int (0 : Int32))) (cells' := 1) (slots' := 2) C X0 (wd2 hw) rfl (ad := "[I") (by decide) at_34 rfl (by decide) (by decide) (by decide) rfl rfl rfl (by decide) (by decide) (fun T61 h61 a61 k61 X61 g61 q61 E61 V61 A61 => ?_)
    replace V61 : Arv Z h61 a61 k61 .int (2 : Int32) [(.int (0 : Int32)), (.int (0 : Int32))] (.int (0 : Int32)) := V61.pad (pad_rep [] (.int (0 : Int32)) 2)
    refine OGo.astore (pc' := 38) C X61 at_36 rfl rfl (l' := #[.val (.int i0), .val (.int i1), .val (.int i2), .val (.int i3), .val (.int i4), .val (.int i5), .val (.int (4 : Int32)), .val (.int pl), .val (.int ot), .val (.double sc), .second, .val (.ref a61), .unset, .unset, .unset, .unset, .unset]) rfl ?_
    refine OGo.aload (pc' := 40) C X61 at_38 rfl rfl rfl ?_
    refine OGo.iconst (pc' := 41) (z := (0 : Int32)) C X61 at_40 rfl (by decide) ?_
    refine OGo.iloadN (pc' := 42) C X61 at_41 rfl rfl ?_
    refine OGo.iastore (pc' := 43) C X61 V61 q61 (i := 0) at_42 rfl ⟨by decide, by decide⟩ (by decide) (Nat.le_of_ble_eq_true rfl) (fun T62 h62 X62 W62 V62 => ?_)
    replace V62 : Arv Z h62 a61 k61 .int (2 : Int32) [(.int i0), (.int (0 : Int32))] (.int (0 : Int32)) := V62
    refine OGo.aload (pc' := 45) C X62 at_43 rfl rfl rfl ?_
    refine OGo.iconst (pc' := 46) (z := (1 : Int32)) C X62 at_45 rfl (by decide) ?_
    refine OGo.iloadN (pc' := 47) C X62 at_46 rfl rfl ?_
    refine OGo.iastore (pc' := 48) C X62 V62 q61 (i := 1) at_47 rfl ⟨by decide, by decide⟩ (by decide) (Nat.le_of_ble_eq_true rfl) (fun T63 h63 X63 W63 V63 => ?_)
    replace V63 : Arv Z h63 a61 k61 .int (2 : Int32) [(.int i0), (.int i1)] (.int (0 : Int32)) := V63
    refine OGo.aload (pc' := 50) C X63 at_48 rfl rfl rfl ?_
    refine OGo.iload (pc' := 52) C X63 at_50 rfl rfl ?_
    refine OGo.iload (pc' := 54) C X63 at_52 rfl rfl ?_
    refine OGo.iloadN (pc' := 55) C X63 at_54 rfl rfl ?_
    refine OGo.dload (pc' := 57) C X63 at_55 rfl rfl ?_
    have hlt := V63.lt
    have f64 := ((A61.wr W62).wr W63)
    refine OGo.callS (pc' := 60) (cells' := 5) (slots' := 16) (argsL := [(.ref a61), (.int pl), (.int (4 : Int32)), (.int i3), (.double sc)]) (St := []) C X63 (wd3 hw) (wd4 hw) (by decide) (wd6 hw) (wd5 hw) (ctO4 hw X63.2.1 a61 k61 i0 i1 pl i3 sc V63 f64 hp) (lenOf pd2 rfl) rfl at_57 rfl rfl (by decide) (Nat.le_of_ble_eq_true rfl) rfl rfl (by decide) (by decide) (fun v65 T65 h65 Q65 X65 z65 => ?_)
    obtain ⟨b65, hv65, K65, B65⟩ := Q65
    subst hv65
    show OGo p e below _ T65 (mkF m 60 #[.val (.int i0), .val (.int i1), .val (.int i2), .val (.int i3), .val (.int i4), .val (.int i5), .val (.int (4 : Int32)), .val (.int pl), .val (.int ot), .val (.double sc), .second, .val (.ref a61), .unset, .unset, .unset, .unset, .unset] [(.ref b65)])
    refine OGo.astore (pc' := 62) C X65 at_60 rfl rfl (l' := #[.val (.int i0), .val (.int i1), .val (.int i2), .val (.int i3), .val (.int i4), .val (.int i5), .val (.int (4 : Int32)), .val (.int pl), .val (.int ot), .val (.double sc), .second, .val (.ref a61), .val (.ref b65), .unset, .unset, .unset, .unset]) rfl ?_
    refine OGo.aload (pc' := 64) C X65 at_62 rfl rfl rfl ?_
    refine OGo.iconst (pc' := 65) (z := (0 : Int32)) C X65 at_64 rfl (by decide) ?_
    refine OGo.iloadN (pc' := 66) C X65 at_65 rfl rfl ?_
    refine OGo.iconst (pc' := 67) (z := (-1 : Int32)) C X65 at_66 rfl (by decide) ?_
    refine OGo.ixor (pc' := 68) (z := (i0 ^^^ (-1 : Int32))) C X65 at_67 rfl rfl ?_
    have f66 := (V63.keep K65 nin0)
    refine OGo.iastore (pc' := 69) C X65 f66 q61 (i := 0) at_68 rfl ⟨by decide, by decide⟩ (by decide) (Nat.le_of_ble_eq_true rfl) (fun T67 h67 X67 W67 V67 => ?_)
    replace V67 : Arv Z h67 a61 k61 .int (2 : Int32) [(.int (i0 ^^^ (-1 : Int32))), (.int i1)] (.int (0 : Int32)) := V67
    refine OGo.aload (pc' := 71) C X67 at_69 rfl rfl rfl ?_
    refine OGo.iconst (pc' := 72) (z := (1 : Int32)) C X67 at_71 rfl (by decide) ?_
    refine OGo.iloadN (pc' := 73) C X67 at_72 rfl rfl ?_
    refine OGo.iconst (pc' := 74) (z := (-1 : Int32)) C X67 at_73 rfl (by decide) ?_
    refine OGo.ixor (pc' := 75) (z := (i1 ^^^ (-1 : Int32))) C X67 at_74 rfl rfl ?_
    refine OGo.iastore (pc' := 76) C X67 V67 q61 (i := 1) at_75 rfl ⟨by decide, by decide⟩ (by decide) (Nat.le_of_ble_eq_true rfl) (fun T68 h68 X68 W68 V68 => ?_)
    replace V68 : Arv Z h68 a61 k61 .int (2 : Int32) [(.int (i0 ^^^ (-1 : Int32))), (.int (i1 ^^^ (-1 : Int32)))] (.int (0 : Int32)) := V68
    refine OGo.aload (pc' := 78) C X68 at_76 rfl rfl rfl ?_
    refine OGo.iconst (pc' := 79) (z := (0 : Int32)) C X68 at_78 rfl (by decide) ?_
    have f69 := (own_B_wr (own_B_wr B65 W67 hlt) W68 hlt)
    have f71 := ((B65.1.wr W67).wr W68)
    refine OGo.callV (pc' := 82) (cells' := 5) (slots' := 16) (argsL := [(.int (0 : Int32))]) (St := []) C X68 (wd37 hw) (wd38 hw) (wd40 hw) (wd39 hw) (by decide) f71 (wd41 hw) (wd5 hw) (ctT0 hw X68.2.1 b65 h63.size (4 : Int32) i0 i1 ([(.int (-1 : Int32)), (.int (-1 : Int32)), (.int (-1 : Int32)), (.int (-1 : Int32))].set pl.toNatClampNeg (.int i3)) ([(.double (0 : UInt64)), (.double (0 : UInt64)), (.double (0 : UInt64)), (.double (0 : UInt64))].set pl.toNatClampNeg (.double sc)) sc f69) (lenOf pd3 rfl) rfl at_79 rfl rfl (by decide) (Nat.le_of_ble_eq_true rfl) rfl rfl (by decide) (by decide) (fun v70 T70 h70 Q70 X70 z70 => ?_)
    obtain ⟨hv70, hh70⟩ := Q70
    subst hv70; rw [hh70] at X70
    show OGo p e below _ T70 (mkF m 82 #[.val (.int i0), .val (.int i1), .val (.int i2), .val (.int i3), .val (.int i4), .val (.int i5), .val (.int (4 : Int32)), .val (.int pl), .val (.int ot), .val (.double sc), .second, .val (.ref a61), .val (.ref b65), .unset, .unset, .unset, .unset] [(.int i0)])
    refine OGo.iloadN (pc' := 83) C X70 at_82 rfl rfl ?_
    refine OGo.icmpNo (pc' := 86) C X70 at_83 rfl (teq rfl).2 ?_
    refine OGo.aload (pc' := 88) C X70 at_86 rfl rfl rfl ?_
    refine OGo.iconst (pc' := 89) (z := (1 : Int32)) C X70 at_88 rfl (by decide) ?_
    refine OGo.callV (pc' := 92) (cells' := 5) (slots' := 16) (argsL := [(.int (1 : Int32))]) (St := []) C X70 (wd37 hw) (wd38 hw) (wd40 hw) (wd39 hw) (by decide) f71 (wd41 hw) (wd5 hw) (ctT1 hw X70.2.1 b65 h63.size (4 : Int32) i0 i1 ([(.int (-1 : Int32)), (.int (-1 : Int32)), (.int (-1 : Int32)), (.int (-1 : Int32))].set pl.toNatClampNeg (.int i3)) ([(.double (0 : UInt64)), (.double (0 : UInt64)), (.double (0 : UInt64)), (.double (0 : UInt64))].set pl.toNatClampNeg (.double sc)) sc f69) (lenOf pd3 rfl) rfl at_89 rfl rfl (by decide) (Nat.le_of_ble_eq_true rfl) rfl rfl (by decide) (by decide) (fun v72 T72 h72 Q72 X72 z72 => ?_)
    obtain ⟨hv72, hh72⟩ := Q72
    subst hv72; rw [hh72] at X72
    show OGo p e below _ T72 (mkF m 92 #[.val (.int i0), .val (.int i1), .val (.int i2), .val (.int i3), .val (.int i4), .val (.int i5), .val (.int (4 : Int32)), .val (.int pl), .val (.int ot), .val (.double sc), .second, .val (.ref a61), .val (.ref b65), .unset, .unset, .unset, .unset] [(.int i1)])
    refine OGo.iloadN (pc' := 93) C X72 at_92 rfl rfl ?_
    refine OGo.icmpNo (pc' := 96) C X72 at_93 rfl (teq rfl).2 ?_
    refine OGo.aload (pc' := 98) C X72 at_96 rfl rfl rfl ?_
    refine OGo.callV (pc' := 101) (cells' := 5) (slots' := 16) (argsL := []) (St := []) C X72 (wd42 hw) (wd43 hw) (wd45 hw) (wd44 hw) (by decide) f71 (wd46 hw) (wd5 hw) (ct6 hw X72.2.1 b65 h63.size (4 : Int32) i0 i1 ([(.int (-1 : Int32)), (.int (-1 : Int32)), (.int (-1 : Int32)), (.int (-1 : Int32))].set pl.toNatClampNeg (.int i3)) ([(.double (0 : UInt64)), (.double (0 : UInt64)), (.double (0 : UInt64)), (.double (0 : UInt64))].set pl.toNatClampNeg (.double sc)) sc f69) (lenOf pd4 rfl) rfl at_98 rfl rfl (by decide) (Nat.le_of_ble_eq_true rfl) rfl rfl (by decide) (by decide) (fun v73 T73 h73 Q73 X73 z73 => ?_)
    obtain ⟨hv73, hh73⟩ := Q73
    subst hv73; rw [hh73] at X73
    show OGo p e below _ T73 (mkF m 101 #[.val (.int i0), .val (.int i1), .val (.int i2), .val (.int i3), .val (.int i4), .val (.int i5), .val (.int (4 : Int32)), .val (.int pl), .val (.int ot), .val (.double sc), .second, .val (.ref a61), .val (.ref b65), .unset, .unset, .unset, .unset] [(.double sc)])
    refine OGo.dload (pc' := 103) C X73 at_101 rfl rfl ?_
    refine OGo.dcmp (pc' := 104) (v := (0 : Int32)) C X73 at_103 rfl (dcmpV_self (h_sc ▸ (i2d_fin _).noNaN) .l) ?_
    refine OGo.ifNo (pc' := 107) C X73 at_104 rfl (teq (by decide : (0 : Int32) = (0 : Int32))).2 ?_
    refine OGo.aload (pc' := 109) C X73 at_107 rfl rfl rfl ?_
    refine OGo.iload (pc' := 111) C X73 at_109 rfl rfl ?_
    refine OGo.callV (pc' := 114) (cells' := 5) (slots' := 16) (argsL := [(.int pl)]) (St := []) C X73 (wd47 hw) (wd48 hw) (wd50 hw) (wd49 hw) (by decide) f71 (wd51 hw) (wd5 hw) (ct7 hw X73.2.1 b65 h63.size (4 : Int32) i0 i1 ([(.int (-1 : Int32)), (.int (-1 : Int32)), (.int (-1 : Int32)), (.int (-1 : Int32))].set pl.toNatClampNeg (.int i3)) ([(.double (0 : UInt64)), (.double (0 : UInt64)), (.double (0 : UInt64)), (.double (0 : UInt64))].set pl.toNatClampNeg (.double sc)) sc pl i3 f69 hp (by exact (own_setget_eq (Nat.lt_of_lt_of_eq (own_nc_lt hp.1 hp.2) (by decide))))) (lenOf pd3 rfl) rfl at_111 rfl rfl (by decide) (Nat.le_of_ble_eq_true rfl) rfl rfl (by decide) (by decide) (fun v74 T74 h74 Q74 X74 z74 => ?_)
    obtain ⟨hv74, hh74⟩ := Q74
    subst hv74; rw [hh74] at X74
    show OGo p e below _ T74 (mkF m 114 #[.val (.int i0), .val (.int i1), .val (.int i2), .val (.int i3), .val (.int i4), .val (.int i5), .val (.int (4 : Int32)), .val (.int pl), .val (.int ot), .val (.double sc), .second, .val (.ref a61), .val (.ref b65), .unset, .unset, .unset, .unset] [(.int i3)])
    refine OGo.iloadN (pc' := 115) C X74 at_114 rfl rfl ?_
    refine OGo.icmpNo (pc' := 118) C X74 at_115 rfl (teq rfl).2 ?_
    refine OGo.aload (pc' := 120) C X74 at_118 rfl rfl rfl ?_
    refine OGo.iload (pc' := 122) C X74 at_120 rfl rfl ?_
    refine OGo.callV (pc' := 125) (cells' := 5) (slots' := 16) (argsL := [(.int pl)]) (St := []) C X74 (wd52 hw) (wd53 hw) (wd55 hw) (wd54 hw) (by decide) f71 (wd56 hw) (wd5 hw) (ct8 hw X74.2.1 b65 h63.size (4 : Int32) i0 i1 ([(.int (-1 : Int32)), (.int (-1 : Int32)), (.int (-1 : Int32)), (.int (-1 : Int32))].set pl.toNatClampNeg (.int i3)) ([(.double (0 : UInt64)), (.double (0 : UInt64)), (.double (0 : UInt64)), (.double (0 : UInt64))].set pl.toNatClampNeg (.double sc)) sc pl sc f69 hp (by exact (own_setget_eq (Nat.lt_of_lt_of_eq (own_nc_lt hp.1 hp.2) (by decide))))) (lenOf pd5 rfl) rfl at_122 rfl rfl (by decide) (Nat.le_of_ble_eq_true rfl) rfl rfl (by decide) (by decide) (fun v75 T75 h75 Q75 X75 z75 => ?_)
    obtain ⟨hv75, hh75⟩ := Q75
    subst hv75; rw [hh75] at X75
    show OGo p e below _ T75 (mkF m 125 #[.val (.int i0), .val (.int i1), .val (.int i2), .val (.int i3), .val (.int i4), .val (.int i5), .val (.int (4 : Int32)), .val (.int pl), .val (.int ot), .val (.double sc), .second, .val (.ref a61), .val (.ref b65), .unset, .unset, .unset, .unset] [(.double sc)])
    refine OGo.dload (pc' := 127) C X75 at_125 rfl rfl ?_
    refine OGo.dcmp (pc' := 128) (v := (0 : Int32)) C X75 at_127 rfl (dcmpV_self (h_sc ▸ (i2d_fin _).noNaN) .l) ?_
    refine OGo.ifNo (pc' := 131) C X75 at_128 rfl (teq (by decide : (0 : Int32) = (0 : Int32))).2 ?_
    refine OGo.iconst (pc' := 132) (z := (1 : Int32)) C X75 at_131 rfl (by decide) ?_
    refine OGo.goto (pc' := 136) C X75 at_132 (by decide) (by decide) ?_
    refine OGo.istore (pc' := 138) C X75 at_136 rfl (l' := #[.val (.int i0), .val (.int i1), .val (.int i2), .val (.int i3), .val (.int i4), .val (.int i5), .val (.int (4 : Int32)), .val (.int pl), .val (.int ot), .val (.double sc), .second, .val (.ref a61), .val (.ref b65), .val (.int (1 : Int32)), .unset, .unset, .unset]) rfl ?_
    refine OGo.iload (pc' := 140) C X75 at_138 rfl rfl ?_
    refine OGo.iload (pc' := 142) C X75 at_140 rfl rfl ?_
    by_cases eop : ot = pl
    · refine OGo.icmpNo (pc' := 145) C X75 at_142 rfl (teq eop).2 ?_
      refine OGo.iloadN (pc' := 146) C X75 at_145 rfl rfl ?_
      refine OGo.goto (pc' := 150) C X75 at_146 (by decide) (by decide) ?_
      refine OGo.istore (pc' := 152) C X75 at_150 rfl (l' := #[.val (.int i0), .val (.int i1), .val (.int i2), .val (.int i3), .val (.int i4), .val (.int i5), .val (.int (4 : Int32)), .val (.int pl), .val (.int ot), .val (.double sc), .second, .val (.ref a61), .val (.ref b65), .val (.int (1 : Int32)), .val (.int i3), .unset, .unset]) rfl ?_
      refine OGo.iload (pc' := 154) C X75 at_152 rfl rfl ?_
      refine OGo.iload (pc' := 156) C X75 at_154 rfl rfl ?_
      refine OGo.icmpNo (pc' := 159) C X75 at_156 rfl (teq eop).2 ?_
      refine OGo.dload (pc' := 161) C X75 at_159 rfl rfl ?_
      refine OGo.goto (pc' := 165) C X75 at_161 (by decide) (by decide) ?_
      refine OGo.dstore (pc' := 167) C X75 at_165 rfl (l' := #[.val (.int i0), .val (.int i1), .val (.int i2), .val (.int i3), .val (.int i4), .val (.int i5), .val (.int (4 : Int32)), .val (.int pl), .val (.int ot), .val (.double sc), .second, .val (.ref a61), .val (.ref b65), .val (.int (1 : Int32)), .val (.int i3), .val (.double sc), .second]) rfl ?_
      refine OGo.iload (pc' := 169) C X75 at_167 rfl rfl ?_
      refine OGo.ifNo (pc' := 172) C X75 at_169 rfl (feq (by decide : ¬ (1 : Int32) = (0 : Int32))).1 ?_
      refine OGo.aload (pc' := 174) C X75 at_172 rfl rfl rfl ?_
      refine OGo.iload (pc' := 176) C X75 at_174 rfl rfl ?_
      refine OGo.callV (pc' := 179) (cells' := 5) (slots' := 16) (argsL := [(.int ot)]) (St := []) C X75 (wd47 hw) (wd48 hw) (wd50 hw) (wd49 hw) (by decide) f71 (wd51 hw) (wd5 hw) (ct7 hw X75.2.1 b65 h63.size (4 : Int32) i0 i1 ([(.int (-1 : Int32)), (.int (-1 : Int32)), (.int (-1 : Int32)), (.int (-1 : Int32))].set pl.toNatClampNeg (.int i3)) ([(.double (0 : UInt64)), (.double (0 : UInt64)), (.double (0 : UInt64)), (.double (0 : UInt64))].set pl.toNatClampNeg (.double sc)) sc ot i3 f69 ho (by exact (by rw [eop]; exact own_setget_eq (Nat.lt_of_lt_of_eq (own_nc_lt hp.1 hp.2) (by decide))))) (lenOf pd3 rfl) rfl at_176 rfl rfl (by decide) (Nat.le_of_ble_eq_true rfl) rfl rfl (by decide) (by decide) (fun v77 T77 h77 Q77 X77 z77 => ?_)
      obtain ⟨hv77, hh77⟩ := Q77
      subst hv77; rw [hh77] at X77
      show OGo p e below _ T77 (mkF m 179 #[.val (.int i0), .val (.int i1), .val (.int i2), .val (.int i3), .val (.int i4), .val (.int i5), .val (.int (4 : Int32)), .val (.int pl), .val (.int ot), .val (.double sc), .second, .val (.ref a61), .val (.ref b65), .val (.int (1 : Int32)), .val (.int i3), .val (.double sc), .second] [(.int i3)])
      refine OGo.iload (pc' := 181) C X77 at_179 rfl rfl ?_
      refine OGo.icmpNo (pc' := 184) C X77 at_181 rfl (teq rfl).2 ?_
      refine OGo.aload (pc' := 186) C X77 at_184 rfl rfl rfl ?_
      refine OGo.iload (pc' := 188) C X77 at_186 rfl rfl ?_
      refine OGo.callV (pc' := 191) (cells' := 5) (slots' := 16) (argsL := [(.int ot)]) (St := []) C X77 (wd52 hw) (wd53 hw) (wd55 hw) (wd54 hw) (by decide) f71 (wd56 hw) (wd5 hw) (ct8 hw X77.2.1 b65 h63.size (4 : Int32) i0 i1 ([(.int (-1 : Int32)), (.int (-1 : Int32)), (.int (-1 : Int32)), (.int (-1 : Int32))].set pl.toNatClampNeg (.int i3)) ([(.double (0 : UInt64)), (.double (0 : UInt64)), (.double (0 : UInt64)), (.double (0 : UInt64))].set pl.toNatClampNeg (.double sc)) sc ot sc f69 ho (by exact (by rw [eop]; exact own_setget_eq (Nat.lt_of_lt_of_eq (own_nc_lt hp.1 hp.2) (by decide))))) (lenOf pd5 rfl) rfl at_188 rfl rfl (by decide) (Nat.le_of_ble_eq_true rfl) rfl rfl (by decide) (by decide) (fun v78 T78 h78 Q78 X78 z78 => ?_)
      obtain ⟨hv78, hh78⟩ := Q78
      subst hv78; rw [hh78] at X78
      show OGo p e below _ T78 (mkF m 191 #[.val (.int i0), .val (.int i1), .val (.int i2), .val (.int i3), .val (.int i4), .val (.int i5), .val (.int (4 : Int32)), .val (.int pl), .val (.int ot), .val (.double sc), .second, .val (.ref a61), .val (.ref b65), .val (.int (1 : Int32)), .val (.int i3), .val (.double sc), .second] [(.double sc)])
      refine OGo.dload (pc' := 193) C X78 at_191 rfl rfl ?_
      refine OGo.dcmp (pc' := 194) (v := (0 : Int32)) C X78 at_193 rfl (dcmpV_self (h_sc ▸ (i2d_fin _).noNaN) .l) ?_
      refine OGo.ifNo (pc' := 197) C X78 at_194 rfl (teq (by decide : (0 : Int32) = (0 : Int32))).2 ?_
      refine OGo.iconst (pc' := 198) (z := (1 : Int32)) C X78 at_197 rfl (by decide) ?_
      refine OGo.goto (pc' := 202) C X78 at_198 (by decide) (by decide) ?_
      exact OGo.retN C X78 at_202 hret (by simp) (z' := (1 : Int32)) (by decide) hlk (rfl) (by decide) (by decide)
    · refine OGo.icmpYes (pc' := 149) C X75 at_142 (feq eop).2 (by decide) (by decide) ?_
      refine OGo.iconst (pc' := 150) (z := (-1 : Int32)) C X75 at_149 rfl (by decide) ?_
      refine OGo.istore (pc' := 152) C X75 at_150 rfl (l' := #[.val (.int i0), .val (.int i1), .val (.int i2), .val (.int i3), .val (.int i4), .val (.int i5), .val (.int (4 : Int32)), .val (.int pl), .val (.int ot), .val (.double sc), .second, .val (.ref a61), .val (.ref b65), .val (.int (1 : Int32)), .val (.int (-1 : Int32)), .unset, .unset]) rfl ?_
      refine OGo.iload (pc' := 154) C X75 at_152 rfl rfl ?_
      refine OGo.iload (pc' := 156) C X75 at_154 rfl rfl ?_
      refine OGo.icmpYes (pc' := 164) C X75 at_156 (feq eop).2 (by decide) (by decide) ?_
      refine OGo.dconst0 (pc' := 165) (v := (FP.dconst0)) C X75 at_164 rfl rfl ?_
      refine OGo.dstore (pc' := 167) C X75 at_165 rfl (l' := #[.val (.int i0), .val (.int i1), .val (.int i2), .val (.int i3), .val (.int i4), .val (.int i5), .val (.int (4 : Int32)), .val (.int pl), .val (.int ot), .val (.double sc), .second, .val (.ref a61), .val (.ref b65), .val (.int (1 : Int32)), .val (.int (-1 : Int32)), .val (.double (FP.dconst0)), .second]) rfl ?_
      refine OGo.iload (pc' := 169) C X75 at_167 rfl rfl ?_
      refine OGo.ifNo (pc' := 172) C X75 at_169 rfl (feq (by decide : ¬ (1 : Int32) = (0 : Int32))).1 ?_
      refine OGo.aload (pc' := 174) C X75 at_172 rfl rfl rfl ?_
      refine OGo.iload (pc' := 176) C X75 at_174 rfl rfl ?_
      refine OGo.callV (pc' := 179) (cells' := 5) (slots' := 16) (argsL := [(.int ot)]) (St := []) C X75 (wd47 hw) (wd48 hw) (wd50 hw) (wd49 hw) (by decide) f71 (wd51 hw) (wd5 hw) (ct7 hw X75.2.1 b65 h63.size (4 : Int32) i0 i1 ([(.int (-1 : Int32)), (.int (-1 : Int32)), (.int (-1 : Int32)), (.int (-1 : Int32))].set pl.toNatClampNeg (.int i3)) ([(.double (0 : UInt64)), (.double (0 : UInt64)), (.double (0 : UInt64)), (.double (0 : UInt64))].set pl.toNatClampNeg (.double sc)) sc ot (-1 : Int32) f69 ho (by exact ((own_setget_ne (vs := List.replicate 4 (.int (-1 : Int32))) (own_nc_ne hp.1 ho.1 (Ne.symm eop))).trans (own_rep (n := 4) (Nat.lt_of_lt_of_eq (own_nc_lt ho.1 ho.2) (by decide)))))) (lenOf pd3 rfl) rfl at_176 rfl rfl (by decide) (Nat.le_of_ble_eq_true rfl) rfl rfl (by decide) (by decide) (fun v79 T79 h79 Q79 X79 z79 => ?_)
      obtain ⟨hv79, hh79⟩ := Q79
      subst hv79; rw [hh79] at X79
      show OGo p e below _ T79 (mkF m 179 #[.val (.int i0), .val (.int i1), .val (.int i2), .val (.int i3), .val (.int i4), .val (.int i5), .val (.int (4 : Int32)), .val (.int pl), .val (.int ot), .val (.double sc), .second, .val (.ref a61), .val (.ref b65), .val (.int (1 : Int32)), .val (.int (-1 : Int32)), .val (.double (FP.dconst0)), .second] [(.int (-1 : Int32))])
      refine OGo.iload (pc' := 181) C X79 at_179 rfl rfl ?_
      refine OGo.icmpNo (pc' := 184) C X79 at_181 rfl (teq (by decide : (-1 : Int32) = (-1 : Int32))).2 ?_
      refine OGo.aload (pc' := 186) C X79 at_184 rfl rfl rfl ?_
      refine OGo.iload (pc' := 188) C X79 at_186 rfl rfl ?_
      refine OGo.callV (pc' := 191) (cells' := 5) (slots' := 16) (argsL := [(.int ot)]) (St := []) C X79 (wd52 hw) (wd53 hw) (wd55 hw) (wd54 hw) (by decide) f71 (wd56 hw) (wd5 hw) (ct8 hw X79.2.1 b65 h63.size (4 : Int32) i0 i1 ([(.int (-1 : Int32)), (.int (-1 : Int32)), (.int (-1 : Int32)), (.int (-1 : Int32))].set pl.toNatClampNeg (.int i3)) ([(.double (0 : UInt64)), (.double (0 : UInt64)), (.double (0 : UInt64)), (.double (0 : UInt64))].set pl.toNatClampNeg (.double sc)) sc ot (0 : UInt64) f69 ho (by exact ((own_setget_ne (vs := List.replicate 4 (.double (0 : UInt64))) (own_nc_ne hp.1 ho.1 (Ne.symm eop))).trans (own_rep (n := 4) (Nat.lt_of_lt_of_eq (own_nc_lt ho.1 ho.2) (by decide)))))) (lenOf pd5 rfl) rfl at_188 rfl rfl (by decide) (Nat.le_of_ble_eq_true rfl) rfl rfl (by decide) (by decide) (fun v80 T80 h80 Q80 X80 z80 => ?_)
      obtain ⟨hv80, hh80⟩ := Q80
      subst hv80; rw [hh80] at X80
      show OGo p e below _ T80 (mkF m 191 #[.val (.int i0), .val (.int i1), .val (.int i2), .val (.int i3), .val (.int i4), .val (.int i5), .val (.int (4 : Int32)), .val (.int pl), .val (.int ot), .val (.double sc), .second, .val (.ref a61), .val (.ref b65), .val (.int (1 : Int32)), .val (.int (-1 : Int32)), .val (.double (FP.dconst0)), .second] [(.double (0 : UInt64))])
      refine OGo.dload (pc' := 193) C X80 at_191 rfl rfl ?_
      refine OGo.dcmp (pc' := 194) (v := (0 : Int32)) C X80 at_193 rfl (by decide +kernel) ?_
      refine OGo.ifNo (pc' := 197) C X80 at_194 rfl (teq (by decide : (0 : Int32) = (0 : Int32))).2 ?_
      refine OGo.iconst (pc' := 198) (z := (1 : Int32)) C X80 at_197 rfl (by decide) ?_
      refine OGo.goto (pc' := 202) C X80 at_198 (by decide) (by decide) ?_
      exact OGo.retN C X80 at_202 hret (by simp) (z' := (1 : Int32)) (by decide) hlk (rfl) (by decide) (by decide)
set_option maxRecDepth 65536 in
set_option maxHeartbeats 40000000 in
theorem comes_1 {Post : Tables → Env → Array Value → State → Outcome → State → Prop} (hpost : ∀ tb e args s v u, (limb_1_1.after args s (.returned v) u = true ∧ limb_1_2.after args s (.returned v) u = true ∧ True) → FrameEnd s (.returned v) u (Jvm.fieldLocs frame_1_writes args s ++ Jvm.arrayLocs frame_1_arrays args s ++ Jvm.staticLocs frame_1_statics s) 24 128 → Post tb e args s (.returned v) u) :
    ArmFor flags0 classFile x code maxLocals ret World_1 tables_1 room_1 Calls_1 rest_1 Pre_1 Post := by
  intro l hfl _ _ p e ha hc hk s m args below hf hA hF happ hP
  obtain ⟨hcalls, hrest, hpre⟩ := hP
  obtain ⟨-, -, -, hnamed, -, -, -, hat⟩ := (Spec.applies_iff hf).mp happ
  obtain ⟨hg, hn⟩ := and_e (Cond.before_iff.mp (show (Jvm.Cond.and given_1 narrow_1).before args s = true from hpre))
  obtain ⟨g1, g2⟩ := and_e hg
  obtain ⟨g3, g4⟩ := and_e g2
  obtain ⟨g5, g6⟩ := and_e g4
  obtain ⟨g7, g8⟩ := and_e g6
  obtain ⟨g9, g10⟩ := and_e g8
  obtain ⟨g11, g12⟩ := and_e g10
  obtain ⟨w0, w1, w2, w3, w4, w5, rfl⟩ : ∃ w0 w1 w2 w3 w4 w5 : Value, args = #[w0, w1, w2, w3, w4, w5] := by
    have hs : args.size = 6 := by simpa [Cond.value, given_1] using g1
    obtain ⟨L⟩ := args
    match L, hs with
    | [w0, w1, w2, w3, w4, w5], _ => exact ⟨w0, w1, w2, w3, w4, w5, rfl⟩
  have hw := fun d (hd : d ∈ tables_1) => atoms_spec (ws := Jvm.Cond.code x code maxLocals ret :: tables_1) hat d (List.mem_cons_of_mem _ hd)
  have hfit : Fit s := fun {y c} hc i hi => by
    obtain ⟨ha, rfl⟩ := Array.getElem?_eq_some_iff.mp hc
    have q := List.all_eq_true.mp ((Array.all_eq_true_iff_forall_mem.mp hF) _ (Array.getElem_mem ha)) i (List.mem_range.mpr hi)
    simpa [Array.getElem?_eq_getElem hi] using q
  obtain ⟨i0, ei0⟩ := is_v g3
  obtain rfl : w0 = (.int i0) := Option.some.inj ei0
  obtain ⟨i1, ei1⟩ := is_v g5
  obtain rfl : w1 = (.int i1) := Option.some.inj ei1
  obtain ⟨i2, ei2⟩ := is_v g7
  obtain rfl : w2 = (.int i2) := Option.some.inj ei2
  obtain ⟨i3, ei3⟩ := is_v g9
  obtain rfl : w3 = (.int i3) := Option.some.inj ei3
  obtain ⟨i4, ei4⟩ := is_v g11
  obtain rfl : w4 = (.int i4) := Option.some.inj ei4
  obtain ⟨i5, ei5⟩ := is_v g12
  obtain rfl : w5 = (.int i5) := Option.some.inj ei5
  obtain ⟨n, o, h1, h2, h3, _, L, rfl, ⟨⟨rfl, -⟩, N⟩, hq⟩ := ct0 (l := l) (Z := s) hw (n0 := s.heap.size) (h0 := s.heap) (Nat.le_refl _) i0 i1 i2 i3 i4 i5  tables_1 p e ha hc hk s m _ below hf ((Spec.applies_iff_loose hf).mp happ).1 ⟨rfl, State.Warmed39.refl s, rfl⟩ trivial
  refine ⟨n, _, h1, h2, h3, hpost _ _ _ _ _ _ ⟨Cond.after_iff.mpr rfl, Cond.after_iff.mpr (eq_i res_at (Term.int_eval (1)) rfl), trivial⟩ ⟨hq.1, hq.2.1, (hq.2.2.sift fun y hy => Or.inr (N y hy)).mono (by decide) (by decide)⟩⟩
theorem main_1_1 : Claimed_1_1 := comes_1 fun _ _ _ _ _ _ h hF => ⟨h.1, hF⟩
theorem main_1_2 : Claimed_1_2 := comes_1 fun _ _ _ _ _ _ h hF => ⟨h.2.1, hF⟩
end Jvm.Pilot.@@N@@
namespace Jvm.Pilot.@@N@@
open Jvm Jvm.ClassFile Sem Op Lib Jvm.Free Jvm.Stand Jvm.Pilot.@@N@@.Jvm.D
/-! MADE BY PROGRAM (witnessworld.py) out of the Statement's table words and the real class files: 12 classes; the members and pool entries that the words name. The judged class is class 1, her method 1. -/
namespace start1
open Jvm.ClassFile
def u (s : String) : CpInfo := .utf8 (stringToUtf16 s)
/-- a pool by its gaps: so many unusable entries, then the entry; so many at the end -/
def gap : Nat → List CpInfo → List CpInfo
  | 0, r => r
  | n + 1, r => .unusable :: gap n r
def poolList (es : List (Nat × CpInfo)) (last : Nat) : List CpInfo := es.foldr (fun e r => gap e.1 (e.2 :: r)) (gap last [])
def pool (es : List (Nat × CpInfo)) (last : Nat) : Array CpInfo := ⟨poolList es last⟩
def fileOf (pool : Array CpInfo) (this : Nat) (attrs : Array Attribute := #[]) (ms : Array MethodInfo := #[]) (fl : Nat := 33) (sup : Nat := 0) (ifs : Array Nat := #[]) (fds : Array FieldInfo := #[]) : ClassFile where
  minorVersion := 0
  majorVersion := 65
  constantPool := pool
  accessFlags := fl
  thisClass := this
  superClass := sup
  interfaces := ifs
  fields := fds
  methods := ms
  attributes := attrs
def plain (name : String) (sup : Option ClassId) : Class where
  name := name
  kind := .ordinary
  loader := none
  accessFlags := 33
  super := sup
  interfaces := #[]
  cf := none
  fields := #[]
  methods := #[]
  instanceTypes := #[]
  staticTypes := #[]
  resolved := #[]
  callSites := []
  init := .initialized
  statics := none
  mirror := none

def pool0 : Array CpInfo := pool [(5, u "<init>"), (0, u "()V"), (1, .class_ 10), (1, u "java/lang/Object"), (85, u "clone"), (0, u "()Ljava/lang/Object;")] 26

def k0c0 : Code := { maxStack := 0, maxLocals := 1, code := object_method_1_code, exceptionTable := #[], attributes := #[] }
def k0m0 : Method := { name := "<init>", desc := "()V", sig := { parameters := [], returnType := none }, accessFlags := 1, code := some k0c0 }
def k0m1 : Method := { name := "clone", desc := "()Ljava/lang/Object;", sig := { parameters := [], returnType := some (.object "java/lang/Object") }, accessFlags := 260, code := none }
/-- java/lang/Object -/
def k0 : Class := { plain "java/lang/Object" none with
  accessFlags := 33
  interfaces := #[]
  cf := some (fileOf pool0 8 #[] #[{ accessFlags := 1, nameIndex := 5, descriptorIndex := 6, attributes := #[] }, { accessFlags := 260, nameIndex := 96, descriptorIndex := 97, attributes := #[] }] 33 0 #[] #[])
  fields := #[]
  methods := #[k0m0, k0m1]
  instanceTypes := #[]
  staticTypes := #[]
  resolved := Array.replicate 124 none
  statics := none }

def pool1 : Array CpInfo := pool [(2, .class_ 4), (1, u "java/lang/Object"), (0, u "<init>"), (0, u "()V"), (0, .integer 65535), (0, .integer 2147483647), (0, .methodref 10 11), (0, .class_ 12), (0, .nameAndType 13 14), (0, u "com/example/first_from_joins/firstfromjoins/engine/Binding"), (0, u "ofMatch"), (0, u "([IIIID)Lcom/example/first_from_joins/firstfromjoins/engine/Binding;"), (0, .methodref 10 16), (0, .nameAndType 17 18), (0, u "term"), (0, u "(I)I"), (0, .methodref 10 20), (0, .nameAndType 21 22), (0, u "score"), (0, u "()D"), (0, .methodref 10 24), (0, .nameAndType 25 18), (0, u "fact"), (0, .methodref 10 27), (0, .nameAndType 28 29), (0, u "part"), (0, u "(I)D"), (0, .class_ 31), (0, u "com/example/first_from_joins/firstfromjoins/engine/BindingOfMatchPinLaw"), (2, u "law"), (0, u "(IIIIII)Z")] 5

def k1m0 : Method := { name := "<init>", desc := "()V", sig := { parameters := [], returnType := none }, accessFlags := 1, code := none }
def k1c1 : Code := { maxStack := 6, maxLocals := 17, code := code, exceptionTable := #[], attributes := #[] }
def k1m1 : Method := { name := "law", desc := "(IIIIII)Z", sig := { parameters := [.int, .int, .int, .int, .int, .int], returnType := some .boolean }, accessFlags := 9, code := some k1c1 }
/-- com/example/first_from_joins/firstfromjoins/engine/BindingOfMatchPinLaw -/
def k1 : Class := { plain "com/example/first_from_joins/firstfromjoins/engine/BindingOfMatchPinLaw" (some 0) with
  accessFlags := 49
  interfaces := #[]
  cf := some (fileOf pool1 30 #[] #[{ accessFlags := 1, nameIndex := 5, descriptorIndex := 6, attributes := #[] }, { accessFlags := 9, nameIndex := 34, descriptorIndex := 35, attributes := #[] }] 49 2 #[] #[])
  fields := #[]
  methods := #[k1m0, k1m1]
  instanceTypes := #[]
  staticTypes := #[]
  resolved := Array.replicate 41 none
  statics := none }

def pool2 : Array CpInfo := pool [(1, .methodref 2 3), (0, .class_ 4), (0, .nameAndType 5 6), (0, u "java/lang/Object"), (0, u "<init>"), (0, u "()V"), (0, .fieldref 8 9), (0, .class_ 10), (0, .nameAndType 11 12), (0, u "com/example/first_from_joins/firstfromjoins/engine/Binding"), (0, u "terms"), (0, u "[I"), (0, .fieldref 8 14), (0, .nameAndType 15 12), (0, u "facts"), (0, .fieldref 8 17), (0, .nameAndType 18 19), (0, u "parts"), (0, u "[D"), (0, .fieldref 8 21), (0, .nameAndType 22 23), (0, u "score"), (0, u "D"), (0, .methodref 25 26), (0, .class_ 27), (0, .nameAndType 28 29), (0, u "java/util/Arrays"), (0, u "fill"), (0, u "([II)V"), (0, .methodref 31 32), (0, .class_ 12), (0, .nameAndType 33 34), (0, u "clone"), (0, u "()Ljava/lang/Object;"), (0, .methodref 8 36), (0, .nameAndType 5 37), (0, u "([I[I[DD)V"), (50, u "UNBOUND"), (0, u "I"), (2, u "UNMATCHED"), (2, u "ofMatch"), (0, u "([IIIID)Lcom/example/first_from_joins/firstfromjoins/engine/Binding;"), (0, u "term"), (0, u "(I)I"), (0, u "()D"), (0, u "fact"), (0, u "part"), (0, u "(I)D")] 30

def k2c0 : Code := { maxStack := 3, maxLocals := 6, code := prog_4_method_1_code, exceptionTable := #[], attributes := #[] }
def k2m0 : Method := { name := "<init>", desc := "([I[I[DD)V", sig := { parameters := [(.array .int), (.array .int), (.array .double), .double], returnType := none }, accessFlags := 2, code := some k2c0 }
def k2c1 : Code := { maxStack := 7, maxLocals := 8, code := prog_4_method_2_code, exceptionTable := #[], attributes := #[] }
def k2m1 : Method := { name := "ofMatch", desc := "([IIIID)Lcom/example/first_from_joins/firstfromjoins/engine/Binding;", sig := { parameters := [(.array .int), .int, .int, .int, .double], returnType := some (.object "com/example/first_from_joins/firstfromjoins/engine/Binding") }, accessFlags := 8, code := some k2c1 }
def k2c2 : Code := { maxStack := 2, maxLocals := 2, code := prog_4_method_3_code, exceptionTable := #[], attributes := #[] }
def k2m2 : Method := { name := "term", desc := "(I)I", sig := { parameters := [.int], returnType := some .int }, accessFlags := 0, code := some k2c2 }
def k2c3 : Code := { maxStack := 2, maxLocals := 1, code := prog_4_method_4_code, exceptionTable := #[], attributes := #[] }
def k2m3 : Method := { name := "score", desc := "()D", sig := { parameters := [], returnType := some .double }, accessFlags := 0, code := some k2c3 }
def k2c4 : Code := { maxStack := 2, maxLocals := 2, code := prog_4_method_5_code, exceptionTable := #[], attributes := #[] }
def k2m4 : Method := { name := "fact", desc := "(I)I", sig := { parameters := [.int], returnType := some .int }, accessFlags := 0, code := some k2c4 }
def k2c5 : Code := { maxStack := 2, maxLocals := 2, code := prog_4_method_6_code, exceptionTable := #[], attributes := #[] }
def k2m5 : Method := { name := "part", desc := "(I)D", sig := { parameters := [.int], returnType := some .double }, accessFlags := 0, code := some k2c5 }
/-- com/example/first_from_joins/firstfromjoins/engine/Binding -/
def k2 : Class := { plain "com/example/first_from_joins/firstfromjoins/engine/Binding" (some 0) with
  accessFlags := 48
  interfaces := #[]
  cf := some (fileOf pool2 8 #[] #[{ accessFlags := 2, nameIndex := 5, descriptorIndex := 37, attributes := #[] }, { accessFlags := 8, nameIndex := 95, descriptorIndex := 96, attributes := #[] }, { accessFlags := 0, nameIndex := 97, descriptorIndex := 98, attributes := #[] }, { accessFlags := 0, nameIndex := 22, descriptorIndex := 99, attributes := #[] }, { accessFlags := 0, nameIndex := 100, descriptorIndex := 98, attributes := #[] }, { accessFlags := 0, nameIndex := 101, descriptorIndex := 102, attributes := #[] }] 48 2 #[] #[{ accessFlags := 24, nameIndex := 88, descriptorIndex := 89, attributes := #[] }, { accessFlags := 24, nameIndex := 92, descriptorIndex := 89, attributes := #[] }, { accessFlags := 18, nameIndex := 11, descriptorIndex := 12, attributes := #[] }, { accessFlags := 18, nameIndex := 15, descriptorIndex := 12, attributes := #[] }, { accessFlags := 18, nameIndex := 18, descriptorIndex := 19, attributes := #[] }, { accessFlags := 18, nameIndex := 22, descriptorIndex := 23, attributes := #[] }])
  fields := #[{ name := "UNBOUND", type := .int, accessFlags := 24, slot := 0, constantValue := 0 }, { name := "UNMATCHED", type := .int, accessFlags := 24, slot := 1, constantValue := 0 }, { name := "terms", type := (.array .int), accessFlags := 18, slot := 0, constantValue := 0 }, { name := "facts", type := (.array .int), accessFlags := 18, slot := 1, constantValue := 0 }, { name := "parts", type := (.array .double), accessFlags := 18, slot := 2, constantValue := 0 }, { name := "score", type := .double, accessFlags := 18, slot := 3, constantValue := 0 }]
  methods := #[k2m0, k2m1, k2m2, k2m3, k2m4, k2m5]
  instanceTypes := #[(.array .int), (.array .int), (.array .double), .double]
  staticTypes := #[.int, .int]
  resolved := Array.replicate 133 none
  statics := none }

def pool3 : Array CpInfo := pool [(2, .class_ 4), (1, u "java/lang/Object"), (0, u "<init>"), (0, u "()V"), (7, .class_ 16), (1, u "java/util/Arrays"), (57, .class_ 76), (1, u "java/util/Arrays$NaturalOrder"), (36, .class_ 115), (1, u "java/util/Arrays$LegacyMergeSort"), (1, u "Z"), (257, .class_ 376), (0, u "java/util/Arrays$ArrayList"), (68, u "$assertionsDisabled"), (269, u "MIN_ARRAY_SORT_GRAN"), (0, u "I"), (2, u "INSERTIONSORT_THRESHOLD"), (120, u "fill"), (4, u "([II)V"), (129, .class_ 976), (0, u "java/util/Arrays$ArrayItr")] 52

def k3m0 : Method := { name := "<init>", desc := "()V", sig := { parameters := [], returnType := none }, accessFlags := 2, code := none }
def k3c1 : Code := { maxStack := 3, maxLocals := 4, code := jdk_65_method_103_code, exceptionTable := #[], attributes := #[] }
def k3m1 : Method := { name := "fill", desc := "([II)V", sig := { parameters := [(.array .int), .int], returnType := none }, accessFlags := 9, code := some k3c1 }
/-- java/util/Arrays -/
def k3 : Class := { plain "java/util/Arrays" (some 0) with
  accessFlags := 49
  interfaces := #[]
  cf := some (fileOf pool3 14 #[.nestMembers #[975, 375, 113, 74]] #[{ accessFlags := 2, nameIndex := 5, descriptorIndex := 6, attributes := #[] }, { accessFlags := 9, nameIndex := 840, descriptorIndex := 845, attributes := #[] }] 49 2 #[] #[{ accessFlags := 26, nameIndex := 715, descriptorIndex := 716, attributes := #[] }, { accessFlags := 26, nameIndex := 719, descriptorIndex := 716, attributes := #[] }, { accessFlags := 4120, nameIndex := 445, descriptorIndex := 117, attributes := #[] }])
  fields := #[{ name := "MIN_ARRAY_SORT_GRAN", type := .int, accessFlags := 26, slot := 0, constantValue := 0 }, { name := "INSERTIONSORT_THRESHOLD", type := .int, accessFlags := 26, slot := 1, constantValue := 0 }, { name := "$assertionsDisabled", type := .boolean, accessFlags := 4120, slot := 2, constantValue := 0 }]
  methods := #[k3m0, k3m1]
  instanceTypes := #[]
  staticTypes := #[.int, .int, .boolean]
  resolved := Array.replicate 1029 none
  statics := none }

def pool4 : Array CpInfo := pool [(1, .class_ 2), (0, u "java/lang/Cloneable"), (0, .class_ 4), (0, u "java/lang/Object")] 2

/-- java/lang/Cloneable -/
def k4 : Class := { plain "java/lang/Cloneable" (some 0) with
  accessFlags := 1537
  interfaces := #[]
  cf := some (fileOf pool4 1 #[] #[] 1537 3 #[] #[])
  fields := #[]
  methods := #[]
  instanceTypes := #[]
  staticTypes := #[]
  resolved := Array.replicate 7 none
  statics := none }

def pool5 : Array CpInfo := pool [(1, u "java/io/Serializable"), (0, .class_ 1), (0, u "java/lang/Object"), (0, .class_ 3)] 3

/-- java/io/Serializable -/
def k5 : Class := { plain "java/io/Serializable" (some 0) with
  accessFlags := 1537
  interfaces := #[]
  cf := some (fileOf pool5 2 #[] #[] 1537 4 #[] #[])
  fields := #[]
  methods := #[]
  instanceTypes := #[]
  staticTypes := #[]
  resolved := Array.replicate 8 none
  statics := none }

/-- the primitive byte -/
def k6 : Class := { plain "byte" none with kind := .primitive 'B', accessFlags := 0x411 }
/-- [B -/
def k7 : Class := { plain "[B" (some 0) with kind := .array 6 .byte, interfaces := #[4, 5], accessFlags := 1041 }

/-- the primitive double -/
def k8 : Class := { plain "double" none with kind := .primitive 'D', accessFlags := 0x411 }
/-- [D -/
def k9 : Class := { plain "[D" (some 0) with kind := .array 8 .double, interfaces := #[4, 5], accessFlags := 1041 }

/-- the primitive int -/
def k10 : Class := { plain "int" none with kind := .primitive 'I', accessFlags := 0x411 }
/-- [I -/
def k11 : Class := { plain "[I" (some 0) with kind := .array 10 .int, interfaces := #[4, 5], accessFlags := 1041 }

def heap : Heap := #[]
def classes : Array Class := #[k0, k1, k2, k3, k4, k5, k6, k7, k8, k9, k10, k11]
def interned : List (Array UInt16 × Addr) := []
def slotsUsed : Nat := 0
def theMethod : MethodId := ⟨1, 1⟩
def args0 : Array Value := #[.int 3, .int 1, .int 2, .int 3, .int 4, .int 5]
def aboutOver (below : List Frame) : State where
  vm := { classes := classes, interned := interned.toArray }
  heap := heap
  slotsUsed := slotsUsed
  threads := #[{ frames := .invoking theMethod args0 :: below }]
def below0 : List Frame := [.native { method := ⟨0, 0⟩, args := #[] }]
def about1 : State := aboutOver below0
def p0 : Program := .bare "" "" ""
def e0 : Env := launch0.env 0 0 0
theorem w_frames : about1.frames = Frame.invoking theMethod args0 :: below0 := rfl
set_option maxRecDepth 65536 in
theorem w_args : argsFit about1.vm theMethod args0 = true := by decide +kernel
set_option maxRecDepth 65536 in
theorem w_heap : heapFits about1 = true := by decide +kernel
set_option maxRecDepth 65536 in
theorem w_runnable : about1.curStatus? = some .runnable := by decide +kernel
set_option maxRecDepth 65536 in
theorem w_alone : about1.alone = true := by decide +kernel
set_option maxRecDepth 65536 in
theorem w_named : about1.methodNamed? x = some theMethod := by decide +kernel
set_option maxRecDepth 65536 in
theorem w_hears : about1.hears theMethod below0 = true := by decide +kernel
set_option maxRecDepth 65536 in
theorem w_ripe : about1.ripe theMethod args0 below0 = true := by decide +kernel
theorem w_running : about1.status = .running := rfl
set_option maxRecDepth 65536 in
theorem w_room : about1.hasRoom e0.platform room_1 = true :=
  launch0.hasRoom_least _ room_1 (by decide +kernel) (by decide +kernel) (by decide +kernel) (by decide +kernel) (by decide +kernel) (by decide +kernel)
theorem allAtoms_all (ts : List Jvm.Cond) (a : Array Jvm.Value) (st : Jvm.State) : (allAtoms ts).before a st = ts.all (fun c => c.before a st) := by
  induction ts with
  | nil => rfl
  | cons c t ih =>
    show (Jvm.Cond.and c (allAtoms t)).before a st = _
    rw [Jvm.Cond.before_and, ih, List.all_cons]
def words1 : List Jvm.Cond := Jvm.Cond.code x code maxLocals ret :: tables_1
/-- a 'code' word, met by the world's own term for the bytes: nothing is compared byte by byte -/
theorem code_word {y : MethodName} {bytes : ByteArray} {mx : Nat} {rt : Option FieldType} {a : Array Value} {s : State} {m : MethodId} {meth : Method} {c : Code} (h1 : s.methodNamed? y = some m) (h2 : s.vm.method? m = some meth) (h3 : meth.code = some c) (h4 : c.code = bytes)
    (h5 : (c.maxLocals == mx && c.exceptionTable.isEmpty && decide (c.maxStack ≤ mostOperands) && decide (meth.sig.returnType = rt) && !meth.locks && decide (parseMethodDescriptor y.desc = some meth.sig)) = true) : (Jvm.Cond.code y bytes mx rt).before a s = true := by
  simp only [Bool.and_eq_true, beq_iff_eq, Bool.not_eq_true', decide_eq_true_eq] at h5
  obtain ⟨⟨⟨⟨⟨g1, g2⟩, g3⟩, g4⟩, g5⟩, g6⟩ := h5
  simp [Cond.before, Cond.holds, Cond.value, h1, h2, h3, h4, g1, g2, g3, g4, g5, g6]
def isCode : Jvm.Cond → Bool
  | .code _ _ _ _ => true
  | _ => false
theorem all_split {L : List Jvm.Cond} {P : Jvm.Cond → Bool} (h1 : L.all (fun c => isCode c || P c) = true) (h2 : ∀ c ∈ L.filter isCode, P c = true) : L.all P = true := by
  refine List.all_eq_true.mpr fun c hc => ?_
  have h := List.all_eq_true.mp h1 c hc
  rcases Bool.eq_false_or_eq_true (isCode c) with hi | hi
  · exact h2 c (List.mem_filter.mpr ⟨hc, hi⟩)
  · simpa [hi] using h
set_option maxRecDepth 65536 in
theorem w_c0 : (Jvm.Cond.code x code maxLocals ret).before args0 about1 = true := code_word (m := ⟨1, 1⟩) (meth := k1m1) (c := k1c1) (by decide +kernel) rfl rfl rfl (by decide +kernel)
set_option maxRecDepth 65536 in
theorem w_c1 : (Jvm.Cond.code ({ cls := "com/example/first_from_joins/firstfromjoins/engine/Binding", name := "ofMatch", desc := "([IIIID)Lcom/example/first_from_joins/firstfromjoins/engine/Binding;" } : Jvm.MethodName) prog_4_method_2_code (8 : Nat) (Option.some (Jvm.ClassFile.FieldType.object "com/example/first_from_joins/firstfromjoins/engine/Binding"))).before args0 about1 = true := code_word (m := ⟨2, 1⟩) (meth := k2m1) (c := k2c1) (by decide +kernel) rfl rfl rfl (by decide +kernel)
set_option maxRecDepth 65536 in
theorem w_c2 : (Jvm.Cond.code ({ cls := "java/util/Arrays", name := "fill", desc := "([II)V" } : Jvm.MethodName) jdk_65_method_103_code (4 : Nat) (Option.none : Option Jvm.ClassFile.FieldType)).before args0 about1 = true := code_word (m := ⟨3, 1⟩) (meth := k3m1) (c := k3c1) (by decide +kernel) rfl rfl rfl (by decide +kernel)
set_option maxRecDepth 65536 in
theorem w_c3 : (Jvm.Cond.code ({ cls := "com/example/first_from_joins/firstfromjoins/engine/Binding", name := "<init>", desc := "([I[I[DD)V" } : Jvm.MethodName) prog_4_method_1_code (6 : Nat) (Option.none : Option Jvm.ClassFile.FieldType)).before args0 about1 = true := code_word (m := ⟨2, 0⟩) (meth := k2m0) (c := k2c0) (by decide +kernel) rfl rfl rfl (by decide +kernel)
set_option maxRecDepth 65536 in
theorem w_c4 : (Jvm.Cond.code ({ cls := "java/lang/Object", name := "<init>", desc := "()V" } : Jvm.MethodName) object_method_1_code (1 : Nat) (Option.none : Option Jvm.ClassFile.FieldType)).before args0 about1 = true := code_word (m := ⟨0, 0⟩) (meth := k0m0) (c := k0c0) (by decide +kernel) rfl rfl rfl (by decide +kernel)
set_option maxRecDepth 65536 in
theorem w_c5 : (Jvm.Cond.code ({ cls := "com/example/first_from_joins/firstfromjoins/engine/Binding", name := "term", desc := "(I)I" } : Jvm.MethodName) prog_4_method_3_code (2 : Nat) (Option.some Jvm.ClassFile.FieldType.int)).before args0 about1 = true := code_word (m := ⟨2, 2⟩) (meth := k2m2) (c := k2c2) (by decide +kernel) rfl rfl rfl (by decide +kernel)
set_option maxRecDepth 65536 in
theorem w_c6 : (Jvm.Cond.code ({ cls := "com/example/first_from_joins/firstfromjoins/engine/Binding", name := "score", desc := "()D" } : Jvm.MethodName) prog_4_method_4_code (1 : Nat) (Option.some Jvm.ClassFile.FieldType.double)).before args0 about1 = true := code_word (m := ⟨2, 3⟩) (meth := k2m3) (c := k2c3) (by decide +kernel) rfl rfl rfl (by decide +kernel)
set_option maxRecDepth 65536 in
theorem w_c7 : (Jvm.Cond.code ({ cls := "com/example/first_from_joins/firstfromjoins/engine/Binding", name := "fact", desc := "(I)I" } : Jvm.MethodName) prog_4_method_5_code (2 : Nat) (Option.some Jvm.ClassFile.FieldType.int)).before args0 about1 = true := code_word (m := ⟨2, 4⟩) (meth := k2m4) (c := k2c4) (by decide +kernel) rfl rfl rfl (by decide +kernel)
set_option maxRecDepth 65536 in
theorem w_c8 : (Jvm.Cond.code ({ cls := "com/example/first_from_joins/firstfromjoins/engine/Binding", name := "part", desc := "(I)D" } : Jvm.MethodName) prog_4_method_6_code (2 : Nat) (Option.some Jvm.ClassFile.FieldType.double)).before args0 about1 = true := code_word (m := ⟨2, 5⟩) (meth := k2m5) (c := k2c5) (by decide +kernel) rfl rfl rfl (by decide +kernel)
def codes1 : List Jvm.Cond := [Jvm.Cond.code x code maxLocals ret, Jvm.Cond.code ({ cls := "com/example/first_from_joins/firstfromjoins/engine/Binding", name := "ofMatch", desc := "([IIIID)Lcom/example/first_from_joins/firstfromjoins/engine/Binding;" } : Jvm.MethodName) prog_4_method_2_code (8 : Nat) (Option.some (Jvm.ClassFile.FieldType.object "com/example/first_from_joins/firstfromjoins/engine/Binding")), Jvm.Cond.code ({ cls := "java/util/Arrays", name := "fill", desc := "([II)V" } : Jvm.MethodName) jdk_65_method_103_code (4 : Nat) (Option.none : Option Jvm.ClassFile.FieldType), Jvm.Cond.code ({ cls := "com/example/first_from_joins/firstfromjoins/engine/Binding", name := "<init>", desc := "([I[I[DD)V" } : Jvm.MethodName) prog_4_method_1_code (6 : Nat) (Option.none : Option Jvm.ClassFile.FieldType), Jvm.Cond.code ({ cls := "java/lang/Object", name := "<init>", desc := "()V" } : Jvm.MethodName) object_method_1_code (1 : Nat) (Option.none : Option Jvm.ClassFile.FieldType), Jvm.Cond.code ({ cls := "com/example/first_from_joins/firstfromjoins/engine/Binding", name := "term", desc := "(I)I" } : Jvm.MethodName) prog_4_method_3_code (2 : Nat) (Option.some Jvm.ClassFile.FieldType.int), Jvm.Cond.code ({ cls := "com/example/first_from_joins/firstfromjoins/engine/Binding", name := "score", desc := "()D" } : Jvm.MethodName) prog_4_method_4_code (1 : Nat) (Option.some Jvm.ClassFile.FieldType.double), Jvm.Cond.code ({ cls := "com/example/first_from_joins/firstfromjoins/engine/Binding", name := "fact", desc := "(I)I" } : Jvm.MethodName) prog_4_method_5_code (2 : Nat) (Option.some Jvm.ClassFile.FieldType.int), Jvm.Cond.code ({ cls := "com/example/first_from_joins/firstfromjoins/engine/Binding", name := "part", desc := "(I)D" } : Jvm.MethodName) prog_4_method_6_code (2 : Nat) (Option.some Jvm.ClassFile.FieldType.double)]
set_option maxRecDepth 65536 in
theorem codes_eq : words1.filter isCode = codes1 := rfl
theorem w_codes : ∀ c ∈ words1.filter isCode, c.before args0 about1 = true := by
  rw [codes_eq]
  intro c hc
  simp only [codes1, List.mem_cons, List.not_mem_nil, or_false] at hc
  rcases hc with rfl | rfl | rfl | rfl | rfl | rfl | rfl | rfl | rfl
  · exact w_c0
  · exact w_c1
  · exact w_c2
  · exact w_c3
  · exact w_c4
  · exact w_c5
  · exact w_c6
  · exact w_c7
  · exact w_c8
set_option maxRecDepth 65536 in
theorem w_t1 : (words1.take 24).all (fun c => isCode c || c.before args0 about1) = true := by decide +kernel
set_option maxRecDepth 65536 in
theorem w_t2 : ((words1.drop 24).take 24).all (fun c => isCode c || c.before args0 about1) = true := by decide +kernel
set_option maxRecDepth 65536 in
theorem w_t3 : ((words1.drop 24).drop 24).all (fun c => isCode c || c.before args0 about1) = true := by decide +kernel
theorem w_tables : (allAtoms (Jvm.Cond.code x code maxLocals ret :: tables_1)).before args0 about1 = true := by
  rw [allAtoms_all]
  show words1.all (fun c => c.before args0 about1) = true
  refine all_split ?_ w_codes
  rw [← List.take_append_drop 24 words1, List.all_append, w_t1, ← List.take_append_drop 24 (words1.drop 24), List.all_append, w_t2, w_t3]
  rfl
set_option maxRecDepth 65536 in
theorem w_case : (Jvm.Cond.and given_1 narrow_1).before args0 about1 = true := by decide +kernel
theorem w_applies : (headSpec (Jvm.Cond.code x code maxLocals ret :: tables_1) room_1).applies x e0.platform about1 = true :=
  (Spec.applies_iff w_frames).mpr ⟨w_running, w_runnable, w_alone, w_named, w_hears, w_ripe, w_room, w_tables⟩
theorem atStart : AtStart classFile x code maxLocals ret World_1 tables_1 room_1 Calls_1 rest_1 Pre_1 launch0 p0 e0 about1 theMethod args0 below0 :=
  ⟨lists_1, trivial, launch0.admits_env _ _ _, launch0.least_env, fairChoices_fair.cas, fairChoices_fair.clock, w_frames, w_args, w_heap, w_applies, trivial, trivial, w_case⟩
end start1
theorem witness_1 : WitnessClaimed_1 := ⟨start1.p0, start1.e0, start1.about1, start1.theMethod, start1.args0, start1.below0, start1.atStart⟩
end Jvm.Pilot.@@N@@
