import JvmDerived
import JvmDerived.Pilot.@@N@@Statement
import JvmDerived.Pilot.@@N@@Code
set_option linter.unusedVariables false
set_option linter.unusedSimpArgs false
namespace Jvm.Pilot.@@N@@
open Jvm Jvm.ClassFile Sem Op Lib Jvm.Free Jvm.Stand Jvm.LawKit Jvm.RoadKit Bundle Jvm.Pilot.@@N@@.Jvm.D
section OwnGo
variable {p : Program} {l : Launch} {e : Env} {R : Room} {s : State} {m : MethodId} {args : Array Value} {below : List Frame} {meth : Method} {c : Code} {T : State} {n0 cells slots cells' slots' : Nat} {Z : State} {a0 : Array Value} {h : Heap} {K : State → Outcome → Prop} {pc pc' : Nat} {Ls : Array Slot} {St : List Value} {own : String} {by0 : ByteArray} {ml : Nat}
/-- from state T with the frame g on top the run comes to an end of which K holds -/
def OGo (p : Program) (e : Env) (below : List Frame) (K : State → Outcome → Prop) (T : State) (g : JFrame) : Prop := ∃ t o, Steps p.tables e below (T.setTop g) t ∧ K t o
/-- what does not change during one body's walk -/
def Cx (p : Program) (s : State) (m : MethodId) (c : Code) (Z : State) (own : String) (by0 : ByteArray) (ml : Nat) : Prop := p.tables.exec = Jvm.exec ∧ Z.Warmed39 s.vm ∧ s.vm.findClass own = some m.cls ∧ c.code = by0 ∧ c.maxLocals = ml
/-- where the walk stands: heap h, only cells from n0 on written -/
def Sd (p : Program) (l : Launch) (e : Env) (R : Room) (s : State) (m : MethodId) (args : Array Value) (below : List Frame) (meth : Method) (c : Code) (n0 : Nat) (T : State) (h : Heap) (cells slots : Nat) : Prop := T.heap = h ∧ n0 ≤ h.size ∧ ∃ locs, Stand p l e R s m args below meth c T locs cells slots ∧ Fr n0 locs
/-- what a body owes at its end -/
def Kk (s : State) (below : List Frame) (n0 : Nat) (Q : Option Value → Heap → Prop) (nc ns : Nat) : State → Outcome → Prop := fun t o => t.status = .running ∧ Ended t below o ∧ ∃ v L, o = .returned v ∧ (Q v t.heap ∧ Fr n0 L) ∧ FrameEnd s o t L nc ns
/-- a body's contract -/
def Ctr (l : Launch) (Z : State) (y : MethodName) (by0 : ByteArray) (ml : Nat) (ret : Option FieldType) (rm : Room) (n0 : Nat) (as' : Array Value) (h : Heap) (Q : Option Value → Heap → Prop) : Prop :=
  ∀ ws, MetFree l y (head1 (Jvm.Cond.code y by0 ml ret :: ws) rm) (fun a U => a = as' ∧ Z.Warmed39 U.vm ∧ U.heap = h) (fun _ _ _ _ _ => True) (fun _ U o U' => ∃ v L, o = .returned v ∧ ((Q v U'.heap ∧ h.size ≤ U'.heap.size) ∧ Fr n0 L) ∧ FrameEnd U o U' L rm.cells rm.slots)
theorem OGo.st {T T' : State} {g g' : JFrame} (st : ∀ target, Steps p.tables e below (T'.setTop g') target → Steps p.tables e below (T.setTop g) target) (hr : OGo p e below K T' g') : OGo p e below K T g := by
  obtain ⟨t, o, h1, h2⟩ := hr
  exact ⟨t, o, st t h1, h2⟩
theorem OGo.tr {T T' : State} {g g' : JFrame} (st : Steps p.tables e below (T.setTop g) (T'.setTop g')) (hr : OGo p e below K T' g') : OGo p e below K T g := by
  obtain ⟨t, o, h1, h2⟩ := hr
  exact ⟨t, o, st.trans h1, h2⟩
theorem Ctr.of {y : MethodName} {ret : Option FieldType} {rm : Room} {as' : Array Value} {Q : Option Value → Heap → Prop} (hpl : plainFor y = true) (hn : n0 ≤ h.size)
    (body : ∀ p e s m below meth c T, Cx p s m c Z y.cls by0 ml → meth.name = y.name → meth.sig.returnType = ret → meth.locks = false → Sd p l e rm s m as' below meth c n0 T h 0 0 → OGo p e below (Kk s below n0 Q rm.cells rm.slots) T (entryFrame m as' ml)) :
    Ctr l Z y by0 ml ret rm n0 as' h Q := by
  intro ws
  refine MetFree.of_bodySF hpl hisR ?_
  intro p e s m args below meth c s₁ Bd hml0 hP hK
  obtain ⟨rfl, hZ, hh⟩ := hP
  have hown : s.vm.findClass y.cls = some m.cls := findClass_of_methodNamed Bd.named
  have hnm := (name_of_methodNamed Bd.named Bd.method).1
  have X0 := Stand.of_body Bd
  have e0 : s₁.heap = h := by rw [← hh, Bd.state]; rfl
  obtain ⟨t, o, h1, h2, h3, v, L, h4, ⟨h5, h6⟩, h7⟩ := body p e s m below meth c s₁ ⟨Bd.exec, hZ, hown, Bd.bytes, hml0⟩ hnm Bd.returns (BodyLoose.notSynchronized Bd) ⟨e0, hn, [], X0, Fr.nil n0⟩
  exact ⟨t, o, h1, h2, h3, v, L, h4, ⟨⟨h5, by rw [← hh]; exact h7.2.2.2.1⟩, h6⟩, h7⟩
theorem Ctr.mono {y : MethodName} {ret : Option FieldType} {rm : Room} {as' : Array Value} {Q Q' : Option Value → Heap → Prop} (hM : Ctr l Z y by0 ml ret rm n0 as' h Q) (hq : ∀ v h', Q v h' → Q' v h') : Ctr l Z y by0 ml ret rm n0 as' h Q' := by
  intro ws p e ha hc hk s m args below hf happ hP hK
  obtain ⟨n, o, h1, h2, h3, v, L, h4, ⟨⟨h5, h8⟩, h6⟩, h7⟩ := hM ws p e ha hc hk s m args below hf happ hP hK
  exact ⟨n, o, h1, h2, h3, v, L, h4, ⟨⟨hq _ _ h5, h8⟩, h6⟩, h7⟩
theorem Sd.up (X : Sd p l e R s m args below meth c n0 T h cells slots) (hc : cells ≤ cells') (hs : slots ≤ slots') : Sd p l e R s m args below meth c n0 T h cells' slots' := by
  obtain ⟨h1, h2, locs, Y, N⟩ := X
  exact ⟨h1, h2, locs, { Y with same := Y.same.mono hc hs }, N⟩
theorem OGo.iload (C : Cx p s m c Z own by0 ml) (X : Sd p l e R s m args below meth c n0 T h cells slots) {k : Nat} {v : Int32} (hd : decode by0 pc = .ok (.iload k, 2)) (hp : pc + 2 = pc') (hl : Ls[k]? = some (.val (.int v))) (hr : OGo p e below K T (mkF m pc' Ls (.int v :: St))) : OGo p e below K T (mkF m pc Ls (St)) := by
  subst hp
  obtain ⟨-, -, locs, Y, -⟩ := X
  exact OGo.st (fun t k => XS.iload Y.here C.1 rfl (hb C.2.2.2.1 hd) hl k) hr
theorem OGo.iloadN (C : Cx p s m c Z own by0 ml) (X : Sd p l e R s m args below meth c n0 T h cells slots) {k : Fin 4} {v : Int32} (hd : decode by0 pc = .ok (.iload_n k, 1)) (hp : pc + 1 = pc') (hl : Ls[k.val]? = some (.val (.int v))) (hr : OGo p e below K T (mkF m pc' Ls (.int v :: St))) : OGo p e below K T (mkF m pc Ls (St)) := by
  subst hp
  obtain ⟨-, -, locs, Y, -⟩ := X
  exact OGo.st (fun t k => XS.iloadN Y.here C.1 rfl (hb C.2.2.2.1 hd) hl k) hr
theorem OGo.lload (C : Cx p s m c Z own by0 ml) (X : Sd p l e R s m args below meth c n0 T h cells slots) {k : Nat} {v : Int64} (hd : decode by0 pc = .ok (.lload k, 2)) (hp : pc + 2 = pc') (hl : Ls[k]? = some (.val (.long v))) (hr : OGo p e below K T (mkF m pc' Ls (.long v :: St))) : OGo p e below K T (mkF m pc Ls (St)) := by
  subst hp
  obtain ⟨-, -, locs, Y, -⟩ := X
  exact OGo.st (fun t k => XS.lload Y.here C.1 rfl (hb C.2.2.2.1 hd) hl k) hr
theorem OGo.lloadN (C : Cx p s m c Z own by0 ml) (X : Sd p l e R s m args below meth c n0 T h cells slots) {k : Fin 4} {v : Int64} (hd : decode by0 pc = .ok (.lload_n k, 1)) (hp : pc + 1 = pc') (hl : Ls[k.val]? = some (.val (.long v))) (hr : OGo p e below K T (mkF m pc' Ls (.long v :: St))) : OGo p e below K T (mkF m pc Ls (St)) := by
  subst hp
  obtain ⟨-, -, locs, Y, -⟩ := X
  exact OGo.st (fun t k => XS.lloadN Y.here C.1 rfl (hb C.2.2.2.1 hd) hl k) hr
theorem OGo.dload (C : Cx p s m c Z own by0 ml) (X : Sd p l e R s m args below meth c n0 T h cells slots) {k : Nat} {v : UInt64} (hd : decode by0 pc = .ok (.dload k, 2)) (hp : pc + 2 = pc') (hl : Ls[k]? = some (.val (.double v))) (hr : OGo p e below K T (mkF m pc' Ls (.double v :: St))) : OGo p e below K T (mkF m pc Ls (St)) := by
  subst hp
  obtain ⟨-, -, locs, Y, -⟩ := X
  exact OGo.st (fun t k => XS.dload Y.here C.1 rfl (hb C.2.2.2.1 hd) hl k) hr
theorem OGo.dloadN (C : Cx p s m c Z own by0 ml) (X : Sd p l e R s m args below meth c n0 T h cells slots) {k : Fin 4} {v : UInt64} (hd : decode by0 pc = .ok (.dload_n k, 1)) (hp : pc + 1 = pc') (hl : Ls[k.val]? = some (.val (.double v))) (hr : OGo p e below K T (mkF m pc' Ls (.double v :: St))) : OGo p e below K T (mkF m pc Ls (St)) := by
  subst hp
  obtain ⟨-, -, locs, Y, -⟩ := X
  exact OGo.st (fun t k => XS.dloadN Y.here C.1 rfl (hb C.2.2.2.1 hd) hl k) hr
theorem OGo.aload (C : Cx p s m c Z own by0 ml) (X : Sd p l e R s m args below meth c n0 T h cells slots) {k : Nat} {v : Value} (hd : decode by0 pc = .ok (.aload k, 2)) (hp : pc + 2 = pc') (hl : Ls[k]? = some (.val v)) (hv : v.isRef = true) (hr : OGo p e below K T (mkF m pc' Ls (v :: St))) : OGo p e below K T (mkF m pc Ls (St)) := by
  subst hp
  obtain ⟨-, -, locs, Y, -⟩ := X
  exact OGo.st (fun t k => XS.aload Y.here C.1 rfl (hb C.2.2.2.1 hd) hl hv k) hr
theorem OGo.aloadN (C : Cx p s m c Z own by0 ml) (X : Sd p l e R s m args below meth c n0 T h cells slots) {k : Fin 4} {v : Value} (hd : decode by0 pc = .ok (.aload_n k, 1)) (hp : pc + 1 = pc') (hl : Ls[k.val]? = some (.val v)) (hv : v.isRef = true) (hr : OGo p e below K T (mkF m pc' Ls (v :: St))) : OGo p e below K T (mkF m pc Ls (St)) := by
  subst hp
  obtain ⟨-, -, locs, Y, -⟩ := X
  exact OGo.st (fun t k => XS.aloadN Y.here C.1 rfl (hb C.2.2.2.1 hd) hl hv k) hr
theorem OGo.istore (C : Cx p s m c Z own by0 ml) (X : Sd p l e R s m args below meth c n0 T h cells slots) {k : Nat} {x : Int32} {l' : Array Slot} (hd : decode by0 pc = .ok (.istore k, 2)) (hp : pc + 2 = pc') (hl : storeLocals Ls k (.int x) = some l') (hr : OGo p e below K T (mkF m pc' l' (St))) : OGo p e below K T (mkF m pc Ls (.int x :: St)) := by
  subst hp
  obtain ⟨-, -, locs, Y, -⟩ := X
  exact OGo.st (fun t k => XS.istore Y.here C.1 rfl (hb C.2.2.2.1 hd) rfl hl k) hr
theorem OGo.istoreN (C : Cx p s m c Z own by0 ml) (X : Sd p l e R s m args below meth c n0 T h cells slots) {k : Fin 4} {x : Int32} {l' : Array Slot} (hd : decode by0 pc = .ok (.istore_n k, 1)) (hp : pc + 1 = pc') (hl : storeLocals Ls k.val (.int x) = some l') (hr : OGo p e below K T (mkF m pc' l' (St))) : OGo p e below K T (mkF m pc Ls (.int x :: St)) := by
  subst hp
  obtain ⟨-, -, locs, Y, -⟩ := X
  exact OGo.st (fun t k => XS.istoreN Y.here C.1 rfl (hb C.2.2.2.1 hd) rfl hl k) hr
theorem OGo.lstore (C : Cx p s m c Z own by0 ml) (X : Sd p l e R s m args below meth c n0 T h cells slots) {k : Nat} {x : Int64} {l' : Array Slot} (hd : decode by0 pc = .ok (.lstore k, 2)) (hp : pc + 2 = pc') (hl : storeLocals Ls k (.long x) = some l') (hr : OGo p e below K T (mkF m pc' l' (St))) : OGo p e below K T (mkF m pc Ls (.long x :: St)) := by
  subst hp
  obtain ⟨-, -, locs, Y, -⟩ := X
  exact OGo.st (fun t k => XS.lstore Y.here C.1 rfl (hb C.2.2.2.1 hd) rfl hl k) hr
theorem OGo.lstoreN (C : Cx p s m c Z own by0 ml) (X : Sd p l e R s m args below meth c n0 T h cells slots) {k : Fin 4} {x : Int64} {l' : Array Slot} (hd : decode by0 pc = .ok (.lstore_n k, 1)) (hp : pc + 1 = pc') (hl : storeLocals Ls k.val (.long x) = some l') (hr : OGo p e below K T (mkF m pc' l' (St))) : OGo p e below K T (mkF m pc Ls (.long x :: St)) := by
  subst hp
  obtain ⟨-, -, locs, Y, -⟩ := X
  exact OGo.st (fun t k => XS.lstoreN Y.here C.1 rfl (hb C.2.2.2.1 hd) rfl hl k) hr
theorem OGo.dstore (C : Cx p s m c Z own by0 ml) (X : Sd p l e R s m args below meth c n0 T h cells slots) {k : Nat} {x : UInt64} {l' : Array Slot} (hd : decode by0 pc = .ok (.dstore k, 2)) (hp : pc + 2 = pc') (hl : storeLocals Ls k (.double x) = some l') (hr : OGo p e below K T (mkF m pc' l' (St))) : OGo p e below K T (mkF m pc Ls (.double x :: St)) := by
  subst hp
  obtain ⟨-, -, locs, Y, -⟩ := X
  exact OGo.st (fun t k => XS.dstore Y.here C.1 rfl (hb C.2.2.2.1 hd) rfl hl k) hr
theorem OGo.dstoreN (C : Cx p s m c Z own by0 ml) (X : Sd p l e R s m args below meth c n0 T h cells slots) {k : Fin 4} {x : UInt64} {l' : Array Slot} (hd : decode by0 pc = .ok (.dstore_n k, 1)) (hp : pc + 1 = pc') (hl : storeLocals Ls k.val (.double x) = some l') (hr : OGo p e below K T (mkF m pc' l' (St))) : OGo p e below K T (mkF m pc Ls (.double x :: St)) := by
  subst hp
  obtain ⟨-, -, locs, Y, -⟩ := X
  exact OGo.st (fun t k => XS.dstoreN Y.here C.1 rfl (hb C.2.2.2.1 hd) rfl hl k) hr
theorem OGo.astore (C : Cx p s m c Z own by0 ml) (X : Sd p l e R s m args below meth c n0 T h cells slots) {k : Nat} {x : Value} {l' : Array Slot} (hd : decode by0 pc = .ok (.astore k, 2)) (hp : pc + 2 = pc') (hv : x.isRef = true) (hl : storeLocals Ls k x = some l') (hr : OGo p e below K T (mkF m pc' l' (St))) : OGo p e below K T (mkF m pc Ls (x :: St)) := by
  subst hp
  obtain ⟨-, -, locs, Y, -⟩ := X
  exact OGo.st (fun t k => XS.astore Y.here C.1 rfl (hb C.2.2.2.1 hd) rfl hv hl k) hr
theorem OGo.astoreN (C : Cx p s m c Z own by0 ml) (X : Sd p l e R s m args below meth c n0 T h cells slots) {k : Fin 4} {x : Value} {l' : Array Slot} (hd : decode by0 pc = .ok (.astore_n k, 1)) (hp : pc + 1 = pc') (hv : x.isRef = true) (hl : storeLocals Ls k.val x = some l') (hr : OGo p e below K T (mkF m pc' l' (St))) : OGo p e below K T (mkF m pc Ls (x :: St)) := by
  subst hp
  obtain ⟨-, -, locs, Y, -⟩ := X
  exact OGo.st (fun t k => XS.astoreN Y.here C.1 rfl (hb C.2.2.2.1 hd) rfl hv hl k) hr
theorem OGo.iconst (C : Cx p s m c Z own by0 ml) (X : Sd p l e R s m args below meth c n0 T h cells slots) {i : Int} {z : Int32} (hd : decode by0 pc = .ok (.iconst i, 1)) (hp : pc + 1 = pc') (hz : Int32.ofInt i = z) (hr : OGo p e below K T (mkF m pc' Ls (.int z :: St))) : OGo p e below K T (mkF m pc Ls (St)) := by
  subst hp
  subst hz
  obtain ⟨-, -, locs, Y, -⟩ := X
  exact OGo.st (fun t k => XS.iconst Y.here C.1 rfl (hb C.2.2.2.1 hd)  k) hr
theorem OGo.bipush (C : Cx p s m c Z own by0 ml) (X : Sd p l e R s m args below meth c n0 T h cells slots) {i : Int} {z : Int32} (hd : decode by0 pc = .ok (.bipush i, 2)) (hp : pc + 2 = pc') (hz : (Int8.ofInt i).toInt32 = z) (hr : OGo p e below K T (mkF m pc' Ls (.int z :: St))) : OGo p e below K T (mkF m pc Ls (St)) := by
  subst hp
  subst hz
  obtain ⟨-, -, locs, Y, -⟩ := X
  exact OGo.st (fun t k => XS.bipush Y.here C.1 rfl (hb C.2.2.2.1 hd)  k) hr
theorem OGo.sipush (C : Cx p s m c Z own by0 ml) (X : Sd p l e R s m args below meth c n0 T h cells slots) {i : Int} {z : Int32} (hd : decode by0 pc = .ok (.sipush i, 3)) (hp : pc + 3 = pc') (hz : (Int16.ofInt i).toInt32 = z) (hr : OGo p e below K T (mkF m pc' Ls (.int z :: St))) : OGo p e below K T (mkF m pc Ls (St)) := by
  subst hp
  subst hz
  obtain ⟨-, -, locs, Y, -⟩ := X
  exact OGo.st (fun t k => XS.sipush Y.here C.1 rfl (hb C.2.2.2.1 hd)  k) hr
theorem OGo.lconst (C : Cx p s m c Z own by0 ml) (X : Sd p l e R s m args below meth c n0 T h cells slots) {k : Fin 2} {z : Int64} (hd : decode by0 pc = .ok (.lconst k, 1)) (hp : pc + 1 = pc') (hz : Int64.ofNat k = z) (hr : OGo p e below K T (mkF m pc' Ls (.long z :: St))) : OGo p e below K T (mkF m pc Ls (St)) := by
  subst hp
  subst hz
  obtain ⟨-, -, locs, Y, -⟩ := X
  exact OGo.st (fun t k => XS.lconst Y.here C.1 rfl (hb C.2.2.2.1 hd)  k) hr
theorem OGo.dconst0 (C : Cx p s m c Z own by0 ml) (X : Sd p l e R s m args below meth c n0 T h cells slots) {v : UInt64} (hd : decode by0 pc = .ok (.dconst 0, 1)) (hp : pc + 1 = pc') (hz : FP.dconst0 = v) (hr : OGo p e below K T (mkF m pc' Ls (.double v :: St))) : OGo p e below K T (mkF m pc Ls (St)) := by
  subst hp
  obtain ⟨-, -, locs, Y, -⟩ := X
  exact OGo.st (fun t k => XS.dconst0 Y.here C.1 rfl (hb C.2.2.2.1 hd) hz k) hr
theorem OGo.dconst1 (C : Cx p s m c Z own by0 ml) (X : Sd p l e R s m args below meth c n0 T h cells slots) {v : UInt64} (hd : decode by0 pc = .ok (.dconst 1, 1)) (hp : pc + 1 = pc') (hz : FP.dconst1 = v) (hr : OGo p e below K T (mkF m pc' Ls (.double v :: St))) : OGo p e below K T (mkF m pc Ls (St)) := by
  subst hp
  obtain ⟨-, -, locs, Y, -⟩ := X
  exact OGo.st (fun t k => XS.dconst1 Y.here C.1 rfl (hb C.2.2.2.1 hd) hz k) hr
theorem OGo.aconst_null (C : Cx p s m c Z own by0 ml) (X : Sd p l e R s m args below meth c n0 T h cells slots)  (hd : decode by0 pc = .ok (.aconst_null, 1)) (hp : pc + 1 = pc')  (hr : OGo p e below K T (mkF m pc' Ls (.null :: St))) : OGo p e below K T (mkF m pc Ls (St)) := by
  subst hp
  obtain ⟨-, -, locs, Y, -⟩ := X
  exact OGo.st (fun t k => XS.aconstNull Y.here C.1 rfl (hb C.2.2.2.1 hd)  k) hr
theorem OGo.iadd (C : Cx p s m c Z own by0 ml) (X : Sd p l e R s m args below meth c n0 T h cells slots) {x y z : Int32} (hd : decode by0 pc = .ok (.iadd, 1)) (hp : pc + 1 = pc') (hz : x + y = z) (hr : OGo p e below K T (mkF m pc' Ls (.int z :: St))) : OGo p e below K T (mkF m pc Ls (.int y :: .int x :: St)) := by
  subst hp
  subst hz
  obtain ⟨-, -, locs, Y, -⟩ := X
  exact OGo.st (fun t k => XS.iadd Y.here C.1 rfl (hb C.2.2.2.1 hd) rfl k) hr
theorem OGo.isub (C : Cx p s m c Z own by0 ml) (X : Sd p l e R s m args below meth c n0 T h cells slots) {x y z : Int32} (hd : decode by0 pc = .ok (.isub, 1)) (hp : pc + 1 = pc') (hz : x - y = z) (hr : OGo p e below K T (mkF m pc' Ls (.int z :: St))) : OGo p e below K T (mkF m pc Ls (.int y :: .int x :: St)) := by
  subst hp
  subst hz
  obtain ⟨-, -, locs, Y, -⟩ := X
  exact OGo.st (fun t k => XS.isub Y.here C.1 rfl (hb C.2.2.2.1 hd) rfl k) hr
theorem OGo.imul (C : Cx p s m c Z own by0 ml) (X : Sd p l e R s m args below meth c n0 T h cells slots) {x y z : Int32} (hd : decode by0 pc = .ok (.imul, 1)) (hp : pc + 1 = pc') (hz : x * y = z) (hr : OGo p e below K T (mkF m pc' Ls (.int z :: St))) : OGo p e below K T (mkF m pc Ls (.int y :: .int x :: St)) := by
  subst hp
  subst hz
  obtain ⟨-, -, locs, Y, -⟩ := X
  exact OGo.st (fun t k => XS.imul Y.here C.1 rfl (hb C.2.2.2.1 hd) rfl k) hr
theorem OGo.iand (C : Cx p s m c Z own by0 ml) (X : Sd p l e R s m args below meth c n0 T h cells slots) {x y z : Int32} (hd : decode by0 pc = .ok (.iand, 1)) (hp : pc + 1 = pc') (hz : x &&& y = z) (hr : OGo p e below K T (mkF m pc' Ls (.int z :: St))) : OGo p e below K T (mkF m pc Ls (.int y :: .int x :: St)) := by
  subst hp
  subst hz
  obtain ⟨-, -, locs, Y, -⟩ := X
  exact OGo.st (fun t k => XS.iand Y.here C.1 rfl (hb C.2.2.2.1 hd) rfl k) hr
theorem OGo.ior (C : Cx p s m c Z own by0 ml) (X : Sd p l e R s m args below meth c n0 T h cells slots) {x y z : Int32} (hd : decode by0 pc = .ok (.ior, 1)) (hp : pc + 1 = pc') (hz : x ||| y = z) (hr : OGo p e below K T (mkF m pc' Ls (.int z :: St))) : OGo p e below K T (mkF m pc Ls (.int y :: .int x :: St)) := by
  subst hp
  subst hz
  obtain ⟨-, -, locs, Y, -⟩ := X
  exact OGo.st (fun t k => XS.ior Y.here C.1 rfl (hb C.2.2.2.1 hd) rfl k) hr
theorem OGo.ixor (C : Cx p s m c Z own by0 ml) (X : Sd p l e R s m args below meth c n0 T h cells slots) {x y z : Int32} (hd : decode by0 pc = .ok (.ixor, 1)) (hp : pc + 1 = pc') (hz : x ^^^ y = z) (hr : OGo p e below K T (mkF m pc' Ls (.int z :: St))) : OGo p e below K T (mkF m pc Ls (.int y :: .int x :: St)) := by
  subst hp
  subst hz
  obtain ⟨-, -, locs, Y, -⟩ := X
  exact OGo.st (fun t k => XS.ixor Y.here C.1 rfl (hb C.2.2.2.1 hd) rfl k) hr
theorem OGo.ishl (C : Cx p s m c Z own by0 ml) (X : Sd p l e R s m args below meth c n0 T h cells slots) {x y z : Int32} (hd : decode by0 pc = .ok (.ishl, 1)) (hp : pc + 1 = pc') (hz : x <<< (y &&& 31) = z) (hr : OGo p e below K T (mkF m pc' Ls (.int z :: St))) : OGo p e below K T (mkF m pc Ls (.int y :: .int x :: St)) := by
  subst hp
  subst hz
  obtain ⟨-, -, locs, Y, -⟩ := X
  exact OGo.st (fun t k => XS.ishl Y.here C.1 rfl (hb C.2.2.2.1 hd) rfl k) hr
theorem OGo.ishr (C : Cx p s m c Z own by0 ml) (X : Sd p l e R s m args below meth c n0 T h cells slots) {x y z : Int32} (hd : decode by0 pc = .ok (.ishr, 1)) (hp : pc + 1 = pc') (hz : x >>> (y &&& 31) = z) (hr : OGo p e below K T (mkF m pc' Ls (.int z :: St))) : OGo p e below K T (mkF m pc Ls (.int y :: .int x :: St)) := by
  subst hp
  subst hz
  obtain ⟨-, -, locs, Y, -⟩ := X
  exact OGo.st (fun t k => XS.ishr Y.here C.1 rfl (hb C.2.2.2.1 hd) rfl k) hr
theorem OGo.iushr (C : Cx p s m c Z own by0 ml) (X : Sd p l e R s m args below meth c n0 T h cells slots) {x y z : Int32} (hd : decode by0 pc = .ok (.iushr, 1)) (hp : pc + 1 = pc') (hz : (x.toUInt32 >>> (y &&& 31).toUInt32).toInt32 = z) (hr : OGo p e below K T (mkF m pc' Ls (.int z :: St))) : OGo p e below K T (mkF m pc Ls (.int y :: .int x :: St)) := by
  subst hp
  subst hz
  obtain ⟨-, -, locs, Y, -⟩ := X
  exact OGo.st (fun t k => XS.iushr Y.here C.1 rfl (hb C.2.2.2.1 hd) rfl k) hr
theorem OGo.idiv (C : Cx p s m c Z own by0 ml) (X : Sd p l e R s m args below meth c n0 T h cells slots) {x y z : Int32} (hd : decode by0 pc = .ok (.idiv, 1)) (hp : pc + 1 = pc') (hy : y ≠ 0) (hz : x / y = z) (hr : OGo p e below K T (mkF m pc' Ls (.int z :: St))) : OGo p e below K T (mkF m pc Ls (.int y :: .int x :: St)) := by
  subst hp
  subst hz
  obtain ⟨-, -, locs, Y, -⟩ := X
  exact OGo.st (fun t k => XS.idiv Y.here C.1 rfl (hb C.2.2.2.1 hd) rfl hy k) hr
theorem OGo.irem (C : Cx p s m c Z own by0 ml) (X : Sd p l e R s m args below meth c n0 T h cells slots) {x y z : Int32} (hd : decode by0 pc = .ok (.irem, 1)) (hp : pc + 1 = pc') (hy : y ≠ 0) (hz : x % y = z) (hr : OGo p e below K T (mkF m pc' Ls (.int z :: St))) : OGo p e below K T (mkF m pc Ls (.int y :: .int x :: St)) := by
  subst hp
  subst hz
  obtain ⟨-, -, locs, Y, -⟩ := X
  exact OGo.st (fun t k => iremM Y C.1 rfl (hb C.2.2.2.1 hd) rfl hy k) hr
theorem OGo.ineg (C : Cx p s m c Z own by0 ml) (X : Sd p l e R s m args below meth c n0 T h cells slots) {x z : Int32} (hd : decode by0 pc = .ok (.ineg, 1)) (hp : pc + 1 = pc') (hz : -x = z) (hr : OGo p e below K T (mkF m pc' Ls (.int z :: St))) : OGo p e below K T (mkF m pc Ls (.int x :: St)) := by
  subst hp
  subst hz
  obtain ⟨-, -, locs, Y, -⟩ := X
  exact OGo.st (fun t k => XS.ineg Y.here C.1 rfl (hb C.2.2.2.1 hd) rfl k) hr
theorem OGo.iinc (C : Cx p s m c Z own by0 ml) (X : Sd p l e R s m args below meth c n0 T h cells slots) {k : Nat} {cst : Int} {x z : Int32} {l' : Array Slot} (hd : decode by0 pc = .ok (.iinc k cst, 3)) (hp : pc + 3 = pc') (hl : Ls[k]? = some (.val (.int x))) (hz : x + Int32.ofInt cst = z) (hl' : storeLocals Ls k (.int z) = some l') (hr : OGo p e below K T (mkF m pc' l' (St))) : OGo p e below K T (mkF m pc Ls (St)) := by
  subst hp
  subst hz
  obtain ⟨-, -, locs, Y, -⟩ := X
  exact OGo.st (fun t k => XS.iinc Y.here C.1 rfl (hb C.2.2.2.1 hd) hl hl' k) hr
theorem OGo.ladd (C : Cx p s m c Z own by0 ml) (X : Sd p l e R s m args below meth c n0 T h cells slots) {x y z : Int64} (hd : decode by0 pc = .ok (.ladd, 1)) (hp : pc + 1 = pc') (hz : x + y = z) (hr : OGo p e below K T (mkF m pc' Ls (.long z :: St))) : OGo p e below K T (mkF m pc Ls (.long y :: .long x :: St)) := by
  subst hp
  subst hz
  obtain ⟨-, -, locs, Y, -⟩ := X
  exact OGo.st (fun t k => XS.ladd Y.here C.1 rfl (hb C.2.2.2.1 hd) rfl k) hr
theorem OGo.lsub (C : Cx p s m c Z own by0 ml) (X : Sd p l e R s m args below meth c n0 T h cells slots) {x y z : Int64} (hd : decode by0 pc = .ok (.lsub, 1)) (hp : pc + 1 = pc') (hz : x - y = z) (hr : OGo p e below K T (mkF m pc' Ls (.long z :: St))) : OGo p e below K T (mkF m pc Ls (.long y :: .long x :: St)) := by
  subst hp
  subst hz
  obtain ⟨-, -, locs, Y, -⟩ := X
  exact OGo.st (fun t k => XS.lsub Y.here C.1 rfl (hb C.2.2.2.1 hd) rfl k) hr
theorem OGo.lmul (C : Cx p s m c Z own by0 ml) (X : Sd p l e R s m args below meth c n0 T h cells slots) {x y z : Int64} (hd : decode by0 pc = .ok (.lmul, 1)) (hp : pc + 1 = pc') (hz : x * y = z) (hr : OGo p e below K T (mkF m pc' Ls (.long z :: St))) : OGo p e below K T (mkF m pc Ls (.long y :: .long x :: St)) := by
  subst hp
  subst hz
  obtain ⟨-, -, locs, Y, -⟩ := X
  exact OGo.st (fun t k => XS.lmul Y.here C.1 rfl (hb C.2.2.2.1 hd) rfl k) hr
theorem OGo.land (C : Cx p s m c Z own by0 ml) (X : Sd p l e R s m args below meth c n0 T h cells slots) {x y z : Int64} (hd : decode by0 pc = .ok (.land, 1)) (hp : pc + 1 = pc') (hz : x &&& y = z) (hr : OGo p e below K T (mkF m pc' Ls (.long z :: St))) : OGo p e below K T (mkF m pc Ls (.long y :: .long x :: St)) := by
  subst hp
  subst hz
  obtain ⟨-, -, locs, Y, -⟩ := X
  exact OGo.st (fun t k => XS.land Y.here C.1 rfl (hb C.2.2.2.1 hd) rfl k) hr
theorem OGo.lor (C : Cx p s m c Z own by0 ml) (X : Sd p l e R s m args below meth c n0 T h cells slots) {x y z : Int64} (hd : decode by0 pc = .ok (.lor, 1)) (hp : pc + 1 = pc') (hz : x ||| y = z) (hr : OGo p e below K T (mkF m pc' Ls (.long z :: St))) : OGo p e below K T (mkF m pc Ls (.long y :: .long x :: St)) := by
  subst hp
  subst hz
  obtain ⟨-, -, locs, Y, -⟩ := X
  exact OGo.st (fun t k => XS.lor Y.here C.1 rfl (hb C.2.2.2.1 hd) rfl k) hr
theorem OGo.lxor (C : Cx p s m c Z own by0 ml) (X : Sd p l e R s m args below meth c n0 T h cells slots) {x y z : Int64} (hd : decode by0 pc = .ok (.lxor, 1)) (hp : pc + 1 = pc') (hz : x ^^^ y = z) (hr : OGo p e below K T (mkF m pc' Ls (.long z :: St))) : OGo p e below K T (mkF m pc Ls (.long y :: .long x :: St)) := by
  subst hp
  subst hz
  obtain ⟨-, -, locs, Y, -⟩ := X
  exact OGo.st (fun t k => XS.lxor Y.here C.1 rfl (hb C.2.2.2.1 hd) rfl k) hr
theorem OGo.lshl (C : Cx p s m c Z own by0 ml) (X : Sd p l e R s m args below meth c n0 T h cells slots) {x z : Int64} {y : Int32} (hd : decode by0 pc = .ok (.lshl, 1)) (hp : pc + 1 = pc') (hz : x <<< (y &&& 0x3f).toInt64 = z) (hr : OGo p e below K T (mkF m pc' Ls (.long z :: St))) : OGo p e below K T (mkF m pc Ls (.int y :: .long x :: St)) := by
  subst hp
  subst hz
  obtain ⟨-, -, locs, Y, -⟩ := X
  exact OGo.st (fun t k => XS.lshl Y.here C.1 rfl (hb C.2.2.2.1 hd) rfl k) hr
theorem OGo.lshr (C : Cx p s m c Z own by0 ml) (X : Sd p l e R s m args below meth c n0 T h cells slots) {x z : Int64} {y : Int32} (hd : decode by0 pc = .ok (.lshr, 1)) (hp : pc + 1 = pc') (hz : x >>> (y &&& 0x3f).toInt64 = z) (hr : OGo p e below K T (mkF m pc' Ls (.long z :: St))) : OGo p e below K T (mkF m pc Ls (.int y :: .long x :: St)) := by
  subst hp
  subst hz
  obtain ⟨-, -, locs, Y, -⟩ := X
  exact OGo.st (fun t k => XS.lshr Y.here C.1 rfl (hb C.2.2.2.1 hd) rfl k) hr
theorem OGo.lushr (C : Cx p s m c Z own by0 ml) (X : Sd p l e R s m args below meth c n0 T h cells slots) {x z : Int64} {y : Int32} (hd : decode by0 pc = .ok (.lushr, 1)) (hp : pc + 1 = pc') (hz : (x.toUInt64 >>> (y &&& 0x3f).toInt64.toUInt64).toInt64 = z) (hr : OGo p e below K T (mkF m pc' Ls (.long z :: St))) : OGo p e below K T (mkF m pc Ls (.int y :: .long x :: St)) := by
  subst hp
  subst hz
  obtain ⟨-, -, locs, Y, -⟩ := X
  exact OGo.st (fun t k => XS.lushr Y.here C.1 rfl (hb C.2.2.2.1 hd) rfl k) hr
theorem OGo.ldiv (C : Cx p s m c Z own by0 ml) (X : Sd p l e R s m args below meth c n0 T h cells slots) {x y z : Int64} (hd : decode by0 pc = .ok (.ldiv, 1)) (hp : pc + 1 = pc') (hy : y ≠ 0) (hz : x / y = z) (hr : OGo p e below K T (mkF m pc' Ls (.long z :: St))) : OGo p e below K T (mkF m pc Ls (.long y :: .long x :: St)) := by
  subst hp
  subst hz
  obtain ⟨-, -, locs, Y, -⟩ := X
  exact OGo.st (fun t k => XS.ldiv Y.here C.1 rfl (hb C.2.2.2.1 hd) rfl hy k) hr
theorem OGo.lrem (C : Cx p s m c Z own by0 ml) (X : Sd p l e R s m args below meth c n0 T h cells slots) {x y z : Int64} (hd : decode by0 pc = .ok (.lrem, 1)) (hp : pc + 1 = pc') (hy : y ≠ 0) (hz : x - (x / y) * y = z) (hr : OGo p e below K T (mkF m pc' Ls (.long z :: St))) : OGo p e below K T (mkF m pc Ls (.long y :: .long x :: St)) := by
  subst hp
  subst hz
  obtain ⟨-, -, locs, Y, -⟩ := X
  exact OGo.st (fun t k => XS.lrem Y.here C.1 rfl (hb C.2.2.2.1 hd) rfl hy k) hr
theorem OGo.lneg (C : Cx p s m c Z own by0 ml) (X : Sd p l e R s m args below meth c n0 T h cells slots) {x z : Int64} (hd : decode by0 pc = .ok (.lneg, 1)) (hp : pc + 1 = pc') (hz : -x = z) (hr : OGo p e below K T (mkF m pc' Ls (.long z :: St))) : OGo p e below K T (mkF m pc Ls (.long x :: St)) := by
  subst hp
  subst hz
  obtain ⟨-, -, locs, Y, -⟩ := X
  exact OGo.st (fun t k => XS.lneg Y.here C.1 rfl (hb C.2.2.2.1 hd) rfl k) hr
theorem OGo.i2l (C : Cx p s m c Z own by0 ml) (X : Sd p l e R s m args below meth c n0 T h cells slots) {x : Int32} {z : Int64} (hd : decode by0 pc = .ok (.i2l, 1)) (hp : pc + 1 = pc') (hz : x.toInt64 = z) (hr : OGo p e below K T (mkF m pc' Ls (.long z :: St))) : OGo p e below K T (mkF m pc Ls (.int x :: St)) := by
  subst hp
  subst hz
  obtain ⟨-, -, locs, Y, -⟩ := X
  exact OGo.st (fun t k => XS.i2l Y.here C.1 rfl (hb C.2.2.2.1 hd) rfl k) hr
theorem OGo.l2i (C : Cx p s m c Z own by0 ml) (X : Sd p l e R s m args below meth c n0 T h cells slots) {x : Int64} {z : Int32} (hd : decode by0 pc = .ok (.l2i, 1)) (hp : pc + 1 = pc') (hz : x.toInt32 = z) (hr : OGo p e below K T (mkF m pc' Ls (.int z :: St))) : OGo p e below K T (mkF m pc Ls (.long x :: St)) := by
  subst hp
  subst hz
  obtain ⟨-, -, locs, Y, -⟩ := X
  exact OGo.st (fun t k => XS.l2i Y.here C.1 rfl (hb C.2.2.2.1 hd) rfl k) hr
theorem OGo.i2b (C : Cx p s m c Z own by0 ml) (X : Sd p l e R s m args below meth c n0 T h cells slots) {x : Int32} {z : Int32} (hd : decode by0 pc = .ok (.i2b, 1)) (hp : pc + 1 = pc') (hz : x.toInt8.toInt32 = z) (hr : OGo p e below K T (mkF m pc' Ls (.int z :: St))) : OGo p e below K T (mkF m pc Ls (.int x :: St)) := by
  subst hp
  subst hz
  obtain ⟨-, -, locs, Y, -⟩ := X
  exact OGo.st (fun t k => XS.i2b Y.here C.1 rfl (hb C.2.2.2.1 hd) rfl k) hr
theorem OGo.i2c (C : Cx p s m c Z own by0 ml) (X : Sd p l e R s m args below meth c n0 T h cells slots) {x : Int32} {z : Int32} (hd : decode by0 pc = .ok (.i2c, 1)) (hp : pc + 1 = pc') (hz : x.toUInt32.toUInt16.toUInt32.toInt32 = z) (hr : OGo p e below K T (mkF m pc' Ls (.int z :: St))) : OGo p e below K T (mkF m pc Ls (.int x :: St)) := by
  subst hp
  subst hz
  obtain ⟨-, -, locs, Y, -⟩ := X
  exact OGo.st (fun t k => XS.i2c Y.here C.1 rfl (hb C.2.2.2.1 hd) rfl k) hr
theorem OGo.i2s (C : Cx p s m c Z own by0 ml) (X : Sd p l e R s m args below meth c n0 T h cells slots) {x : Int32} {z : Int32} (hd : decode by0 pc = .ok (.i2s, 1)) (hp : pc + 1 = pc') (hz : x.toInt16.toInt32 = z) (hr : OGo p e below K T (mkF m pc' Ls (.int z :: St))) : OGo p e below K T (mkF m pc Ls (.int x :: St)) := by
  subst hp
  subst hz
  obtain ⟨-, -, locs, Y, -⟩ := X
  exact OGo.st (fun t k => XS.i2s Y.here C.1 rfl (hb C.2.2.2.1 hd) rfl k) hr
theorem OGo.lcmp (C : Cx p s m c Z own by0 ml) (X : Sd p l e R s m args below meth c n0 T h cells slots) {x y : Int64} {z : Int32} (hd : decode by0 pc = .ok (.lcmp, 1)) (hp : pc + 1 = pc') (hz : lcmpW x y = z) (hr : OGo p e below K T (mkF m pc' Ls (.int z :: St))) : OGo p e below K T (mkF m pc Ls (.long y :: .long x :: St)) := by
  subst hp
  subst hz
  obtain ⟨-, -, locs, Y, -⟩ := X
  exact OGo.st (fun t k => XS.lcmp Y.here C.1 rfl (hb C.2.2.2.1 hd) rfl k) hr
theorem OGo.i2d (C : Cx p s m c Z own by0 ml) (X : Sd p l e R s m args below meth c n0 T h cells slots) {x : Int32} {v : UInt64} (hd : decode by0 pc = .ok (.i2d, 1)) (hp : pc + 1 = pc') (hz : FP.i2d x = v) (hr : OGo p e below K T (mkF m pc' Ls (.double v :: St))) : OGo p e below K T (mkF m pc Ls (.int x :: St)) := by
  subst hp
  obtain ⟨-, -, locs, Y, -⟩ := X
  exact OGo.st (fun t k => XS.i2dS Y.here C.1 rfl (hb C.2.2.2.1 hd) rfl hz k) hr
theorem OGo.l2d (C : Cx p s m c Z own by0 ml) (X : Sd p l e R s m args below meth c n0 T h cells slots) {x : Int64} {v : UInt64} (hd : decode by0 pc = .ok (.l2d, 1)) (hp : pc + 1 = pc') (hz : FP.l2d x = v) (hr : OGo p e below K T (mkF m pc' Ls (.double v :: St))) : OGo p e below K T (mkF m pc Ls (.long x :: St)) := by
  subst hp
  obtain ⟨-, -, locs, Y, -⟩ := X
  exact OGo.st (fun t k => XS.l2dS Y.here C.1 rfl (hb C.2.2.2.1 hd) rfl hz k) hr
theorem OGo.d2i (C : Cx p s m c Z own by0 ml) (X : Sd p l e R s m args below meth c n0 T h cells slots) {x : UInt64} {v : Int32} (hd : decode by0 pc = .ok (.d2i, 1)) (hp : pc + 1 = pc') (hz : FP.d2i x = v) (hr : OGo p e below K T (mkF m pc' Ls (.int v :: St))) : OGo p e below K T (mkF m pc Ls (.double x :: St)) := by
  subst hp
  obtain ⟨-, -, locs, Y, -⟩ := X
  exact OGo.st (fun t k => XS.d2iS Y.here C.1 rfl (hb C.2.2.2.1 hd) rfl hz k) hr
theorem OGo.d2l (C : Cx p s m c Z own by0 ml) (X : Sd p l e R s m args below meth c n0 T h cells slots) {x : UInt64} {v : Int64} (hd : decode by0 pc = .ok (.d2l, 1)) (hp : pc + 1 = pc') (hz : FP.d2l x = v) (hr : OGo p e below K T (mkF m pc' Ls (.long v :: St))) : OGo p e below K T (mkF m pc Ls (.double x :: St)) := by
  subst hp
  obtain ⟨-, -, locs, Y, -⟩ := X
  exact OGo.st (fun t k => XS.d2lS Y.here C.1 rfl (hb C.2.2.2.1 hd) rfl hz k) hr
theorem OGo.dneg (C : Cx p s m c Z own by0 ml) (X : Sd p l e R s m args below meth c n0 T h cells slots) {x : UInt64} {v : UInt64} (hd : decode by0 pc = .ok (.dneg, 1)) (hp : pc + 1 = pc') (hz : FP.dneg x = v) (hr : OGo p e below K T (mkF m pc' Ls (.double v :: St))) : OGo p e below K T (mkF m pc Ls (.double x :: St)) := by
  subst hp
  obtain ⟨-, -, locs, Y, -⟩ := X
  exact OGo.st (fun t k => XS.dnegS Y.here C.1 rfl (hb C.2.2.2.1 hd) rfl hz k) hr
theorem OGo.dcmp (C : Cx p s m c Z own by0 ml) (X : Sd p l e R s m args below meth c n0 T h cells slots) {o : CmpOp} {x y : UInt64} {v : Int32} (hd : decode by0 pc = .ok (.dcmp o, 1)) (hp : pc + 1 = pc') (hz : cmpValue (FP.dcmp x y) o = v) (hr : OGo p e below K T (mkF m pc' Ls (.int v :: St))) : OGo p e below K T (mkF m pc Ls (.double y :: .double x :: St)) := by
  subst hp
  obtain ⟨-, -, locs, Y, -⟩ := X
  exact OGo.st (fun t k => XS.dcmpS Y.here C.1 rfl (hb C.2.2.2.1 hd) rfl hz k) hr
theorem OGo.dadd (C : Cx p s m c Z own by0 ml) (X : Sd p l e R s m args below meth c n0 T h cells slots) {x y v : UInt64} (hd : decode by0 pc = .ok (.dadd, 1)) (hp : pc + 1 = pc') (hn : Jvm.Free.Fl.NoNaN64 (FP.dadd x y)) (hz : FP.dadd x y = v) (hr : OGo p e below K T (mkF m pc' Ls (.double v :: St))) : OGo p e below K T (mkF m pc Ls (.double y :: .double x :: St)) := by
  subst hp
  obtain ⟨-, -, locs, Y, -⟩ := X
  exact OGo.st (fun t k => XS.daddS Y.here C.1 rfl (hb C.2.2.2.1 hd) rfl hn hz k) hr
theorem OGo.dsub (C : Cx p s m c Z own by0 ml) (X : Sd p l e R s m args below meth c n0 T h cells slots) {x y v : UInt64} (hd : decode by0 pc = .ok (.dsub, 1)) (hp : pc + 1 = pc') (hn : Jvm.Free.Fl.NoNaN64 (FP.dsub x y)) (hz : FP.dsub x y = v) (hr : OGo p e below K T (mkF m pc' Ls (.double v :: St))) : OGo p e below K T (mkF m pc Ls (.double y :: .double x :: St)) := by
  subst hp
  obtain ⟨-, -, locs, Y, -⟩ := X
  exact OGo.st (fun t k => XS.dsubS Y.here C.1 rfl (hb C.2.2.2.1 hd) rfl hn hz k) hr
theorem OGo.dmul (C : Cx p s m c Z own by0 ml) (X : Sd p l e R s m args below meth c n0 T h cells slots) {x y v : UInt64} (hd : decode by0 pc = .ok (.dmul, 1)) (hp : pc + 1 = pc') (hn : Jvm.Free.Fl.NoNaN64 (FP.dmul x y)) (hz : FP.dmul x y = v) (hr : OGo p e below K T (mkF m pc' Ls (.double v :: St))) : OGo p e below K T (mkF m pc Ls (.double y :: .double x :: St)) := by
  subst hp
  obtain ⟨-, -, locs, Y, -⟩ := X
  exact OGo.st (fun t k => XS.dmulS Y.here C.1 rfl (hb C.2.2.2.1 hd) rfl hn hz k) hr
theorem OGo.ddiv (C : Cx p s m c Z own by0 ml) (X : Sd p l e R s m args below meth c n0 T h cells slots) {x y v : UInt64} (hd : decode by0 pc = .ok (.ddiv, 1)) (hp : pc + 1 = pc') (hn : Jvm.Free.Fl.NoNaN64 (FP.ddiv x y)) (hz : FP.ddiv x y = v) (hr : OGo p e below K T (mkF m pc' Ls (.double v :: St))) : OGo p e below K T (mkF m pc Ls (.double y :: .double x :: St)) := by
  subst hp
  obtain ⟨-, -, locs, Y, -⟩ := X
  exact OGo.st (fun t k => XS.ddivS Y.here C.1 rfl (hb C.2.2.2.1 hd) rfl hn hz k) hr
theorem OGo.dup (C : Cx p s m c Z own by0 ml) (X : Sd p l e R s m args below meth c n0 T h cells slots) {x : Value} (hd : decode by0 pc = .ok (.dup, 1)) (hp : pc + 1 = pc') (hc : x.category = 1) (hr : OGo p e below K T (mkF m pc' Ls (x :: x :: St))) : OGo p e below K T (mkF m pc Ls (x :: St)) := by
  subst hp
  obtain ⟨-, -, locs, Y, -⟩ := X
  exact OGo.st (fun t k => XS.dup Y.here C.1 rfl (hb C.2.2.2.1 hd) rfl hc k) hr
theorem OGo.pop (C : Cx p s m c Z own by0 ml) (X : Sd p l e R s m args below meth c n0 T h cells slots) {x : Value} (hd : decode by0 pc = .ok (.pop, 1)) (hp : pc + 1 = pc') (hc : x.category = 1) (hr : OGo p e below K T (mkF m pc' Ls (St))) : OGo p e below K T (mkF m pc Ls (x :: St)) := by
  subst hp
  obtain ⟨-, -, locs, Y, -⟩ := X
  exact OGo.st (fun t k => XS.pop Y.here C.1 rfl (hb C.2.2.2.1 hd) rfl hc k) hr
theorem OGo.dup_x1 (C : Cx p s m c Z own by0 ml) (X : Sd p l e R s m args below meth c n0 T h cells slots) {x y : Value} (hd : decode by0 pc = .ok (.dup_x1, 1)) (hp : pc + 1 = pc') (hc : x.category = 1) (hc' : y.category = 1) (hr : OGo p e below K T (mkF m pc' Ls (x :: y :: x :: St))) : OGo p e below K T (mkF m pc Ls (x :: y :: St)) := by
  subst hp
  obtain ⟨-, -, locs, Y, -⟩ := X
  exact OGo.st (fun t k => XS.dupX1 Y.here C.1 rfl (hb C.2.2.2.1 hd) rfl hc hc' k) hr
theorem OGo.dup2 (C : Cx p s m c Z own by0 ml) (X : Sd p l e R s m args below meth c n0 T h cells slots) {x y : Value} (hd : decode by0 pc = .ok (.dup2, 1)) (hp : pc + 1 = pc') (hc : x.category = 1) (hc' : y.category = 1) (hr : OGo p e below K T (mkF m pc' Ls (x :: y :: x :: y :: St))) : OGo p e below K T (mkF m pc Ls (x :: y :: St)) := by
  subst hp
  obtain ⟨-, -, locs, Y, -⟩ := X
  exact OGo.st (fun t k => XT.dup2 Y.here C.1 rfl (hb C.2.2.2.1 hd) rfl hc hc' k) hr
theorem OGo.goto (C : Cx p s m c Z own by0 ml) (X : Sd p l e R s m args below meth c n0 T h cells slots)  {o : Int} (hd : decode by0 pc = .ok (.goto o, 3))  (ho : 0 ≤ (pc : Int) + o) (hp : ((pc : Int) + o).toNat = pc') (hr : OGo p e below K T (mkF m pc' Ls (St))) : OGo p e below K T (mkF m pc Ls (St)) := by
  obtain ⟨-, -, locs, Y, -⟩ := X
  exact OGo.st (fun t k => XS.goto Y.here C.1 rfl (pc0 := pc) rfl (hb C.2.2.2.1 hd)  ho hp k) hr
theorem OGo.ifYes (C : Cx p s m c Z own by0 ml) (X : Sd p l e R s m args below meth c n0 T h cells slots) {cd : ClassFile.Cond} {x : Int32} {o : Int} (hd : decode by0 pc = .ok (.ifCond cd o, 3)) (hc : if_icmp.holds cd x 0 = true) (ho : 0 ≤ (pc : Int) + o) (hp : ((pc : Int) + o).toNat = pc') (hr : OGo p e below K T (mkF m pc' Ls (St))) : OGo p e below K T (mkF m pc Ls (.int x :: St)) := by
  obtain ⟨-, -, locs, Y, -⟩ := X
  exact OGo.st (fun t k => XS.ifYes Y.here C.1 rfl (pc0 := pc) rfl (hb C.2.2.2.1 hd) rfl ((if0 _ _).trans hc) ho hp k) hr
theorem OGo.ifNo (C : Cx p s m c Z own by0 ml) (X : Sd p l e R s m args below meth c n0 T h cells slots) {cd : ClassFile.Cond} {x : Int32} {o : Int} (hd : decode by0 pc = .ok (.ifCond cd o, 3)) (hp : pc + 3 = pc') (hc : if_icmp.holds cd x 0 = false) (hr : OGo p e below K T (mkF m pc' Ls (St))) : OGo p e below K T (mkF m pc Ls (.int x :: St)) := by
  subst hp
  obtain ⟨-, -, locs, Y, -⟩ := X
  exact OGo.st (fun t k => XS.ifNo Y.here C.1 rfl (hb C.2.2.2.1 hd) rfl ((if0 _ _).trans hc) k) hr
theorem OGo.icmpYes (C : Cx p s m c Z own by0 ml) (X : Sd p l e R s m args below meth c n0 T h cells slots) {cd : ClassFile.Cond} {x y : Int32} {o : Int} (hd : decode by0 pc = .ok (.if_icmp cd o, 3)) (hc : if_icmp.holds cd x y = true) (ho : 0 ≤ (pc : Int) + o) (hp : ((pc : Int) + o).toNat = pc') (hr : OGo p e below K T (mkF m pc' Ls (St))) : OGo p e below K T (mkF m pc Ls (.int y :: .int x :: St)) := by
  obtain ⟨-, -, locs, Y, -⟩ := X
  exact OGo.st (fun t k => XS.icmpYes Y.here C.1 rfl (pc0 := pc) rfl (hb C.2.2.2.1 hd) rfl hc ho hp k) hr
theorem OGo.icmpNo (C : Cx p s m c Z own by0 ml) (X : Sd p l e R s m args below meth c n0 T h cells slots) {cd : ClassFile.Cond} {x y : Int32} {o : Int} (hd : decode by0 pc = .ok (.if_icmp cd o, 3)) (hp : pc + 3 = pc') (hc : if_icmp.holds cd x y = false) (hr : OGo p e below K T (mkF m pc' Ls (St))) : OGo p e below K T (mkF m pc Ls (.int y :: .int x :: St)) := by
  subst hp
  obtain ⟨-, -, locs, Y, -⟩ := X
  exact OGo.st (fun t k => XS.icmpNo Y.here C.1 rfl (hb C.2.2.2.1 hd) rfl hc k) hr
theorem OGo.ifnullYes (C : Cx p s m c Z own by0 ml) (X : Sd p l e R s m args below meth c n0 T h cells slots)  {o : Int} (hd : decode by0 pc = .ok (.ifnull o, 3))  (ho : 0 ≤ (pc : Int) + o) (hp : ((pc : Int) + o).toNat = pc') (hr : OGo p e below K T (mkF m pc' Ls (St))) : OGo p e below K T (mkF m pc Ls (.null :: St)) := by
  obtain ⟨-, -, locs, Y, -⟩ := X
  exact OGo.st (fun t k => XS.ifnullYes Y.here C.1 rfl (pc0 := pc) rfl (hb C.2.2.2.1 hd) rfl ho hp k) hr
theorem OGo.ifnullNo (C : Cx p s m c Z own by0 ml) (X : Sd p l e R s m args below meth c n0 T h cells slots) {b : Addr} {o : Int} (hd : decode by0 pc = .ok (.ifnull o, 3)) (hp : pc + 3 = pc')  (hr : OGo p e below K T (mkF m pc' Ls (St))) : OGo p e below K T (mkF m pc Ls (.ref b :: St)) := by
  subst hp
  obtain ⟨-, -, locs, Y, -⟩ := X
  exact OGo.st (fun t k => XS.ifnullNo Y.here C.1 rfl (hb C.2.2.2.1 hd) rfl k) hr
theorem OGo.ifnonnullYes (C : Cx p s m c Z own by0 ml) (X : Sd p l e R s m args below meth c n0 T h cells slots) {b : Addr} {o : Int} (hd : decode by0 pc = .ok (.ifnonnull o, 3))  (ho : 0 ≤ (pc : Int) + o) (hp : ((pc : Int) + o).toNat = pc') (hr : OGo p e below K T (mkF m pc' Ls (St))) : OGo p e below K T (mkF m pc Ls (.ref b :: St)) := by
  obtain ⟨-, -, locs, Y, -⟩ := X
  exact OGo.st (fun t k => XS.ifnonnullYes Y.here C.1 rfl (pc0 := pc) rfl (hb C.2.2.2.1 hd) rfl ho hp k) hr
theorem OGo.ifnonnullNo (C : Cx p s m c Z own by0 ml) (X : Sd p l e R s m args below meth c n0 T h cells slots)  {o : Int} (hd : decode by0 pc = .ok (.ifnonnull o, 3)) (hp : pc + 3 = pc')  (hr : OGo p e below K T (mkF m pc' Ls (St))) : OGo p e below K T (mkF m pc Ls (.null :: St)) := by
  subst hp
  obtain ⟨-, -, locs, Y, -⟩ := X
  exact OGo.st (fun t k => XS.ifnonnullNo Y.here C.1 rfl (hb C.2.2.2.1 hd) rfl k) hr
theorem OGo.acmp (C : Cx p s m c Z own by0 ml) (X : Sd p l e R s m args below meth c n0 T h cells slots) {cd : ACond} {x y : Value} (h1 : x.isRef = true) (h2 : y.isRef = true) {o : Int} {same : Bool} (hd : decode by0 pc = .ok (.if_acmp cd o, 3)) (hq : decide (x = y) = same) (ho : 0 ≤ (pc : Int) + o) (hp : pc' = if acV cd same = true then ((pc : Int) + o).toNat else pc + 3) (hr : OGo p e below K T (mkF m pc' Ls (St))) : OGo p e below K T (mkF m pc Ls (y :: x :: St)) := by
  obtain ⟨-, -, locs, Y, -⟩ := X
  exact OGo.st (fun t k => RoadKit.acmp Y C.1 rfl h1 h2 (pc0 := pc) rfl (hb C.2.2.2.1 hd) rfl hq ho hp k) hr
theorem OGo.ldcInt (C : Cx p s m c Z own by0 ml) (X : Sd p l e R s m args below meth c n0 T h cells slots) {idx : Nat} {v : Int32} (w : (Jvm.Cond.constant own idx v).before a0 Z = true) (hd : decode by0 pc = .ok (.ldc idx, 2)) (hp : pc + 2 = pc') (hr : OGo p e below K T (mkF m pc' Ls (.int v :: St))) : OGo p e below K T (mkF m pc Ls (St)) := by
  subst hp
  obtain ⟨-, -, locs, Y, -⟩ := X
  exact OGo.st (fun t k => Y.ldcInt C.1 C.2.2.1 (mvT C.2.1 w) (g := mkF m pc Ls St) rfl (hb C.2.2.2.1 hd) t k) hr
theorem OGo.ldc2Long (C : Cx p s m c Z own by0 ml) (X : Sd p l e R s m args below meth c n0 T h cells slots) {idx : Nat} {v : Int64} (w : (Jvm.Cond.constantLong own idx v).before a0 Z = true) (hd : decode by0 pc = .ok (.ldc2_w idx, 3)) (hp : pc + 3 = pc') (hr : OGo p e below K T (mkF m pc' Ls (.long v :: St))) : OGo p e below K T (mkF m pc Ls (St)) := by
  subst hp
  obtain ⟨-, -, locs, Y, -⟩ := X
  exact OGo.st (fun t k => Y.ldc2Long C.1 C.2.2.1 (mvT C.2.1 w) (g := mkF m pc Ls St) rfl (hb C.2.2.2.1 hd) t k) hr
theorem OGo.ldc2Double (C : Cx p s m c Z own by0 ml) (X : Sd p l e R s m args below meth c n0 T h cells slots) {idx : Nat} {v : UInt64} (w : (Jvm.Cond.constantDouble own idx v).before a0 Z = true) (hd : decode by0 pc = .ok (.ldc2_w idx, 3)) (hp : pc + 3 = pc') (hr : OGo p e below K T (mkF m pc' Ls (.double v :: St))) : OGo p e below K T (mkF m pc Ls (St)) := by
  subst hp
  obtain ⟨-, -, locs, Y, -⟩ := X
  exact OGo.st (fun t k => Y.ldc2DoubleC C.1 C.2.2.1 (mvT C.2.1 w) (g := mkF m pc Ls St) rfl (hb C.2.2.2.1 hd) t k) hr
theorem OGo.ldcStr (C : Cx p s m c Z own by0 ml) (X : Sd p l e R s m args below meth c n0 T h cells slots) {idx : Nat} {text : String} {a : Addr} (w : (Jvm.Cond.stringRef own idx text).before a0 Z = true) (L : RoadKit.Lit Z own idx a) (hd : decode by0 pc = .ok (.ldc idx, 2)) (hp : pc + 2 = pc') (hr : OGo p e below K T (mkF m pc' Ls (.ref a :: St))) : OGo p e below K T (mkF m pc Ls (St)) := by
  subst hp
  obtain ⟨-, -, locs, Y, -⟩ := X
  exact OGo.st (fun t k => ldcR Y C.1 C.2.1 C.2.2.1 w L (g := mkF m pc Ls St) rfl (hb C.2.2.2.1 hd) t k) hr
theorem OGo.arraylength (C : Cx p s m c Z own by0 ml) (X : Sd p l e R s m args below meth c n0 T h cells slots) {a : Addr} {k : ClassId} {ty : FieldType} {z : Int32} {vs : List Value} {dv : Value} (V : Arv Z h a k ty z vs dv) (hd : decode by0 pc = .ok (.arraylength, 1)) (hp : pc + 1 = pc') (hr : OGo p e below K T (mkF m pc' Ls (.int z :: St))) : OGo p e below K T (mkF m pc Ls (.ref a :: St)) := by
  subst hp
  obtain ⟨eT, -, locs, Y, -⟩ := X
  obtain ⟨cl, A, -, S, q, -⟩ := V
  refine OGo.st (fun t k => Y.arraylength C.1 (by rw [eT]; exact A.1) (State.isArrayOf_alike C.2.1.alike A.2.1) (g := mkF m pc Ls (.ref a :: St)) rfl rfl (hb C.2.2.2.1 hd) t ?_) hr
  rw [len_of S q]; exact k
theorem OGo.iaload (C : Cx p s m c Z own by0 ml) (X : Sd p l e R s m args below meth c n0 T h cells slots) {a : Addr} {k : ClassId} {z : Int32} {vs : List Value} {dv : Value} (V : Arv Z h a k .int z vs dv) {j : Int32} {v : Int32} (hd : decode by0 pc = .ok (.iaload, 1)) (hp : pc + 1 = pc') (hj : ¬ j < 0 ∧ j < z) (hv : vs.getD j.toNatClampNeg dv = .int v) (hr : OGo p e below K T (mkF m pc' Ls (.int v :: St))) : OGo p e below K T (mkF m pc Ls (.int j :: .ref a :: St)) := by
  subst hp
  obtain ⟨eT, -, locs, Y, -⟩ := X
  obtain ⟨cl, A, -, S, q, H, -⟩ := V
  exact OGo.st (fun t k => Y.iaload C.1 (by rw [eT]; exact A.1) (State.isArrayOf_alike C.2.1.alike A.2.1) A.2.2 (inb_of S hj) (Has.at H (inb_of S hj) hv) (g := mkF m pc Ls (.int j :: .ref a :: St)) rfl rfl (hb C.2.2.2.1 hd) t k) hr
theorem OGo.laload (C : Cx p s m c Z own by0 ml) (X : Sd p l e R s m args below meth c n0 T h cells slots) {a : Addr} {k : ClassId} {z : Int32} {vs : List Value} {dv : Value} (V : Arv Z h a k .long z vs dv) {j : Int32} {v : Int64} (hd : decode by0 pc = .ok (.laload, 1)) (hp : pc + 1 = pc') (hj : ¬ j < 0 ∧ j < z) (hv : vs.getD j.toNatClampNeg dv = .long v) (hr : OGo p e below K T (mkF m pc' Ls (.long v :: St))) : OGo p e below K T (mkF m pc Ls (.int j :: .ref a :: St)) := by
  subst hp
  obtain ⟨eT, -, locs, Y, -⟩ := X
  obtain ⟨cl, A, -, S, q, H, -⟩ := V
  exact OGo.st (fun t k => Y.laload C.1 (by rw [eT]; exact A.1) (State.isArrayOf_alike C.2.1.alike A.2.1) A.2.2 (inb_of S hj) (Has.at H (inb_of S hj) hv) (g := mkF m pc Ls (.int j :: .ref a :: St)) rfl rfl (hb C.2.2.2.1 hd) t k) hr
theorem OGo.daload (C : Cx p s m c Z own by0 ml) (X : Sd p l e R s m args below meth c n0 T h cells slots) {a : Addr} {k : ClassId} {z : Int32} {vs : List Value} {dv : Value} (V : Arv Z h a k .double z vs dv) {j : Int32} {v : UInt64} (hd : decode by0 pc = .ok (.daload, 1)) (hp : pc + 1 = pc') (hj : ¬ j < 0 ∧ j < z) (hv : vs.getD j.toNatClampNeg dv = .double v) (hr : OGo p e below K T (mkF m pc' Ls (.double v :: St))) : OGo p e below K T (mkF m pc Ls (.int j :: .ref a :: St)) := by
  subst hp
  obtain ⟨eT, -, locs, Y, -⟩ := X
  obtain ⟨cl, A, -, S, q, H, -⟩ := V
  exact OGo.st (fun t k => Y.daload C.1 (by rw [eT]; exact A.1) (State.isArrayOf_alike C.2.1.alike A.2.1) A.2.2 (inb_of S hj) (Has.at H (inb_of S hj) hv) (g := mkF m pc Ls (.int j :: .ref a :: St)) rfl rfl (hb C.2.2.2.1 hd) t k) hr
theorem OGo.caload (C : Cx p s m c Z own by0 ml) (X : Sd p l e R s m args below meth c n0 T h cells slots) {a : Addr} {k : ClassId} {z : Int32} {vs : List Value} {dv : Value} (V : Arv Z h a k .char z vs dv) {j : Int32} {v : Int32} (hd : decode by0 pc = .ok (.caload, 1)) (hp : pc + 1 = pc') (hj : ¬ j < 0 ∧ j < z) (hv : vs.getD j.toNatClampNeg dv = .int v) (hr : OGo p e below K T (mkF m pc' Ls (.int v :: St))) : OGo p e below K T (mkF m pc Ls (.int j :: .ref a :: St)) := by
  subst hp
  obtain ⟨eT, -, locs, Y, -⟩ := X
  obtain ⟨cl, A, -, S, q, H, -⟩ := V
  exact OGo.st (fun t k => Y.caload C.1 (by rw [eT]; exact A.1) (State.isArrayOf_alike C.2.1.alike A.2.1) A.2.2 (inb_of S hj) (Has.at H (inb_of S hj) hv) (g := mkF m pc Ls (.int j :: .ref a :: St)) rfl rfl (hb C.2.2.2.1 hd) t k) hr
theorem OGo.baloadB (C : Cx p s m c Z own by0 ml) (X : Sd p l e R s m args below meth c n0 T h cells slots) {a : Addr} {k : ClassId} {z : Int32} {vs : List Value} {dv : Value} (V : Arv Z h a k .byte z vs dv) {j : Int32} {v : Int32} (hd : decode by0 pc = .ok (.baload, 1)) (hp : pc + 1 = pc') (hj : ¬ j < 0 ∧ j < z) (hv : vs.getD j.toNatClampNeg dv = .int v) (hr : OGo p e below K T (mkF m pc' Ls (.int v :: St))) : OGo p e below K T (mkF m pc Ls (.int j :: .ref a :: St)) := by
  subst hp
  obtain ⟨eT, -, locs, Y, -⟩ := X
  obtain ⟨cl, A, -, S, q, H, -⟩ := V
  exact OGo.st (fun t k => Y.baloadBytes C.1 (by rw [eT]; exact A.1) (State.isArrayOf_alike C.2.1.alike A.2.1) A.2.2 (inb_of S hj) (Has.at H (inb_of S hj) hv) (g := mkF m pc Ls (.int j :: .ref a :: St)) rfl rfl (hb C.2.2.2.1 hd) t k) hr
theorem OGo.baloadZ (C : Cx p s m c Z own by0 ml) (X : Sd p l e R s m args below meth c n0 T h cells slots) {a : Addr} {k : ClassId} {z : Int32} {vs : List Value} {dv : Value} (V : Arv Z h a k .boolean z vs dv) {j : Int32} {v : Int32} (hd : decode by0 pc = .ok (.baload, 1)) (hp : pc + 1 = pc') (hj : ¬ j < 0 ∧ j < z) (hv : vs.getD j.toNatClampNeg dv = .int v) (hr : OGo p e below K T (mkF m pc' Ls (.int v :: St))) : OGo p e below K T (mkF m pc Ls (.int j :: .ref a :: St)) := by
  subst hp
  obtain ⟨eT, -, locs, Y, -⟩ := X
  obtain ⟨cl, A, -, S, q, H, -⟩ := V
  exact OGo.st (fun t k => Y.baloadBooleans C.1 (by rw [eT]; exact A.1) (State.isArrayOf_alike C.2.1.alike A.2.1) A.2.2 (inb_of S hj) (Has.at H (inb_of S hj) hv) (g := mkF m pc Ls (.int j :: .ref a :: St)) rfl rfl (hb C.2.2.2.1 hd) t k) hr
theorem OGo.iastore (C : Cx p s m c Z own by0 ml) (X : Sd p l e R s m args below meth c n0 T h cells slots) {a : Addr} {k : ClassId} {z : Int32} {vs : List Value} {dv : Value} (V : Arv Z h a k .int z vs dv) (ga : n0 ≤ a) {j : Int32} {x : Int32} {i : Nat} (hd : decode by0 pc = .ok (.iastore, 1)) (hp : pc + 1 = pc') (hj : ¬ j < 0 ∧ j < z) (hi : j.toNatClampNeg = i) (hl : i < vs.length)
    (hr : ∀ T' h', Sd p l e R s m args below meth c n0 T' h' cells slots → Wr h h' a i (.int x) → Arv Z h' a k .int z (vs.set i (.int x)) dv → OGo p e below K T' (mkF m pc' Ls St)) : OGo p e below K T (mkF m pc Ls (.int x :: .int j :: .ref a :: St)) := by
  subst hp hi
  obtain ⟨eT, hn, locs, Y, N⟩ := X
  obtain ⟨cl, A, q1, S, q, H, Gt⟩ := V
  obtain ⟨T', h', Y', e', W, st⟩ := stI Y C.1 C.2.1 eT A (inb_of S hj) (g := mkF m pc Ls (.int x :: .int j :: .ref a :: St)) rfl rfl (hb C.2.2.2.1 hd)
  exact OGo.st st (hr T' h' ⟨e', by rw [W.size]; exact hn, _, Y', Fr.snoc Y' N ga⟩ W (Arv.set A q1 S q H Gt rfl W _ rfl hl))
theorem OGo.lastore (C : Cx p s m c Z own by0 ml) (X : Sd p l e R s m args below meth c n0 T h cells slots) {a : Addr} {k : ClassId} {z : Int32} {vs : List Value} {dv : Value} (V : Arv Z h a k .long z vs dv) (ga : n0 ≤ a) {j : Int32} {x : Int64} {i : Nat} (hd : decode by0 pc = .ok (.lastore, 1)) (hp : pc + 1 = pc') (hj : ¬ j < 0 ∧ j < z) (hi : j.toNatClampNeg = i) (hl : i < vs.length)
    (hr : ∀ T' h', Sd p l e R s m args below meth c n0 T' h' cells slots → Wr h h' a i (.long x) → Arv Z h' a k .long z (vs.set i (.long x)) dv → OGo p e below K T' (mkF m pc' Ls St)) : OGo p e below K T (mkF m pc Ls (.long x :: .int j :: .ref a :: St)) := by
  subst hp hi
  obtain ⟨eT, hn, locs, Y, N⟩ := X
  obtain ⟨cl, A, q1, S, q, H, Gt⟩ := V
  obtain ⟨T', h', Y', e', W, st⟩ := stJ Y C.1 C.2.1 eT A (inb_of S hj) (g := mkF m pc Ls (.long x :: .int j :: .ref a :: St)) rfl rfl (hb C.2.2.2.1 hd)
  exact OGo.st st (hr T' h' ⟨e', by rw [W.size]; exact hn, _, Y', Fr.snoc Y' N ga⟩ W (Arv.set A q1 S q H Gt rfl W _ rfl hl))
theorem OGo.dastore (C : Cx p s m c Z own by0 ml) (X : Sd p l e R s m args below meth c n0 T h cells slots) {a : Addr} {k : ClassId} {z : Int32} {vs : List Value} {dv : Value} (V : Arv Z h a k .double z vs dv) (ga : n0 ≤ a) {j : Int32} {x : UInt64} {i : Nat} (hd : decode by0 pc = .ok (.dastore, 1)) (hp : pc + 1 = pc') (hj : ¬ j < 0 ∧ j < z) (hi : j.toNatClampNeg = i) (hl : i < vs.length)
    (hr : ∀ T' h', Sd p l e R s m args below meth c n0 T' h' cells slots → Wr h h' a i (.double x) → Arv Z h' a k .double z (vs.set i (.double x)) dv → OGo p e below K T' (mkF m pc' Ls St)) : OGo p e below K T (mkF m pc Ls (.double x :: .int j :: .ref a :: St)) := by
  subst hp hi
  obtain ⟨eT, hn, locs, Y, N⟩ := X
  obtain ⟨cl, A, q1, S, q, H, Gt⟩ := V
  obtain ⟨T', h', Y', e', W, st⟩ := stD Y C.1 C.2.1 eT A (inb_of S hj) (g := mkF m pc Ls (.double x :: .int j :: .ref a :: St)) rfl rfl (hb C.2.2.2.1 hd)
  exact OGo.st st (hr T' h' ⟨e', by rw [W.size]; exact hn, _, Y', Fr.snoc Y' N ga⟩ W (Arv.set A q1 S q H Gt rfl W _ rfl hl))
theorem OGo.castore (C : Cx p s m c Z own by0 ml) (X : Sd p l e R s m args below meth c n0 T h cells slots) {a : Addr} {k : ClassId} {z : Int32} {vs : List Value} {dv : Value} (V : Arv Z h a k .char z vs dv) (ga : n0 ≤ a) {j : Int32} {x : Int32} {i : Nat} (hd : decode by0 pc = .ok (.castore, 1)) (hp : pc + 1 = pc') (hj : ¬ j < 0 ∧ j < z) (hi : j.toNatClampNeg = i) (hl : i < vs.length)
    (hr : ∀ T' h', Sd p l e R s m args below meth c n0 T' h' cells slots → Wr h h' a i (.int (nar .char x)) → Arv Z h' a k .char z (vs.set i (.int (nar .char x))) dv → OGo p e below K T' (mkF m pc' Ls St)) : OGo p e below K T (mkF m pc Ls (.int x :: .int j :: .ref a :: St)) := by
  subst hp hi
  obtain ⟨eT, hn, locs, Y, N⟩ := X
  obtain ⟨cl, A, q1, S, q, H, Gt⟩ := V
  obtain ⟨T', h', Y', e', W, st⟩ := stC Y C.1 C.2.1 eT A (inb_of S hj) (g := mkF m pc Ls (.int x :: .int j :: .ref a :: St)) rfl rfl (hb C.2.2.2.1 hd)
  exact OGo.st st (hr T' h' ⟨e', by rw [W.size]; exact hn, _, Y', Fr.snoc Y' N ga⟩ W (Arv.set A q1 S q H Gt (fits_nar_char x) W _ rfl hl))
theorem OGo.bastoreB (C : Cx p s m c Z own by0 ml) (X : Sd p l e R s m args below meth c n0 T h cells slots) {a : Addr} {k : ClassId} {z : Int32} {vs : List Value} {dv : Value} (V : Arv Z h a k .byte z vs dv) (ga : n0 ≤ a) {j : Int32} {x : Int32} {i : Nat} (hd : decode by0 pc = .ok (.bastore, 1)) (hp : pc + 1 = pc') (hj : ¬ j < 0 ∧ j < z) (hi : j.toNatClampNeg = i) (hl : i < vs.length)
    (hr : ∀ T' h', Sd p l e R s m args below meth c n0 T' h' cells slots → Wr h h' a i (.int (nar .byte x)) → Arv Z h' a k .byte z (vs.set i (.int (nar .byte x))) dv → OGo p e below K T' (mkF m pc' Ls St)) : OGo p e below K T (mkF m pc Ls (.int x :: .int j :: .ref a :: St)) := by
  subst hp hi
  obtain ⟨eT, hn, locs, Y, N⟩ := X
  obtain ⟨cl, A, q1, S, q, H, Gt⟩ := V
  obtain ⟨T', h', Y', e', W, st⟩ := stB Y C.1 C.2.1 eT A (inb_of S hj) (g := mkF m pc Ls (.int x :: .int j :: .ref a :: St)) rfl rfl (hb C.2.2.2.1 hd)
  exact OGo.st st (hr T' h' ⟨e', by rw [W.size]; exact hn, _, Y', Fr.snoc Y' N ga⟩ W (Arv.set A q1 S q H Gt (fits_nar_byte x) W _ rfl hl))
theorem OGo.bastoreZ (C : Cx p s m c Z own by0 ml) (X : Sd p l e R s m args below meth c n0 T h cells slots) {a : Addr} {k : ClassId} {z : Int32} {vs : List Value} {dv : Value} (V : Arv Z h a k .boolean z vs dv) (ga : n0 ≤ a) {j : Int32} {x : Int32} {i : Nat} (hd : decode by0 pc = .ok (.bastore, 1)) (hp : pc + 1 = pc') (hj : ¬ j < 0 ∧ j < z) (hi : j.toNatClampNeg = i) (hl : i < vs.length)
    (hr : ∀ T' h', Sd p l e R s m args below meth c n0 T' h' cells slots → Wr h h' a i (.int (nar .boolean x)) → Arv Z h' a k .boolean z (vs.set i (.int (nar .boolean x))) dv → OGo p e below K T' (mkF m pc' Ls St)) : OGo p e below K T (mkF m pc Ls (.int x :: .int j :: .ref a :: St)) := by
  subst hp hi
  obtain ⟨eT, hn, locs, Y, N⟩ := X
  obtain ⟨cl, A, q1, S, q, H, Gt⟩ := V
  obtain ⟨T', h', Y', e', W, st⟩ := stZ Y C.1 C.2.1 eT A (inb_of S hj) (g := mkF m pc Ls (.int x :: .int j :: .ref a :: St)) rfl rfl (hb C.2.2.2.1 hd)
  exact OGo.st st (hr T' h' ⟨e', by rw [W.size]; exact hn, _, Y', Fr.snoc Y' N ga⟩ W (Arv.set A q1 S q H Gt (fits_nar_bool x) W _ rfl hl))
theorem OGo.newarray (C : Cx p s m c Z own by0 ml) (X : Sd p l e R s m args below meth c n0 T h cells slots) {aty : ArrayType} {ty : FieldType} {n : Int32} {cap : Nat} {d0 : Value} (w : (Jvm.Cond.arrayClass ty).before a0 Z = true) (hty : newarray.typeOf aty = ty) (hd : decode by0 pc = .ok (.newarray aty, 2)) (hp : pc + 2 = pc') (hn : ¬ n < 0) (hcap : n.toNatClampNeg ≤ cap) (hb8 : cap * 8 ≤ 536870912) (hdv : defaultValue ty = d0) (hc' : cells + 1 = cells') (hs' : slots + cap = slots') (hc : cells' ≤ R.cells) (hl : slots' ≤ R.slots)
    (hr : ∀ T' h' a k, Sd p l e R s m args below meth c n0 T' h' cells' slots' → a = h.size → n0 ≤ a → Ext h h' → Arv Z h' a k ty n [] d0 → OGo p e below K T' (mkF m pc' Ls (.ref a :: St))) : OGo p e below K T (mkF m pc Ls (.int n :: St)) := by
  subst hp hc' hs' hty hdv
  obtain ⟨eT, hn0, locs, Y, N⟩ := X
  obtain ⟨T', h', cA, Y', e', E, A, st⟩ := newP Y C.1 C.2.1 w eT (g := mkF m pc Ls (.int n :: St)) rfl (hb C.2.2.2.1 hd) rfl hn hcap hb8 hc hl
  exact OGo.st st (hr T' h' _ cA ⟨e', Nat.le_trans hn0 E.1, _, Y', N⟩ rfl hn0 E (Arv.new A hn))
theorem OGo.newarrayE (C : Cx p s m c Z own by0 ml) (X : Sd p l e R s m args below meth c n0 T h cells slots) {aty : ArrayType} {ty : FieldType} {n : Int32} {cap : Nat} {d0 : Value} {ad : String} (w : (Jvm.Cond.arrayClass ty).before a0 Z = true) (hty : newarray.typeOf aty = ty) (had : "[" ++ ty.toString = ad) (hd : decode by0 pc = .ok (.newarray aty, 2)) (hp : pc + 2 = pc') (hn : ¬ n < 0) (hcap : n.toNatClampNeg ≤ cap) (hb8 : cap * 8 ≤ 536870912) (hdv : defaultValue ty = d0) (hc' : cells + 1 = cells') (hs' : slots + cap = slots') (hc : cells' ≤ R.cells) (hl : slots' ≤ R.slots)
    (hr : ∀ T' h' a k, Sd p l e R s m args below meth c n0 T' h' cells' slots' → a = h.size → n0 ≤ a → Ext h h' → Arv Z h' a k ty n [] d0 → Exa Z h' a ad → OGo p e below K T' (mkF m pc' Ls (.ref a :: St))) : OGo p e below K T (mkF m pc Ls (.int n :: St)) := by
  subst hp hc' hs' hty hdv
  obtain ⟨eT, hn0, locs, Y, N⟩ := X
  obtain ⟨T', h', cA, Y', e', E, A, EE, st⟩ := newPE Y C.1 C.2.1 w eT (g := mkF m pc Ls (.int n :: St)) rfl (hb C.2.2.2.1 hd) rfl hn hcap hb8 hc hl had
  exact OGo.st st (hr T' h' _ cA ⟨e', Nat.le_trans hn0 E.1, _, Y', N⟩ rfl hn0 E (Arv.new A hn) EE)
theorem OGo.new (C : Cx p s m c Z own by0 ml) (X : Sd p l e R s m args below meth c n0 T h cells slots) {Cn : String} {idx n : Nat} (w : (Jvm.Cond.classLink own idx Cn).before a0 Z = true) (wi : (Jvm.Cond.instantiable Cn n).before a0 Z = true) (wz : (Jvm.Cond.initialized Cn).before a0 Z = true) (hd : decode by0 pc = .ok (.new idx, 3)) (hp : pc + 3 = pc') (hc' : cells + 1 = cells') (hs' : slots + n = slots') (hc : cells' ≤ R.cells) (hl : slots' ≤ R.slots)
    (hr : ∀ T' h' a, Sd p l e R s m args below meth c n0 T' h' cells' slots' → a = h.size → n0 ≤ a → Ext h h' → Exa Z h' a Cn → (∀ {O nm d : String} {ty : FieldType}, Laid Z a0 Cn O nm d → parseFieldDescriptor d = some ty → Fld Z h' a O nm d (defaultValue ty)) → Unt h' a → OGo p e below K T' (mkF m pc' Ls (.ref a :: St))) : OGo p e below K T (mkF m pc Ls (St)) := by
  subst hp hc' hs'
  obtain ⟨eT, hn0, locs, Y, N⟩ := X
  obtain ⟨T', h', Y', e', E, A, D, U, st⟩ := newO Y C.1 C.2.1 C.2.2.1 w wi wz eT (g := mkF m pc Ls St) rfl (hb C.2.2.2.1 hd) hc hl
  exact OGo.st st (hr T' h' _ ⟨e', Nat.le_trans hn0 E.1, _, Y', N⟩ rfl hn0 E A D U)
theorem OGo.getfield (C : Cx p s m c Z own by0 ml) (X : Sd p l e R s m args below meth c n0 T h cells slots) {R0 O n d host : String} {idx : Nat} {a : Addr} {v : Value} (w : (Jvm.Cond.fieldLink own idx R0 n d).before a0 Z = true ∨ (Jvm.Cond.fieldLinkNest own idx R0 n d host).before a0 Z = true) (via : Via Z R0 O n d) (F : Fld Z h a O n d v) (hd : decode by0 pc = .ok (.getfield idx, 3)) (hp : pc + 3 = pc')
    (hr : ∀ T', Sd p l e R s m args below meth c n0 T' h cells slots → OGo p e below K T' (mkF m pc' Ls (v :: St))) : OGo p e below K T (mkF m pc Ls (.ref a :: St)) := by
  subst hp
  obtain ⟨eT, hn0, locs, Y, N⟩ := X
  obtain ⟨T', Y', e', st⟩ := getF Y C.1 C.2.1 C.2.2.1 w via eT F (g := mkF m pc Ls (.ref a :: St)) rfl rfl (hb C.2.2.2.1 hd)
  exact OGo.st st (hr T' ⟨e', hn0, _, Y', N⟩)
theorem OGo.putfield (C : Cx p s m c Z own by0 ml) (X : Sd p l e R s m args below meth c n0 T h cells slots) {R0 O n d host Cn : String} {idx kk : Nat} {ty : FieldType} {a : Addr} {v old : Value} (w : (Jvm.Cond.fieldLink own idx R0 n d).before a0 Z = true ∨ (Jvm.Cond.fieldLinkNest own idx R0 n d host).before a0 Z = true) (via : Via Z R0 O n d) (F : Fld Z h a O n d old) (E : Exa Z h a Cn) (ga : n0 ≤ a)
    (L : (Jvm.Cond.lays Cn O n d).before a0 Z = true ∨ ((Jvm.Cond.laysFinal Cn O n d).before a0 Z = true ∧ own = O ∧ meth.name = "<init>")) (wi : (Jvm.Cond.instantiable Cn kk).before a0 Z = true) (hty : parseFieldDescriptor d = some ty) (hnn : narrow ty v = v) (hf : fits ty v = true) (hd : decode by0 pc = .ok (.putfield idx, 3)) (hp : pc + 3 = pc')
    (hr : ∀ T' h', Sd p l e R s m args below meth c n0 T' h' cells slots → Wr h h' a (RoadKit.slotOf Z O n d) v → Fld Z h' a O n d v → OGo p e below K T' (mkF m pc' Ls St)) : OGo p e below K T (mkF m pc Ls (v :: .ref a :: St)) := by
  subst hp
  obtain ⟨eT, hn0, locs, Y, N⟩ := X
  obtain ⟨T', h', Y', e', W, st⟩ := putF Y C.1 C.2.1 C.2.2.1 w via eT F E L wi hty hnn hf (g := mkF m pc Ls (v :: .ref a :: St)) rfl rfl (hb C.2.2.2.1 hd)
  exact OGo.st st (hr T' h' ⟨e', by rw [W.size]; exact hn0, _, Y', Fr.snoc Y' N ga⟩ W (F.same W))
theorem OGo.putfieldN (C : Cx p s m c Z own by0 ml) (X : Sd p l e R s m args below meth c n0 T h cells slots) {R0 O n d Cn : String} {idx kk : Nat} {ty : FieldType} {a : Addr} {v v' old : Value} (w : (Jvm.Cond.fieldLink own idx R0 n d).before a0 Z = true) (via : Via Z R0 O n d) (F : Fld Z h a O n d old) (E : Exa Z h a Cn) (ga : n0 ≤ a)
    (L : (Jvm.Cond.lays Cn O n d).before a0 Z = true ∨ ((Jvm.Cond.laysFinal Cn O n d).before a0 Z = true ∧ own = O ∧ meth.name = "<init>")) (wi : (Jvm.Cond.instantiable Cn kk).before a0 Z = true) (hty : parseFieldDescriptor d = some ty) (hnn : narrow ty v = v') (hf : fits ty v' = true) (hd : decode by0 pc = .ok (.putfield idx, 3)) (hp : pc + 3 = pc')
    (hr : ∀ T' h', Sd p l e R s m args below meth c n0 T' h' cells slots → Wr h h' a (RoadKit.slotOf Z O n d) v' → Fld Z h' a O n d v' → OGo p e below K T' (mkF m pc' Ls St)) : OGo p e below K T (mkF m pc Ls (v :: .ref a :: St)) := by
  subst hp
  obtain ⟨eT, hn0, locs, Y, N⟩ := X
  obtain ⟨T', h', Y', e', W, st⟩ := putFN Y C.1 C.2.1 C.2.2.1 w via eT F E L wi hty hnn hf (g := mkF m pc Ls (v :: .ref a :: St)) rfl rfl (hb C.2.2.2.1 hd)
  exact OGo.st st (hr T' h' ⟨e', by rw [W.size]; exact hn0, _, Y', Fr.snoc Y' N ga⟩ W (F.same W))
theorem OGo.getstatic (C : Cx p s m c Z own by0 ml) (X : Sd p l e R s m args below meth c n0 T h cells slots) {R0 O n d host : String} {idx : Nat} {v : Value} (w : (Jvm.Cond.fieldLink own idx R0 n d).before a0 Z = true ∨ (Jvm.Cond.fieldLinkNest own idx R0 n d host).before a0 Z = true) (via : Via Z R0 O n d) (F : Sta Z h O n d v) (hd : decode by0 pc = .ok (.getstatic idx, 3)) (hp : pc + 3 = pc')
    (hr : ∀ T', Sd p l e R s m args below meth c n0 T' h cells slots → OGo p e below K T' (mkF m pc' Ls (v :: St))) : OGo p e below K T (mkF m pc Ls (St)) := by
  subst hp
  obtain ⟨eT, hn0, locs, Y, N⟩ := X
  obtain ⟨T', Y', e', st⟩ := getS2 Y C.1 C.2.1 C.2.2.1 w via eT F (g := mkF m pc Ls St) rfl (hb C.2.2.2.1 hd)
  exact OGo.st st (hr T' ⟨e', hn0, _, Y', N⟩)
theorem OGo.checkcast (C : Cx p s m c Z own by0 ml) (X : Sd p l e R s m args below meth c n0 T h cells slots) {Kn : String} {idx : Nat} {a : Addr} (w : (Jvm.Cond.classLink own idx Kn).before a0 Z = true) (F : Ins Z h a Kn true) (hd : decode by0 pc = .ok (.checkcast idx, 3)) (hp : pc + 3 = pc')
    (hr : ∀ T', Sd p l e R s m args below meth c n0 T' h cells slots → OGo p e below K T' (mkF m pc' Ls (.ref a :: St))) : OGo p e below K T (mkF m pc Ls (.ref a :: St)) := by
  subst hp
  obtain ⟨eT, hn0, locs, Y, N⟩ := X
  obtain ⟨T', Y', e', st⟩ := castY Y C.1 C.2.1 C.2.2.1 w eT F (g := mkF m pc Ls (.ref a :: St)) rfl rfl (hb C.2.2.2.1 hd)
  exact OGo.st st (hr T' ⟨e', hn0, _, Y', N⟩)
theorem OGo.instYes (C : Cx p s m c Z own by0 ml) (X : Sd p l e R s m args below meth c n0 T h cells slots) {Kn : String} {idx : Nat} {a : Addr} (w : (Jvm.Cond.classLink own idx Kn).before a0 Z = true) (F : Ins Z h a Kn true) (hd : decode by0 pc = .ok (.instanceof idx, 3)) (hp : pc + 3 = pc')
    (hr : ∀ T', Sd p l e R s m args below meth c n0 T' h cells slots → OGo p e below K T' (mkF m pc' Ls (.int 1 :: St))) : OGo p e below K T (mkF m pc Ls (.ref a :: St)) := by
  subst hp
  obtain ⟨eT, hn0, locs, Y, N⟩ := X
  obtain ⟨T', Y', e', st⟩ := instY Y C.1 C.2.1 C.2.2.1 w eT F (g := mkF m pc Ls (.ref a :: St)) rfl rfl (hb C.2.2.2.1 hd)
  exact OGo.st st (hr T' ⟨e', hn0, _, Y', N⟩)
theorem OGo.instNo (C : Cx p s m c Z own by0 ml) (X : Sd p l e R s m args below meth c n0 T h cells slots) {Kn Cn : String} {idx : Nat} {a : Addr} (w : (Jvm.Cond.classLink own idx Kn).before a0 Z = true) (E : Exa Z h a Cn) (F : ∃ c t, Z.vm.findClass Cn = some c ∧ Z.vm.findClass Kn = some t ∧ Z.vm.assignable c t = false) (hd : decode by0 pc = .ok (.instanceof idx, 3)) (hp : pc + 3 = pc')
    (hr : ∀ T', Sd p l e R s m args below meth c n0 T' h cells slots → OGo p e below K T' (mkF m pc' Ls (.int 0 :: St))) : OGo p e below K T (mkF m pc Ls (.ref a :: St)) := by
  subst hp
  obtain ⟨eT, hn0, locs, Y, N⟩ := X
  obtain ⟨T', Y', e', st⟩ := RoadKit.instNo Y C.1 C.2.1 C.2.2.1 w eT E F (g := mkF m pc Ls (.ref a :: St)) rfl rfl (hb C.2.2.2.1 hd)
  exact OGo.st st (hr T' ⟨e', hn0, _, Y', N⟩)
theorem OGo.initObj (C : Cx p s m c Z own by0 ml) (X : Sd p l e R s m args below meth c n0 T h cells slots) {idx : Nat} {a : Addr} (w1 : (Jvm.Cond.methodLink own idx Lib.objectInit).before a0 Z = true) (w2 : (Jvm.Cond.instanceMethod Lib.objectInit).before a0 Z = true) (w3 : (Jvm.Cond.code Lib.objectInit ⟨#[0xb1]⟩ 1 none).before a0 Z = true) (hd : decode by0 pc = .ok (.invokespecial idx, 3)) (hp : pc + 3 = pc') (hsz : Ls.size = ml) (hf : 1 ≤ R.frames) (hl : (St.map fun v => v.category).sum + 12 ≤ R.locals)
    (hr : ∀ T', Sd p l e R s m args below meth c n0 T' h cells slots → OGo p e below K T' (mkF m pc' Ls St)) : OGo p e below K T (mkF m pc Ls (.ref a :: St)) := by
  subst hp
  obtain ⟨eT, hn0, locs, Y, N⟩ := X
  obtain ⟨T', Y', e', st⟩ := initO Y C.1 C.2.1 C.2.2.1 w1 w2 w3 eT (g := mkF m pc Ls (.ref a :: St)) rfl (by rw [C.2.2.2.2]; exact hsz) rfl (hb C.2.2.2.1 hd) hf (W := (St.map fun v => v.category).sum) (by show 2 * 0 + _ ≤ _; omega) hl
  exact OGo.st st (hr T' ⟨e', hn0, _, Y', N⟩)
theorem OGo.ret (C : Cx p s m c Z own by0 ml) (X : Sd p l e R s m args below meth c n0 T h cells slots)  {Q : Option Value → Heap → Prop} {nc ns : Nat} (hd : decode by0 pc = .ok (.return_, 1)) (hret : meth.sig.returnType = none) (hlk : meth.locks = false) (hQ : Q (none) h) (hc : cells ≤ nc) (hs : slots ≤ ns) : OGo p e below (Kk s below n0 Q nc ns) T (mkF m pc Ls ([])) := by
  obtain ⟨eT, hn0, locs, Y, N⟩ := X
  obtain ⟨fs, hr, hrun, hended, hW, hsame⟩ := Y.leave (v := none) (fun hh => by rfl) hlk
  exact ⟨_, _, Y.returnOut C.1 hret (hb C.2.2.2.1 hd) hr, hrun, hended, _, locs, rfl, ⟨by show Q _ T.heap; rw [eT]; exact hQ, N⟩, ⟨_, rfl⟩, hW, hsame.mono hc hs⟩
theorem OGo.retInt (C : Cx p s m c Z own by0 ml) (X : Sd p l e R s m args below meth c n0 T h cells slots) {z : Int32} {rest : List Value} {Q : Option Value → Heap → Prop} {nc ns : Nat} (hd : decode by0 pc = .ok (.ireturn, 1)) (hret : meth.sig.returnType = some .int) (hlk : meth.locks = false) (hQ : Q (some (.int z)) h) (hc : cells ≤ nc) (hs : slots ≤ ns) : OGo p e below (Kk s below n0 Q nc ns) T (mkF m pc Ls (.int z :: rest)) := by
  obtain ⟨eT, hn0, locs, Y, N⟩ := X
  obtain ⟨fs, hr, hrun, hended, hW, hsame⟩ := Y.leave (v := some (.int z)) (fun hh => by rw [hret] at hh; cases hh) hlk
  exact ⟨_, _, retOut Y C.1 (i := .ireturn) hret rfl (Or.inl ⟨rfl, Or.inl rfl, _, rfl⟩) (hb C.2.2.2.1 hd) hr, hrun, hended, _, locs, rfl, ⟨by show Q _ T.heap; rw [eT]; exact hQ, N⟩, ⟨_, rfl⟩, hW, hsame.mono hc hs⟩
theorem OGo.retN (C : Cx p s m c Z own by0 ml) (X : Sd p l e R s m args below meth c n0 T h cells slots) {z z' : Int32} {rest : List Value} {t : FieldType} {Q : Option Value → Heap → Prop} {nc ns : Nat} (hd : decode by0 pc = .ok (.ireturn, 1)) (hret : meth.sig.returnType = some t) (ht : t = .boolean ∨ t = .byte ∨ t = .char ∨ t = .short) (hz : nar t z = z') (hlk : meth.locks = false) (hQ : Q (some (.int z')) h) (hc : cells ≤ nc) (hs : slots ≤ ns) : OGo p e below (Kk s below n0 Q nc ns) T (mkF m pc Ls (.int z :: rest)) := by
  subst hz
  obtain ⟨eT, hn0, locs, Y, N⟩ := X
  obtain ⟨fs, hr, hrun, hended, hW, hsame⟩ := Y.leave (v := some (.int (nar t z))) (fun hh => by rw [hret] at hh; cases hh) hlk
  exact ⟨_, _, RoadKit.retN Y C.1 hret ht (hb C.2.2.2.1 hd) hr, hrun, hended, _, locs, rfl, ⟨by show Q _ T.heap; rw [eT]; exact hQ, N⟩, ⟨_, rfl⟩, hW, hsame.mono hc hs⟩
theorem OGo.retD (C : Cx p s m c Z own by0 ml) (X : Sd p l e R s m args below meth c n0 T h cells slots) {z : UInt64} {rest : List Value} {Q : Option Value → Heap → Prop} {nc ns : Nat} (hd : decode by0 pc = .ok (.dreturn, 1)) (hret : meth.sig.returnType = some .double) (hlk : meth.locks = false) (hQ : Q (some (.double z)) h) (hc : cells ≤ nc) (hs : slots ≤ ns) : OGo p e below (Kk s below n0 Q nc ns) T (mkF m pc Ls (.double z :: rest)) := by
  obtain ⟨eT, hn0, locs, Y, N⟩ := X
  obtain ⟨fs, hr, hrun, hended, hW, hsame⟩ := Y.leave (v := some (.double z)) (fun hh => by rw [hret] at hh; cases hh) hlk
  exact ⟨_, _, retOut Y C.1 (i := .dreturn) hret rfl (Or.inr (Or.inr (Or.inl ⟨rfl, rfl, _, rfl⟩))) (hb C.2.2.2.1 hd) hr, hrun, hended, _, locs, rfl, ⟨by show Q _ T.heap; rw [eT]; exact hQ, N⟩, ⟨_, rfl⟩, hW, hsame.mono hc hs⟩
theorem OGo.retL (C : Cx p s m c Z own by0 ml) (X : Sd p l e R s m args below meth c n0 T h cells slots) {z : Int64} {rest : List Value} {Q : Option Value → Heap → Prop} {nc ns : Nat} (hd : decode by0 pc = .ok (.lreturn, 1)) (hret : meth.sig.returnType = some .long) (hlk : meth.locks = false) (hQ : Q (some (.long z)) h) (hc : cells ≤ nc) (hs : slots ≤ ns) : OGo p e below (Kk s below n0 Q nc ns) T (mkF m pc Ls (.long z :: rest)) := by
  obtain ⟨eT, hn0, locs, Y, N⟩ := X
  obtain ⟨fs, hr, hrun, hended, hW, hsame⟩ := Y.leave (v := some (.long z)) (fun hh => by rw [hret] at hh; cases hh) hlk
  exact ⟨_, _, retOut Y C.1 (i := .lreturn) hret rfl (Or.inr (Or.inl ⟨rfl, rfl, _, rfl⟩)) (hb C.2.2.2.1 hd) hr, hrun, hended, _, locs, rfl, ⟨by show Q _ T.heap; rw [eT]; exact hQ, N⟩, ⟨_, rfl⟩, hW, hsame.mono hc hs⟩
theorem OGo.retA (C : Cx p s m c Z own by0 ml) (X : Sd p l e R s m args below meth c n0 T h cells slots) {z : Value} {rest : List Value} {t : FieldType} {Q : Option Value → Heap → Prop} {nc ns : Nat} (hd : decode by0 pc = .ok (.areturn, 1)) (hret : meth.sig.returnType = some t) (ht : t.isReference = true) (hz : z.isRef = true) (hlk : meth.locks = false) (hQ : Q (some z) h) (hc : cells ≤ nc) (hs : slots ≤ ns) : OGo p e below (Kk s below n0 Q nc ns) T (mkF m pc Ls (z :: rest)) := by
  obtain ⟨eT, hn0, locs, Y, N⟩ := X
  obtain ⟨fs, hr, hrun, hended, hW, hsame⟩ := Y.leave (v := some z) (fun hh => by rw [hret] at hh; cases hh) hlk
  exact ⟨_, _, retOut Y C.1 (i := .areturn) hret (by rcases ref_cases hz with rfl | ⟨b, rfl⟩ <;> cases t <;> first | rfl | cases ht) (Or.inr (Or.inr (Or.inr (Or.inr ⟨rfl, ht, hz⟩)))) (hb C.2.2.2.1 hd) hr, hrun, hended, _, locs, rfl, ⟨by show Q _ T.heap; rw [eT]; exact hQ, N⟩, ⟨_, rfl⟩, hW, hsame.mono hc hs⟩
theorem backC {y : MethodName} {cb : ByteArray} {cml : Nat} {ret : Option FieldType} {rm : Room} {as' : Array Value} {Q : Option Value → Heap → Prop} {len W : Nat} (hM : Ctr l Z y cb cml ret rm n0 as' h Q) (hZ : Z.Warmed39 s.vm) (wc : (Jvm.Cond.code y cb cml ret).before a0 Z = true) (wz : (Jvm.Cond.initialized y.cls).before a0 Z = true) (hf : rm.frames + 1 ≤ R.frames) (hl : W + (cml + 11) + rm.locals ≤ R.locals) :
    Back l R p e below s args y len W (fun A a => a = as' ∧ A.U.heap = h ∧ A.cells + rm.cells ≤ R.cells ∧ A.slots + rm.slots ≤ R.slots) (fun A _ v B => ∃ L, ((Q v B.U.heap ∧ h.size ≤ B.U.heap.size) ∧ Fr n0 L) ∧ B.locs = A.locs ++ L ∧ B.cells = A.cells + rm.cells ∧ B.slots = A.slots + rm.slots) :=
  backOf (Q := fun v h' L => (Q v h' ∧ h.size ≤ h'.size) ∧ Fr n0 L) (hM []) hZ wc wz hf hl
theorem OGo.callS (C : Cx p s m c Z own by0 ml) (X : Sd p l e R s m args below meth c n0 T h cells slots) {y : MethodName} {cb : ByteArray} {cml : Nat} {ret : Option FieldType} {rm : Room} {as' : Array Value} {Q : Option Value → Heap → Prop} {idx : Nat}  (w1 : (Jvm.Cond.methodLink own idx y).before a0 Z = true) (w2 : (Jvm.Cond.static y).before a0 Z = true) (hy : y.cls ≠ "java/lang/invoke/MethodHandle" ∧ y.cls ≠ "java/lang/invoke/VarHandle") (w4 : (Jvm.Cond.code y cb cml ret).before a0 Z = true) (w5 : (Jvm.Cond.initialized y.cls).before a0 Z = true) (hM : Ctr l Z y cb cml ret rm n0 as' h Q) {argsL : List Value} (hlen : ∀ sig, parseMethodDescriptor y.desc = some sig → argsL.length = sig.parameters.length) (has : argsL.toArray = as') (hd : decode by0 pc = .ok (.invokestatic idx, 3)) (hp : pc + 3 = pc') (hsz : Ls.size = ml) (hf : rm.frames + 1 ≤ R.frames) (hl : (St.map fun v => v.category).sum + (cml + 11) + rm.locals ≤ R.locals) (hc' : cells + rm.cells = cells') (hs' : slots + rm.slots = slots') (hc : cells' ≤ R.cells) (hs : slots' ≤ R.slots)
    (hr : ∀ v T' h', Q v h' → Sd p l e R s m args below meth c n0 T' h' cells' slots' → h.size ≤ h'.size → OGo p e below K T' (mkF m pc' Ls (v.toList ++ St))) : OGo p e below K T (mkF m pc Ls (argsL.reverse ++ St)) := by
  subst hp hc' hs' has
  obtain ⟨eT, hn0, locs, Y, N⟩ := X
  have hK := backC (args := args) (p := p) (e := e) (below := below) (R := R) (len := 3) (W := (St.map fun v => v.category).sum) hM C.2.1 w4 w5 hf hl
  obtain ⟨v, _, ⟨B, L2, k2, n2⟩, -, Y', ⟨L, hQ, l1, y1, z1⟩, st⟩ := Jvm.LawKit.callS Y C.1 (y := y) C.2.2.1 (mvT C.2.1 w1) (mvT C.2.1 w2) (mvT C.2.1 w5) (mvT C.2.1 w4) hy hK (g := mkF m pc Ls (argsL.reverse ++ St)) rfl (by rw [C.2.2.2.2]; exact hsz) (argsL := argsL) (rest := St) hlen rfl (by show 2 * 0 + _ ≤ _; omega) (hb C.2.2.2.1 hd) (fun _ _ => ⟨rfl, eT, hc, hs⟩)
  dsimp only [Pt.U, Pt.locs, Pt.cells, Pt.slots] at Y' l1 y1 z1 st hQ
  subst l1 y1 z1
  obtain ⟨⟨hQ, hge⟩, hF⟩ := hQ
  exact OGo.st st (hr v B B.heap hQ ⟨rfl, Nat.le_trans hn0 hge, _, Y', N.app hF⟩ hge)
theorem OGo.callInit (C : Cx p s m c Z own by0 ml) (X : Sd p l e R s m args below meth c n0 T h cells slots) {y : MethodName} {cb : ByteArray} {cml : Nat} {ret : Option FieldType} {rm : Room} {as' : Array Value} {Q : Option Value → Heap → Prop} {idx : Nat} {a : Addr} (hy1 : y.name = "<init>") (hrn : ret = none) (w1 : (Jvm.Cond.methodLink own idx y).before a0 Z = true) (w2 : (Jvm.Cond.instanceMethod y).before a0 Z = true) (hy : y.cls ≠ "java/lang/invoke/MethodHandle" ∧ y.cls ≠ "java/lang/invoke/VarHandle") (w4 : (Jvm.Cond.code y cb cml ret).before a0 Z = true) (w5 : (Jvm.Cond.initialized y.cls).before a0 Z = true) (hM : Ctr l Z y cb cml ret rm n0 as' h Q) {argsL : List Value} (hlen : ∀ sig, parseMethodDescriptor y.desc = some sig → argsL.length = sig.parameters.length) (has : (Value.ref a :: argsL).toArray = as') (hd : decode by0 pc = .ok (.invokespecial idx, 3)) (hp : pc + 3 = pc') (hsz : Ls.size = ml) (hf : rm.frames + 1 ≤ R.frames) (hl : (St.map fun v => v.category).sum + (cml + 11) + rm.locals ≤ R.locals) (hc' : cells + rm.cells = cells') (hs' : slots + rm.slots = slots') (hc : cells' ≤ R.cells) (hs : slots' ≤ R.slots)
    (hr : ∀ v T' h', Q v h' → Sd p l e R s m args below meth c n0 T' h' cells' slots' → h.size ≤ h'.size → OGo p e below K T' (mkF m pc' Ls (v.toList ++ St))) : OGo p e below K T (mkF m pc Ls (argsL.reverse ++ Value.ref a :: St)) := by
  subst hp hc' hs' has
  obtain ⟨eT, hn0, locs, Y, N⟩ := X
  have hK := backC (args := args) (p := p) (e := e) (below := below) (R := R) (len := 3) (W := (St.map fun v => v.category).sum) hM C.2.1 w4 w5 hf hl
  obtain ⟨v, _, ⟨B, L2, k2, n2⟩, -, Y', ⟨L, hQ, l1, y1, z1⟩, st⟩ := Y.specialBack C.1 (y := y) hy1 C.2.2.1 (mvT C.2.1 w1) (mvT C.2.1 w2) (mvT C.2.1 (hrn ▸ w4)) hy hK (g := mkF m pc Ls (argsL.reverse ++ Value.ref a :: St)) rfl (by rw [C.2.2.2.2]; exact hsz) (Steps.refl _) (a := a) (argsL := argsL) (rest := St) hlen rfl (by show 2 * 0 + _ ≤ _; omega) (hb C.2.2.2.1 hd) (fun _ _ => ⟨rfl, eT, hc, hs⟩)
  dsimp only [Pt.U, Pt.locs, Pt.cells, Pt.slots] at Y' l1 y1 z1 st hQ
  subst l1 y1 z1
  obtain ⟨⟨hQ, hge⟩, hF⟩ := hQ
  exact OGo.tr st (hr v B B.heap hQ ⟨rfl, Nat.le_trans hn0 hge, _, Y', N.app hF⟩ hge)
theorem OGo.callV (C : Cx p s m c Z own by0 ml) (X : Sd p l e R s m args below meth c n0 T h cells slots) {y : MethodName} {cb : ByteArray} {cml : Nat} {ret : Option FieldType} {rm : Room} {as' : Array Value} {Q : Option Value → Heap → Prop} {idx : Nat} {a : Addr} {Cn : String} (w1 : (Jvm.Cond.methodLink own idx y).before a0 Z = true) (w2 : (Jvm.Cond.declares y).before a0 Z = true) (w3 : (Jvm.Cond.selects Cn y y).before a0 Z = true) (w6 : (Jvm.Cond.instanceMethod y).before a0 Z = true) (hy : y.cls ≠ "java/lang/invoke/MethodHandle" ∧ y.cls ≠ "java/lang/invoke/VarHandle") (E : Exa Z h a Cn) (w4 : (Jvm.Cond.code y cb cml ret).before a0 Z = true) (w5 : (Jvm.Cond.initialized y.cls).before a0 Z = true) (hM : Ctr l Z y cb cml ret rm n0 as' h Q) {argsL : List Value} (hlen : ∀ sig, parseMethodDescriptor y.desc = some sig → argsL.length = sig.parameters.length) (has : (Value.ref a :: argsL).toArray = as') (hd : decode by0 pc = .ok (.invokevirtual idx, 3)) (hp : pc + 3 = pc') (hsz : Ls.size = ml) (hf : rm.frames + 1 ≤ R.frames) (hl : (St.map fun v => v.category).sum + (cml + 11) + rm.locals ≤ R.locals) (hc' : cells + rm.cells = cells') (hs' : slots + rm.slots = slots') (hc : cells' ≤ R.cells) (hs : slots' ≤ R.slots)
    (hr : ∀ v T' h', Q v h' → Sd p l e R s m args below meth c n0 T' h' cells' slots' → h.size ≤ h'.size → OGo p e below K T' (mkF m pc' Ls (v.toList ++ St))) : OGo p e below K T (mkF m pc Ls (argsL.reverse ++ Value.ref a :: St)) := by
  subst hp hc' hs' has
  obtain ⟨eT, hn0, locs, Y, N⟩ := X
  have hK := backC (args := args) (p := p) (e := e) (below := below) (R := R) (len := 3) (W := (St.map fun v => v.category).sum) hM C.2.1 w4 w5 hf hl
  obtain ⟨v, _, ⟨B, L2, k2, n2⟩, -, Y', ⟨L, hQ, l1, y1, z1⟩, st⟩ := (let ⟨_, _, q1, _, q3⟩ := isOf C.2.1 eT E; Y.virtualBack C.1 (y := y) (z := y) C.2.2.1 (mvT C.2.1 w1) (mvT C.2.1 w2) (notFace_of_selects (args := #[]) (mvT C.2.1 w3)) (mvT C.2.1 w3) (mvT C.2.1 w6) hy hK q1 q3 (g := mkF m pc Ls (argsL.reverse ++ Value.ref a :: St)) rfl (by rw [C.2.2.2.2]; exact hsz) (Steps.refl _) (argsL := argsL) (rest := St) hlen rfl (by show 2 * 0 + _ ≤ _; omega) (hb C.2.2.2.1 hd) (fun _ _ => ⟨rfl, eT, hc, hs⟩))
  dsimp only [Pt.U, Pt.locs, Pt.cells, Pt.slots] at Y' l1 y1 z1 st hQ
  subst l1 y1 z1
  obtain ⟨⟨hQ, hge⟩, hF⟩ := hQ
  exact OGo.tr st (hr v B B.heap hQ ⟨rfl, Nat.le_trans hn0 hge, _, Y', N.app hF⟩ hge)
theorem OGo.callV2 (C : Cx p s m c Z own by0 ml) (X : Sd p l e R s m args below meth c n0 T h cells slots) {y : MethodName} {cb : ByteArray} {cml : Nat} {ret : Option FieldType} {rm : Room} {as' : Array Value} {Q : Option Value → Heap → Prop} {idx : Nat} {yr : MethodName} {a : Addr} {Cn : String} (w1 : (Jvm.Cond.methodLink own idx yr).before a0 Z = true) (w2 : (Jvm.Cond.declares yr).before a0 Z = true) (hnf : NotFace s yr) (w3 : (Jvm.Cond.selects Cn yr y).before a0 Z = true) (w6 : (Jvm.Cond.instanceMethod y).before a0 Z = true) (hy : yr.cls ≠ "java/lang/invoke/MethodHandle" ∧ yr.cls ≠ "java/lang/invoke/VarHandle") (hds : yr.desc = y.desc) (E : Exa Z h a Cn) (w4 : (Jvm.Cond.code y cb cml ret).before a0 Z = true) (w5 : (Jvm.Cond.initialized y.cls).before a0 Z = true) (hM : Ctr l Z y cb cml ret rm n0 as' h Q) {argsL : List Value} (hlen : ∀ sig, parseMethodDescriptor y.desc = some sig → argsL.length = sig.parameters.length) (has : (Value.ref a :: argsL).toArray = as') (hd : decode by0 pc = .ok (.invokevirtual idx, 3)) (hp : pc + 3 = pc') (hsz : Ls.size = ml) (hf : rm.frames + 1 ≤ R.frames) (hl : (St.map fun v => v.category).sum + (cml + 11) + rm.locals ≤ R.locals) (hc' : cells + rm.cells = cells') (hs' : slots + rm.slots = slots') (hc : cells' ≤ R.cells) (hs : slots' ≤ R.slots)
    (hr : ∀ v T' h', Q v h' → Sd p l e R s m args below meth c n0 T' h' cells' slots' → h.size ≤ h'.size → OGo p e below K T' (mkF m pc' Ls (v.toList ++ St))) : OGo p e below K T (mkF m pc Ls (argsL.reverse ++ Value.ref a :: St)) := by
  subst hp hc' hs' has
  obtain ⟨eT, hn0, locs, Y, N⟩ := X
  have hK := backC (args := args) (p := p) (e := e) (below := below) (R := R) (len := 3) (W := (St.map fun v => v.category).sum) hM C.2.1 w4 w5 hf hl
  obtain ⟨v, _, ⟨B, L2, k2, n2⟩, -, Y', ⟨L, hQ, l1, y1, z1⟩, st⟩ := (let ⟨_, _, q1, _, q3⟩ := isOf C.2.1 eT E; Y.virtualBack C.1 (y := yr) (z := y) C.2.2.1 (mvT C.2.1 w1) (mvT C.2.1 w2) hnf (mvT C.2.1 w3) (mvT C.2.1 w6) hy hK q1 q3 (g := mkF m pc Ls (argsL.reverse ++ Value.ref a :: St)) rfl (by rw [C.2.2.2.2]; exact hsz) (Steps.refl _) (argsL := argsL) (rest := St) (hds ▸ hlen) rfl (by show 2 * 0 + _ ≤ _; omega) (hb C.2.2.2.1 hd) (fun _ _ => ⟨rfl, eT, hc, hs⟩))
  dsimp only [Pt.U, Pt.locs, Pt.cells, Pt.slots] at Y' l1 y1 z1 st hQ
  subst l1 y1 z1
  obtain ⟨⟨hQ, hge⟩, hF⟩ := hQ
  exact OGo.tr st (hr v B B.heap hQ ⟨rfl, Nat.le_trans hn0 hge, _, Y', N.app hF⟩ hge)
theorem OGo.clone (C : Cx p s m c Z own by0 ml) (X : Sd p l e R s m args below meth c n0 T h cells slots) {ad : String} {idx : Nat} {a : Addr} {k : ClassId} {ty : FieldType} {z : Int32} {vs : List Value} {dv : Value} {cap : Nat} (w1 : (Jvm.Cond.methodLink own idx ⟨ad, "clone", "()Ljava/lang/Object;"⟩).before a0 Z = true) (w2 : (Jvm.Cond.sameMethod ad "java/lang/Object" "clone" "()Ljava/lang/Object;").before a0 Z = true) (w3 : (Jvm.Cond.native ⟨"java/lang/Object", "clone", "()Ljava/lang/Object;"⟩).before a0 Z = true)
    (w4 : (Jvm.Cond.instanceMethod ⟨"java/lang/Object", "clone", "()Ljava/lang/Object;"⟩).before a0 Z = true) (w5 : (Jvm.Cond.selects ad ⟨ad, "clone", "()Ljava/lang/Object;"⟩ ⟨"java/lang/Object", "clone", "()Ljava/lang/Object;"⟩).before a0 Z = true) (w6 : (Jvm.Cond.castable ad "java/lang/Cloneable").before a0 Z = true) (V : Arv Z h a k ty z vs dv) (E : Exa Z h a ad)
    (hd : decode by0 pc = .ok (.invokevirtual idx, 3)) (hp : pc + 3 = pc') (hsz : Ls.size = ml) (hf : 1 ≤ R.frames) (hl : (St.map fun v => v.category).sum + 14 ≤ R.locals) (hcap : z.toNatClampNeg ≤ cap) (hc' : cells + 1 = cells') (hs' : slots + cap = slots') (hc : cells' ≤ R.cells) (hs : slots' ≤ R.slots)
    (hr : ∀ T' h' b, Sd p l e R s m args below meth c n0 T' h' cells' slots' → b = h.size → n0 ≤ b → Ext h h' → Arv Z h' b k ty z vs dv → Exa Z h' b ad → OGo p e below K T' (mkF m pc' Ls (.ref b :: St))) : OGo p e below K T (mkF m pc Ls (.ref a :: St)) := by
  subst hp hc' hs'
  obtain ⟨eT, hn0, locs, Y, N⟩ := X
  obtain ⟨T', h', Y', e', Ex, A, EE, st⟩ := cloneH Y C.1 C.2.1 C.2.2.1 w1 w2 w3 w4 w5 w6 eT (Arv.arh V) E (g := mkF m pc Ls (.ref a :: St)) rfl (by rw [C.2.2.2.2]; exact hsz) rfl (hb C.2.2.2.1 hd) hf (W := (St.map fun v => v.category).sum) (by show 2 * 0 + _ ≤ _; omega) hl hcap hc hs
  exact OGo.st st (hr T' h' _ ⟨e', Nat.le_trans hn0 Ex.1, _, Y', N⟩ rfl hn0 Ex A EE)
theorem priv_selects {y : MethodName} {k : Nat} (hZ : Z.Warmed39 s.vm) (w2 : (Jvm.Cond.instanceMethod y).before a0 Z = true) (w3 : (Jvm.Cond.privateMethod y).before a0 Z = true) (wi : (Jvm.Cond.instantiable y.cls k).before a0 Z = true) (hy : y.cls ≠ "java/lang/invoke/MethodHandle" ∧ y.cls ≠ "java/lang/invoke/VarHandle") : (Jvm.Cond.selects y.cls y y).before args s = true := by
  obtain ⟨c, k, h1, h2, -, h4, -⟩ := Cond.instantiable_spec (show (Jvm.Cond.instantiable y.cls k).before args s = true from mvT hZ wi)
  have h5 : k.isInterface = false := by
    cases hq : k.isInterface
    · rfl
    · rw [hq] at h4; cases h4
  exact selects_self_of_private h1 h2 h5 (Cond.privateMethod_at (mvP hZ w3 (args := #[]))) (mvT hZ w2) hy
theorem OGo.callPriv (C : Cx p s m c Z own by0 ml) (X : Sd p l e R s m args below meth c n0 T h cells slots) {y : MethodName} {cb : ByteArray} {cml : Nat} {ret : Option FieldType} {rm : Room} {as' : Array Value} {Q : Option Value → Heap → Prop} {idx : Nat} {a : Addr} {Cn : String} {kk : Nat} (w1 : (Jvm.Cond.methodLink own idx y).before a0 Z = true) (w2 : (Jvm.Cond.instanceMethod y).before a0 Z = true) (w3 : (Jvm.Cond.privateMethod y).before a0 Z = true) (wi : (Jvm.Cond.instantiable y.cls kk).before a0 Z = true) (hy : y.cls ≠ "java/lang/invoke/MethodHandle" ∧ y.cls ≠ "java/lang/invoke/VarHandle") (E : Exa Z h a Cn) (w4 : (Jvm.Cond.code y cb cml ret).before a0 Z = true) (w5 : (Jvm.Cond.initialized y.cls).before a0 Z = true) (hM : Ctr l Z y cb cml ret rm n0 as' h Q) {argsL : List Value} (hlen : ∀ sig, parseMethodDescriptor y.desc = some sig → argsL.length = sig.parameters.length) (has : (Value.ref a :: argsL).toArray = as') (hd : decode by0 pc = .ok (.invokevirtual idx, 3)) (hp : pc + 3 = pc') (hsz : Ls.size = ml) (hf : rm.frames + 1 ≤ R.frames) (hl : (St.map fun v => v.category).sum + (cml + 11) + rm.locals ≤ R.locals) (hc' : cells + rm.cells = cells') (hs' : slots + rm.slots = slots') (hc : cells' ≤ R.cells) (hs : slots' ≤ R.slots)
    (hr : ∀ v T' h', Q v h' → Sd p l e R s m args below meth c n0 T' h' cells' slots' → h.size ≤ h'.size → OGo p e below K T' (mkF m pc' Ls (v.toList ++ St))) : OGo p e below K T (mkF m pc Ls (argsL.reverse ++ Value.ref a :: St)) := by
  subst hp hc' hs' has
  obtain ⟨eT, hn0, locs, Y, N⟩ := X
  have hK := backC (args := args) (p := p) (e := e) (below := below) (R := R) (len := 3) (W := (St.map fun v => v.category).sum) hM C.2.1 w4 w5 hf hl
  obtain ⟨v, _, ⟨B, L2, k2, n2⟩, -, Y', ⟨L, hQ, l1, y1, z1⟩, st⟩ := (let ⟨_, q1, q2⟩ := E.cell; Y.privateBack C.1 (y := y) C.2.2.1 (mvT C.2.1 w1) (mvT C.2.1 w2) (priv_selects C.2.1 w2 w3 wi hy) (Cond.privateMethod_at (mvP C.2.1 w3 (args := #[]))) (mvT C.2.1 w4) hy hK (g := mkF m pc Ls (argsL.reverse ++ Value.ref a :: St)) rfl (by rw [C.2.2.2.2]; exact hsz) (Steps.refl _) (a := a) (by rw [eT]; exact q1) q2 (argsL := argsL) (rest := St) hlen rfl (by show 2 * 0 + _ ≤ _; omega) (hb C.2.2.2.1 hd) (fun _ _ => ⟨rfl, eT, hc, hs⟩))
  dsimp only [Pt.U, Pt.locs, Pt.cells, Pt.slots] at Y' l1 y1 z1 st hQ
  subst l1 y1 z1
  obtain ⟨⟨hQ, hge⟩, hF⟩ := hQ
  exact OGo.tr st (hr v B B.heap hQ ⟨rfl, Nat.le_trans hn0 hge, _, Y', N.app hF⟩ hge)
theorem OGo.natS (C : Cx p s m c Z own by0 ml) (X : Sd p l e R s m args below meth c n0 T h cells slots) {y : MethodName} {cb : ByteArray} {cml : Nat} {rt : Option FieldType} {idx : Nat} {val : Value} {F : Array Value → Prop} (w1 : (Jvm.Cond.methodLink own idx y).before a0 Z = true) (w2 : (Jvm.Cond.static y).before a0 Z = true) (w3 : (Jvm.Cond.initialized y.cls).before a0 Z = true) (w4 : (Jvm.Cond.code y cb cml rt).before a0 Z = true) (hy : y.cls ≠ "java/lang/invoke/MethodHandle" ∧ y.cls ≠ "java/lang/invoke/VarHandle")
    {argsL : List Value} (hlen : ∀ sig, parseMethodDescriptor y.desc = some sig → argsL.length = sig.parameters.length) (hd : decode by0 pc = .ok (.invokestatic idx, 3)) (hp : pc + 3 = pc') (hsz : Ls.size = ml) (hc : cells ≤ R.cells) (hs : slots ≤ R.slots)
    (hK : (Jvm.Cond.code y cb cml rt).before args s = true → Back l R p e below s args y 3 ((St.map fun v => v.category).sum) (fun A a' => A.cells ≤ R.cells ∧ A.slots ≤ R.slots ∧ F a') (fun A _ v B => v = some val ∧ B = A)) (hF : F argsL.toArray)
    (hr : ∀ T', Sd p l e R s m args below meth c n0 T' h cells slots → OGo p e below K T' (mkF m pc' Ls (val :: St))) : OGo p e below K T (mkF m pc Ls (argsL.reverse ++ St)) := by
  subst hp
  obtain ⟨eT, hn0, locs, Y, N⟩ := X
  obtain ⟨T', Y', e', st⟩ := RoadKit.natS Y C.1 C.2.1 C.2.2.1 w1 w2 w3 w4 hy eT hK (g := mkF m pc Ls (argsL.reverse ++ St)) rfl (by rw [C.2.2.2.2]; exact hsz) hlen rfl (by show 2 * 0 + _ ≤ _; omega) (hb C.2.2.2.1 hd) hc hs hF rfl
  exact OGo.st st (hr T' ⟨e', hn0, _, Y', N⟩)
end OwnGo
end Jvm.Pilot.@@N@@
namespace Jvm.Pilot.@@N@@
open Jvm Jvm.ClassFile Sem Op Lib Jvm.Free Jvm.Stand Jvm.LawKit Jvm.RoadKit Jvm.Free.Fl Jvm.FP Bundle Jvm.Pilot.@@N@@.Jvm.D
abbrev HW (a0 : Array Value) (Z : State) : Prop := ∀ d ∈ tables_1, d.before a0 Z = true
theorem wd0 {a0 : Array Value} {Z : State} (hw : HW a0 Z) : ((Jvm.Cond.arrayClass Jvm.ClassFile.FieldType.int)).before a0 Z = true := hw _ (List.mem_of_getElem? (i := 0) rfl)
theorem wd1 {a0 : Array Value} {Z : State} (hw : HW a0 Z) : ((Jvm.Cond.arrayClass Jvm.ClassFile.FieldType.double)).before a0 Z = true := hw _ (List.mem_of_getElem? (i := 1) rfl)
theorem wd2 {a0 : Array Value} {Z : State} (hw : HW a0 Z) : ((Jvm.Cond.methodLink "com/example/interim/interim/SquaredDistanceOfPinLaw" (7 : Nat) ({ cls := "com/example/interim/interim/SquaredDistanceOfPinLaw", name := "term", desc := "([II[IIII)J" } : Jvm.MethodName))).before a0 Z = true := hw _ (List.mem_of_getElem? (i := 2) rfl)
theorem wd3 {a0 : Array Value} {Z : State} (hw : HW a0 Z) : ((Jvm.Cond.static ({ cls := "com/example/interim/interim/SquaredDistanceOfPinLaw", name := "term", desc := "([II[IIII)J" } : Jvm.MethodName))).before a0 Z = true := hw _ (List.mem_of_getElem? (i := 3) rfl)
theorem wd4 {a0 : Array Value} {Z : State} (hw : HW a0 Z) : ((Jvm.Cond.initialized "com/example/interim/interim/SquaredDistanceOfPinLaw")).before a0 Z = true := hw _ (List.mem_of_getElem? (i := 4) rfl)
theorem wd5 {a0 : Array Value} {Z : State} (hw : HW a0 Z) : ((Jvm.Cond.code ({ cls := "com/example/interim/interim/SquaredDistanceOfPinLaw", name := "term", desc := "([II[IIII)J" } : Jvm.MethodName) method_2_code (8 : Nat) (Option.some Jvm.ClassFile.FieldType.long))).before a0 Z = true := hw _ (List.mem_of_getElem? (i := 5) rfl)
theorem wd6 {a0 : Array Value} {Z : State} (hw : HW a0 Z) : ((Jvm.Cond.methodLink "com/example/interim/interim/SquaredDistanceOfPinLaw" (13 : Nat) ({ cls := "com/example/interim/interim/SquaredDistance", name := "of", desc := "([DI[DII)D" } : Jvm.MethodName))).before a0 Z = true := hw _ (List.mem_of_getElem? (i := 6) rfl)
theorem wd7 {a0 : Array Value} {Z : State} (hw : HW a0 Z) : ((Jvm.Cond.static ({ cls := "com/example/interim/interim/SquaredDistance", name := "of", desc := "([DI[DII)D" } : Jvm.MethodName))).before a0 Z = true := hw _ (List.mem_of_getElem? (i := 7) rfl)
theorem wd8 {a0 : Array Value} {Z : State} (hw : HW a0 Z) : ((Jvm.Cond.initialized "com/example/interim/interim/SquaredDistance")).before a0 Z = true := hw _ (List.mem_of_getElem? (i := 8) rfl)
theorem wd9 {a0 : Array Value} {Z : State} (hw : HW a0 Z) : ((Jvm.Cond.code ({ cls := "com/example/interim/interim/SquaredDistance", name := "of", desc := "([DI[DII)D" } : Jvm.MethodName) prog_52_method_3_code (10 : Nat) (Option.some Jvm.ClassFile.FieldType.double))).before a0 Z = true := hw _ (List.mem_of_getElem? (i := 9) rfl)
theorem d1_0 : decode method_2_code 0 = .ok (.iload 4, 2) := by decide +kernel
theorem d1_2 : decode method_2_code 2 = .ok (.iload 5, 2) := by decide +kernel
theorem d1_4 : decode method_2_code 4 = .ok (.if_icmp .lt 5, 3) := by decide +kernel
theorem d1_7 : decode method_2_code 7 = .ok (.lconst 0, 1) := by decide +kernel
theorem d1_8 : decode method_2_code 8 = .ok (.lreturn, 1) := by decide +kernel
theorem d1_9 : decode method_2_code 9 = .ok (.aload_n 0, 1) := by decide +kernel
theorem d1_10 : decode method_2_code 10 = .ok (.iload_n 1, 1) := by decide +kernel
theorem d1_11 : decode method_2_code 11 = .ok (.iload 4, 2) := by decide +kernel
theorem d1_13 : decode method_2_code 13 = .ok (.iadd, 1) := by decide +kernel
theorem d1_14 : decode method_2_code 14 = .ok (.iaload, 1) := by decide +kernel
theorem d1_15 : decode method_2_code 15 = .ok (.i2l, 1) := by decide +kernel
theorem d1_16 : decode method_2_code 16 = .ok (.aload_n 2, 1) := by decide +kernel
theorem d1_17 : decode method_2_code 17 = .ok (.iload_n 3, 1) := by decide +kernel
theorem d1_18 : decode method_2_code 18 = .ok (.iload 4, 2) := by decide +kernel
theorem d1_20 : decode method_2_code 20 = .ok (.iadd, 1) := by decide +kernel
theorem d1_21 : decode method_2_code 21 = .ok (.iaload, 1) := by decide +kernel
theorem d1_22 : decode method_2_code 22 = .ok (.i2l, 1) := by decide +kernel
theorem d1_23 : decode method_2_code 23 = .ok (.lsub, 1) := by decide +kernel
theorem d1_24 : decode method_2_code 24 = .ok (.lstore 6, 2) := by decide +kernel
theorem d1_26 : decode method_2_code 26 = .ok (.lload 6, 2) := by decide +kernel
theorem d1_28 : decode method_2_code 28 = .ok (.lload 6, 2) := by decide +kernel
theorem d1_30 : decode method_2_code 30 = .ok (.lmul, 1) := by decide +kernel
theorem d1_31 : decode method_2_code 31 = .ok (.lreturn, 1) := by decide +kernel
theorem d2_0 : decode prog_52_method_3_code 0 = .ok (.dconst 0, 1) := by decide +kernel
theorem d2_1 : decode prog_52_method_3_code 1 = .ok (.dstore 5, 2) := by decide +kernel
theorem d2_3 : decode prog_52_method_3_code 3 = .ok (.iconst 0, 1) := by decide +kernel
theorem d2_4 : decode prog_52_method_3_code 4 = .ok (.istore 7, 2) := by decide +kernel
theorem d2_6 : decode prog_52_method_3_code 6 = .ok (.iload 7, 2) := by decide +kernel
theorem d2_8 : decode prog_52_method_3_code 8 = .ok (.iload 4, 2) := by decide +kernel
theorem d2_10 : decode prog_52_method_3_code 10 = .ok (.if_icmp .ge 34, 3) := by decide +kernel
theorem d2_13 : decode prog_52_method_3_code 13 = .ok (.aload_n 0, 1) := by decide +kernel
theorem d2_14 : decode prog_52_method_3_code 14 = .ok (.iload_n 1, 1) := by decide +kernel
theorem d2_15 : decode prog_52_method_3_code 15 = .ok (.iload 7, 2) := by decide +kernel
theorem d2_17 : decode prog_52_method_3_code 17 = .ok (.iadd, 1) := by decide +kernel
theorem d2_18 : decode prog_52_method_3_code 18 = .ok (.daload, 1) := by decide +kernel
theorem d2_19 : decode prog_52_method_3_code 19 = .ok (.aload_n 2, 1) := by decide +kernel
theorem d2_20 : decode prog_52_method_3_code 20 = .ok (.iload_n 3, 1) := by decide +kernel
theorem d2_21 : decode prog_52_method_3_code 21 = .ok (.iload 7, 2) := by decide +kernel
theorem d2_23 : decode prog_52_method_3_code 23 = .ok (.iadd, 1) := by decide +kernel
theorem d2_24 : decode prog_52_method_3_code 24 = .ok (.daload, 1) := by decide +kernel
theorem d2_25 : decode prog_52_method_3_code 25 = .ok (.dsub, 1) := by decide +kernel
theorem d2_26 : decode prog_52_method_3_code 26 = .ok (.dstore 8, 2) := by decide +kernel
theorem d2_28 : decode prog_52_method_3_code 28 = .ok (.dload 5, 2) := by decide +kernel
theorem d2_30 : decode prog_52_method_3_code 30 = .ok (.dload 8, 2) := by decide +kernel
theorem d2_32 : decode prog_52_method_3_code 32 = .ok (.dload 8, 2) := by decide +kernel
theorem d2_34 : decode prog_52_method_3_code 34 = .ok (.dmul, 1) := by decide +kernel
theorem d2_35 : decode prog_52_method_3_code 35 = .ok (.dadd, 1) := by decide +kernel
theorem d2_36 : decode prog_52_method_3_code 36 = .ok (.dstore 5, 2) := by decide +kernel
theorem d2_38 : decode prog_52_method_3_code 38 = .ok (.iinc 7 1, 3) := by decide +kernel
theorem d2_41 : decode prog_52_method_3_code 41 = .ok (.goto (-35), 3) := by decide +kernel
theorem d2_44 : decode prog_52_method_3_code 44 = .ok (.dload 5, 2) := by decide +kernel
theorem d2_46 : decode prog_52_method_3_code 46 = .ok (.dreturn, 1) := by decide +kernel
theorem pd0 : parseMethodDescriptor "([II[IIII)J" = some ⟨[(.array .int), .int, (.array .int), .int, .int, .int], some .long⟩ := by decide +kernel
theorem pd1 : parseMethodDescriptor "([DI[DII)D" = some ⟨[(.array .double), .int, (.array .double), .int, .int], some .double⟩ := by decide +kernel
theorem pn0 : plainName "com/example/interim/interim/SquaredDistanceOfPinLaw" = true := by first | (simp [plainName, overriddenIn]; done) | decide +kernel
theorem pn1 : plainName "com/example/interim/interim/SquaredDistance" = true := by first | (simp [plainName, overriddenIn]; done) | decide +kernel
section OwnFl
open Jvm.FP Jvm.FP.Core Jvm.Free.Fl
/-- a double's value in units of 2 ^ (-1074) -/
abbrev zv (a : UInt64) : Int := zval b64 (val64 a)
theorem own_nn {a : UInt64} (h : NoNaN64 a) : val64 a ≠ .nan := val64_no.mp h
theorem own_l2d_zv {a : Int64} (h : B53 a) : zv (FP.l2d a) = a.toInt * (one64 : Int) := DInt_zval (l2d_whole (sm h))
theorem own_l2d_fin (a : Int64) : DFin (FP.l2d a) := fin64_core.mp (l2d_fin a)
theorem own_l2d_sgn (a : Int64) : sgn (val64 (FP.l2d a)) = decide (a.toInt < 0) := by
  obtain ⟨c, q, h⟩ := l2d_shape a
  rw [show val64 (FP.l2d a) = _ from h]; rfl
theorem own_zv_mag {a : UInt64} (h : sgn (val64 a) = false) : zv a = (zmag b64 (val64 a) : Int) := by
  show signed (sgn (val64 a)) _ = _
  rw [h]; rfl
theorem own_zv_magN {a : UInt64} (h : sgn (val64 a) = true) : zv a = -(zmag b64 (val64 a) : Int) := by
  show signed (sgn (val64 a)) _ = _
  rw [h]; rfl
theorem own_div_shape {a b : UInt64} (ha : DFin a) (hb : DFin b) (pb : 0 < zmag b64 (val64 b)) :
    ∃ s t c d q r, val64 a = .fin s c q ∧ val64 b = .fin t d r ∧ d ≠ 0 ∧ val64 (FP.ddiv a b) = roundRatio b64 (s != t) c d (q - r) := by
  obtain ⟨s, c, q, ha⟩ := ha
  obtain ⟨t, d, r, hb⟩ := hb
  have hd : d ≠ 0 := by
    rintro rfl
    rw [hb] at pb
    simp [zmag, inUnits] at pb
  refine ⟨s, t, c, d, q, r, ha, hb, hd, ?_⟩
  rw [show val64 (FP.ddiv a b) = quotient b64 (val64 a) (val64 b) from val64_ddiv a b, ha, hb]
  simp only [quotient, if_neg hd]
theorem own_div_e1 {s : Bool} {c : Nat} {q r : Int} (hq : b64.qmin ≤ q) : inUnits c (q - r) (2 * b64.qmin - r) = zmag b64 (.fin s c q) * one64 := by
  have h0 := qmin_neg good_b64
  rw [← pow_qmin64]
  show c * _ = c * _ * _
  rw [Nat.mul_assoc, ← Nat.pow_add]; congr 2; omega
theorem own_div_e2 {t : Bool} {d : Nat} {r : Int} (hr : b64.qmin ≤ r) : 2 ^ (b64.qmin - (2 * b64.qmin - r)).toNat * d = zmag b64 (.fin t d r) := by
  show _ = d * _
  rw [Nat.mul_comm]; congr 2; omega
theorem own_zmag_div_le {a b : UInt64} {V : Datum} (ha : DFin a) (hb : DFin b) (pb : 0 < zmag b64 (val64 b)) (fV : Core.fits b64 V) (nV : V ≠ .nan)
    (h : zmag b64 (val64 a) * one64 ≤ zmag b64 V * zmag b64 (val64 b)) : zmag b64 (val64 (FP.ddiv a b)) ≤ zmag b64 V := by
  obtain ⟨s, t, c, d, q, r, e1, e2, hd, e3⟩ := own_div_shape ha hb pb
  have f1 := val64_fits a; have f2 := val64_fits b
  rw [e1] at f1 h; rw [e2] at f2 h
  rw [e3]
  refine zmag_roundRatio_le good_b64 (Nat.pos_of_ne_zero hd) fV nV (e0 := 2 * b64.qmin - r) (by have := f2.2.1; omega) (by have := f1.2.1; have := qmin_neg good_b64; omega) ?_
  rw [own_div_e1 (s := s) f1.2.1, Nat.mul_assoc, own_div_e2 (t := t) f2.2.1]; exact h
theorem own_zmag_div_ge {a b : UInt64} {V : Datum} (ha : DFin a) (hb : DFin b) (pb : 0 < zmag b64 (val64 b)) (fV : Core.fits b64 V)
    (h : zmag b64 V * zmag b64 (val64 b) ≤ zmag b64 (val64 a) * one64) : zmag b64 V ≤ zmag b64 (val64 (FP.ddiv a b)) := by
  obtain ⟨s, t, c, d, q, r, e1, e2, hd, e3⟩ := own_div_shape ha hb pb
  have f1 := val64_fits a; have f2 := val64_fits b
  rw [e1] at f1 h; rw [e2] at f2 h
  rw [e3]
  refine zmag_roundRatio_ge good_b64 (Nat.pos_of_ne_zero hd) fV (e0 := 2 * b64.qmin - r) (by have := f2.2.1; omega) (by have := f1.2.1; have := qmin_neg good_b64; omega) ?_
  rw [own_div_e1 (s := s) f1.2.1, Nat.mul_assoc, own_div_e2 (t := t) f2.2.1]; exact h
theorem own_sgn_div {a b : UInt64} (ha : DFin a) (hb : DFin b) (pb : 0 < zmag b64 (val64 b)) : sgn (val64 (FP.ddiv a b)) = (sgn (val64 a) != sgn (val64 b)) := by
  obtain ⟨s, t, c, d, q, r, e1, e2, hd, e3⟩ := own_div_shape ha hb pb
  rw [e1, e2, e3, sgn_roundRatio]; rfl
theorem own_zmag_nat {f : Fmt} {V : Datum} : (0 : Int) ≤ (zmag f V : Int) := Int.natCast_nonneg _
theorem own_zval_cases (V : Datum) : zval b64 V = (zmag b64 V : Int) ∧ sgn V = false ∨ zval b64 V = -(zmag b64 V : Int) ∧ sgn V = true := by
  cases hs : sgn V
  · left; exact ⟨by show signed (sgn V) _ = _; rw [hs]; rfl, rfl⟩
  · right; exact ⟨by show signed (sgn V) _ = _; rw [hs]; rfl, rfl⟩
/-- the quotient of two doubles, the second above 0, against any double V -/
theorem own_div_le {a b : UInt64} {V : Datum} (ha : DFin a) (hb : DFin b) (sb : sgn (val64 b) = false) (pb : 0 < zv b) (fV : Core.fits b64 V) (nV : V ≠ .nan)
    (h : zv a * (one64 : Int) ≤ zval b64 V * zv b) : zv (FP.ddiv a b) ≤ zval b64 V := by
  have q := own_zv_mag sb
  have pb' : 0 < zmag b64 (val64 b) := by omega
  have s1 : sgn (val64 (FP.ddiv a b)) = sgn (val64 a) := by rw [own_sgn_div ha hb pb', sb]; simp
  have o1 : (0 : Int) < (one64 : Int) := by exact_mod_cast one64_pos
  have z2 : (0 : Int) < (zmag b64 (val64 b) : Int) := by omega
  cases sa : sgn (val64 a)
  · rw [sa] at s1
    rw [own_zv_mag s1]
    rcases own_zval_cases V with ⟨e, -⟩ | ⟨e, -⟩
    · rw [e] at h ⊢
      rw [own_zv_mag sa, q] at h
      exact Int.ofNat_le.mpr (own_zmag_div_le ha hb pb' fV nV (by exact_mod_cast h))
    · rw [e] at h ⊢
      rw [own_zv_mag sa, q, Int.neg_mul] at h
      have h1 : (0 : Int) ≤ (zmag b64 (val64 a) : Int) * (one64 : Int) := by exact_mod_cast Nat.zero_le _
      have h3 : (0 : Int) ≤ (zmag b64 V : Int) * (zmag b64 (val64 b) : Int) := by exact_mod_cast Nat.zero_le _
      have h4 : (zmag b64 V : Int) * (zmag b64 (val64 b) : Int) = 0 := by omega
      have h5 : (zmag b64 V : Int) = 0 := by
        rcases Int.mul_eq_zero.mp h4 with z | z
        · exact z
        · omega
      have h6 : (zmag b64 (val64 a) : Int) * (one64 : Int) = 0 := by omega
      have h7 : zmag b64 (val64 a) = 0 := by
        rcases Int.mul_eq_zero.mp h6 with z | z
        · exact_mod_cast z
        · omega
      have h8 : zmag b64 V = 0 := by exact_mod_cast h5
      have := own_zmag_div_le ha hb pb' fV nV (by rw [h7, h8]; simp)
      rw [h8] at this ⊢
      omega
  · rw [sa] at s1
    rw [own_zv_magN s1]
    rcases own_zval_cases V with ⟨e, -⟩ | ⟨e, -⟩
    · rw [e]
      have h1 : (0 : Int) ≤ (zmag b64 (val64 (FP.ddiv a b)) : Int) := own_zmag_nat
      have h2 : (0 : Int) ≤ (zmag b64 V : Int) := own_zmag_nat
      omega
    · rw [e] at h ⊢
      rw [own_zv_magN sa, q, Int.neg_mul, Int.neg_mul] at h
      have := own_zmag_div_ge ha hb pb' fV (by have h9 := Int.neg_le_neg_iff.mp h; exact_mod_cast h9)
      omega
theorem own_div_ge {a b : UInt64} {V : Datum} (ha : DFin a) (hb : DFin b) (sb : sgn (val64 b) = false) (pb : 0 < zv b) (fV : Core.fits b64 V) (nV : V ≠ .nan)
    (h : zval b64 V * zv b ≤ zv a * (one64 : Int)) : zval b64 V ≤ zv (FP.ddiv a b) := by
  have q := own_zv_mag sb
  have pb' : 0 < zmag b64 (val64 b) := by omega
  have s1 : sgn (val64 (FP.ddiv a b)) = sgn (val64 a) := by rw [own_sgn_div ha hb pb', sb]; simp
  have o1 : (0 : Int) < (one64 : Int) := by exact_mod_cast one64_pos
  have z2 : (0 : Int) < (zmag b64 (val64 b) : Int) := by omega
  cases sa : sgn (val64 a)
  · rw [sa] at s1
    rw [own_zv_mag s1]
    rcases own_zval_cases V with ⟨e, -⟩ | ⟨e, -⟩
    · rw [e] at h ⊢
      rw [own_zv_mag sa, q] at h
      exact Int.ofNat_le.mpr (own_zmag_div_ge ha hb pb' fV (by exact_mod_cast h))
    · rw [e]
      have h1 : (0 : Int) ≤ (zmag b64 (val64 (FP.ddiv a b)) : Int) := own_zmag_nat
      have h2 : (0 : Int) ≤ (zmag b64 V : Int) := own_zmag_nat
      omega
  · rw [sa] at s1
    rw [own_zv_magN s1]
    rcases own_zval_cases V with ⟨e, -⟩ | ⟨e, -⟩
    · rw [e] at h ⊢
      rw [own_zv_magN sa, q, Int.neg_mul] at h
      have h1 : (0 : Int) ≤ (zmag b64 (val64 a) : Int) * (one64 : Int) := by exact_mod_cast Nat.zero_le _
      have h3 : (0 : Int) ≤ (zmag b64 V : Int) * (zmag b64 (val64 b) : Int) := by exact_mod_cast Nat.zero_le _
      have h4 : (zmag b64 V : Int) * (zmag b64 (val64 b) : Int) = 0 := by omega
      have h5 : (zmag b64 V : Int) = 0 := by
        rcases Int.mul_eq_zero.mp h4 with z | z
        · exact z
        · omega
      have h6 : (zmag b64 (val64 a) : Int) * (one64 : Int) = 0 := by omega
      have h7 : zmag b64 (val64 a) = 0 := by
        rcases Int.mul_eq_zero.mp h6 with z | z
        · exact_mod_cast z
        · omega
      have h8 : zmag b64 V = 0 := by exact_mod_cast h5
      have := own_zmag_div_le ha hb pb' fV nV (by rw [h7, h8]; simp)
      rw [h8] at this ⊢
      omega
    · rw [e] at h ⊢
      rw [own_zv_magN sa, q, Int.neg_mul, Int.neg_mul] at h
      have := own_zmag_div_le ha hb pb' fV nV (by have h9 := Int.neg_le_neg_iff.mp h; exact_mod_cast h9)
      omega
/-- the quotient of two whole numbers -/
theorem own_lq_le {n m : Int64} (bn : B53 n) (bm : B53 m) (pm : 0 < m.toInt) {V : Datum} (fV : Core.fits b64 V) (nV : V ≠ .nan) (h : n.toInt * (one64 : Int) ≤ zval b64 V * m.toInt) : zv (FP.ddiv (FP.l2d n) (FP.l2d m)) ≤ zval b64 V := by
  have o1 : (0 : Int) < (one64 : Int) := by exact_mod_cast one64_pos
  refine own_div_le (own_l2d_fin n) (own_l2d_fin m) (by rw [own_l2d_sgn]; simp; omega) (by rw [own_l2d_zv bm]; exact Int.mul_pos pm o1) fV nV ?_
  rw [own_l2d_zv bn, own_l2d_zv bm, ← Int.mul_assoc]
  exact Int.mul_le_mul_of_nonneg_right h (Int.le_of_lt o1)
theorem own_lq_ge {n m : Int64} (bn : B53 n) (bm : B53 m) (pm : 0 < m.toInt) {V : Datum} (fV : Core.fits b64 V) (nV : V ≠ .nan) (h : zval b64 V * m.toInt ≤ n.toInt * (one64 : Int)) : zval b64 V ≤ zv (FP.ddiv (FP.l2d n) (FP.l2d m)) := by
  have o1 : (0 : Int) < (one64 : Int) := by exact_mod_cast one64_pos
  refine own_div_ge (own_l2d_fin n) (own_l2d_fin m) (by rw [own_l2d_sgn]; simp; omega) (by rw [own_l2d_zv bm]; exact Int.mul_pos pm o1) fV nV ?_
  rw [own_l2d_zv bn, own_l2d_zv bm, ← Int.mul_assoc]
  exact Int.mul_le_mul_of_nonneg_right h (Int.le_of_lt o1)
theorem own_lq_nn {n m : Int64} (pm : m.toInt ≠ 0) : NoNaN64 (FP.ddiv (FP.l2d n) (FP.l2d m)) :=
  Fl.ddiv_out (Fl.l2d_fin _).noNaN (Fl.l2d_fin _) (Fl.l2d_nz fun z => pm (by rw [z]; decide))
/-- a dyadic number of at most 53 digits is a datum -/
theorem own_dyad (s : Bool) {c : Nat} {q : Int} (hc : c < 2 ^ 53) (h1 : b64.qmin ≤ q) (h2 : q ≤ b64.qmax) : ∃ V : Datum, Core.fits b64 V ∧ V ≠ .nan ∧ zval b64 V = signed s (inUnits c q b64.qmin) := by
  obtain ⟨c', q', e1, e2⟩ := round_exact good_b64 s (c := c) (q := q) (by show c < 2 ^ 53; exact hc) h1 h2
  refine ⟨round b64 (.fin s c q), round_fits good_b64 _, ?_, ?_⟩
  · rw [e1]; simp
  · rw [e1]; show signed s (inUnits c' q' _) = _; rw [e2]
theorem own_sum_eq {a b : UInt64} {V : Datum} (ha : DFin a) (hb : DFin b) (fV : Core.fits b64 V) (nV : V ≠ .nan) (h : zv a + zv b = zval b64 V) : zv (FP.dadd a b) = zval b64 V := by
  have e : val64 (FP.dadd a b) = round b64 (exactSum (val64 a) (val64 b)) := val64_dadd a b
  show zval b64 (val64 (FP.dadd a b)) = _
  rw [e]
  exact Int.le_antisymm (sum_le good_b64 ha hb (val64_fits a) (val64_fits b) fV nV (Int.le_of_eq h)) (sum_ge good_b64 ha hb (val64_fits a) (val64_fits b) fV nV (Int.le_of_eq h.symm))
theorem own_sum_le {a b : UInt64} {V : Datum} (ha : DFin a) (hb : DFin b) (fV : Core.fits b64 V) (nV : V ≠ .nan) (h : zv a + zv b ≤ zval b64 V) : zv (FP.dadd a b) ≤ zval b64 V := by
  have e : val64 (FP.dadd a b) = round b64 (exactSum (val64 a) (val64 b)) := val64_dadd a b
  show zval b64 (val64 (FP.dadd a b)) ≤ _
  rw [e]; exact sum_le good_b64 ha hb (val64_fits a) (val64_fits b) fV nV h
theorem own_sum_ge {a b : UInt64} {V : Datum} (ha : DFin a) (hb : DFin b) (fV : Core.fits b64 V) (nV : V ≠ .nan) (h : zval b64 V ≤ zv a + zv b) : zval b64 V ≤ zv (FP.dadd a b) := by
  have e : val64 (FP.dadd a b) = round b64 (exactSum (val64 a) (val64 b)) := val64_dadd a b
  show _ ≤ zval b64 (val64 (FP.dadd a b))
  rw [e]; exact sum_ge good_b64 ha hb (val64_fits a) (val64_fits b) fV nV h
theorem own_diff_eq {a b : UInt64} {V : Datum} (ha : DFin a) (hb : DFin b) (fV : Core.fits b64 V) (nV : V ≠ .nan) (h : zv a - zv b = zval b64 V) : zv (FP.dsub a b) = zval b64 V := by
  have e : val64 (FP.dsub a b) = round b64 (exactSum (val64 a) (negate (val64 b))) := val64_dsub a b
  have hb' : ∃ s c q, negate (val64 b) = .fin s c q := by obtain ⟨s, c, q, z⟩ := hb; exact ⟨!s, c, q, by rw [z]; rfl⟩
  have h' : zval b64 (val64 a) - zval b64 (val64 b) = zval b64 V := h
  have hz : zval b64 (val64 a) + zval b64 (negate (val64 b)) = zval b64 V := by rw [zval_negate]; omega
  show zval b64 (val64 (FP.dsub a b)) = _
  rw [e]
  exact Int.le_antisymm (sum_le good_b64 ha hb' (val64_fits a) (negate_fits (val64_fits b)) fV nV (Int.le_of_eq hz)) (sum_ge good_b64 ha hb' (val64_fits a) (negate_fits (val64_fits b)) fV nV (Int.le_of_eq hz.symm))
/-- comparisons of doubles by their values -/
theorem own_cmp {a b : UInt64} (ha : val64 a ≠ .nan) (hb : val64 b ≠ .nan) (o : CmpOp) :
    (zv a < zv b → cmpValue (FP.dcmp a b) o = -1) ∧ (zv a = zv b → cmpValue (FP.dcmp a b) o = 0) ∧ (zv b < zv a → cmpValue (FP.dcmp a b) o = 1) := by
  refine ⟨fun h => ?_, fun h => ?_, fun h => ?_⟩
  · rw [show FP.dcmp a b = some .lt from dcmp_lt.mpr ⟨ha, hb, h⟩]; cases o <;> rfl
  · rw [show FP.dcmp a b = some .eq from dcmp_eq.mpr ⟨ha, hb, h⟩]; cases o <;> rfl
  · rw [show FP.dcmp a b = some .gt from dcmp_gt.mpr ⟨ha, hb, h⟩]; cases o <;> rfl
theorem own_cmp_le {a b : UInt64} (ha : val64 a ≠ .nan) (hb : val64 b ≠ .nan) (o : CmpOp) (h : zv a ≤ zv b) : ¬ (0 : Int32) < cmpValue (FP.dcmp a b) o := by
  rcases Int.lt_or_eq_of_le h with q | q
  · rw [(own_cmp ha hb o).1 q]; decide
  · rw [(own_cmp ha hb o).2.1 q]; decide
theorem own_cmp_ge {a b : UInt64} (ha : val64 a ≠ .nan) (hb : val64 b ≠ .nan) (o : CmpOp) (h : zv b ≤ zv a) : ¬ cmpValue (FP.dcmp a b) o < (0 : Int32) := by
  rcases Int.lt_or_eq_of_le h with q | q
  · rw [(own_cmp ha hb o).2.2 q]; decide
  · rw [(own_cmp ha hb o).2.1 q.symm]; decide
theorem own_one64_pos : (0 : Int) < (one64 : Int) := by exact_mod_cast one64_pos
theorem own_b53_0 : B53 0 := ⟨by decide, by decide⟩
theorem own_b53_1 : B53 1 := ⟨by decide, by decide⟩
theorem own_d0 : FP.dconst0 = FP.l2d 0 := by decide +kernel
theorem own_d1 : FP.dconst1 = FP.l2d 1 := by decide +kernel
theorem own_ddiv_nn {a b : UInt64} (ha : DFin a) (hb : DFin b) (pb : 0 < zv b) : NoNaN64 (FP.ddiv a b) :=
  Fl.ddiv_out (fin64_core.mpr ha).noNaN (fin64_core.mpr hb) (nz64_core.mpr fun z => by have q : zv b = 0 := DZero.zval z; omega)
end OwnFl
def own_at (x0 x1 x2 x3 : Int32) : Nat → Int32
  | 0 => x0
  | 1 => x1
  | 2 => x2
  | 3 => x3
  | _ + 4 => 0
theorem own_at_i (x0 x1 x2 x3 : Int32) (n : Nat) : [Value.int x0, .int x1, .int x2, .int x3].getD n (.int (0 : Int32)) = .int (own_at x0 x1 x2 x3 n) := by
  match n with
  | 0 => rfl
  | 1 => rfl
  | 2 => rfl
  | 3 => rfl
  | _ + 4 => rfl
theorem own_i2d0 : FP.i2d 0 = 0 := by decide +kernel
theorem own_at_d (x0 x1 x2 x3 : Int32) (n : Nat) : [Value.double (FP.i2d x0), .double (FP.i2d x1), .double (FP.i2d x2), .double (FP.i2d x3)].getD n (.double (0 : UInt64)) = .double (FP.i2d (own_at x0 x1 x2 x3 n)) := by
  match n with
  | 0 => rfl
  | 1 => rfl
  | 2 => rfl
  | 3 => rfl
  | _ + 4 => show Value.double 0 = .double (FP.i2d 0); rw [own_i2d0]
def own_sh (x : Int32) : Prop := -32768 ≤ x.toInt ∧ x.toInt < 32768
theorem own_at_sh {x0 x1 x2 x3 : Int32} (h0 : own_sh x0) (h1 : own_sh x1) (h2 : own_sh x2) (h3 : own_sh x3) (n : Nat) : own_sh (own_at x0 x1 x2 x3 n) := by
  match n with
  | 0 => exact h0
  | 1 => exact h1
  | 2 => exact h2
  | 3 => exact h3
  | _ + 4 => show own_sh 0; exact ⟨by decide, by decide⟩
def own_dif (x y : Int32) : Int64 := x.toInt64 - y.toInt64
theorem own_dif_b {x y : Int32} (hx : own_sh x) (hy : own_sh y) : -65536 < (own_dif x y).toInt ∧ (own_dif x y).toInt < 65536 := by
  have h1 := hx.1; have h2 := hx.2; have h3 := hy.1; have h4 := hy.2
  have e : (own_dif x y).toInt = x.toInt - y.toInt := by
    unfold own_dif
    rw [Int64.toInt_sub, c_i2l, c_i2l]
    exact Int.bmod_eq_of_le (by omega) (by omega)
  omega
theorem own_dsub {x y : Int32} (hx : own_sh x) (hy : own_sh y) : FP.dsub (FP.i2d x) (FP.i2d y) = FP.l2d (own_dif x y) := by
  have h1 := hx.1; have h2 := hx.2; have h3 := hy.1; have h4 := hy.2
  rw [i2d_w, i2d_w]
  exact dsub_w ⟨by rw [c_i2l]; omega, by rw [c_i2l]; omega⟩ ⟨by rw [c_i2l]; omega, by rw [c_i2l]; omega⟩
theorem own_sq {d : Int64} (h : -65536 < d.toInt ∧ d.toInt < 65536) : 0 ≤ (d * d).toInt ∧ (d * d).toInt < 4294967296 := by
  have q : 0 ≤ d.toInt * d.toInt ∧ d.toInt * d.toInt < 4294967296 := by
    have hm : (d.toInt * d.toInt).natAbs ≤ 65535 * 65535 := by rw [Int.natAbs_mul]; exact Nat.mul_le_mul (by omega) (by omega)
    have h0 : 0 ≤ d.toInt * d.toInt := by
      rcases Int.le_total 0 d.toInt with z | z
      · exact Int.mul_nonneg z z
      · exact Int.mul_nonneg_of_nonpos_of_nonpos z z
    omega
  rw [Core.int64_mul (by omega) (by omega)]; exact q
theorem own_dmul {d : Int64} (h : -65536 < d.toInt ∧ d.toInt < 65536) : FP.dmul (FP.l2d d) (FP.l2d d) = FP.l2d (d * d) := by
  refine dmul_k (A := 65536) (B := 65536) (by omega) (by omega) (by omega) (by omega) (by decide) (by decide) (by decide) ?_ ?_ <;>
  · rintro ⟨rfl, h2⟩
    exact absurd h2 (by decide)
theorem own_dadd {s d : Int64} {K : Int} (hs : 0 ≤ s.toInt ∧ s.toInt ≤ K) (hK : K ≤ 4294967296 * 8) (h : -65536 < d.toInt ∧ d.toInt < 65536) :
    FP.dadd (FP.l2d s) (FP.l2d (d * d)) = FP.l2d (s + d * d) ∧ 0 ≤ (s + d * d).toInt ∧ (s + d * d).toInt ≤ K + 4294967296 := by
  have q := own_sq h
  refine ⟨dadd_w ⟨by omega, by omega⟩ ⟨by omega, by omega⟩, ?_⟩
  rw [Core.int64_add (by omega) (by omega)]; omega
def own_got (l : Int32) (t0 t1 t2 : Int64) : Int64 := if 0 < l then (if 1 < l then (if 2 < l then 0 + t0 + t1 + t2 else 0 + t0 + t1) else 0 + t0) else 0
def own_term (i l : Int32) (t : Int64) : Int64 := if i < l then t else 0
theorem own_same {l : Int32} (hl : l.toInt ≤ 3) (t0 t1 t2 t3 : Int64) : own_got l t0 t1 t2 = own_term 0 l t0 + own_term 1 l t1 + own_term 2 l t2 + own_term 3 l t3 := by
  have h3 : ¬ (3 : Int32) < l := by rw [Int32.lt_iff_toInt_lt]; simp; omega
  unfold own_got own_term
  by_cases h0 : 0 < l
  · by_cases h1 : 1 < l
    · by_cases h2 : 2 < l
      · simp [h0, h1, h2, h3]
      · simp [h0, h1, h2, h3]
    · have h2 : ¬ (2 : Int32) < l := by rw [Int32.lt_iff_toInt_lt] at h1 ⊢; simp at h1 ⊢; omega
      simp [h0, h1, h2, h3]
  · have h1 : ¬ (1 : Int32) < l := by rw [Int32.lt_iff_toInt_lt] at h0 ⊢; simp at h0 ⊢; omega
    have h2 : ¬ (2 : Int32) < l := by rw [Int32.lt_iff_toInt_lt] at h0 ⊢; simp at h0 ⊢; omega
    simp [h0, h1, h2, h3]
/-- an offset from which l places lie within 4 -/
def own_off (p l : Int32) : Prop := 0 ≤ p.toInt ∧ p.toInt + l.toInt ≤ 4 ∧ 0 ≤ l.toInt
theorem own_in {p l i : Int32} (h : own_off p l) (hi : 0 ≤ i.toInt) (hl : i < l) : ¬ p + i < 0 ∧ p + i < 4 := by
  obtain ⟨h1, h2, h3⟩ := h
  rw [Int32.lt_iff_toInt_lt] at hl
  have e : (p + i).toInt = p.toInt + i.toInt := (Int32.toInt_add _ _).trans (Int.bmod_eq_of_le (by omega) (by omega))
  rw [Int32.lt_iff_toInt_lt, Int32.lt_iff_toInt_lt, e]
  have e0 : (0 : Int32).toInt = 0 := by decide
  have e4 : (4 : Int32).toInt = 4 := by decide
  rw [e0, e4]; omega
theorem own_i2s_sh (x : Int32) : own_sh x.toInt16.toInt32 := (c_i2s x).2

theorem ef1 (m : MethodId) (x0 : Addr) (x1 : Int32) (x2 : Addr) (x3 : Int32) (x4 : Int32) (x5 : Int32) : entryFrame m #[(.ref x0), (.int x1), (.ref x2), (.int x3), (.int x4), (.int x5)] 8 = mkF m 0 #[.val (.ref x0), .val (.int x1), .val (.ref x2), .val (.int x3), .val (.int x4), .val (.int x5), .unset, .unset] [] := by first | (simp [entryFrame, mkF, argsToLocals, Value.category]; done) | rfl
set_option maxRecDepth 65536 in
set_option maxHeartbeats 40000000 in
theorem ct1 {l : Launch} {Z : State} {a0 : Array Value} (hw : HW a0 Z) {n0 : Nat} {h0 : Heap} (hn0 : n0 ≤ h0.size) (a1 : Addr) (p2 : Int32) (a3 : Addr) (p4 i ln : Int32) (k1 k3 : ClassId) (x0 x1 x2 x3 y0 y1 y2 y3 : Int32) (V1 : Arv Z h0 a1 k1 .int (4 : Int32) [(.int x0), (.int x1), (.int x2), (.int x3)] (.int (0 : Int32))) (V3 : Arv Z h0 a3 k3 .int (4 : Int32) [(.int y0), (.int y1), (.int y2), (.int y3)] (.int (0 : Int32))) (hA : own_off p2 ln) (hB : own_off p4 ln) (hi : 0 ≤ i.toInt) :
    Ctr l Z (⟨"com/example/interim/interim/SquaredDistanceOfPinLaw", "term", "([II[IIII)J"⟩ : MethodName) method_2_code 8 (some .long) ({ frames := 0, cells := 0, slots := 0, locals := 0 } : Room) n0 #[(.ref a1), (.int p2), (.ref a3), (.int p4), (.int i), (.int ln)] h0 (fun v h => v = some (.long (own_term i ln ((own_dif (own_at x0 x1 x2 x3 (p2 + i).toNatClampNeg) (own_at y0 y1 y2 y3 (p4 + i).toNatClampNeg)) * (own_dif (own_at x0 x1 x2 x3 (p2 + i).toNatClampNeg) (own_at y0 y1 y2 y3 (p4 + i).toNatClampNeg))))) ∧ h = h0) := by
  refine Ctr.of (plainFor_of_name pn0) hn0 ?_
  intro p e s m below meth c T0 C hnm hret hlk X0
  rw [ef1 m a1 p2 a3 p4 i ln]
  refine OGo.iload (pc' := 2) C X0 d1_0 rfl rfl ?_
  refine OGo.iload (pc' := 4) C X0 d1_2 rfl rfl ?_
  by_cases hil : i < ln
  · refine OGo.icmpYes (pc' := 9) C X0 d1_4 (tlt hil).1 (by decide) (by decide) ?_
    refine OGo.aloadN (pc' := 10) C X0 d1_9 rfl rfl rfl ?_
    refine OGo.iloadN (pc' := 11) C X0 d1_10 rfl rfl ?_
    refine OGo.iload (pc' := 13) C X0 d1_11 rfl rfl ?_
    refine OGo.iadd (pc' := 14) (z := (p2 + i)) C X0 d1_13 rfl rfl ?_
    refine OGo.iaload (pc' := 15) C X0 V1 d1_14 rfl (own_in hA hi hil) (v := (own_at x0 x1 x2 x3 (p2 + i).toNatClampNeg)) (own_at_i _ _ _ _ _) ?_
    refine OGo.i2l (pc' := 16) (z := ((own_at x0 x1 x2 x3 (p2 + i).toNatClampNeg).toInt64)) C X0 d1_15 rfl rfl ?_
    refine OGo.aloadN (pc' := 17) C X0 d1_16 rfl rfl rfl ?_
    refine OGo.iloadN (pc' := 18) C X0 d1_17 rfl rfl ?_
    refine OGo.iload (pc' := 20) C X0 d1_18 rfl rfl ?_
    refine OGo.iadd (pc' := 21) (z := (p4 + i)) C X0 d1_20 rfl rfl ?_
    refine OGo.iaload (pc' := 22) C X0 V3 d1_21 rfl (own_in hB hi hil) (v := (own_at y0 y1 y2 y3 (p4 + i).toNatClampNeg)) (own_at_i _ _ _ _ _) ?_
    refine OGo.i2l (pc' := 23) (z := ((own_at y0 y1 y2 y3 (p4 + i).toNatClampNeg).toInt64)) C X0 d1_22 rfl rfl ?_
    refine OGo.lsub (pc' := 24) (z := (own_dif (own_at x0 x1 x2 x3 (p2 + i).toNatClampNeg) (own_at y0 y1 y2 y3 (p4 + i).toNatClampNeg))) C X0 d1_23 rfl rfl ?_
    refine OGo.lstore (pc' := 26) C X0 d1_24 rfl (l' := #[.val (.ref a1), .val (.int p2), .val (.ref a3), .val (.int p4), .val (.int i), .val (.int ln), .val (.long (own_dif (own_at x0 x1 x2 x3 (p2 + i).toNatClampNeg) (own_at y0 y1 y2 y3 (p4 + i).toNatClampNeg))), .second]) rfl ?_
    refine OGo.lload (pc' := 28) C X0 d1_26 rfl rfl ?_
    refine OGo.lload (pc' := 30) C X0 d1_28 rfl rfl ?_
    refine OGo.lmul (pc' := 31) (z := ((own_dif (own_at x0 x1 x2 x3 (p2 + i).toNatClampNeg) (own_at y0 y1 y2 y3 (p4 + i).toNatClampNeg)) * (own_dif (own_at x0 x1 x2 x3 (p2 + i).toNatClampNeg) (own_at y0 y1 y2 y3 (p4 + i).toNatClampNeg)))) C X0 d1_30 rfl rfl ?_
    exact OGo.retL C X0 d1_31 hret hlk (⟨by simp [own_term, hil], rfl⟩) (by decide) (by decide)
  · refine OGo.icmpNo (pc' := 7) C X0 d1_4 rfl (flt hil).1 ?_
    refine OGo.lconst (pc' := 8) (z := (0 : Int64)) C X0 d1_7 rfl (by decide) ?_
    exact OGo.retL C X0 d1_8 hret hlk (⟨by simp [own_term, hil], rfl⟩) (by decide) (by decide)
theorem ef2 (m : MethodId) (x0 : Addr) (x1 : Int32) (x2 : Addr) (x3 : Int32) (x4 : Int32) : entryFrame m #[(.ref x0), (.int x1), (.ref x2), (.int x3), (.int x4)] 10 = mkF m 0 #[.val (.ref x0), .val (.int x1), .val (.ref x2), .val (.int x3), .val (.int x4), .unset, .unset, .unset, .unset, .unset] [] := by first | (simp [entryFrame, mkF, argsToLocals, Value.category]; done) | rfl
set_option maxRecDepth 65536 in
set_option maxHeartbeats 40000000 in
theorem ct2 {l : Launch} {Z : State} {a0 : Array Value} (hw : HW a0 Z) {n0 : Nat} {h0 : Heap} (hn0 : n0 ≤ h0.size) (a1 : Addr) (p2 : Int32) (a3 : Addr) (p4 ln : Int32) (k1 k3 : ClassId) (x0 x1 x2 x3 y0 y1 y2 y3 : Int32) (V1 : Arv Z h0 a1 k1 .double (4 : Int32) [(.double (FP.i2d x0)), (.double (FP.i2d x1)), (.double (FP.i2d x2)), (.double (FP.i2d x3))] (.double (0 : UInt64))) (V3 : Arv Z h0 a3 k3 .double (4 : Int32) [(.double (FP.i2d y0)), (.double (FP.i2d y1)), (.double (FP.i2d y2)), (.double (FP.i2d y3))] (.double (0 : UInt64))) (hA : own_off p2 ln) (hB : own_off p4 ln) (hl3 : ln.toInt ≤ 3) (hx : own_sh x0 ∧ own_sh x1 ∧ own_sh x2 ∧ own_sh x3) (hy : own_sh y0 ∧ own_sh y1 ∧ own_sh y2 ∧ own_sh y3) :
    Ctr l Z (⟨"com/example/interim/interim/SquaredDistance", "of", "([DI[DII)D"⟩ : MethodName) prog_52_method_3_code 10 (some .double) ({ frames := 0, cells := 0, slots := 0, locals := 0 } : Room) n0 #[(.ref a1), (.int p2), (.ref a3), (.int p4), (.int ln)] h0 (fun v h => v = some (.double (FP.l2d (own_got ln ((own_dif (own_at x0 x1 x2 x3 (p2 + (0 : Int32)).toNatClampNeg) (own_at y0 y1 y2 y3 (p4 + (0 : Int32)).toNatClampNeg)) * (own_dif (own_at x0 x1 x2 x3 (p2 + (0 : Int32)).toNatClampNeg) (own_at y0 y1 y2 y3 (p4 + (0 : Int32)).toNatClampNeg))) ((own_dif (own_at x0 x1 x2 x3 (p2 + (1 : Int32)).toNatClampNeg) (own_at y0 y1 y2 y3 (p4 + (1 : Int32)).toNatClampNeg)) * (own_dif (own_at x0 x1 x2 x3 (p2 + (1 : Int32)).toNatClampNeg) (own_at y0 y1 y2 y3 (p4 + (1 : Int32)).toNatClampNeg))) ((own_dif (own_at x0 x1 x2 x3 (p2 + (2 : Int32)).toNatClampNeg) (own_at y0 y1 y2 y3 (p4 + (2 : Int32)).toNatClampNeg)) * (own_dif (own_at x0 x1 x2 x3 (p2 + (2 : Int32)).toNatClampNeg) (own_at y0 y1 y2 y3 (p4 + (2 : Int32)).toNatClampNeg)))))) ∧ h = h0) := by
  refine Ctr.of (plainFor_of_name pn1) hn0 ?_
  intro p e s m below meth c T0 C hnm hret hlk X0
  rw [ef2 m a1 p2 a3 p4 ln]
  refine OGo.dconst0 (pc' := 1) (v := (FP.l2d (0 : Int64))) C X0 d2_0 rfl own_d0 ?_
  refine OGo.dstore (pc' := 3) C X0 d2_1 rfl (l' := #[.val (.ref a1), .val (.int p2), .val (.ref a3), .val (.int p4), .val (.int ln), .val (.double (FP.l2d (0 : Int64))), .second, .unset, .unset, .unset]) rfl ?_
  refine OGo.iconst (pc' := 4) (z := (0 : Int32)) C X0 d2_3 rfl (by decide) ?_
  refine OGo.istore (pc' := 6) C X0 d2_4 rfl (l' := #[.val (.ref a1), .val (.int p2), .val (.ref a3), .val (.int p4), .val (.int ln), .val (.double (FP.l2d (0 : Int64))), .second, .val (.int (0 : Int32)), .unset, .unset]) rfl ?_
  refine OGo.iload (pc' := 8) C X0 d2_6 rfl rfl ?_
  refine OGo.iload (pc' := 10) C X0 d2_8 rfl rfl ?_
  by_cases hc1 : (0 : Int32) < ln
  · refine OGo.icmpNo (pc' := 13) C X0 d2_10 rfl (tlt hc1).2.1 ?_
    refine OGo.aloadN (pc' := 14) C X0 d2_13 rfl rfl rfl ?_
    refine OGo.iloadN (pc' := 15) C X0 d2_14 rfl rfl ?_
    refine OGo.iload (pc' := 17) C X0 d2_15 rfl rfl ?_
    refine OGo.iadd (pc' := 18) (z := (p2 + (0 : Int32))) C X0 d2_17 rfl rfl ?_
    refine OGo.daload (pc' := 19) C X0 V1 d2_18 rfl (own_in hA (by decide) hc1) (v := (FP.i2d (own_at x0 x1 x2 x3 (p2 + (0 : Int32)).toNatClampNeg))) (own_at_d _ _ _ _ _) ?_
    refine OGo.aloadN (pc' := 20) C X0 d2_19 rfl rfl rfl ?_
    refine OGo.iloadN (pc' := 21) C X0 d2_20 rfl rfl ?_
    refine OGo.iload (pc' := 23) C X0 d2_21 rfl rfl ?_
    refine OGo.iadd (pc' := 24) (z := (p4 + (0 : Int32))) C X0 d2_23 rfl rfl ?_
    refine OGo.daload (pc' := 25) C X0 V3 d2_24 rfl (own_in hB (by decide) hc1) (v := (FP.i2d (own_at y0 y1 y2 y3 (p4 + (0 : Int32)).toNatClampNeg))) (own_at_d _ _ _ _ _) ?_
    refine OGo.dsub (pc' := 26) (v := (FP.l2d (own_dif (own_at x0 x1 x2 x3 (p2 + (0 : Int32)).toNatClampNeg) (own_at y0 y1 y2 y3 (p4 + (0 : Int32)).toNatClampNeg)))) C X0 d2_25 rfl (nn_w (own_dsub (own_at_sh hx.1 hx.2.1 hx.2.2.1 hx.2.2.2 _) (own_at_sh hy.1 hy.2.1 hy.2.2.1 hy.2.2.2 _))) (own_dsub (own_at_sh hx.1 hx.2.1 hx.2.2.1 hx.2.2.2 _) (own_at_sh hy.1 hy.2.1 hy.2.2.1 hy.2.2.2 _)) ?_
    refine OGo.dstore (pc' := 28) C X0 d2_26 rfl (l' := #[.val (.ref a1), .val (.int p2), .val (.ref a3), .val (.int p4), .val (.int ln), .val (.double (FP.l2d (0 : Int64))), .second, .val (.int (0 : Int32)), .val (.double (FP.l2d (own_dif (own_at x0 x1 x2 x3 (p2 + (0 : Int32)).toNatClampNeg) (own_at y0 y1 y2 y3 (p4 + (0 : Int32)).toNatClampNeg)))), .second]) rfl ?_
    refine OGo.dload (pc' := 30) C X0 d2_28 rfl rfl ?_
    refine OGo.dload (pc' := 32) C X0 d2_30 rfl rfl ?_
    refine OGo.dload (pc' := 34) C X0 d2_32 rfl rfl ?_
    refine OGo.dmul (pc' := 35) (v := (FP.l2d ((own_dif (own_at x0 x1 x2 x3 (p2 + (0 : Int32)).toNatClampNeg) (own_at y0 y1 y2 y3 (p4 + (0 : Int32)).toNatClampNeg)) * (own_dif (own_at x0 x1 x2 x3 (p2 + (0 : Int32)).toNatClampNeg) (own_at y0 y1 y2 y3 (p4 + (0 : Int32)).toNatClampNeg))))) C X0 d2_34 rfl (nn_w (own_dmul (own_dif_b (own_at_sh hx.1 hx.2.1 hx.2.2.1 hx.2.2.2 _) (own_at_sh hy.1 hy.2.1 hy.2.2.1 hy.2.2.2 _)))) (own_dmul (own_dif_b (own_at_sh hx.1 hx.2.1 hx.2.2.1 hx.2.2.2 _) (own_at_sh hy.1 hy.2.1 hy.2.2.1 hy.2.2.2 _))) ?_
    have sb2 := own_dadd (s := (0 : Int64)) (d := (own_dif (own_at x0 x1 x2 x3 (p2 + (0 : Int32)).toNatClampNeg) (own_at y0 y1 y2 y3 (p4 + (0 : Int32)).toNatClampNeg))) (K := 4294967296 * 0) ⟨by decide, by decide⟩ (by decide) (own_dif_b (own_at_sh hx.1 hx.2.1 hx.2.2.1 hx.2.2.2 _) (own_at_sh hy.1 hy.2.1 hy.2.2.1 hy.2.2.2 _))
    refine OGo.dadd (pc' := 36) (v := (FP.l2d ((0 : Int64) + (own_dif (own_at x0 x1 x2 x3 (p2 + (0 : Int32)).toNatClampNeg) (own_at y0 y1 y2 y3 (p4 + (0 : Int32)).toNatClampNeg)) * (own_dif (own_at x0 x1 x2 x3 (p2 + (0 : Int32)).toNatClampNeg) (own_at y0 y1 y2 y3 (p4 + (0 : Int32)).toNatClampNeg))))) C X0 d2_35 rfl (nn_w sb2.1) sb2.1 ?_
    refine OGo.dstore (pc' := 38) C X0 d2_36 rfl (l' := #[.val (.ref a1), .val (.int p2), .val (.ref a3), .val (.int p4), .val (.int ln), .val (.double (FP.l2d ((0 : Int64) + (own_dif (own_at x0 x1 x2 x3 (p2 + (0 : Int32)).toNatClampNeg) (own_at y0 y1 y2 y3 (p4 + (0 : Int32)).toNatClampNeg)) * (own_dif (own_at x0 x1 x2 x3 (p2 + (0 : Int32)).toNatClampNeg) (own_at y0 y1 y2 y3 (p4 + (0 : Int32)).toNatClampNeg))))), .second, .val (.int (0 : Int32)), .val (.double (FP.l2d (own_dif (own_at x0 x1 x2 x3 (p2 + (0 : Int32)).toNatClampNeg) (own_at y0 y1 y2 y3 (p4 + (0 : Int32)).toNatClampNeg)))), .second]) rfl ?_
    refine OGo.iinc (pc' := 41) C X0 d2_38 rfl rfl (z := (1 : Int32)) (by decide) (l' := #[.val (.ref a1), .val (.int p2), .val (.ref a3), .val (.int p4), .val (.int ln), .val (.double (FP.l2d ((0 : Int64) + (own_dif (own_at x0 x1 x2 x3 (p2 + (0 : Int32)).toNatClampNeg) (own_at y0 y1 y2 y3 (p4 + (0 : Int32)).toNatClampNeg)) * (own_dif (own_at x0 x1 x2 x3 (p2 + (0 : Int32)).toNatClampNeg) (own_at y0 y1 y2 y3 (p4 + (0 : Int32)).toNatClampNeg))))), .second, .val (.int (1 : Int32)), .val (.double (FP.l2d (own_dif (own_at x0 x1 x2 x3 (p2 + (0 : Int32)).toNatClampNeg) (own_at y0 y1 y2 y3 (p4 + (0 : Int32)).toNatClampNeg)))), .second]) rfl ?_
    refine OGo.goto (pc' := 6) C X0 d2_41 (by decide) (by decide) ?_
    refine OGo.iload (pc' := 8) C X0 d2_6 rfl rfl ?_
    refine OGo.iload (pc' := 10) C X0 d2_8 rfl rfl ?_
    by_cases hc4 : (1 : Int32) < ln
    · refine OGo.icmpNo (pc' := 13) C X0 d2_10 rfl (tlt hc4).2.1 ?_
      refine OGo.aloadN (pc' := 14) C X0 d2_13 rfl rfl rfl ?_
      refine OGo.iloadN (pc' := 15) C X0 d2_14 rfl rfl ?_
      refine OGo.iload (pc' := 17) C X0 d2_15 rfl rfl ?_
      refine OGo.iadd (pc' := 18) (z := (p2 + (1 : Int32))) C X0 d2_17 rfl rfl ?_
      refine OGo.daload (pc' := 19) C X0 V1 d2_18 rfl (own_in hA (by decide) hc4) (v := (FP.i2d (own_at x0 x1 x2 x3 (p2 + (1 : Int32)).toNatClampNeg))) (own_at_d _ _ _ _ _) ?_
      refine OGo.aloadN (pc' := 20) C X0 d2_19 rfl rfl rfl ?_
      refine OGo.iloadN (pc' := 21) C X0 d2_20 rfl rfl ?_
      refine OGo.iload (pc' := 23) C X0 d2_21 rfl rfl ?_
      refine OGo.iadd (pc' := 24) (z := (p4 + (1 : Int32))) C X0 d2_23 rfl rfl ?_
      refine OGo.daload (pc' := 25) C X0 V3 d2_24 rfl (own_in hB (by decide) hc4) (v := (FP.i2d (own_at y0 y1 y2 y3 (p4 + (1 : Int32)).toNatClampNeg))) (own_at_d _ _ _ _ _) ?_
      refine OGo.dsub (pc' := 26) (v := (FP.l2d (own_dif (own_at x0 x1 x2 x3 (p2 + (1 : Int32)).toNatClampNeg) (own_at y0 y1 y2 y3 (p4 + (1 : Int32)).toNatClampNeg)))) C X0 d2_25 rfl (nn_w (own_dsub (own_at_sh hx.1 hx.2.1 hx.2.2.1 hx.2.2.2 _) (own_at_sh hy.1 hy.2.1 hy.2.2.1 hy.2.2.2 _))) (own_dsub (own_at_sh hx.1 hx.2.1 hx.2.2.1 hx.2.2.2 _) (own_at_sh hy.1 hy.2.1 hy.2.2.1 hy.2.2.2 _)) ?_
      refine OGo.dstore (pc' := 28) C X0 d2_26 rfl (l' := #[.val (.ref a1), .val (.int p2), .val (.ref a3), .val (.int p4), .val (.int ln), .val (.double (FP.l2d ((0 : Int64) + (own_dif (own_at x0 x1 x2 x3 (p2 + (0 : Int32)).toNatClampNeg) (own_at y0 y1 y2 y3 (p4 + (0 : Int32)).toNatClampNeg)) * (own_dif (own_at x0 x1 x2 x3 (p2 + (0 : Int32)).toNatClampNeg) (own_at y0 y1 y2 y3 (p4 + (0 : Int32)).toNatClampNeg))))), .second, .val (.int (1 : Int32)), .val (.double (FP.l2d (own_dif (own_at x0 x1 x2 x3 (p2 + (1 : Int32)).toNatClampNeg) (own_at y0 y1 y2 y3 (p4 + (1 : Int32)).toNatClampNeg)))), .second]) rfl ?_
      refine OGo.dload (pc' := 30) C X0 d2_28 rfl rfl ?_
      refine OGo.dload (pc' := 32) C X0 d2_30 rfl rfl ?_
      refine OGo.dload (pc' := 34) C X0 d2_32 rfl rfl ?_
      refine OGo.dmul (pc' := 35) (v := (FP.l2d ((own_dif (own_at x0 x1 x2 x3 (p2 + (1 : Int32)).toNatClampNeg) (own_at y0 y1 y2 y3 (p4 + (1 : Int32)).toNatClampNeg)) * (own_dif (own_at x0 x1 x2 x3 (p2 + (1 : Int32)).toNatClampNeg) (own_at y0 y1 y2 y3 (p4 + (1 : Int32)).toNatClampNeg))))) C X0 d2_34 rfl (nn_w (own_dmul (own_dif_b (own_at_sh hx.1 hx.2.1 hx.2.2.1 hx.2.2.2 _) (own_at_sh hy.1 hy.2.1 hy.2.2.1 hy.2.2.2 _)))) (own_dmul (own_dif_b (own_at_sh hx.1 hx.2.1 hx.2.2.1 hx.2.2.2 _) (own_at_sh hy.1 hy.2.1 hy.2.2.1 hy.2.2.2 _))) ?_
      have sb5 := own_dadd (s := ((0 : Int64) + (own_dif (own_at x0 x1 x2 x3 (p2 + (0 : Int32)).toNatClampNeg) (own_at y0 y1 y2 y3 (p4 + (0 : Int32)).toNatClampNeg)) * (own_dif (own_at x0 x1 x2 x3 (p2 + (0 : Int32)).toNatClampNeg) (own_at y0 y1 y2 y3 (p4 + (0 : Int32)).toNatClampNeg)))) (d := (own_dif (own_at x0 x1 x2 x3 (p2 + (1 : Int32)).toNatClampNeg) (own_at y0 y1 y2 y3 (p4 + (1 : Int32)).toNatClampNeg))) (K := 4294967296 * 1) ⟨sb2.2.1, by have := sb2.2.2; omega⟩ (by decide) (own_dif_b (own_at_sh hx.1 hx.2.1 hx.2.2.1 hx.2.2.2 _) (own_at_sh hy.1 hy.2.1 hy.2.2.1 hy.2.2.2 _))
      refine OGo.dadd (pc' := 36) (v := (FP.l2d (((0 : Int64) + (own_dif (own_at x0 x1 x2 x3 (p2 + (0 : Int32)).toNatClampNeg) (own_at y0 y1 y2 y3 (p4 + (0 : Int32)).toNatClampNeg)) * (own_dif (own_at x0 x1 x2 x3 (p2 + (0 : Int32)).toNatClampNeg) (own_at y0 y1 y2 y3 (p4 + (0 : Int32)).toNatClampNeg))) + (own_dif (own_at x0 x1 x2 x3 (p2 + (1 : Int32)).toNatClampNeg) (own_at y0 y1 y2 y3 (p4 + (1 : Int32)).toNatClampNeg)) * (own_dif (own_at x0 x1 x2 x3 (p2 + (1 : Int32)).toNatClampNeg) (own_at y0 y1 y2 y3 (p4 + (1 : Int32)).toNatClampNeg))))) C X0 d2_35 rfl (nn_w sb5.1) sb5.1 ?_
      refine OGo.dstore (pc' := 38) C X0 d2_36 rfl (l' := #[.val (.ref a1), .val (.int p2), .val (.ref a3), .val (.int p4), .val (.int ln), .val (.double (FP.l2d (((0 : Int64) + (own_dif (own_at x0 x1 x2 x3 (p2 + (0 : Int32)).toNatClampNeg) (own_at y0 y1 y2 y3 (p4 + (0 : Int32)).toNatClampNeg)) * (own_dif (own_at x0 x1 x2 x3 (p2 + (0 : Int32)).toNatClampNeg) (own_at y0 y1 y2 y3 (p4 + (0 : Int32)).toNatClampNeg))) + (own_dif (own_at x0 x1 x2 x3 (p2 + (1 : Int32)).toNatClampNeg) (own_at y0 y1 y2 y3 (p4 + (1 : Int32)).toNatClampNeg)) * (own_dif (own_at x0 x1 x2 x3 (p2 + (1 : Int32)).toNatClampNeg) (own_at y0 y1 y2 y3 (p4 + (1 : Int32)).toNatClampNeg))))), .second, .val (.int (1 : Int32)), .val (.double (FP.l2d (own_dif (own_at x0 x1 x2 x3 (p2 + (1 : Int32)).toNatClampNeg) (own_at y0 y1 y2 y3 (p4 + (1 : Int32)).toNatClampNeg)))), .second]) rfl ?_
      refine OGo.iinc (pc' := 41) C X0 d2_38 rfl rfl (z := (2 : Int32)) (by decide) (l' := #[.val (.ref a1), .val (.int p2), .val (.ref a3), .val (.int p4), .val (.int ln), .val (.double (FP.l2d (((0 : Int64) + (own_dif (own_at x0 x1 x2 x3 (p2 + (0 : Int32)).toNatClampNeg) (own_at y0 y1 y2 y3 (p4 + (0 : Int32)).toNatClampNeg)) * (own_dif (own_at x0 x1 x2 x3 (p2 + (0 : Int32)).toNatClampNeg) (own_at y0 y1 y2 y3 (p4 + (0 : Int32)).toNatClampNeg))) + (own_dif (own_at x0 x1 x2 x3 (p2 + (1 : Int32)).toNatClampNeg) (own_at y0 y1 y2 y3 (p4 + (1 : Int32)).toNatClampNeg)) * (own_dif (own_at x0 x1 x2 x3 (p2 + (1 : Int32)).toNatClampNeg) (own_at y0 y1 y2 y3 (p4 + (1 : Int32)).toNatClampNeg))))), .second, .val (.int (2 : Int32)), .val (.double (FP.l2d (own_dif (own_at x0 x1 x2 x3 (p2 + (1 : Int32)).toNatClampNeg) (own_at y0 y1 y2 y3 (p4 + (1 : Int32)).toNatClampNeg)))), .second]) rfl ?_
      refine OGo.goto (pc' := 6) C X0 d2_41 (by decide) (by decide) ?_
      refine OGo.iload (pc' := 8) C X0 d2_6 rfl rfl ?_
      refine OGo.iload (pc' := 10) C X0 d2_8 rfl rfl ?_
      by_cases hc7 : (2 : Int32) < ln
      · refine OGo.icmpNo (pc' := 13) C X0 d2_10 rfl (tlt hc7).2.1 ?_
        refine OGo.aloadN (pc' := 14) C X0 d2_13 rfl rfl rfl ?_
        refine OGo.iloadN (pc' := 15) C X0 d2_14 rfl rfl ?_
        refine OGo.iload (pc' := 17) C X0 d2_15 rfl rfl ?_
        refine OGo.iadd (pc' := 18) (z := (p2 + (2 : Int32))) C X0 d2_17 rfl rfl ?_
        refine OGo.daload (pc' := 19) C X0 V1 d2_18 rfl (own_in hA (by decide) hc7) (v := (FP.i2d (own_at x0 x1 x2 x3 (p2 + (2 : Int32)).toNatClampNeg))) (own_at_d _ _ _ _ _) ?_
        refine OGo.aloadN (pc' := 20) C X0 d2_19 rfl rfl rfl ?_
        refine OGo.iloadN (pc' := 21) C X0 d2_20 rfl rfl ?_
        refine OGo.iload (pc' := 23) C X0 d2_21 rfl rfl ?_
        refine OGo.iadd (pc' := 24) (z := (p4 + (2 : Int32))) C X0 d2_23 rfl rfl ?_
        refine OGo.daload (pc' := 25) C X0 V3 d2_24 rfl (own_in hB (by decide) hc7) (v := (FP.i2d (own_at y0 y1 y2 y3 (p4 + (2 : Int32)).toNatClampNeg))) (own_at_d _ _ _ _ _) ?_
        refine OGo.dsub (pc' := 26) (v := (FP.l2d (own_dif (own_at x0 x1 x2 x3 (p2 + (2 : Int32)).toNatClampNeg) (own_at y0 y1 y2 y3 (p4 + (2 : Int32)).toNatClampNeg)))) C X0 d2_25 rfl (nn_w (own_dsub (own_at_sh hx.1 hx.2.1 hx.2.2.1 hx.2.2.2 _) (own_at_sh hy.1 hy.2.1 hy.2.2.1 hy.2.2.2 _))) (own_dsub (own_at_sh hx.1 hx.2.1 hx.2.2.1 hx.2.2.2 _) (own_at_sh hy.1 hy.2.1 hy.2.2.1 hy.2.2.2 _)) ?_
        refine OGo.dstore (pc' := 28) C X0 d2_26 rfl (l' := #[.val (.ref a1), .val (.int p2), .val (.ref a3), .val (.int p4), .val (.int ln), .val (.double (FP.l2d (((0 : Int64) + (own_dif (own_at x0 x1 x2 x3 (p2 + (0 : Int32)).toNatClampNeg) (own_at y0 y1 y2 y3 (p4 + (0 : Int32)).toNatClampNeg)) * (own_dif (own_at x0 x1 x2 x3 (p2 + (0 : Int32)).toNatClampNeg) (own_at y0 y1 y2 y3 (p4 + (0 : Int32)).toNatClampNeg))) + (own_dif (own_at x0 x1 x2 x3 (p2 + (1 : Int32)).toNatClampNeg) (own_at y0 y1 y2 y3 (p4 + (1 : Int32)).toNatClampNeg)) * (own_dif (own_at x0 x1 x2 x3 (p2 + (1 : Int32)).toNatClampNeg) (own_at y0 y1 y2 y3 (p4 + (1 : Int32)).toNatClampNeg))))), .second, .val (.int (2 : Int32)), .val (.double (FP.l2d (own_dif (own_at x0 x1 x2 x3 (p2 + (2 : Int32)).toNatClampNeg) (own_at y0 y1 y2 y3 (p4 + (2 : Int32)).toNatClampNeg)))), .second]) rfl ?_
        refine OGo.dload (pc' := 30) C X0 d2_28 rfl rfl ?_
        refine OGo.dload (pc' := 32) C X0 d2_30 rfl rfl ?_
        refine OGo.dload (pc' := 34) C X0 d2_32 rfl rfl ?_
        refine OGo.dmul (pc' := 35) (v := (FP.l2d ((own_dif (own_at x0 x1 x2 x3 (p2 + (2 : Int32)).toNatClampNeg) (own_at y0 y1 y2 y3 (p4 + (2 : Int32)).toNatClampNeg)) * (own_dif (own_at x0 x1 x2 x3 (p2 + (2 : Int32)).toNatClampNeg) (own_at y0 y1 y2 y3 (p4 + (2 : Int32)).toNatClampNeg))))) C X0 d2_34 rfl (nn_w (own_dmul (own_dif_b (own_at_sh hx.1 hx.2.1 hx.2.2.1 hx.2.2.2 _) (own_at_sh hy.1 hy.2.1 hy.2.2.1 hy.2.2.2 _)))) (own_dmul (own_dif_b (own_at_sh hx.1 hx.2.1 hx.2.2.1 hx.2.2.2 _) (own_at_sh hy.1 hy.2.1 hy.2.2.1 hy.2.2.2 _))) ?_
        have sb8 := own_dadd (s := (((0 : Int64) + (own_dif (own_at x0 x1 x2 x3 (p2 + (0 : Int32)).toNatClampNeg) (own_at y0 y1 y2 y3 (p4 + (0 : Int32)).toNatClampNeg)) * (own_dif (own_at x0 x1 x2 x3 (p2 + (0 : Int32)).toNatClampNeg) (own_at y0 y1 y2 y3 (p4 + (0 : Int32)).toNatClampNeg))) + (own_dif (own_at x0 x1 x2 x3 (p2 + (1 : Int32)).toNatClampNeg) (own_at y0 y1 y2 y3 (p4 + (1 : Int32)).toNatClampNeg)) * (own_dif (own_at x0 x1 x2 x3 (p2 + (1 : Int32)).toNatClampNeg) (own_at y0 y1 y2 y3 (p4 + (1 : Int32)).toNatClampNeg)))) (d := (own_dif (own_at x0 x1 x2 x3 (p2 + (2 : Int32)).toNatClampNeg) (own_at y0 y1 y2 y3 (p4 + (2 : Int32)).toNatClampNeg))) (K := 4294967296 * 2) ⟨sb5.2.1, by have := sb5.2.2; omega⟩ (by decide) (own_dif_b (own_at_sh hx.1 hx.2.1 hx.2.2.1 hx.2.2.2 _) (own_at_sh hy.1 hy.2.1 hy.2.2.1 hy.2.2.2 _))
        refine OGo.dadd (pc' := 36) (v := (FP.l2d ((((0 : Int64) + (own_dif (own_at x0 x1 x2 x3 (p2 + (0 : Int32)).toNatClampNeg) (own_at y0 y1 y2 y3 (p4 + (0 : Int32)).toNatClampNeg)) * (own_dif (own_at x0 x1 x2 x3 (p2 + (0 : Int32)).toNatClampNeg) (own_at y0 y1 y2 y3 (p4 + (0 : Int32)).toNatClampNeg))) + (own_dif (own_at x0 x1 x2 x3 (p2 + (1 : Int32)).toNatClampNeg) (own_at y0 y1 y2 y3 (p4 + (1 : Int32)).toNatClampNeg)) * (own_dif (own_at x0 x1 x2 x3 (p2 + (1 : Int32)).toNatClampNeg) (own_at y0 y1 y2 y3 (p4 + (1 : Int32)).toNatClampNeg))) + (own_dif (own_at x0 x1 x2 x3 (p2 + (2 : Int32)).toNatClampNeg) (own_at y0 y1 y2 y3 (p4 + (2 : Int32)).toNatClampNeg)) * (own_dif (own_at x0 x1 x2 x3 (p2 + (2 : Int32)).toNatClampNeg) (own_at y0 y1 y2 y3 (p4 + (2 : Int32)).toNatClampNeg))))) C X0 d2_35 rfl (nn_w sb8.1) sb8.1 ?_
        refine OGo.dstore (pc' := 38) C X0 d2_36 rfl (l' := #[.val (.ref a1), .val (.int p2), .val (.ref a3), .val (.int p4), .val (.int ln), .val (.double (FP.l2d ((((0 : Int64) + (own_dif (own_at x0 x1 x2 x3 (p2 + (0 : Int32)).toNatClampNeg) (own_at y0 y1 y2 y3 (p4 + (0 : Int32)).toNatClampNeg)) * (own_dif (own_at x0 x1 x2 x3 (p2 + (0 : Int32)).toNatClampNeg) (own_at y0 y1 y2 y3 (p4 + (0 : Int32)).toNatClampNeg))) + (own_dif (own_at x0 x1 x2 x3 (p2 + (1 : Int32)).toNatClampNeg) (own_at y0 y1 y2 y3 (p4 + (1 : Int32)).toNatClampNeg)) * (own_dif (own_at x0 x1 x2 x3 (p2 + (1 : Int32)).toNatClampNeg) (own_at y0 y1 y2 y3 (p4 + (1 : Int32)).toNatClampNeg))) + (own_dif (own_at x0 x1 x2 x3 (p2 + (2 : Int32)).toNatClampNeg) (own_at y0 y1 y2 y3 (p4 + (2 : Int32)).toNatClampNeg)) * (own_dif (own_at x0 x1 x2 x3 (p2 + (2 : Int32)).toNatClampNeg) (own_at y0 y1 y2 y3 (p4 + (2 : Int32)).toNatClampNeg))))), .second, .val (.int (2 : Int32)), .val (.double (FP.l2d (own_dif (own_at x0 x1 x2 x3 (p2 + (2 : Int32)).toNatClampNeg) (own_at y0 y1 y2 y3 (p4 + (2 : Int32)).toNatClampNeg)))), .second]) rfl ?_
        refine OGo.iinc (pc' := 41) C X0 d2_38 rfl rfl (z := (3 : Int32)) (by decide) (l' := #[.val (.ref a1), .val (.int p2), .val (.ref a3), .val (.int p4), .val (.int ln), .val (.double (FP.l2d ((((0 : Int64) + (own_dif (own_at x0 x1 x2 x3 (p2 + (0 : Int32)).toNatClampNeg) (own_at y0 y1 y2 y3 (p4 + (0 : Int32)).toNatClampNeg)) * (own_dif (own_at x0 x1 x2 x3 (p2 + (0 : Int32)).toNatClampNeg) (own_at y0 y1 y2 y3 (p4 + (0 : Int32)).toNatClampNeg))) + (own_dif (own_at x0 x1 x2 x3 (p2 + (1 : Int32)).toNatClampNeg) (own_at y0 y1 y2 y3 (p4 + (1 : Int32)).toNatClampNeg)) * (own_dif (own_at x0 x1 x2 x3 (p2 + (1 : Int32)).toNatClampNeg) (own_at y0 y1 y2 y3 (p4 + (1 : Int32)).toNatClampNeg))) + (own_dif (own_at x0 x1 x2 x3 (p2 + (2 : Int32)).toNatClampNeg) (own_at y0 y1 y2 y3 (p4 + (2 : Int32)).toNatClampNeg)) * (own_dif (own_at x0 x1 x2 x3 (p2 + (2 : Int32)).toNatClampNeg) (own_at y0 y1 y2 y3 (p4 + (2 : Int32)).toNatClampNeg))))), .second, .val (.int (3 : Int32)), .val (.double (FP.l2d (own_dif (own_at x0 x1 x2 x3 (p2 + (2 : Int32)).toNatClampNeg) (own_at y0 y1 y2 y3 (p4 + (2 : Int32)).toNatClampNeg)))), .second]) rfl ?_
        refine OGo.goto (pc' := 6) C X0 d2_41 (by decide) (by decide) ?_
        refine OGo.iload (pc' := 8) C X0 d2_6 rfl rfl ?_
        refine OGo.iload (pc' := 10) C X0 d2_8 rfl rfl ?_
        refine OGo.icmpYes (pc' := 44) C X0 d2_10 (flt (by rw [Int32.lt_iff_toInt_lt]; have e : (3 : Int32).toInt = 3 := (by decide); rw [e]; omega)).2.1 (by decide) (by decide) ?_
        refine OGo.dload (pc' := 46) C X0 d2_44 rfl rfl ?_
        exact OGo.retD C X0 d2_46 hret hlk (⟨by simp only [own_got, hc1, hc4, hc7, if_true, if_false], rfl⟩) (by decide) (by decide)
      · refine OGo.icmpYes (pc' := 44) C X0 d2_10 (flt hc7).2.1 (by decide) (by decide) ?_
        refine OGo.dload (pc' := 46) C X0 d2_44 rfl rfl ?_
        exact OGo.retD C X0 d2_46 hret hlk (⟨by simp only [own_got, hc1, hc4, hc7, if_true, if_false], rfl⟩) (by decide) (by decide)
    · refine OGo.icmpYes (pc' := 44) C X0 d2_10 (flt hc4).2.1 (by decide) (by decide) ?_
      refine OGo.dload (pc' := 46) C X0 d2_44 rfl rfl ?_
      exact OGo.retD C X0 d2_46 hret hlk (⟨by simp only [own_got, hc1, hc4, if_true, if_false], rfl⟩) (by decide) (by decide)
  · refine OGo.icmpYes (pc' := 44) C X0 d2_10 (flt hc1).2.1 (by decide) (by decide) ?_
    refine OGo.dload (pc' := 46) C X0 d2_44 rfl rfl ?_
    exact OGo.retD C X0 d2_46 hret hlk (⟨by simp only [own_got, hc1, if_true, if_false], rfl⟩) (by decide) (by decide)
theorem ef0 (m : MethodId) (x0 : Int64) (x1 : Int64) (x2 : Int32) : entryFrame m #[(.long x0), (.long x1), (.int x2)] maxLocals = mkF m 0 #[.val (.long x0), .second, .val (.long x1), .second, .val (.int x2), .unset, .unset, .unset, .unset, .unset, .unset, .unset, .unset, .unset, .unset, .unset] [] := by first | (simp [entryFrame, mkF, argsToLocals, Value.category, maxLocals]; done) | rfl
set_option maxRecDepth 65536 in
set_option maxHeartbeats 40000000 in
theorem ct0 {l : Launch} {Z : State} {a0 : Array Value} (hw : HW a0 Z) {n0 : Nat} {h0 : Heap} (hn0 : n0 ≤ h0.size) (i0 i1 : Int64) (i2 : Int32)  :
    Ctr l Z x code maxLocals ret room_1 n0 #[(.long i0), (.long i1), (.int i2)] h0 (fun v h => v = some (.int 1)) := by
  refine Ctr.of (plainFor_of_name pn0) hn0 ?_
  intro p e s m below meth c T0 C hnm hret hlk X0
  rw [ef0 m i0 i1 i2]
  refine OGo.iload (pc' := 2) C X0 at_0 rfl rfl ?_
  refine OGo.iconst (pc' := 3) (z := (3 : Int32)) C X0 at_2 rfl (by decide) ?_
  obtain ⟨ln, h_ln⟩ : ∃ z : Int32, i2 &&& (3 : Int32) = z := ⟨_, rfl⟩
  refine OGo.iand (pc' := 4) (z := ln) C X0 at_3 rfl h_ln ?_
  refine OGo.istore (pc' := 6) C X0 at_4 rfl (l' := #[.val (.long i0), .second, .val (.long i1), .second, .val (.int i2), .val (.int ln), .unset, .unset, .unset, .unset, .unset, .unset, .unset, .unset, .unset, .unset]) rfl ?_
  have hl : ln.toInt = i2.toInt % 4 := by rw [← h_ln]; exact c_mask _ _ 2 (by decide) (by decide)
  have hl3 : ln.toInt ≤ 3 := by omega
  have hl0 : 0 ≤ ln.toInt := by omega
  have h5 : ((5 : Int32) - ln).toInt = 5 - ln.toInt := (Int32.toInt_sub _ _).trans (Int.bmod_eq_of_le (by have e : (5 : Int32).toInt = 5 := (by decide); omega) (by have e : (5 : Int32).toInt = 5 := (by decide); omega))
  have hnz : (5 : Int32) - ln ≠ 0 := fun z => by rw [z] at h5; have e : (0 : Int32).toInt = 0 := (by decide); omega
  refine OGo.iload (pc' := 8) C X0 at_6 rfl rfl ?_
  refine OGo.iconst (pc' := 9) (z := (2 : Int32)) C X0 at_8 rfl (by decide) ?_
  refine OGo.iushr (pc' := 10) (z := ((i2.toUInt32 >>> ((2 : Int32) &&& 31).toUInt32).toInt32)) C X0 at_9 rfl rfl ?_
  refine OGo.bipush (pc' := 12) (z := (7 : Int32)) C X0 at_10 rfl (by decide) ?_
  obtain ⟨am, h_am⟩ : ∃ z : Int32, ((i2.toUInt32 >>> ((2 : Int32) &&& 31).toUInt32).toInt32) &&& (7 : Int32) = z := ⟨_, rfl⟩
  refine OGo.iand (pc' := 13) (z := am) C X0 at_12 rfl h_am ?_
  refine OGo.iconst (pc' := 14) (z := (5 : Int32)) C X0 at_13 rfl (by decide) ?_
  refine OGo.iload (pc' := 16) C X0 at_14 rfl rfl ?_
  refine OGo.isub (pc' := 17) (z := ((5 : Int32) - ln)) C X0 at_16 rfl rfl ?_
  obtain ⟨ao, h_ao⟩ : ∃ z : Int32, am % ((5 : Int32) - ln) = z := ⟨_, rfl⟩
  refine OGo.irem (pc' := 18) (z := ao) C X0 at_17 rfl hnz h_ao ?_
  refine OGo.istore (pc' := 20) C X0 at_18 rfl (l' := #[.val (.long i0), .second, .val (.long i1), .second, .val (.int i2), .val (.int ln), .val (.int ao), .unset, .unset, .unset, .unset, .unset, .unset, .unset, .unset, .unset]) rfl ?_
  have ha : own_off ao ln := by
    have q := (c_iremV am (5 - ln)).1 (by rw [← h_am]; exact (c_and _ 7 (by decide)).1) (by omega)
    rw [h_ao] at q
    exact ⟨q.1, by omega, hl0⟩
  refine OGo.iload (pc' := 22) C X0 at_20 rfl rfl ?_
  refine OGo.iconst (pc' := 23) (z := (5 : Int32)) C X0 at_22 rfl (by decide) ?_
  refine OGo.iushr (pc' := 24) (z := ((i2.toUInt32 >>> ((5 : Int32) &&& 31).toUInt32).toInt32)) C X0 at_23 rfl rfl ?_
  refine OGo.bipush (pc' := 26) (z := (7 : Int32)) C X0 at_24 rfl (by decide) ?_
  obtain ⟨bm, h_bm⟩ : ∃ z : Int32, ((i2.toUInt32 >>> ((5 : Int32) &&& 31).toUInt32).toInt32) &&& (7 : Int32) = z := ⟨_, rfl⟩
  refine OGo.iand (pc' := 27) (z := bm) C X0 at_26 rfl h_bm ?_
  refine OGo.iconst (pc' := 28) (z := (5 : Int32)) C X0 at_27 rfl (by decide) ?_
  refine OGo.iload (pc' := 30) C X0 at_28 rfl rfl ?_
  refine OGo.isub (pc' := 31) (z := ((5 : Int32) - ln)) C X0 at_30 rfl rfl ?_
  obtain ⟨bo, h_bo⟩ : ∃ z : Int32, bm % ((5 : Int32) - ln) = z := ⟨_, rfl⟩
  refine OGo.irem (pc' := 32) (z := bo) C X0 at_31 rfl hnz h_bo ?_
  refine OGo.istore (pc' := 34) C X0 at_32 rfl (l' := #[.val (.long i0), .second, .val (.long i1), .second, .val (.int i2), .val (.int ln), .val (.int ao), .val (.int bo), .unset, .unset, .unset, .unset, .unset, .unset, .unset, .unset]) rfl ?_
  have hb : own_off bo ln := by
    have q := (c_iremV bm (5 - ln)).1 (by rw [← h_bm]; exact (c_and _ 7 (by decide)).1) (by omega)
    rw [h_bo] at q
    exact ⟨q.1, by omega, hl0⟩
  refine OGo.iconst (pc' := 35) (z := (4 : Int32)) C X0 at_34 rfl (by decide) ?_
  refine OGo.newarray (pc' := 37) (cap := 4) (d0 := (.int (0 : Int32))) (cells' := 1) (slots' := 4) C X0 (wd0 hw) rfl at_35 rfl (by decide) (by decide) (by decide) rfl rfl rfl (by decide) (by decide) (fun T1 h1 a1 k1 X1 g1 q1 E1 V1 => ?_)
  replace V1 : Arv Z h1 a1 k1 .int (4 : Int32) [(.int (0 : Int32)), (.int (0 : Int32)), (.int (0 : Int32)), (.int (0 : Int32))] (.int (0 : Int32)) := V1.pad (pad_rep [] (.int (0 : Int32)) 4)
  refine OGo.astore (pc' := 39) C X1 at_37 rfl rfl (l' := #[.val (.long i0), .second, .val (.long i1), .second, .val (.int i2), .val (.int ln), .val (.int ao), .val (.int bo), .val (.ref a1), .unset, .unset, .unset, .unset, .unset, .unset, .unset]) rfl ?_
  refine OGo.iconst (pc' := 40) (z := (4 : Int32)) C X1 at_39 rfl (by decide) ?_
  refine OGo.newarray (pc' := 42) (cap := 4) (d0 := (.int (0 : Int32))) (cells' := 2) (slots' := 8) C X1 (wd0 hw) rfl at_40 rfl (by decide) (by decide) (by decide) rfl rfl rfl (by decide) (by decide) (fun T2 h2 a2 k2 X2 g2 q2 E2 V2 => ?_)
  have ne3 : a1 ≠ a2 := Nat.ne_of_lt (Nat.lt_of_lt_of_eq V1.lt g2.symm)
  replace V2 : Arv Z h2 a2 k2 .int (4 : Int32) [(.int (0 : Int32)), (.int (0 : Int32)), (.int (0 : Int32)), (.int (0 : Int32))] (.int (0 : Int32)) := V2.pad (pad_rep [] (.int (0 : Int32)) 4)
  refine OGo.astore (pc' := 44) C X2 at_42 rfl rfl (l' := #[.val (.long i0), .second, .val (.long i1), .second, .val (.int i2), .val (.int ln), .val (.int ao), .val (.int bo), .val (.ref a1), .val (.ref a2), .unset, .unset, .unset, .unset, .unset, .unset]) rfl ?_
  refine OGo.aload (pc' := 46) C X2 at_44 rfl rfl rfl ?_
  refine OGo.iconst (pc' := 47) (z := (0 : Int32)) C X2 at_46 rfl (by decide) ?_
  refine OGo.lloadN (pc' := 48) C X2 at_47 rfl rfl ?_
  refine OGo.l2i (pc' := 49) (z := (i0.toInt32)) C X2 at_48 rfl rfl ?_
  obtain ⟨x0, h_x0⟩ : ∃ z : Int32, (i0.toInt32).toInt16.toInt32 = z := ⟨_, rfl⟩
  refine OGo.i2s (pc' := 50) (z := x0) C X2 at_49 rfl h_x0 ?_
  have f4 := (V1.ext E2)
  refine OGo.iastore (pc' := 51) C X2 f4 q1 (i := 0) at_50 rfl ⟨by decide, by decide⟩ (by decide) (Nat.le_of_ble_eq_true rfl) (fun T5 h5 X5 W5 V5 => ?_)
  replace V5 : Arv Z h5 a1 k1 .int (4 : Int32) [(.int x0), (.int (0 : Int32)), (.int (0 : Int32)), (.int (0 : Int32))] (.int (0 : Int32)) := V5
  refine OGo.aload (pc' := 53) C X5 at_51 rfl rfl rfl ?_
  refine OGo.iconst (pc' := 54) (z := (1 : Int32)) C X5 at_53 rfl (by decide) ?_
  refine OGo.lloadN (pc' := 55) C X5 at_54 rfl rfl ?_
  refine OGo.bipush (pc' := 57) (z := (16 : Int32)) C X5 at_55 rfl (by decide) ?_
  refine OGo.lshr (pc' := 58) (z := (i0 >>> ((16 : Int32) &&& 0x3f).toInt64)) C X5 at_57 rfl rfl ?_
  refine OGo.l2i (pc' := 59) (z := ((i0 >>> ((16 : Int32) &&& 0x3f).toInt64).toInt32)) C X5 at_58 rfl rfl ?_
  obtain ⟨x1, h_x1⟩ : ∃ z : Int32, ((i0 >>> ((16 : Int32) &&& 0x3f).toInt64).toInt32).toInt16.toInt32 = z := ⟨_, rfl⟩
  refine OGo.i2s (pc' := 60) (z := x1) C X5 at_59 rfl h_x1 ?_
  refine OGo.iastore (pc' := 61) C X5 V5 q1 (i := 1) at_60 rfl ⟨by decide, by decide⟩ (by decide) (Nat.le_of_ble_eq_true rfl) (fun T6 h6 X6 W6 V6 => ?_)
  replace V6 : Arv Z h6 a1 k1 .int (4 : Int32) [(.int x0), (.int x1), (.int (0 : Int32)), (.int (0 : Int32))] (.int (0 : Int32)) := V6
  refine OGo.aload (pc' := 63) C X6 at_61 rfl rfl rfl ?_
  refine OGo.iconst (pc' := 64) (z := (2 : Int32)) C X6 at_63 rfl (by decide) ?_
  refine OGo.lloadN (pc' := 65) C X6 at_64 rfl rfl ?_
  refine OGo.bipush (pc' := 67) (z := (32 : Int32)) C X6 at_65 rfl (by decide) ?_
  refine OGo.lshr (pc' := 68) (z := (i0 >>> ((32 : Int32) &&& 0x3f).toInt64)) C X6 at_67 rfl rfl ?_
  refine OGo.l2i (pc' := 69) (z := ((i0 >>> ((32 : Int32) &&& 0x3f).toInt64).toInt32)) C X6 at_68 rfl rfl ?_
  obtain ⟨x2, h_x2⟩ : ∃ z : Int32, ((i0 >>> ((32 : Int32) &&& 0x3f).toInt64).toInt32).toInt16.toInt32 = z := ⟨_, rfl⟩
  refine OGo.i2s (pc' := 70) (z := x2) C X6 at_69 rfl h_x2 ?_
  refine OGo.iastore (pc' := 71) C X6 V6 q1 (i := 2) at_70 rfl ⟨by decide, by decide⟩ (by decide) (Nat.le_of_ble_eq_true rfl) (fun T7 h7 X7 W7 V7 => ?_)
  replace V7 : Arv Z h7 a1 k1 .int (4 : Int32) [(.int x0), (.int x1), (.int x2), (.int (0 : Int32))] (.int (0 : Int32)) := V7
  refine OGo.aload (pc' := 73) C X7 at_71 rfl rfl rfl ?_
  refine OGo.iconst (pc' := 74) (z := (3 : Int32)) C X7 at_73 rfl (by decide) ?_
  refine OGo.lloadN (pc' := 75) C X7 at_74 rfl rfl ?_
  refine OGo.bipush (pc' := 77) (z := (48 : Int32)) C X7 at_75 rfl (by decide) ?_
  refine OGo.lshr (pc' := 78) (z := (i0 >>> ((48 : Int32) &&& 0x3f).toInt64)) C X7 at_77 rfl rfl ?_
  refine OGo.l2i (pc' := 79) (z := ((i0 >>> ((48 : Int32) &&& 0x3f).toInt64).toInt32)) C X7 at_78 rfl rfl ?_
  obtain ⟨x3, h_x3⟩ : ∃ z : Int32, ((i0 >>> ((48 : Int32) &&& 0x3f).toInt64).toInt32).toInt16.toInt32 = z := ⟨_, rfl⟩
  refine OGo.i2s (pc' := 80) (z := x3) C X7 at_79 rfl h_x3 ?_
  refine OGo.iastore (pc' := 81) C X7 V7 q1 (i := 3) at_80 rfl ⟨by decide, by decide⟩ (by decide) (Nat.le_of_ble_eq_true rfl) (fun T8 h8 X8 W8 V8 => ?_)
  replace V8 : Arv Z h8 a1 k1 .int (4 : Int32) [(.int x0), (.int x1), (.int x2), (.int x3)] (.int (0 : Int32)) := V8
  refine OGo.aload (pc' := 83) C X8 at_81 rfl rfl rfl ?_
  refine OGo.iconst (pc' := 84) (z := (0 : Int32)) C X8 at_83 rfl (by decide) ?_
  refine OGo.lloadN (pc' := 85) C X8 at_84 rfl rfl ?_
  refine OGo.l2i (pc' := 86) (z := (i1.toInt32)) C X8 at_85 rfl rfl ?_
  obtain ⟨y0, h_y0⟩ : ∃ z : Int32, (i1.toInt32).toInt16.toInt32 = z := ⟨_, rfl⟩
  refine OGo.i2s (pc' := 87) (z := y0) C X8 at_86 rfl h_y0 ?_
  have f9 := ((((V2.other W5 (Ne.symm ne3)).other W6 (Ne.symm ne3)).other W7 (Ne.symm ne3)).other W8 (Ne.symm ne3))
  refine OGo.iastore (pc' := 88) C X8 f9 q2 (i := 0) at_87 rfl ⟨by decide, by decide⟩ (by decide) (Nat.le_of_ble_eq_true rfl) (fun T10 h10 X10 W10 V10 => ?_)
  replace V10 : Arv Z h10 a2 k2 .int (4 : Int32) [(.int y0), (.int (0 : Int32)), (.int (0 : Int32)), (.int (0 : Int32))] (.int (0 : Int32)) := V10
  refine OGo.aload (pc' := 90) C X10 at_88 rfl rfl rfl ?_
  refine OGo.iconst (pc' := 91) (z := (1 : Int32)) C X10 at_90 rfl (by decide) ?_
  refine OGo.lloadN (pc' := 92) C X10 at_91 rfl rfl ?_
  refine OGo.bipush (pc' := 94) (z := (16 : Int32)) C X10 at_92 rfl (by decide) ?_
  refine OGo.lshr (pc' := 95) (z := (i1 >>> ((16 : Int32) &&& 0x3f).toInt64)) C X10 at_94 rfl rfl ?_
  refine OGo.l2i (pc' := 96) (z := ((i1 >>> ((16 : Int32) &&& 0x3f).toInt64).toInt32)) C X10 at_95 rfl rfl ?_
  obtain ⟨y1, h_y1⟩ : ∃ z : Int32, ((i1 >>> ((16 : Int32) &&& 0x3f).toInt64).toInt32).toInt16.toInt32 = z := ⟨_, rfl⟩
  refine OGo.i2s (pc' := 97) (z := y1) C X10 at_96 rfl h_y1 ?_
  refine OGo.iastore (pc' := 98) C X10 V10 q2 (i := 1) at_97 rfl ⟨by decide, by decide⟩ (by decide) (Nat.le_of_ble_eq_true rfl) (fun T11 h11 X11 W11 V11 => ?_)
  replace V11 : Arv Z h11 a2 k2 .int (4 : Int32) [(.int y0), (.int y1), (.int (0 : Int32)), (.int (0 : Int32))] (.int (0 : Int32)) := V11
  refine OGo.aload (pc' := 100) C X11 at_98 rfl rfl rfl ?_
  refine OGo.iconst (pc' := 101) (z := (2 : Int32)) C X11 at_100 rfl (by decide) ?_
  refine OGo.lloadN (pc' := 102) C X11 at_101 rfl rfl ?_
  refine OGo.bipush (pc' := 104) (z := (32 : Int32)) C X11 at_102 rfl (by decide) ?_
  refine OGo.lshr (pc' := 105) (z := (i1 >>> ((32 : Int32) &&& 0x3f).toInt64)) C X11 at_104 rfl rfl ?_
  refine OGo.l2i (pc' := 106) (z := ((i1 >>> ((32 : Int32) &&& 0x3f).toInt64).toInt32)) C X11 at_105 rfl rfl ?_
  obtain ⟨y2, h_y2⟩ : ∃ z : Int32, ((i1 >>> ((32 : Int32) &&& 0x3f).toInt64).toInt32).toInt16.toInt32 = z := ⟨_, rfl⟩
  refine OGo.i2s (pc' := 107) (z := y2) C X11 at_106 rfl h_y2 ?_
  refine OGo.iastore (pc' := 108) C X11 V11 q2 (i := 2) at_107 rfl ⟨by decide, by decide⟩ (by decide) (Nat.le_of_ble_eq_true rfl) (fun T12 h12 X12 W12 V12 => ?_)
  replace V12 : Arv Z h12 a2 k2 .int (4 : Int32) [(.int y0), (.int y1), (.int y2), (.int (0 : Int32))] (.int (0 : Int32)) := V12
  refine OGo.aload (pc' := 110) C X12 at_108 rfl rfl rfl ?_
  refine OGo.iconst (pc' := 111) (z := (3 : Int32)) C X12 at_110 rfl (by decide) ?_
  refine OGo.lloadN (pc' := 112) C X12 at_111 rfl rfl ?_
  refine OGo.bipush (pc' := 114) (z := (48 : Int32)) C X12 at_112 rfl (by decide) ?_
  refine OGo.lshr (pc' := 115) (z := (i1 >>> ((48 : Int32) &&& 0x3f).toInt64)) C X12 at_114 rfl rfl ?_
  refine OGo.l2i (pc' := 116) (z := ((i1 >>> ((48 : Int32) &&& 0x3f).toInt64).toInt32)) C X12 at_115 rfl rfl ?_
  obtain ⟨y3, h_y3⟩ : ∃ z : Int32, ((i1 >>> ((48 : Int32) &&& 0x3f).toInt64).toInt32).toInt16.toInt32 = z := ⟨_, rfl⟩
  refine OGo.i2s (pc' := 117) (z := y3) C X12 at_116 rfl h_y3 ?_
  refine OGo.iastore (pc' := 118) C X12 V12 q2 (i := 3) at_117 rfl ⟨by decide, by decide⟩ (by decide) (Nat.le_of_ble_eq_true rfl) (fun T13 h13 X13 W13 V13 => ?_)
  replace V13 : Arv Z h13 a2 k2 .int (4 : Int32) [(.int y0), (.int y1), (.int y2), (.int y3)] (.int (0 : Int32)) := V13
  refine OGo.iconst (pc' := 119) (z := (4 : Int32)) C X13 at_118 rfl (by decide) ?_
  refine OGo.newarray (pc' := 121) (cap := 4) (d0 := (.double (0 : UInt64))) (cells' := 3) (slots' := 12) C X13 (wd1 hw) rfl at_119 rfl (by decide) (by decide) (by decide) rfl rfl rfl (by decide) (by decide) (fun T14 h14 a14 k14 X14 g14 q14 E14 V14 => ?_)
  have f16 := ((((V8.other W10 ne3).other W11 ne3).other W12 ne3).other W13 ne3)
  have ne15 : a1 ≠ a14 := Nat.ne_of_lt (Nat.lt_of_lt_of_eq f16.lt g14.symm)
  have ne17 : a2 ≠ a14 := Nat.ne_of_lt (Nat.lt_of_lt_of_eq V13.lt g14.symm)
  replace V14 : Arv Z h14 a14 k14 .double (4 : Int32) [(.double (0 : UInt64)), (.double (0 : UInt64)), (.double (0 : UInt64)), (.double (0 : UInt64))] (.double (0 : UInt64)) := V14.pad (pad_rep [] (.double (0 : UInt64)) 4)
  refine OGo.astore (pc' := 123) C X14 at_121 rfl rfl (l' := #[.val (.long i0), .second, .val (.long i1), .second, .val (.int i2), .val (.int ln), .val (.int ao), .val (.int bo), .val (.ref a1), .val (.ref a2), .val (.ref a14), .unset, .unset, .unset, .unset, .unset]) rfl ?_
  refine OGo.iconst (pc' := 124) (z := (4 : Int32)) C X14 at_123 rfl (by decide) ?_
  refine OGo.newarray (pc' := 126) (cap := 4) (d0 := (.double (0 : UInt64))) (cells' := 4) (slots' := 16) C X14 (wd1 hw) rfl at_124 rfl (by decide) (by decide) (by decide) rfl rfl rfl (by decide) (by decide) (fun T18 h18 a18 k18 X18 g18 q18 E18 V18 => ?_)
  have f20 := (f16.ext E14)
  have ne19 : a1 ≠ a18 := Nat.ne_of_lt (Nat.lt_of_lt_of_eq f20.lt g18.symm)
  have f22 := (V13.ext E14)
  have ne21 : a2 ≠ a18 := Nat.ne_of_lt (Nat.lt_of_lt_of_eq f22.lt g18.symm)
  have ne23 : a14 ≠ a18 := Nat.ne_of_lt (Nat.lt_of_lt_of_eq V14.lt g18.symm)
  replace V18 : Arv Z h18 a18 k18 .double (4 : Int32) [(.double (0 : UInt64)), (.double (0 : UInt64)), (.double (0 : UInt64)), (.double (0 : UInt64))] (.double (0 : UInt64)) := V18.pad (pad_rep [] (.double (0 : UInt64)) 4)
  refine OGo.astore (pc' := 128) C X18 at_126 rfl rfl (l' := #[.val (.long i0), .second, .val (.long i1), .second, .val (.int i2), .val (.int ln), .val (.int ao), .val (.int bo), .val (.ref a1), .val (.ref a2), .val (.ref a14), .val (.ref a18), .unset, .unset, .unset, .unset]) rfl ?_
  refine OGo.aload (pc' := 130) C X18 at_128 rfl rfl rfl ?_
  refine OGo.iconst (pc' := 131) (z := (0 : Int32)) C X18 at_130 rfl (by decide) ?_
  refine OGo.aload (pc' := 133) C X18 at_131 rfl rfl rfl ?_
  refine OGo.iconst (pc' := 134) (z := (0 : Int32)) C X18 at_133 rfl (by decide) ?_
  have f24 := (f20.ext E18)
  refine OGo.iaload (pc' := 135) C X18 f24 at_134 rfl ⟨by decide, by decide⟩ (v := x0) rfl ?_
  refine OGo.i2d (pc' := 136) (v := (FP.i2d x0)) C X18 at_135 rfl rfl ?_
  have f25 := (V14.ext E18)
  refine OGo.dastore (pc' := 137) C X18 f25 q14 (i := 0) at_136 rfl ⟨by decide, by decide⟩ (by decide) (Nat.le_of_ble_eq_true rfl) (fun T26 h26 X26 W26 V26 => ?_)
  replace V26 : Arv Z h26 a14 k14 .double (4 : Int32) [(.double (FP.i2d x0)), (.double (0 : UInt64)), (.double (0 : UInt64)), (.double (0 : UInt64))] (.double (0 : UInt64)) := V26
  refine OGo.aload (pc' := 139) C X26 at_137 rfl rfl rfl ?_
  refine OGo.iconst (pc' := 140) (z := (1 : Int32)) C X26 at_139 rfl (by decide) ?_
  refine OGo.aload (pc' := 142) C X26 at_140 rfl rfl rfl ?_
  refine OGo.iconst (pc' := 143) (z := (1 : Int32)) C X26 at_142 rfl (by decide) ?_
  have f27 := (f24.other W26 ne15)
  refine OGo.iaload (pc' := 144) C X26 f27 at_143 rfl ⟨by decide, by decide⟩ (v := x1) rfl ?_
  refine OGo.i2d (pc' := 145) (v := (FP.i2d x1)) C X26 at_144 rfl rfl ?_
  refine OGo.dastore (pc' := 146) C X26 V26 q14 (i := 1) at_145 rfl ⟨by decide, by decide⟩ (by decide) (Nat.le_of_ble_eq_true rfl) (fun T28 h28 X28 W28 V28 => ?_)
  replace V28 : Arv Z h28 a14 k14 .double (4 : Int32) [(.double (FP.i2d x0)), (.double (FP.i2d x1)), (.double (0 : UInt64)), (.double (0 : UInt64))] (.double (0 : UInt64)) := V28
  refine OGo.aload (pc' := 148) C X28 at_146 rfl rfl rfl ?_
  refine OGo.iconst (pc' := 149) (z := (2 : Int32)) C X28 at_148 rfl (by decide) ?_
  refine OGo.aload (pc' := 151) C X28 at_149 rfl rfl rfl ?_
  refine OGo.iconst (pc' := 152) (z := (2 : Int32)) C X28 at_151 rfl (by decide) ?_
  have f29 := (f27.other W28 ne15)
  refine OGo.iaload (pc' := 153) C X28 f29 at_152 rfl ⟨by decide, by decide⟩ (v := x2) rfl ?_
  refine OGo.i2d (pc' := 154) (v := (FP.i2d x2)) C X28 at_153 rfl rfl ?_
  refine OGo.dastore (pc' := 155) C X28 V28 q14 (i := 2) at_154 rfl ⟨by decide, by decide⟩ (by decide) (Nat.le_of_ble_eq_true rfl) (fun T30 h30 X30 W30 V30 => ?_)
  replace V30 : Arv Z h30 a14 k14 .double (4 : Int32) [(.double (FP.i2d x0)), (.double (FP.i2d x1)), (.double (FP.i2d x2)), (.double (0 : UInt64))] (.double (0 : UInt64)) := V30
  refine OGo.aload (pc' := 157) C X30 at_155 rfl rfl rfl ?_
  refine OGo.iconst (pc' := 158) (z := (3 : Int32)) C X30 at_157 rfl (by decide) ?_
  refine OGo.aload (pc' := 160) C X30 at_158 rfl rfl rfl ?_
  refine OGo.iconst (pc' := 161) (z := (3 : Int32)) C X30 at_160 rfl (by decide) ?_
  have f31 := (f29.other W30 ne15)
  refine OGo.iaload (pc' := 162) C X30 f31 at_161 rfl ⟨by decide, by decide⟩ (v := x3) rfl ?_
  refine OGo.i2d (pc' := 163) (v := (FP.i2d x3)) C X30 at_162 rfl rfl ?_
  refine OGo.dastore (pc' := 164) C X30 V30 q14 (i := 3) at_163 rfl ⟨by decide, by decide⟩ (by decide) (Nat.le_of_ble_eq_true rfl) (fun T32 h32 X32 W32 V32 => ?_)
  replace V32 : Arv Z h32 a14 k14 .double (4 : Int32) [(.double (FP.i2d x0)), (.double (FP.i2d x1)), (.double (FP.i2d x2)), (.double (FP.i2d x3))] (.double (0 : UInt64)) := V32
  refine OGo.aload (pc' := 166) C X32 at_164 rfl rfl rfl ?_
  refine OGo.iconst (pc' := 167) (z := (0 : Int32)) C X32 at_166 rfl (by decide) ?_
  refine OGo.aload (pc' := 169) C X32 at_167 rfl rfl rfl ?_
  refine OGo.iconst (pc' := 170) (z := (0 : Int32)) C X32 at_169 rfl (by decide) ?_
  have f33 := (((((f22.ext E18).other W26 ne17).other W28 ne17).other W30 ne17).other W32 ne17)
  refine OGo.iaload (pc' := 171) C X32 f33 at_170 rfl ⟨by decide, by decide⟩ (v := y0) rfl ?_
  refine OGo.i2d (pc' := 172) (v := (FP.i2d y0)) C X32 at_171 rfl rfl ?_
  have f34 := ((((V18.other W26 (Ne.symm ne23)).other W28 (Ne.symm ne23)).other W30 (Ne.symm ne23)).other W32 (Ne.symm ne23))
  refine OGo.dastore (pc' := 173) C X32 f34 q18 (i := 0) at_172 rfl ⟨by decide, by decide⟩ (by decide) (Nat.le_of_ble_eq_true rfl) (fun T35 h35 X35 W35 V35 => ?_)
  replace V35 : Arv Z h35 a18 k18 .double (4 : Int32) [(.double (FP.i2d y0)), (.double (0 : UInt64)), (.double (0 : UInt64)), (.double (0 : UInt64))] (.double (0 : UInt64)) := V35
  refine OGo.aload (pc' := 175) C X35 at_173 rfl rfl rfl ?_
  refine OGo.iconst (pc' := 176) (z := (1 : Int32)) C X35 at_175 rfl (by decide) ?_
  refine OGo.aload (pc' := 178) C X35 at_176 rfl rfl rfl ?_
  refine OGo.iconst (pc' := 179) (z := (1 : Int32)) C X35 at_178 rfl (by decide) ?_
  have f36 := (f33.other W35 ne21)
  refine OGo.iaload (pc' := 180) C X35 f36 at_179 rfl ⟨by decide, by decide⟩ (v := y1) rfl ?_
  refine OGo.i2d (pc' := 181) (v := (FP.i2d y1)) C X35 at_180 rfl rfl ?_
  refine OGo.dastore (pc' := 182) C X35 V35 q18 (i := 1) at_181 rfl ⟨by decide, by decide⟩ (by decide) (Nat.le_of_ble_eq_true rfl) (fun T37 h37 X37 W37 V37 => ?_)
  replace V37 : Arv Z h37 a18 k18 .double (4 : Int32) [(.double (FP.i2d y0)), (.double (FP.i2d y1)), (.double (0 : UInt64)), (.double (0 : UInt64))] (.double (0 : UInt64)) := V37
  refine OGo.aload (pc' := 184) C X37 at_182 rfl rfl rfl ?_
  refine OGo.iconst (pc' := 185) (z := (2 : Int32)) C X37 at_184 rfl (by decide) ?_
  refine OGo.aload (pc' := 187) C X37 at_185 rfl rfl rfl ?_
  refine OGo.iconst (pc' := 188) (z := (2 : Int32)) C X37 at_187 rfl (by decide) ?_
  have f38 := (f36.other W37 ne21)
  refine OGo.iaload (pc' := 189) C X37 f38 at_188 rfl ⟨by decide, by decide⟩ (v := y2) rfl ?_
  refine OGo.i2d (pc' := 190) (v := (FP.i2d y2)) C X37 at_189 rfl rfl ?_
  refine OGo.dastore (pc' := 191) C X37 V37 q18 (i := 2) at_190 rfl ⟨by decide, by decide⟩ (by decide) (Nat.le_of_ble_eq_true rfl) (fun T39 h39 X39 W39 V39 => ?_)
  replace V39 : Arv Z h39 a18 k18 .double (4 : Int32) [(.double (FP.i2d y0)), (.double (FP.i2d y1)), (.double (FP.i2d y2)), (.double (0 : UInt64))] (.double (0 : UInt64)) := V39
  refine OGo.aload (pc' := 193) C X39 at_191 rfl rfl rfl ?_
  refine OGo.iconst (pc' := 194) (z := (3 : Int32)) C X39 at_193 rfl (by decide) ?_
  refine OGo.aload (pc' := 196) C X39 at_194 rfl rfl rfl ?_
  refine OGo.iconst (pc' := 197) (z := (3 : Int32)) C X39 at_196 rfl (by decide) ?_
  have f40 := (f38.other W39 ne21)
  refine OGo.iaload (pc' := 198) C X39 f40 at_197 rfl ⟨by decide, by decide⟩ (v := y3) rfl ?_
  refine OGo.i2d (pc' := 199) (v := (FP.i2d y3)) C X39 at_198 rfl rfl ?_
  refine OGo.dastore (pc' := 200) C X39 V39 q18 (i := 3) at_199 rfl ⟨by decide, by decide⟩ (by decide) (Nat.le_of_ble_eq_true rfl) (fun T41 h41 X41 W41 V41 => ?_)
  replace V41 : Arv Z h41 a18 k18 .double (4 : Int32) [(.double (FP.i2d y0)), (.double (FP.i2d y1)), (.double (FP.i2d y2)), (.double (FP.i2d y3))] (.double (0 : UInt64)) := V41
  have hx0 : own_sh x0 := by rw [← h_x0]; exact own_i2s_sh _
  have hx1 : own_sh x1 := by rw [← h_x1]; exact own_i2s_sh _
  have hx2 : own_sh x2 := by rw [← h_x2]; exact own_i2s_sh _
  have hx3 : own_sh x3 := by rw [← h_x3]; exact own_i2s_sh _
  have hy0 : own_sh y0 := by rw [← h_y0]; exact own_i2s_sh _
  have hy1 : own_sh y1 := by rw [← h_y1]; exact own_i2s_sh _
  have hy2 : own_sh y2 := by rw [← h_y2]; exact own_i2s_sh _
  have hy3 : own_sh y3 := by rw [← h_y3]; exact own_i2s_sh _
  refine OGo.aload (pc' := 202) C X41 at_200 rfl rfl rfl ?_
  refine OGo.iload (pc' := 204) C X41 at_202 rfl rfl ?_
  refine OGo.aload (pc' := 206) C X41 at_204 rfl rfl rfl ?_
  refine OGo.iload (pc' := 208) C X41 at_206 rfl rfl ?_
  refine OGo.iconst (pc' := 209) (z := (0 : Int32)) C X41 at_208 rfl (by decide) ?_
  refine OGo.iload (pc' := 211) C X41 at_209 rfl rfl ?_
  have f42 := (((((f31.other W32 ne15).other W35 ne19).other W37 ne19).other W39 ne19).other W41 ne19)
  have f43 := (f40.other W41 ne21)
  refine OGo.callS (pc' := 214) (cells' := 4) (slots' := 16) (argsL := [(.ref a1), (.int ao), (.ref a2), (.int bo), (.int (0 : Int32)), (.int ln)]) (St := []) C X41 (wd2 hw) (wd3 hw) (by decide) (wd5 hw) (wd4 hw) (ct1 hw X41.2.1 a1 ao a2 bo (0 : Int32) ln k1 k2 x0 x1 x2 x3 y0 y1 y2 y3 f42 f43 ha hb (by decide)) (lenOf pd0 rfl) rfl at_211 rfl rfl (by decide) (Nat.le_of_ble_eq_true rfl) rfl rfl (by decide) (by decide) (fun v44 T44 h44 Q44 X44 z44 => ?_)
  obtain ⟨hv44, hh44⟩ := Q44
  subst hv44; rw [hh44] at X44
  show OGo p e below _ T44 (mkF m 214 #[.val (.long i0), .second, .val (.long i1), .second, .val (.int i2), .val (.int ln), .val (.int ao), .val (.int bo), .val (.ref a1), .val (.ref a2), .val (.ref a14), .val (.ref a18), .unset, .unset, .unset, .unset] [(.long (own_term (0 : Int32) ln ((own_dif (own_at x0 x1 x2 x3 (ao + (0 : Int32)).toNatClampNeg) (own_at y0 y1 y2 y3 (bo + (0 : Int32)).toNatClampNeg)) * (own_dif (own_at x0 x1 x2 x3 (ao + (0 : Int32)).toNatClampNeg) (own_at y0 y1 y2 y3 (bo + (0 : Int32)).toNatClampNeg)))))])
  refine OGo.aload (pc' := 216) C X44 at_214 rfl rfl rfl ?_
  refine OGo.iload (pc' := 218) C X44 at_216 rfl rfl ?_
  refine OGo.aload (pc' := 220) C X44 at_218 rfl rfl rfl ?_
  refine OGo.iload (pc' := 222) C X44 at_220 rfl rfl ?_
  refine OGo.iconst (pc' := 223) (z := (1 : Int32)) C X44 at_222 rfl (by decide) ?_
  refine OGo.iload (pc' := 225) C X44 at_223 rfl rfl ?_
  refine OGo.callS (pc' := 228) (cells' := 4) (slots' := 16) (argsL := [(.ref a1), (.int ao), (.ref a2), (.int bo), (.int (1 : Int32)), (.int ln)]) (St := [(.long (own_term (0 : Int32) ln ((own_dif (own_at x0 x1 x2 x3 (ao + (0 : Int32)).toNatClampNeg) (own_at y0 y1 y2 y3 (bo + (0 : Int32)).toNatClampNeg)) * (own_dif (own_at x0 x1 x2 x3 (ao + (0 : Int32)).toNatClampNeg) (own_at y0 y1 y2 y3 (bo + (0 : Int32)).toNatClampNeg)))))]) C X44 (wd2 hw) (wd3 hw) (by decide) (wd5 hw) (wd4 hw) (ct1 hw X44.2.1 a1 ao a2 bo (1 : Int32) ln k1 k2 x0 x1 x2 x3 y0 y1 y2 y3 f42 f43 ha hb (by decide)) (lenOf pd0 rfl) rfl at_225 rfl rfl (by decide) (Nat.le_of_ble_eq_true rfl) rfl rfl (by decide) (by decide) (fun v45 T45 h45 Q45 X45 z45 => ?_)
  obtain ⟨hv45, hh45⟩ := Q45
  subst hv45; rw [hh45] at X45
  show OGo p e below _ T45 (mkF m 228 #[.val (.long i0), .second, .val (.long i1), .second, .val (.int i2), .val (.int ln), .val (.int ao), .val (.int bo), .val (.ref a1), .val (.ref a2), .val (.ref a14), .val (.ref a18), .unset, .unset, .unset, .unset] [(.long (own_term (1 : Int32) ln ((own_dif (own_at x0 x1 x2 x3 (ao + (1 : Int32)).toNatClampNeg) (own_at y0 y1 y2 y3 (bo + (1 : Int32)).toNatClampNeg)) * (own_dif (own_at x0 x1 x2 x3 (ao + (1 : Int32)).toNatClampNeg) (own_at y0 y1 y2 y3 (bo + (1 : Int32)).toNatClampNeg))))), (.long (own_term (0 : Int32) ln ((own_dif (own_at x0 x1 x2 x3 (ao + (0 : Int32)).toNatClampNeg) (own_at y0 y1 y2 y3 (bo + (0 : Int32)).toNatClampNeg)) * (own_dif (own_at x0 x1 x2 x3 (ao + (0 : Int32)).toNatClampNeg) (own_at y0 y1 y2 y3 (bo + (0 : Int32)).toNatClampNeg)))))])
  refine OGo.ladd (pc' := 229) (z := ((own_term (0 : Int32) ln ((own_dif (own_at x0 x1 x2 x3 (ao + (0 : Int32)).toNatClampNeg) (own_at y0 y1 y2 y3 (bo + (0 : Int32)).toNatClampNeg)) * (own_dif (own_at x0 x1 x2 x3 (ao + (0 : Int32)).toNatClampNeg) (own_at y0 y1 y2 y3 (bo + (0 : Int32)).toNatClampNeg)))) + (own_term (1 : Int32) ln ((own_dif (own_at x0 x1 x2 x3 (ao + (1 : Int32)).toNatClampNeg) (own_at y0 y1 y2 y3 (bo + (1 : Int32)).toNatClampNeg)) * (own_dif (own_at x0 x1 x2 x3 (ao + (1 : Int32)).toNatClampNeg) (own_at y0 y1 y2 y3 (bo + (1 : Int32)).toNatClampNeg)))))) C X45 at_228 rfl rfl ?_
  refine OGo.aload (pc' := 231) C X45 at_229 rfl rfl rfl ?_
  refine OGo.iload (pc' := 233) C X45 at_231 rfl rfl ?_
  refine OGo.aload (pc' := 235) C X45 at_233 rfl rfl rfl ?_
  refine OGo.iload (pc' := 237) C X45 at_235 rfl rfl ?_
  refine OGo.iconst (pc' := 238) (z := (2 : Int32)) C X45 at_237 rfl (by decide) ?_
  refine OGo.iload (pc' := 240) C X45 at_238 rfl rfl ?_
  refine OGo.callS (pc' := 243) (cells' := 4) (slots' := 16) (argsL := [(.ref a1), (.int ao), (.ref a2), (.int bo), (.int (2 : Int32)), (.int ln)]) (St := [(.long ((own_term (0 : Int32) ln ((own_dif (own_at x0 x1 x2 x3 (ao + (0 : Int32)).toNatClampNeg) (own_at y0 y1 y2 y3 (bo + (0 : Int32)).toNatClampNeg)) * (own_dif (own_at x0 x1 x2 x3 (ao + (0 : Int32)).toNatClampNeg) (own_at y0 y1 y2 y3 (bo + (0 : Int32)).toNatClampNeg)))) + (own_term (1 : Int32) ln ((own_dif (own_at x0 x1 x2 x3 (ao + (1 : Int32)).toNatClampNeg) (own_at y0 y1 y2 y3 (bo + (1 : Int32)).toNatClampNeg)) * (own_dif (own_at x0 x1 x2 x3 (ao + (1 : Int32)).toNatClampNeg) (own_at y0 y1 y2 y3 (bo + (1 : Int32)).toNatClampNeg))))))]) C X45 (wd2 hw) (wd3 hw) (by decide) (wd5 hw) (wd4 hw) (ct1 hw X45.2.1 a1 ao a2 bo (2 : Int32) ln k1 k2 x0 x1 x2 x3 y0 y1 y2 y3 f42 f43 ha hb (by decide)) (lenOf pd0 rfl) rfl at_240 rfl rfl (by decide) (Nat.le_of_ble_eq_true rfl) rfl rfl (by decide) (by decide) (fun v46 T46 h46 Q46 X46 z46 => ?_)
  obtain ⟨hv46, hh46⟩ := Q46
  subst hv46; rw [hh46] at X46
  show OGo p e below _ T46 (mkF m 243 #[.val (.long i0), .second, .val (.long i1), .second, .val (.int i2), .val (.int ln), .val (.int ao), .val (.int bo), .val (.ref a1), .val (.ref a2), .val (.ref a14), .val (.ref a18), .unset, .unset, .unset, .unset] [(.long (own_term (2 : Int32) ln ((own_dif (own_at x0 x1 x2 x3 (ao + (2 : Int32)).toNatClampNeg) (own_at y0 y1 y2 y3 (bo + (2 : Int32)).toNatClampNeg)) * (own_dif (own_at x0 x1 x2 x3 (ao + (2 : Int32)).toNatClampNeg) (own_at y0 y1 y2 y3 (bo + (2 : Int32)).toNatClampNeg))))), (.long ((own_term (0 : Int32) ln ((own_dif (own_at x0 x1 x2 x3 (ao + (0 : Int32)).toNatClampNeg) (own_at y0 y1 y2 y3 (bo + (0 : Int32)).toNatClampNeg)) * (own_dif (own_at x0 x1 x2 x3 (ao + (0 : Int32)).toNatClampNeg) (own_at y0 y1 y2 y3 (bo + (0 : Int32)).toNatClampNeg)))) + (own_term (1 : Int32) ln ((own_dif (own_at x0 x1 x2 x3 (ao + (1 : Int32)).toNatClampNeg) (own_at y0 y1 y2 y3 (bo + (1 : Int32)).toNatClampNeg)) * (own_dif (own_at x0 x1 x2 x3 (ao + (1 : Int32)).toNatClampNeg) (own_at y0 y1 y2 y3 (bo + (1 : Int32)).toNatClampNeg))))))])
  refine OGo.ladd (pc' := 244) (z := (((own_term (0 : Int32) ln ((own_dif (own_at x0 x1 x2 x3 (ao + (0 : Int32)).toNatClampNeg) (own_at y0 y1 y2 y3 (bo + (0 : Int32)).toNatClampNeg)) * (own_dif (own_at x0 x1 x2 x3 (ao + (0 : Int32)).toNatClampNeg) (own_at y0 y1 y2 y3 (bo + (0 : Int32)).toNatClampNeg)))) + (own_term (1 : Int32) ln ((own_dif (own_at x0 x1 x2 x3 (ao + (1 : Int32)).toNatClampNeg) (own_at y0 y1 y2 y3 (bo + (1 : Int32)).toNatClampNeg)) * (own_dif (own_at x0 x1 x2 x3 (ao + (1 : Int32)).toNatClampNeg) (own_at y0 y1 y2 y3 (bo + (1 : Int32)).toNatClampNeg))))) + (own_term (2 : Int32) ln ((own_dif (own_at x0 x1 x2 x3 (ao + (2 : Int32)).toNatClampNeg) (own_at y0 y1 y2 y3 (bo + (2 : Int32)).toNatClampNeg)) * (own_dif (own_at x0 x1 x2 x3 (ao + (2 : Int32)).toNatClampNeg) (own_at y0 y1 y2 y3 (bo + (2 : Int32)).toNatClampNeg)))))) C X46 at_243 rfl rfl ?_
  refine OGo.aload (pc' := 246) C X46 at_244 rfl rfl rfl ?_
  refine OGo.iload (pc' := 248) C X46 at_246 rfl rfl ?_
  refine OGo.aload (pc' := 250) C X46 at_248 rfl rfl rfl ?_
  refine OGo.iload (pc' := 252) C X46 at_250 rfl rfl ?_
  refine OGo.iconst (pc' := 253) (z := (3 : Int32)) C X46 at_252 rfl (by decide) ?_
  refine OGo.iload (pc' := 255) C X46 at_253 rfl rfl ?_
  refine OGo.callS (pc' := 258) (cells' := 4) (slots' := 16) (argsL := [(.ref a1), (.int ao), (.ref a2), (.int bo), (.int (3 : Int32)), (.int ln)]) (St := [(.long (((own_term (0 : Int32) ln ((own_dif (own_at x0 x1 x2 x3 (ao + (0 : Int32)).toNatClampNeg) (own_at y0 y1 y2 y3 (bo + (0 : Int32)).toNatClampNeg)) * (own_dif (own_at x0 x1 x2 x3 (ao + (0 : Int32)).toNatClampNeg) (own_at y0 y1 y2 y3 (bo + (0 : Int32)).toNatClampNeg)))) + (own_term (1 : Int32) ln ((own_dif (own_at x0 x1 x2 x3 (ao + (1 : Int32)).toNatClampNeg) (own_at y0 y1 y2 y3 (bo + (1 : Int32)).toNatClampNeg)) * (own_dif (own_at x0 x1 x2 x3 (ao + (1 : Int32)).toNatClampNeg) (own_at y0 y1 y2 y3 (bo + (1 : Int32)).toNatClampNeg))))) + (own_term (2 : Int32) ln ((own_dif (own_at x0 x1 x2 x3 (ao + (2 : Int32)).toNatClampNeg) (own_at y0 y1 y2 y3 (bo + (2 : Int32)).toNatClampNeg)) * (own_dif (own_at x0 x1 x2 x3 (ao + (2 : Int32)).toNatClampNeg) (own_at y0 y1 y2 y3 (bo + (2 : Int32)).toNatClampNeg))))))]) C X46 (wd2 hw) (wd3 hw) (by decide) (wd5 hw) (wd4 hw) (ct1 hw X46.2.1 a1 ao a2 bo (3 : Int32) ln k1 k2 x0 x1 x2 x3 y0 y1 y2 y3 f42 f43 ha hb (by decide)) (lenOf pd0 rfl) rfl at_255 rfl rfl (by decide) (Nat.le_of_ble_eq_true rfl) rfl rfl (by decide) (by decide) (fun v47 T47 h47 Q47 X47 z47 => ?_)
  obtain ⟨hv47, hh47⟩ := Q47
  subst hv47; rw [hh47] at X47
  show OGo p e below _ T47 (mkF m 258 #[.val (.long i0), .second, .val (.long i1), .second, .val (.int i2), .val (.int ln), .val (.int ao), .val (.int bo), .val (.ref a1), .val (.ref a2), .val (.ref a14), .val (.ref a18), .unset, .unset, .unset, .unset] [(.long (own_term (3 : Int32) ln ((own_dif (own_at x0 x1 x2 x3 (ao + (3 : Int32)).toNatClampNeg) (own_at y0 y1 y2 y3 (bo + (3 : Int32)).toNatClampNeg)) * (own_dif (own_at x0 x1 x2 x3 (ao + (3 : Int32)).toNatClampNeg) (own_at y0 y1 y2 y3 (bo + (3 : Int32)).toNatClampNeg))))), (.long (((own_term (0 : Int32) ln ((own_dif (own_at x0 x1 x2 x3 (ao + (0 : Int32)).toNatClampNeg) (own_at y0 y1 y2 y3 (bo + (0 : Int32)).toNatClampNeg)) * (own_dif (own_at x0 x1 x2 x3 (ao + (0 : Int32)).toNatClampNeg) (own_at y0 y1 y2 y3 (bo + (0 : Int32)).toNatClampNeg)))) + (own_term (1 : Int32) ln ((own_dif (own_at x0 x1 x2 x3 (ao + (1 : Int32)).toNatClampNeg) (own_at y0 y1 y2 y3 (bo + (1 : Int32)).toNatClampNeg)) * (own_dif (own_at x0 x1 x2 x3 (ao + (1 : Int32)).toNatClampNeg) (own_at y0 y1 y2 y3 (bo + (1 : Int32)).toNatClampNeg))))) + (own_term (2 : Int32) ln ((own_dif (own_at x0 x1 x2 x3 (ao + (2 : Int32)).toNatClampNeg) (own_at y0 y1 y2 y3 (bo + (2 : Int32)).toNatClampNeg)) * (own_dif (own_at x0 x1 x2 x3 (ao + (2 : Int32)).toNatClampNeg) (own_at y0 y1 y2 y3 (bo + (2 : Int32)).toNatClampNeg))))))])
  refine OGo.ladd (pc' := 259) (z := ((((own_term (0 : Int32) ln ((own_dif (own_at x0 x1 x2 x3 (ao + (0 : Int32)).toNatClampNeg) (own_at y0 y1 y2 y3 (bo + (0 : Int32)).toNatClampNeg)) * (own_dif (own_at x0 x1 x2 x3 (ao + (0 : Int32)).toNatClampNeg) (own_at y0 y1 y2 y3 (bo + (0 : Int32)).toNatClampNeg)))) + (own_term (1 : Int32) ln ((own_dif (own_at x0 x1 x2 x3 (ao + (1 : Int32)).toNatClampNeg) (own_at y0 y1 y2 y3 (bo + (1 : Int32)).toNatClampNeg)) * (own_dif (own_at x0 x1 x2 x3 (ao + (1 : Int32)).toNatClampNeg) (own_at y0 y1 y2 y3 (bo + (1 : Int32)).toNatClampNeg))))) + (own_term (2 : Int32) ln ((own_dif (own_at x0 x1 x2 x3 (ao + (2 : Int32)).toNatClampNeg) (own_at y0 y1 y2 y3 (bo + (2 : Int32)).toNatClampNeg)) * (own_dif (own_at x0 x1 x2 x3 (ao + (2 : Int32)).toNatClampNeg) (own_at y0 y1 y2 y3 (bo + (2 : Int32)).toNatClampNeg))))) + (own_term (3 : Int32) ln ((own_dif (own_at x0 x1 x2 x3 (ao + (3 : Int32)).toNatClampNeg) (own_at y0 y1 y2 y3 (bo + (3 : Int32)).toNatClampNeg)) * (own_dif (own_at x0 x1 x2 x3 (ao + (3 : Int32)).toNatClampNeg) (own_at y0 y1 y2 y3 (bo + (3 : Int32)).toNatClampNeg)))))) C X47 at_258 rfl rfl ?_
  refine OGo.lstore (pc' := 261) C X47 at_259 rfl (l' := #[.val (.long i0), .second, .val (.long i1), .second, .val (.int i2), .val (.int ln), .val (.int ao), .val (.int bo), .val (.ref a1), .val (.ref a2), .val (.ref a14), .val (.ref a18), .val (.long ((((own_term (0 : Int32) ln ((own_dif (own_at x0 x1 x2 x3 (ao + (0 : Int32)).toNatClampNeg) (own_at y0 y1 y2 y3 (bo + (0 : Int32)).toNatClampNeg)) * (own_dif (own_at x0 x1 x2 x3 (ao + (0 : Int32)).toNatClampNeg) (own_at y0 y1 y2 y3 (bo + (0 : Int32)).toNatClampNeg)))) + (own_term (1 : Int32) ln ((own_dif (own_at x0 x1 x2 x3 (ao + (1 : Int32)).toNatClampNeg) (own_at y0 y1 y2 y3 (bo + (1 : Int32)).toNatClampNeg)) * (own_dif (own_at x0 x1 x2 x3 (ao + (1 : Int32)).toNatClampNeg) (own_at y0 y1 y2 y3 (bo + (1 : Int32)).toNatClampNeg))))) + (own_term (2 : Int32) ln ((own_dif (own_at x0 x1 x2 x3 (ao + (2 : Int32)).toNatClampNeg) (own_at y0 y1 y2 y3 (bo + (2 : Int32)).toNatClampNeg)) * (own_dif (own_at x0 x1 x2 x3 (ao + (2 : Int32)).toNatClampNeg) (own_at y0 y1 y2 y3 (bo + (2 : Int32)).toNatClampNeg))))) + (own_term (3 : Int32) ln ((own_dif (own_at x0 x1 x2 x3 (ao + (3 : Int32)).toNatClampNeg) (own_at y0 y1 y2 y3 (bo + (3 : Int32)).toNatClampNeg)) * (own_dif (own_at x0 x1 x2 x3 (ao + (3 : Int32)).toNatClampNeg) (own_at y0 y1 y2 y3 (bo + (3 : Int32)).toNatClampNeg)))))), .second, .unset, .unset]) rfl ?_
  refine OGo.aload (pc' := 263) C X47 at_261 rfl rfl rfl ?_
  refine OGo.iload (pc' := 265) C X47 at_263 rfl rfl ?_
  refine OGo.aload (pc' := 267) C X47 at_265 rfl rfl rfl ?_
  refine OGo.iload (pc' := 269) C X47 at_267 rfl rfl ?_
  refine OGo.iload (pc' := 271) C X47 at_269 rfl rfl ?_
  have f48 := ((((V32.other W35 ne23).other W37 ne23).other W39 ne23).other W41 ne23)
  refine OGo.callS (pc' := 274) (cells' := 4) (slots' := 16) (argsL := [(.ref a14), (.int ao), (.ref a18), (.int bo), (.int ln)]) (St := []) C X47 (wd6 hw) (wd7 hw) (by decide) (wd9 hw) (wd8 hw) (ct2 hw X47.2.1 a14 ao a18 bo ln k14 k18 x0 x1 x2 x3 y0 y1 y2 y3 f48 V41 ha hb hl3 ⟨hx0, hx1, hx2, hx3⟩ ⟨hy0, hy1, hy2, hy3⟩) (lenOf pd1 rfl) rfl at_271 rfl rfl (by decide) (Nat.le_of_ble_eq_true rfl) rfl rfl (by decide) (by decide) (fun v49 T49 h49 Q49 X49 z49 => ?_)
  obtain ⟨hv49, hh49⟩ := Q49
  subst hv49; rw [hh49] at X49
  show OGo p e below _ T49 (mkF m 274 #[.val (.long i0), .second, .val (.long i1), .second, .val (.int i2), .val (.int ln), .val (.int ao), .val (.int bo), .val (.ref a1), .val (.ref a2), .val (.ref a14), .val (.ref a18), .val (.long ((((own_term (0 : Int32) ln ((own_dif (own_at x0 x1 x2 x3 (ao + (0 : Int32)).toNatClampNeg) (own_at y0 y1 y2 y3 (bo + (0 : Int32)).toNatClampNeg)) * (own_dif (own_at x0 x1 x2 x3 (ao + (0 : Int32)).toNatClampNeg) (own_at y0 y1 y2 y3 (bo + (0 : Int32)).toNatClampNeg)))) + (own_term (1 : Int32) ln ((own_dif (own_at x0 x1 x2 x3 (ao + (1 : Int32)).toNatClampNeg) (own_at y0 y1 y2 y3 (bo + (1 : Int32)).toNatClampNeg)) * (own_dif (own_at x0 x1 x2 x3 (ao + (1 : Int32)).toNatClampNeg) (own_at y0 y1 y2 y3 (bo + (1 : Int32)).toNatClampNeg))))) + (own_term (2 : Int32) ln ((own_dif (own_at x0 x1 x2 x3 (ao + (2 : Int32)).toNatClampNeg) (own_at y0 y1 y2 y3 (bo + (2 : Int32)).toNatClampNeg)) * (own_dif (own_at x0 x1 x2 x3 (ao + (2 : Int32)).toNatClampNeg) (own_at y0 y1 y2 y3 (bo + (2 : Int32)).toNatClampNeg))))) + (own_term (3 : Int32) ln ((own_dif (own_at x0 x1 x2 x3 (ao + (3 : Int32)).toNatClampNeg) (own_at y0 y1 y2 y3 (bo + (3 : Int32)).toNatClampNeg)) * (own_dif (own_at x0 x1 x2 x3 (ao + (3 : Int32)).toNatClampNeg) (own_at y0 y1 y2 y3 (bo + (3 : Int32)).toNatClampNeg)))))), .second, .unset, .unset] [(.double (FP.l2d (own_got ln ((own_dif (own_at x0 x1 x2 x3 (ao + (0 : Int32)).toNatClampNeg) (own_at y0 y1 y2 y3 (bo + (0 : Int32)).toNatClampNeg)) * (own_dif (own_at x0 x1 x2 x3 (ao + (0 : Int32)).toNatClampNeg) (own_at y0 y1 y2 y3 (bo + (0 : Int32)).toNatClampNeg))) ((own_dif (own_at x0 x1 x2 x3 (ao + (1 : Int32)).toNatClampNeg) (own_at y0 y1 y2 y3 (bo + (1 : Int32)).toNatClampNeg)) * (own_dif (own_at x0 x1 x2 x3 (ao + (1 : Int32)).toNatClampNeg) (own_at y0 y1 y2 y3 (bo + (1 : Int32)).toNatClampNeg))) ((own_dif (own_at x0 x1 x2 x3 (ao + (2 : Int32)).toNatClampNeg) (own_at y0 y1 y2 y3 (bo + (2 : Int32)).toNatClampNeg)) * (own_dif (own_at x0 x1 x2 x3 (ao + (2 : Int32)).toNatClampNeg) (own_at y0 y1 y2 y3 (bo + (2 : Int32)).toNatClampNeg))))))])
  refine OGo.dstore (pc' := 276) C X49 at_274 rfl (l' := #[.val (.long i0), .second, .val (.long i1), .second, .val (.int i2), .val (.int ln), .val (.int ao), .val (.int bo), .val (.ref a1), .val (.ref a2), .val (.ref a14), .val (.ref a18), .val (.long ((((own_term (0 : Int32) ln ((own_dif (own_at x0 x1 x2 x3 (ao + (0 : Int32)).toNatClampNeg) (own_at y0 y1 y2 y3 (bo + (0 : Int32)).toNatClampNeg)) * (own_dif (own_at x0 x1 x2 x3 (ao + (0 : Int32)).toNatClampNeg) (own_at y0 y1 y2 y3 (bo + (0 : Int32)).toNatClampNeg)))) + (own_term (1 : Int32) ln ((own_dif (own_at x0 x1 x2 x3 (ao + (1 : Int32)).toNatClampNeg) (own_at y0 y1 y2 y3 (bo + (1 : Int32)).toNatClampNeg)) * (own_dif (own_at x0 x1 x2 x3 (ao + (1 : Int32)).toNatClampNeg) (own_at y0 y1 y2 y3 (bo + (1 : Int32)).toNatClampNeg))))) + (own_term (2 : Int32) ln ((own_dif (own_at x0 x1 x2 x3 (ao + (2 : Int32)).toNatClampNeg) (own_at y0 y1 y2 y3 (bo + (2 : Int32)).toNatClampNeg)) * (own_dif (own_at x0 x1 x2 x3 (ao + (2 : Int32)).toNatClampNeg) (own_at y0 y1 y2 y3 (bo + (2 : Int32)).toNatClampNeg))))) + (own_term (3 : Int32) ln ((own_dif (own_at x0 x1 x2 x3 (ao + (3 : Int32)).toNatClampNeg) (own_at y0 y1 y2 y3 (bo + (3 : Int32)).toNatClampNeg)) * (own_dif (own_at x0 x1 x2 x3 (ao + (3 : Int32)).toNatClampNeg) (own_at y0 y1 y2 y3 (bo + (3 : Int32)).toNatClampNeg)))))), .second, .val (.double (FP.l2d (own_got ln ((own_dif (own_at x0 x1 x2 x3 (ao + (0 : Int32)).toNatClampNeg) (own_at y0 y1 y2 y3 (bo + (0 : Int32)).toNatClampNeg)) * (own_dif (own_at x0 x1 x2 x3 (ao + (0 : Int32)).toNatClampNeg) (own_at y0 y1 y2 y3 (bo + (0 : Int32)).toNatClampNeg))) ((own_dif (own_at x0 x1 x2 x3 (ao + (1 : Int32)).toNatClampNeg) (own_at y0 y1 y2 y3 (bo + (1 : Int32)).toNatClampNeg)) * (own_dif (own_at x0 x1 x2 x3 (ao + (1 : Int32)).toNatClampNeg) (own_at y0 y1 y2 y3 (bo + (1 : Int32)).toNatClampNeg))) ((own_dif (own_at x0 x1 x2 x3 (ao + (2 : Int32)).toNatClampNeg) (own_at y0 y1 y2 y3 (bo + (2 : Int32)).toNatClampNeg)) * (own_dif (own_at x0 x1 x2 x3 (ao + (2 : Int32)).toNatClampNeg) (own_at y0 y1 y2 y3 (bo + (2 : Int32)).toNatClampNeg)))))), .second]) rfl ?_
  refine OGo.dload (pc' := 278) C X49 at_276 rfl rfl ?_
  refine OGo.lload (pc' := 280) C X49 at_278 rfl rfl ?_
  refine OGo.l2d (pc' := 281) (v := (FP.l2d ((((own_term (0 : Int32) ln ((own_dif (own_at x0 x1 x2 x3 (ao + (0 : Int32)).toNatClampNeg) (own_at y0 y1 y2 y3 (bo + (0 : Int32)).toNatClampNeg)) * (own_dif (own_at x0 x1 x2 x3 (ao + (0 : Int32)).toNatClampNeg) (own_at y0 y1 y2 y3 (bo + (0 : Int32)).toNatClampNeg)))) + (own_term (1 : Int32) ln ((own_dif (own_at x0 x1 x2 x3 (ao + (1 : Int32)).toNatClampNeg) (own_at y0 y1 y2 y3 (bo + (1 : Int32)).toNatClampNeg)) * (own_dif (own_at x0 x1 x2 x3 (ao + (1 : Int32)).toNatClampNeg) (own_at y0 y1 y2 y3 (bo + (1 : Int32)).toNatClampNeg))))) + (own_term (2 : Int32) ln ((own_dif (own_at x0 x1 x2 x3 (ao + (2 : Int32)).toNatClampNeg) (own_at y0 y1 y2 y3 (bo + (2 : Int32)).toNatClampNeg)) * (own_dif (own_at x0 x1 x2 x3 (ao + (2 : Int32)).toNatClampNeg) (own_at y0 y1 y2 y3 (bo + (2 : Int32)).toNatClampNeg))))) + (own_term (3 : Int32) ln ((own_dif (own_at x0 x1 x2 x3 (ao + (3 : Int32)).toNatClampNeg) (own_at y0 y1 y2 y3 (bo + (3 : Int32)).toNatClampNeg)) * (own_dif (own_at x0 x1 x2 x3 (ao + (3 : Int32)).toNatClampNeg) (own_at y0 y1 y2 y3 (bo + (3 : Int32)).toNatClampNeg))))))) C X49 at_280 rfl rfl ?_
  refine OGo.dcmp (pc' := 282) (v := (0 : Int32)) C X49 at_281 rfl (dcmpV_eq (congrArg FP.l2d (own_same hl3 _ _ _ _)) (l2d_fin _).noNaN .l) ?_
  refine OGo.ifNo (pc' := 285) C X49 at_282 rfl (teq (by decide : (0 : Int32) = (0 : Int32))).2 ?_
  refine OGo.iconst (pc' := 286) (z := (1 : Int32)) C X49 at_285 rfl (by decide) ?_
  refine OGo.goto (pc' := 290) C X49 at_286 (by decide) (by decide) ?_
  exact OGo.retN C X49 at_290 hret (by simp) (z' := (1 : Int32)) (by decide) hlk (rfl) (by decide) (by decide)
set_option maxRecDepth 65536 in
set_option maxHeartbeats 40000000 in
theorem comes_1 {Post : Tables → Env → Array Value → State → Outcome → State → Prop} (hpost : ∀ tb e args s v u, (limb_1_1.after args s (.returned v) u = true ∧ limb_1_2.after args s (.returned v) u = true ∧ True) → FrameEnd s (.returned v) u (Jvm.fieldLocs frame_1_writes args s ++ Jvm.arrayLocs frame_1_arrays args s ++ Jvm.staticLocs frame_1_statics s) 16 128 → Post tb e args s (.returned v) u) :
    ArmFor flags0 classFile x code maxLocals ret World_1 tables_1 room_1 Calls_1 rest_1 Pre_1 Post := by
  intro l hfl _ _ p e ha hc hk s m args below hf hA hF happ hP
  obtain ⟨hcalls, hrest, hpre⟩ := hP
  obtain ⟨-, -, -, hnamed, -, -, -, hat⟩ := (Spec.applies_iff hf).mp happ
  obtain ⟨hg, hn⟩ := and_e (Cond.before_iff.mp (show (Jvm.Cond.and given_1 narrow_1).before args s = true from hpre))
  obtain ⟨g1, g2⟩ := and_e hg
  obtain ⟨g3, g4⟩ := and_e g2
  obtain ⟨g5, g6⟩ := and_e g4
  obtain ⟨w0, w1, w2, rfl⟩ : ∃ w0 w1 w2 : Value, args = #[w0, w1, w2] := by
    have hs : args.size = 3 := by simpa [Cond.value, given_1] using g1
    obtain ⟨L⟩ := args
    match L, hs with
    | [w0, w1, w2], _ => exact ⟨w0, w1, w2, rfl⟩
  have hw := fun d (hd : d ∈ tables_1) => atoms_spec (ws := Jvm.Cond.code x code maxLocals ret :: tables_1) hat d (List.mem_cons_of_mem _ hd)
  have hfit : Fit s := fun {y c} hc i hi => by
    obtain ⟨ha, rfl⟩ := Array.getElem?_eq_some_iff.mp hc
    have q := List.all_eq_true.mp ((Array.all_eq_true_iff_forall_mem.mp hF) _ (Array.getElem_mem ha)) i (List.mem_range.mpr hi)
    simpa [Array.getElem?_eq_getElem hi] using q
  obtain ⟨i0, ei0⟩ := isL_v g3
  obtain rfl : w0 = (.long i0) := Option.some.inj ei0
  obtain ⟨i1, ei1⟩ := isL_v g5
  obtain rfl : w1 = (.long i1) := Option.some.inj ei1
  obtain ⟨i2, ei2⟩ := is_v g6
  obtain rfl : w2 = (.int i2) := Option.some.inj ei2
  obtain ⟨n, o, h1, h2, h3, _, L, rfl, ⟨⟨rfl, -⟩, N⟩, hq⟩ := ct0 (l := l) (Z := s) hw (n0 := s.heap.size) (h0 := s.heap) (Nat.le_refl _) i0 i1 i2  tables_1 p e ha hc hk s m _ below hf ((Spec.applies_iff_loose hf).mp happ).1 ⟨rfl, State.Warmed39.refl s, rfl⟩ trivial
  refine ⟨n, _, h1, h2, h3, hpost _ _ _ _ _ _ ⟨Cond.after_iff.mpr rfl, Cond.after_iff.mpr (eq_i res_at (Term.int_eval (1)) rfl), trivial⟩ ⟨hq.1, hq.2.1, (hq.2.2.sift fun y hy => Or.inr (N y hy)).mono (by decide) (by decide)⟩⟩
theorem main_1_1 : Claimed_1_1 := comes_1 fun _ _ _ _ _ _ h hF => ⟨h.1, hF⟩
theorem main_1_2 : Claimed_1_2 := comes_1 fun _ _ _ _ _ _ h hF => ⟨h.2.1, hF⟩
end Jvm.Pilot.@@N@@
namespace Jvm.Pilot.@@N@@
open Jvm Jvm.ClassFile Sem Op Lib Jvm.Free Jvm.Stand Jvm.Pilot.@@N@@.Jvm.D
/-! MADE BY PROGRAM (witnessworld.py) out of the Statement's table words and the real class files: 11 classes; the members and pool entries that the words name. The judged class is class 1, her method 2. -/
namespace start1
open Jvm.ClassFile
def u (s : String) : CpInfo := .utf8 (stringToUtf16 s)
/-- a pool by its gaps: so many unusable entries, then the entry; so many at the end -/
def gap : Nat → List CpInfo → List CpInfo
  | 0, r => r
  | n + 1, r => .unusable :: gap n r
def poolList (es : List (Nat × CpInfo)) (last : Nat) : List CpInfo := es.foldr (fun e r => gap e.1 (e.2 :: r)) (gap last [])
def pool (es : List (Nat × CpInfo)) (last : Nat) : Array CpInfo := ⟨poolList es last⟩
def fileOf (pool : Array CpInfo) (this : Nat) (attrs : Array Attribute := #[]) (ms : Array MethodInfo := #[]) (fl : Nat := 33) (sup : Nat := 0) (ifs : Array Nat := #[]) (fds : Array FieldInfo := #[]) : ClassFile where
  minorVersion := 0
  majorVersion := 65
  constantPool := pool
  accessFlags := fl
  thisClass := this
  superClass := sup
  interfaces := ifs
  fields := fds
  methods := ms
  attributes := attrs
def plain (name : String) (sup : Option ClassId) : Class where
  name := name
  kind := .ordinary
  loader := none
  accessFlags := 33
  super := sup
  interfaces := #[]
  cf := none
  fields := #[]
  methods := #[]
  instanceTypes := #[]
  staticTypes := #[]
  resolved := #[]
  callSites := []
  init := .initialized
  statics := none
  mirror := none

def pool0 : Array CpInfo := pool [(5, u "<init>"), (0, u "()V"), (1, .class_ 10), (1, u "java/lang/Object")] 113

def k0m0 : Method := { name := "<init>", desc := "()V", sig := { parameters := [], returnType := none }, accessFlags := 1, code := none }
/-- java/lang/Object -/
def k0 : Class := { plain "java/lang/Object" none with
  accessFlags := 33
  interfaces := #[]
  cf := some (fileOf pool0 8 #[] #[{ accessFlags := 1, nameIndex := 5, descriptorIndex := 6, attributes := #[] }] 33 0 #[] #[])
  fields := #[]
  methods := #[k0m0]
  instanceTypes := #[]
  staticTypes := #[]
  resolved := Array.replicate 124 none
  statics := none }

def pool1 : Array CpInfo := pool [(2, .class_ 4), (1, u "java/lang/Object"), (0, u "<init>"), (0, u "()V"), (0, .methodref 8 9), (0, .class_ 10), (0, .nameAndType 11 12), (0, u "com/example/interim/interim/SquaredDistanceOfPinLaw"), (0, u "term"), (0, u "([II[IIII)J"), (0, .methodref 14 15), (0, .class_ 16), (0, .nameAndType 17 18), (0, u "com/example/interim/interim/SquaredDistance"), (0, u "of"), (0, u "([DI[DII)D"), (3, u "law"), (0, u "(JJI)Z")] 6

def k1m0 : Method := { name := "<init>", desc := "()V", sig := { parameters := [], returnType := none }, accessFlags := 2, code := none }
def k1c1 : Code := { maxStack := 5, maxLocals := 8, code := method_2_code, exceptionTable := #[], attributes := #[] }
def k1m1 : Method := { name := "term", desc := "([II[IIII)J", sig := { parameters := [(.array .int), .int, (.array .int), .int, .int, .int], returnType := some .long }, accessFlags := 10, code := some k1c1 }
def k1c2 : Code := { maxStack := 8, maxLocals := 16, code := code, exceptionTable := #[], attributes := #[] }
def k1m2 : Method := { name := "law", desc := "(JJI)Z", sig := { parameters := [.long, .long, .int], returnType := some .boolean }, accessFlags := 9, code := some k1c2 }
/-- com/example/interim/interim/SquaredDistanceOfPinLaw -/
def k1 : Class := { plain "com/example/interim/interim/SquaredDistanceOfPinLaw" (some 0) with
  accessFlags := 49
  interfaces := #[]
  cf := some (fileOf pool1 8 #[] #[{ accessFlags := 2, nameIndex := 5, descriptorIndex := 6, attributes := #[] }, { accessFlags := 10, nameIndex := 11, descriptorIndex := 12, attributes := #[] }, { accessFlags := 9, nameIndex := 22, descriptorIndex := 23, attributes := #[] }] 49 2 #[] #[])
  fields := #[]
  methods := #[k1m0, k1m1, k1m2]
  instanceTypes := #[]
  staticTypes := #[]
  resolved := Array.replicate 30 none
  statics := none }

def pool2 : Array CpInfo := pool [(2, .class_ 4), (1, u "java/lang/Object"), (0, u "<init>"), (0, u "()V"), (1, .class_ 10), (1, u "com/example/interim/interim/SquaredDistance"), (0, u "of"), (0, u "([DI[DII)D")] 6

def k2m0 : Method := { name := "<init>", desc := "()V", sig := { parameters := [], returnType := none }, accessFlags := 2, code := none }
def k2c1 : Code := { maxStack := 6, maxLocals := 10, code := prog_52_method_3_code, exceptionTable := #[], attributes := #[] }
def k2m1 : Method := { name := "of", desc := "([DI[DII)D", sig := { parameters := [(.array .double), .int, (.array .double), .int, .int], returnType := some .double }, accessFlags := 8, code := some k2c1 }
/-- com/example/interim/interim/SquaredDistance -/
def k2 : Class := { plain "com/example/interim/interim/SquaredDistance" (some 0) with
  accessFlags := 48
  interfaces := #[]
  cf := some (fileOf pool2 8 #[] #[{ accessFlags := 2, nameIndex := 5, descriptorIndex := 6, attributes := #[] }, { accessFlags := 8, nameIndex := 11, descriptorIndex := 12, attributes := #[] }] 48 2 #[] #[])
  fields := #[]
  methods := #[k2m0, k2m1]
  instanceTypes := #[]
  staticTypes := #[]
  resolved := Array.replicate 19 none
  statics := none }

def pool3 : Array CpInfo := pool [(1, u "java/lang/Cloneable"), (0, .class_ 1), (0, u "java/lang/Object"), (0, .class_ 3)] 3

/-- java/lang/Cloneable -/
def k3 : Class := { plain "java/lang/Cloneable" (some 0) with
  accessFlags := 1537
  interfaces := #[]
  cf := some (fileOf pool3 2 #[] #[] 1537 4 #[] #[])
  fields := #[]
  methods := #[]
  instanceTypes := #[]
  staticTypes := #[]
  resolved := Array.replicate 8 none
  statics := none }

def pool4 : Array CpInfo := pool [(1, u "java/io/Serializable"), (0, .class_ 1), (0, u "java/lang/Object"), (0, .class_ 3)] 3

/-- java/io/Serializable -/
def k4 : Class := { plain "java/io/Serializable" (some 0) with
  accessFlags := 1537
  interfaces := #[]
  cf := some (fileOf pool4 2 #[] #[] 1537 4 #[] #[])
  fields := #[]
  methods := #[]
  instanceTypes := #[]
  staticTypes := #[]
  resolved := Array.replicate 8 none
  statics := none }

/-- the primitive byte -/
def k5 : Class := { plain "byte" none with kind := .primitive 'B', accessFlags := 0x411 }
/-- [B -/
def k6 : Class := { plain "[B" (some 0) with kind := .array 5 .byte, interfaces := #[3, 4], accessFlags := 1041 }

/-- the primitive double -/
def k7 : Class := { plain "double" none with kind := .primitive 'D', accessFlags := 0x411 }
/-- [D -/
def k8 : Class := { plain "[D" (some 0) with kind := .array 7 .double, interfaces := #[3, 4], accessFlags := 1041 }

/-- the primitive int -/
def k9 : Class := { plain "int" none with kind := .primitive 'I', accessFlags := 0x411 }
/-- [I -/
def k10 : Class := { plain "[I" (some 0) with kind := .array 9 .int, interfaces := #[3, 4], accessFlags := 1041 }

def heap : Heap := #[]
def classes : Array Class := #[k0, k1, k2, k3, k4, k5, k6, k7, k8, k9, k10]
def interned : List (Array UInt16 × Addr) := []
def slotsUsed : Nat := 0
def theMethod : MethodId := ⟨1, 2⟩
def args0 : Array Value := #[.long 12345678901, .long 98765432109, .int 7]
def aboutOver (below : List Frame) : State where
  vm := { classes := classes, interned := interned.toArray }
  heap := heap
  slotsUsed := slotsUsed
  threads := #[{ frames := .invoking theMethod args0 :: below }]
def below0 : List Frame := [.native { method := ⟨0, 0⟩, args := #[] }]
def about1 : State := aboutOver below0
def p0 : Program := .bare "" "" ""
def e0 : Env := launch0.env 0 0 0
theorem w_frames : about1.frames = Frame.invoking theMethod args0 :: below0 := rfl
set_option maxRecDepth 65536 in
theorem w_args : argsFit about1.vm theMethod args0 = true := by decide +kernel
set_option maxRecDepth 65536 in
theorem w_heap : heapFits about1 = true := by decide +kernel
set_option maxRecDepth 65536 in
theorem w_runnable : about1.curStatus? = some .runnable := by decide +kernel
set_option maxRecDepth 65536 in
theorem w_alone : about1.alone = true := by decide +kernel
set_option maxRecDepth 65536 in
theorem w_named : about1.methodNamed? x = some theMethod := by decide +kernel
set_option maxRecDepth 65536 in
theorem w_hears : about1.hears theMethod below0 = true := by decide +kernel
set_option maxRecDepth 65536 in
theorem w_ripe : about1.ripe theMethod args0 below0 = true := by decide +kernel
theorem w_running : about1.status = .running := rfl
set_option maxRecDepth 65536 in
theorem w_room : about1.hasRoom e0.platform room_1 = true :=
  launch0.hasRoom_least _ room_1 (by decide +kernel) (by decide +kernel) (by decide +kernel) (by decide +kernel) (by decide +kernel) (by decide +kernel)
theorem allAtoms_all (ts : List Jvm.Cond) (a : Array Jvm.Value) (st : Jvm.State) : (allAtoms ts).before a st = ts.all (fun c => c.before a st) := by
  induction ts with
  | nil => rfl
  | cons c t ih =>
    show (Jvm.Cond.and c (allAtoms t)).before a st = _
    rw [Jvm.Cond.before_and, ih, List.all_cons]
def words1 : List Jvm.Cond := Jvm.Cond.code x code maxLocals ret :: tables_1
/-- a 'code' word, met by the world's own term for the bytes: nothing is compared byte by byte -/
theorem code_word {y : MethodName} {bytes : ByteArray} {mx : Nat} {rt : Option FieldType} {a : Array Value} {s : State} {m : MethodId} {meth : Method} {c : Code} (h1 : s.methodNamed? y = some m) (h2 : s.vm.method? m = some meth) (h3 : meth.code = some c) (h4 : c.code = bytes)
    (h5 : (c.maxLocals == mx && c.exceptionTable.isEmpty && decide (c.maxStack ≤ mostOperands) && decide (meth.sig.returnType = rt) && !meth.locks && decide (parseMethodDescriptor y.desc = some meth.sig)) = true) : (Jvm.Cond.code y bytes mx rt).before a s = true := by
  simp only [Bool.and_eq_true, beq_iff_eq, Bool.not_eq_true', decide_eq_true_eq] at h5
  obtain ⟨⟨⟨⟨⟨g1, g2⟩, g3⟩, g4⟩, g5⟩, g6⟩ := h5
  simp [Cond.before, Cond.holds, Cond.value, h1, h2, h3, h4, g1, g2, g3, g4, g5, g6]
def isCode : Jvm.Cond → Bool
  | .code _ _ _ _ => true
  | _ => false
theorem all_split {L : List Jvm.Cond} {P : Jvm.Cond → Bool} (h1 : L.all (fun c => isCode c || P c) = true) (h2 : ∀ c ∈ L.filter isCode, P c = true) : L.all P = true := by
  refine List.all_eq_true.mpr fun c hc => ?_
  have h := List.all_eq_true.mp h1 c hc
  rcases Bool.eq_false_or_eq_true (isCode c) with hi | hi
  · exact h2 c (List.mem_filter.mpr ⟨hc, hi⟩)
  · simpa [hi] using h
set_option maxRecDepth 65536 in
theorem w_c0 : (Jvm.Cond.code x code maxLocals ret).before args0 about1 = true := code_word (m := ⟨1, 2⟩) (meth := k1m2) (c := k1c2) (by decide +kernel) rfl rfl rfl (by decide +kernel)
set_option maxRecDepth 65536 in
theorem w_c1 : (Jvm.Cond.code ({ cls := "com/example/interim/interim/SquaredDistanceOfPinLaw", name := "term", desc := "([II[IIII)J" } : Jvm.MethodName) method_2_code (8 : Nat) (Option.some Jvm.ClassFile.FieldType.long)).before args0 about1 = true := code_word (m := ⟨1, 1⟩) (meth := k1m1) (c := k1c1) (by decide +kernel) rfl rfl rfl (by decide +kernel)
set_option maxRecDepth 65536 in
theorem w_c2 : (Jvm.Cond.code ({ cls := "com/example/interim/interim/SquaredDistance", name := "of", desc := "([DI[DII)D" } : Jvm.MethodName) prog_52_method_3_code (10 : Nat) (Option.some Jvm.ClassFile.FieldType.double)).before args0 about1 = true := code_word (m := ⟨2, 1⟩) (meth := k2m1) (c := k2c1) (by decide +kernel) rfl rfl rfl (by decide +kernel)
def codes1 : List Jvm.Cond := [Jvm.Cond.code x code maxLocals ret, Jvm.Cond.code ({ cls := "com/example/interim/interim/SquaredDistanceOfPinLaw", name := "term", desc := "([II[IIII)J" } : Jvm.MethodName) method_2_code (8 : Nat) (Option.some Jvm.ClassFile.FieldType.long), Jvm.Cond.code ({ cls := "com/example/interim/interim/SquaredDistance", name := "of", desc := "([DI[DII)D" } : Jvm.MethodName) prog_52_method_3_code (10 : Nat) (Option.some Jvm.ClassFile.FieldType.double)]
set_option maxRecDepth 65536 in
theorem codes_eq : words1.filter isCode = codes1 := rfl
theorem w_codes : ∀ c ∈ words1.filter isCode, c.before args0 about1 = true := by
  rw [codes_eq]
  intro c hc
  simp only [codes1, List.mem_cons, List.not_mem_nil, or_false] at hc
  rcases hc with rfl | rfl | rfl
  · exact w_c0
  · exact w_c1
  · exact w_c2
set_option maxRecDepth 65536 in
theorem w_t1 : words1.all (fun c => isCode c || c.before args0 about1) = true := by decide +kernel
theorem w_tables : (allAtoms (Jvm.Cond.code x code maxLocals ret :: tables_1)).before args0 about1 = true := by
  rw [allAtoms_all]
  show words1.all (fun c => c.before args0 about1) = true
  refine all_split ?_ w_codes
  rw [w_t1]
set_option maxRecDepth 65536 in
theorem w_case : (Jvm.Cond.and given_1 narrow_1).before args0 about1 = true := by decide +kernel
theorem w_applies : (headSpec (Jvm.Cond.code x code maxLocals ret :: tables_1) room_1).applies x e0.platform about1 = true :=
  (Spec.applies_iff w_frames).mpr ⟨w_running, w_runnable, w_alone, w_named, w_hears, w_ripe, w_room, w_tables⟩
theorem atStart : AtStart classFile x code maxLocals ret World_1 tables_1 room_1 Calls_1 rest_1 Pre_1 launch0 p0 e0 about1 theMethod args0 below0 :=
  ⟨lists_1, trivial, launch0.admits_env _ _ _, launch0.least_env, fairChoices_fair.cas, fairChoices_fair.clock, w_frames, w_args, w_heap, w_applies, trivial, trivial, w_case⟩
end start1
theorem witness_1 : WitnessClaimed_1 := ⟨start1.p0, start1.e0, start1.about1, start1.theMethod, start1.args0, start1.below0, start1.atStart⟩
end Jvm.Pilot.@@N@@
